/-
  FnCountExactLayout: the walk, FOR EVERY F.
-/
import Derived.Test.Qxb6609199aFmtClone
namespace Go.Proofs.Qxb6609199aFmt
open Go.RowKit Go.Extern.Stop Go.Stop Go.Extern
set_option linter.unusedVariables false
attribute [local go_sem] eqNil neNil

theorem bytes13_yes (a : Option Addr) (n c : Nat) (f : Bool) (s : Int) (w : World) (h : n ≤ 1048576) :
    Calls Tryf.prog 13 #[.slice a n c, .bool f, .int .i64 s] w fun e w' => e = .returned (.bool true) ∧ w' = w := by
  have h1 : (n : Int) ≤ 1048576 := by omega
  go_enter Tryf.func13, Tryf.ntmps13
  go_wp2
  go_ret
  exact ⟨rfl, rfl⟩
theorem bytes13_no (a : Option Addr) (n c : Nat) (f : Bool) (s : Int) (w : World) (h : ¬ n ≤ 1048576) :
    Calls Tryf.prog 13 #[.slice a n c, .bool f, .int .i64 s] w fun e w' => e = .returned (.bool false) ∧ w' = w := by
  have h1 : 1048576 < (n : Int) := by omega
  go_enter Tryf.func13, Tryf.ntmps13
  go_wp2
  go_ret
  exact ⟨rfl, rfl⟩

theorem layout_big (a : Option Addr) (n c : Nat) (f : Bool) (s : Int) (w : World) (h : ¬ n ≤ 1048576) :
    Calls Tryf.prog 4 #[.slice a n c, .bool f, .int .i64 s] w fun e w' => e = .returned (.bool true) ∧ Below w.heap.size w w' := by
  go_enter Tryf.func4, Tryf.ntmps4
  go_wp2_with (go_at_call 13; refine (bytes13_no a n c f s _ h).mono ?_; rintro e w' ⟨rfl, rfl⟩)
  go_ret
  exact ⟨rfl, Below.refl _ _⟩

theorem layout_size (a : Option Addr) (n c : Nat) (f : Bool) (s : Int) (w : World) (h : n ≤ 1048576) (hs : s < 0 ∨ 4294967296 < s) :
    Calls Tryf.prog 4 #[.slice a n c, .bool f, .int .i64 s] w fun e w' => e = .returned (.bool true) ∧ Below w.heap.size w w' := by
  have h1 : (n : Int) ≤ 1048576 := by omega
  rcases hs with hs | hs
  · go_enter Tryf.func4, Tryf.ntmps4
    go_wp2_with (go_at_call 13; refine (bytes13_yes a n c f s _ h).mono ?_; rintro e w' ⟨rfl, rfl⟩)
    go_ret
    exact ⟨rfl, Below.refl _ _⟩
  · have hs0 : 0 ≤ s := by omega
    go_enter Tryf.func4, Tryf.ntmps4
    go_wp2_with (go_at_call 13; refine (bytes13_yes a n c f s _ h).mono ?_; rintro e w' ⟨rfl, rfl⟩)
    go_ret
    exact ⟨rfl, Below.refl _ _⟩

set_option maxHeartbeats 1000000 in
theorem layout_failed (F : Interp) (a : Option Addr) (n c s : Nat) (xs : List UInt8) (w : World) (hF : F.answers w.tape) (R : Reads w.heap.size w a xs) (hl : xs.length = n) (hn : a = none → n = 0) (h : n ≤ 1048576) (hs : s ≤ 4294967296) :
    Calls Tryf.prog 4 #[.slice a n c, .bool true, .int .i64 s] w fun e w' => e = .returned (.bool true) ∧ Below w.heap.size w w' := by
  have h1 : (n : Int) ≤ 1048576 := by omega
  have hs' : (s : Int) ≤ 4294967296 := by omega
  have HL := hide hl
  have HN := hide hn
  clear hl hn
  go_enter Tryf.func4, Tryf.ntmps4
  go_wp2_with fail
  refine (bytes13_yes a n c true s _ h).mono ?_
  rintro e w0 ⟨rfl, rfl⟩
  go_wp2_with fail
  refine (clone a n c xs _ R (unhide HL) h (unhide HN)).mono ?_
  rintro e w1 ⟨a', c', rfl, hc, R1, bl1⟩
  go_wp2_with fail
  refine (newDecoder a' n c' xs _ R1 (unhide HL) hc (by omega)).mono ?_
  rintro e w2 ⟨rfl, S2, bl2⟩
  have hD := bl1.size
  generalize hDD : w1.heap.size = D at *
  clear hDD
  have bl2' := bl1.trans (bl2.mono hD)
  clear bl1
  go_wp2_with fail
  rw [show ((n : Int) + 1) = ((n + 1 : Nat) : Int) from by omega]
  refine (fixed_bad F D a' n c' (n + 1) _ xs _ (by rw [bl2'.tape]; exact hF) rfl S2 (by omega)).mono ?_
  rintro e w3 ⟨rfl, ⟨p, S3⟩, bl3⟩
  have bl3' := bl2'.trans (bl3.mono hD)
  have R3 := R1.carry (bl2.trans bl3) (Nat.le_refl _)
  clear bl2' bl2 bl3 S2 R1
  go_wp2_with fail
  refine (count_err D a' n c' s xs p _ S3).mono ?_
  rintro e w4 ⟨rfl, rfl⟩
  go_wp2_with fail
  refine (rest_w D _ _ _ _ _ _ S3).mono ?_
  rintro e w5 ⟨rfl, rfl⟩
  go_wp2_with fail
  refine (err_is D _ _ _ _ p _ S3).mono ?_
  rintro e w6 ⟨rfl, rfl⟩
  go_wp2_with fail
  refine (eq_yes D a' a' n n c' c' xs _ rfl S3.rd R3 (unhide HL) (Nat.le_of_lt S3.lt) (by omega)).mono ?_
  rintro e w7 ⟨rfl, bl7⟩
  have bl7' := bl3'.trans (bl7.mono (by have := S3.lt; omega))
  go_wp2
  go_ret
  exact ⟨rfl, bl7'⟩

set_option maxHeartbeats 1000000 in
theorem layout_short (F : Interp) (a : Option Addr) (n c s : Nat) (xs : List UInt8) (w : World) (hF : F.answers w.tape) (R : Reads w.heap.size w a xs) (hl : xs.length = n) (hn : a = none → n = 0) (h : n < 4) (hs : s ≤ 4294967296) :
    Calls Tryf.prog 4 #[.slice a n c, .bool false, .int .i64 s] w fun e w' => e = .returned (.bool true) ∧ Below w.heap.size w w' := by
  have h1 : (n : Int) < 4 := by omega
  have h2 : (n : Int) ≤ 1048576 := by omega
  have hs' : (s : Int) ≤ 4294967296 := by omega
  have HL := hide hl
  have HN := hide hn
  clear hl hn
  go_enter Tryf.func4, Tryf.ntmps4
  go_wp2_with fail
  refine (bytes13_yes a n c false s _ (by omega)).mono ?_
  rintro e w0 ⟨rfl, rfl⟩
  go_wp2_with fail
  refine (clone a n c xs _ R (unhide HL) (by omega) (unhide HN)).mono ?_
  rintro e w1 ⟨a', c', rfl, hc, R1, bl1⟩
  go_wp2_with fail
  refine (newDecoder a' n c' xs _ R1 (unhide HL) hc (by omega)).mono ?_
  rintro e w2 ⟨rfl, S2, bl2⟩
  have hD := bl1.size
  generalize hDD : w1.heap.size = D at *
  clear hDD
  have bl2' := bl1.trans (bl2.mono hD)
  clear bl1
  go_wp2_with fail
  refine (count_bad F D a' n c' s xs _ (by rw [bl2'.tape]; exact hF) S2 h).mono ?_
  rintro e w3 ⟨rfl, ⟨p, S3⟩, bl3⟩
  have bl3' := bl2'.trans (bl3.mono hD)
  have R3 := R1.carry (bl2.trans bl3) (Nat.le_refl _)
  clear bl2' bl2 bl3 S2 R1
  go_wp2_with fail
  refine (rest_w D _ _ _ _ _ _ S3).mono ?_
  rintro e w5 ⟨rfl, rfl⟩
  go_wp2_with fail
  refine (err_is D _ _ _ _ p _ S3).mono ?_
  rintro e w6 ⟨rfl, rfl⟩
  go_wp2_with fail
  refine (eq_yes D a' a' n n c' c' xs _ rfl S3.rd R3 (unhide HL) (Nat.le_of_lt S3.lt) (by omega)).mono ?_
  rintro e w7 ⟨rfl, bl7⟩
  have bl7' := bl3'.trans (bl7.mono (by have := S3.lt; omega))
  go_wp2
  go_ret
  exact ⟨rfl, bl7'⟩

/-- 'b[4:]' as the walk spells it. -/
theorem cut4 (D : Nat) (a' : Option Addr) (c' : Nat) (b0 b1 b2 b3 : UInt8) (ys : List UInt8) (w : World) (R : Reads D w a' (b0 :: b1 :: b2 :: b3 :: ys)) (hl : ys.length + 4 ≤ c') :
    (c' = 4 → Reads D w a' ys) ∧ (¬ c' = 4 → Reads D w (Option.map (fun x : Addr => ({ block := x.block, off := x.off + 4 } : Addr)) a') ys) := by
  constructor
  · intro h j hj
    omega
  · intro h
    have := R.drop c' 4 (by simp; omega)
    simp only [List.drop_succ_cons, List.drop_zero] at this
    have e : adv a' c' 4 = Option.map (fun x : Addr => ({ block := x.block, off := x.off + 4 } : Addr)) a' := by
      cases a' <;> simp [adv, h, Addr.add]
    rw [e] at this
    exact this

theorem fits_iff (m s L : Nat) (hs : ¬ s = 0) : (m : Int) ≤ (L : Int) / (s : Int) ↔ m * s ≤ L := by
  have e : ((L : Int) / (s : Int)) = ((L / s : Nat) : Int) := by simp
  rw [e, Int.ofNat_le]
  exact Nat.le_div_iff_mul_le (by omega)

set_option maxHeartbeats 1000000 in
theorem layout_fits (F : Interp) (a : Option Addr) (n c s m : Nat) (b0 b1 b2 b3 : UInt8) (ys : List UInt8) (w : World) (hF : F.answers w.tape) (R : Reads w.heap.size w a (b0 :: b1 :: b2 :: b3 :: ys)) (hl : ys.length + 4 = n) (hn : a = none → n = 0) (h : n ≤ 1048576) (hs : s ≤ 4294967296)
    (hm : num4 b0 b1 b2 b3 = m) (hx : m * s ≤ ys.length) (hz0 : ¬ s = 0) :
    Calls Tryf.prog 4 #[.slice a n c, .bool false, .int .i64 s] w fun e w' => e = .returned (.bool true) ∧ Below w.heap.size w w' := by
  have h1 : (4 : Int) ≤ (n : Int) := by omega
  have h2 : (n : Int) ≤ 1048576 := by omega
  have hs' : (s : Int) ≤ 4294967296 := by omega
  have hml : m < 4294967296 := by rw [← hm]; exact num4_lt _ _ _ _
  have hml' : (m : Int) ≤ 4294967295 := by omega
  have hd : decide ((m : Int) ≤ ((n : Int) - 4) / (s : Int)) = true := by
    have e : ((n : Int) - 4) = ((ys.length : Nat) : Int) := by omega
    rw [e]
    exact decide_eq_true ((fits_iff m s ys.length hz0).2 hx)
  have hz : ((s : Int) == 0) = false := by simp; omega
  have HL := hide hl
  have HN := hide hn
  have HX := hide hx
  have HM := hide hm
  clear hl hn hx hm
  go_enter Tryf.func4, Tryf.ntmps4
  go_wp2_with fail
  refine (bytes13_yes a n c false s _ (by omega)).mono ?_
  rintro e w0 ⟨rfl, rfl⟩
  go_wp2_with fail
  refine (clone a n c _ _ R (by have := unhide HL; simp; omega) (by omega) (unhide HN)).mono ?_
  rintro e w1 ⟨a', c', rfl, hc, R1, bl1⟩
  go_wp2_with fail
  refine (newDecoder a' n c' _ _ R1 (by have := unhide HL; simp; omega) hc (by omega)).mono ?_
  rintro e w2 ⟨rfl, S2, bl2⟩
  have hD := bl1.size
  generalize hDD : w1.heap.size = D at *
  clear hDD
  have bl2' := bl1.trans (bl2.mono hD)
  clear bl1
  go_wp2_with fail
  refine (count_ok D a' n c' m s s b0 b1 b2 b3 ys _ rfl S2 (unhide HM) hs (unhide HX)).mono ?_
  rintro e w3 ⟨rfl, S3, bl3⟩
  have bl3' := bl2'.trans (bl3.mono hD)
  have R3 := R1.carry (bl2.trans bl3) (Nat.le_refl _)
  clear bl2' bl2 bl3 S2 R1
  go_wp2_with fail
  refine (rest_w D _ _ _ _ _ _ S3).mono ?_
  rintro e w5 ⟨rfl, rfl⟩
  go_wp2_with fail
  refine (err_nil D _ _ _ _ _ S3).mono ?_
  rintro e w6 ⟨rfl, rfl⟩
  go_wp2_with fail
  refine (be32_17 a' n c' b0 b1 b2 b3 ys _ D R3 (Nat.le_of_lt S3.lt) (unhide HL)).mono ?_
  rintro e w7 ⟨rfl, bl7⟩
  have S7 := S3.carry bl7 S3.lt
  have R7 := R3.carry bl7 (Nat.le_of_lt S3.lt)
  have bl7' := bl3'.trans (bl7.mono (by have := S3.lt; omega))
  have CUT := hide (cut4 D a' c' b0 b1 b2 b3 ys _ R7 (by have := unhide HL; omega))
  clear S3 R3 bl3' bl7
  rw [unhide HM]
  by_cases hc4 : c' = 4
  · have RR := (unhide CUT).1 hc4
    subst hc4
    go_wp2_with fail
    refine (eq_yes D (adv a' 4 4) a' 0 0 0 0 ys _ rfl S7.rd RR (by have := unhide HL; omega) (Nat.le_of_lt S7.lt) (by omega)).mono ?_
    rintro e w8 ⟨rfl, bl8⟩
    have bl8' := bl7'.trans (bl8.mono (by have := S7.lt; omega))
    go_wp2
    go_ret
    exact ⟨rfl, bl8'⟩
  · have RR := (unhide CUT).2 hc4
    go_wp2_with fail
    refine (eq_yes D (adv a' c' 4) _ (n - 4) (n - 4) (c' - 4) (c' - 4) ys _ rfl S7.rd RR (by have := unhide HL; omega) (Nat.le_of_lt S7.lt) (by omega)).mono ?_
    rintro e w8 ⟨rfl, bl8⟩
    have bl8' := bl7'.trans (bl8.mono (by have := S7.lt; omega))
    go_wp2
    go_ret
    exact ⟨rfl, bl8'⟩

set_option maxHeartbeats 1000000 in
theorem layout_zero (F : Interp) (a : Option Addr) (n c m : Nat) (b0 b1 b2 b3 : UInt8) (ys : List UInt8) (w : World) (hF : F.answers w.tape) (R : Reads w.heap.size w a (b0 :: b1 :: b2 :: b3 :: ys)) (hl : ys.length + 4 = n) (hn : a = none → n = 0) (h : n ≤ 1048576)
    (hm : num4 b0 b1 b2 b3 = m) :
    Calls Tryf.prog 4 #[.slice a n c, .bool false, .int .i64 0] w fun e w' => e = .returned (.bool true) ∧ Below w.heap.size w w' := by
  have h1 : (4 : Int) ≤ (n : Int) := by omega
  have h2 : (n : Int) ≤ 1048576 := by omega
  have hml : m < 4294967296 := by rw [← hm]; exact num4_lt _ _ _ _
  have hml' : (m : Int) ≤ 4294967295 := by omega
  have HL := hide hl
  have HN := hide hn
  have HM := hide hm
  clear hl hn hm
  go_enter Tryf.func4, Tryf.ntmps4
  go_wp2_with fail
  refine (bytes13_yes a n c false 0 _ (by omega)).mono ?_
  rintro e w0 ⟨rfl, rfl⟩
  go_wp2_with fail
  refine (clone a n c _ _ R (by have := unhide HL; simp; omega) (by omega) (unhide HN)).mono ?_
  rintro e w1 ⟨a', c', rfl, hc, R1, bl1⟩
  go_wp2_with fail
  refine (newDecoder a' n c' _ _ R1 (by have := unhide HL; simp; omega) hc (by omega)).mono ?_
  rintro e w2 ⟨rfl, S2, bl2⟩
  have hD := bl1.size
  generalize hDD : w1.heap.size = D at *
  clear hDD
  have bl2' := bl1.trans (bl2.mono hD)
  clear bl1
  go_wp2_with fail
  refine (count_ok D a' n c' m 0 0 b0 b1 b2 b3 ys _ rfl S2 (unhide HM) (by omega) (by simp)).mono ?_
  rintro e w3 ⟨rfl, S3, bl3⟩
  have bl3' := bl2'.trans (bl3.mono hD)
  have R3 := R1.carry (bl2.trans bl3) (Nat.le_refl _)
  clear bl2' bl2 bl3 S2 R1
  go_wp2_with fail
  refine (rest_w D _ _ _ _ _ _ S3).mono ?_
  rintro e w5 ⟨rfl, rfl⟩
  go_wp2_with fail
  refine (err_nil D _ _ _ _ _ S3).mono ?_
  rintro e w6 ⟨rfl, rfl⟩
  go_wp2_with fail
  refine (be32_17 a' n c' b0 b1 b2 b3 ys _ D R3 (Nat.le_of_lt S3.lt) (unhide HL)).mono ?_
  rintro e w7 ⟨rfl, bl7⟩
  have S7 := S3.carry bl7 S3.lt
  have R7 := R3.carry bl7 (Nat.le_of_lt S3.lt)
  have bl7' := bl3'.trans (bl7.mono (by have := S3.lt; omega))
  have CUT := hide (cut4 D a' c' b0 b1 b2 b3 ys _ R7 (by have := unhide HL; omega))
  clear S3 R3 bl3' bl7
  rw [unhide HM]
  by_cases hc4 : c' = 4
  · have RR := (unhide CUT).1 hc4
    subst hc4
    go_wp2_with fail
    refine (eq_yes D (adv a' 4 4) a' 0 0 0 0 ys _ rfl S7.rd RR (by have := unhide HL; omega) (Nat.le_of_lt S7.lt) (by omega)).mono ?_
    rintro e w8 ⟨rfl, bl8⟩
    have bl8' := bl7'.trans (bl8.mono (by have := S7.lt; omega))
    go_wp2
    go_ret
    exact ⟨rfl, bl8'⟩
  · have RR := (unhide CUT).2 hc4
    go_wp2_with fail
    refine (eq_yes D (adv a' c' 4) _ (n - 4) (n - 4) (c' - 4) (c' - 4) ys _ rfl S7.rd RR (by have := unhide HL; omega) (Nat.le_of_lt S7.lt) (by omega)).mono ?_
    rintro e w8 ⟨rfl, bl8⟩
    have bl8' := bl7'.trans (bl8.mono (by have := S7.lt; omega))
    go_wp2
    go_ret
    exact ⟨rfl, bl8'⟩

set_option maxHeartbeats 1000000 in
theorem layout_over (F : Interp) (a : Option Addr) (n c s m : Nat) (b0 b1 b2 b3 : UInt8) (ys : List UInt8) (w : World) (hF : F.answers w.tape) (R : Reads w.heap.size w a (b0 :: b1 :: b2 :: b3 :: ys)) (hl : ys.length + 4 = n) (hn : a = none → n = 0) (h : n ≤ 1048576) (hs : s ≤ 4294967296)
    (hm : num4 b0 b1 b2 b3 = m) (hx : ys.length < m * s) (hz0 : ¬ s = 0) :
    Calls Tryf.prog 4 #[.slice a n c, .bool false, .int .i64 s] w fun e w' => e = .returned (.bool true) ∧ Below w.heap.size w w' := by
  have h1 : (4 : Int) ≤ (n : Int) := by omega
  have h2 : (n : Int) ≤ 1048576 := by omega
  have hs' : (s : Int) ≤ 4294967296 := by omega
  have hml : m < 4294967296 := by rw [← hm]; exact num4_lt _ _ _ _
  have hml' : (m : Int) ≤ 4294967295 := by omega
  have hd : decide ((m : Int) ≤ ((n : Int) - 4) / (s : Int)) = false := by
    have e : ((n : Int) - 4) = ((ys.length : Nat) : Int) := by omega
    rw [e]
    exact decide_eq_false (fun hc => by have := (fits_iff m s ys.length hz0).1 hc; omega)
  have hz : ((s : Int) == 0) = false := by simp; omega
  have HL := hide hl
  have HN := hide hn
  have HX := hide hx
  have HM := hide hm
  clear hl hn hx hm
  go_enter Tryf.func4, Tryf.ntmps4
  go_wp2_with fail
  refine (bytes13_yes a n c false s _ (by omega)).mono ?_
  rintro e w0 ⟨rfl, rfl⟩
  go_wp2_with fail
  refine (clone a n c _ _ R (by have := unhide HL; simp; omega) (by omega) (unhide HN)).mono ?_
  rintro e w1 ⟨a', c', rfl, hc, R1, bl1⟩
  go_wp2_with fail
  refine (newDecoder a' n c' _ _ R1 (by have := unhide HL; simp; omega) hc (by omega)).mono ?_
  rintro e w2 ⟨rfl, S2, bl2⟩
  have hD := bl1.size
  generalize hDD : w1.heap.size = D at *
  clear hDD
  have bl2' := bl1.trans (bl2.mono hD)
  clear bl1
  go_wp2_with fail
  refine (count_over F D a' n c' m s s b0 b1 b2 b3 ys _ (by rw [bl2'.tape]; exact hF) rfl S2 (unhide HM) hs (unhide HX)).mono ?_
  rintro e w3 ⟨rfl, ⟨p, S3⟩, bl3⟩
  have bl3' := bl2'.trans (bl3.mono hD)
  have R3 := R1.carry (bl2.trans bl3) (Nat.le_refl _)
  clear bl2' bl2 bl3 S2 R1
  go_wp2_with fail
  refine (rest_w D _ _ _ _ _ _ S3).mono ?_
  rintro e w5 ⟨rfl, rfl⟩
  go_wp2_with fail
  refine (err_is D _ _ _ _ p _ S3).mono ?_
  rintro e w6 ⟨rfl, rfl⟩
  go_wp2_with fail
  refine (be32_17 a' n c' b0 b1 b2 b3 ys _ D R3 (Nat.le_of_lt S3.lt) (unhide HL)).mono ?_
  rintro e w7 ⟨rfl, bl7⟩
  have S7 := S3.carry bl7 S3.lt
  have R7 := R3.carry bl7 (Nat.le_of_lt S3.lt)
  have bl7' := bl3'.trans (bl7.mono (by have := S3.lt; omega))
  have CUT := hide (cut4 D a' c' b0 b1 b2 b3 ys _ R7 (by have := unhide HL; omega))
  clear S3 R3 bl3' bl7
  rw [unhide HM]
  by_cases hc4 : c' = 4
  · have RR := (unhide CUT).1 hc4
    subst hc4
    go_wp2_with fail
    refine (eq_yes D (adv a' 4 4) a' 0 0 0 0 ys _ rfl S7.rd RR (by have := unhide HL; omega) (Nat.le_of_lt S7.lt) (by omega)).mono ?_
    rintro e w8 ⟨rfl, bl8⟩
    have bl8' := bl7'.trans (bl8.mono (by have := S7.lt; omega))
    go_wp2
    go_ret
    exact ⟨rfl, bl8'⟩
  · have RR := (unhide CUT).2 hc4
    go_wp2_with fail
    refine (eq_yes D (adv a' c' 4) _ (n - 4) (n - 4) (c' - 4) (c' - 4) ys _ rfl S7.rd RR (by have := unhide HL; omega) (Nat.le_of_lt S7.lt) (by omega)).mono ?_
    rintro e w8 ⟨rfl, bl8⟩
    have bl8' := bl7'.trans (bl8.mono (by have := S7.lt; omega))
    go_wp2
    go_ret
    exact ⟨rfl, bl8'⟩

theorem layout (F : Interp) (a : Option Addr) (n c : Nat) (f : Bool) (s : Int) (xs : List UInt8) (w : World) (hF : F.answers w.tape) (R : Reads w.heap.size w a xs) (hl : xs.length = n) (hn : a = none → n = 0) :
    Calls Tryf.prog 4 #[.slice a n c, .bool f, .int .i64 s] w fun e w' => e = .returned (.bool true) ∧ Below w.heap.size w w' := by
  by_cases h : n ≤ 1048576
  · by_cases hs : s < 0 ∨ 4294967296 < s
    · exact layout_size a n c f s w h hs
    · obtain ⟨k, rfl⟩ : ∃ k : Nat, s = (k : Int) := ⟨s.toNat, by omega⟩
      have hk : k ≤ 4294967296 := by omega
      cases f
      · by_cases h4 : n < 4
        · exact layout_short F a n c k xs w hF R hl hn h4 hk
        · obtain ⟨b0, b1, b2, b3, ys, rfl⟩ := four (xs := xs) (by omega)
          have hl' : ys.length + 4 = n := by simp at hl; omega
          by_cases hk0 : k = 0
          · subst hk0
            exact layout_zero F a n c _ b0 b1 b2 b3 ys w hF R hl' hn h rfl
          · by_cases hx : num4 b0 b1 b2 b3 * k ≤ ys.length
            · exact layout_fits F a n c k _ b0 b1 b2 b3 ys w hF R hl' hn h hk rfl hx hk0
            · exact layout_over F a n c k _ b0 b1 b2 b3 ys w hF R hl' hn h hk rfl (by omega) hk0
      · exact layout_failed F a n c k xs w hF R hl hn h hk
  · exact layout_big a n c f s w h
end Go.Proofs.Qxb6609199aFmt
