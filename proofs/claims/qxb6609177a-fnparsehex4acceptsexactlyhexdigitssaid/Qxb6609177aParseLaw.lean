import Derived.Test.Qxb6609177aParse
namespace Go.Proofs.Qxb6609177a
open Go.RowKit
set_option linter.unusedVariables false
theorem put_nib (n d s : Nat) (hs : s ≤ 12) (hn : n < 65536) (hd : d < 16) :
    (n &&& (2 ^ 32 - (2 ^ s * 15 + 1))) ||| (2 ^ s * d) = 2 ^ (s + 4) * (n / 2 ^ (s + 4)) + (2 ^ s * d + n % 2 ^ s) := by
  have p : 2 ^ s * 15 < 2 ^ 32 := by
    have : 2 ^ s ≤ 2 ^ 12 := Nat.pow_le_pow_right (by omega) hs
    omega
  have q : n % 2 ^ s < 2 ^ s := Nat.mod_lt _ (Nat.two_pow_pos s)
  have r : 2 ^ s * d + n % 2 ^ s < 2 ^ (s + 4) := by
    rw [Nat.pow_add]
    have : 2 ^ s * d ≤ 2 ^ s * 15 := Nat.mul_le_mul_left _ (by omega)
    omega
  apply Nat.eq_of_testBit_eq
  intro i
  rw [Nat.testBit_or, Nat.testBit_and, Nat.testBit_two_pow_sub_succ p, Nat.testBit_two_pow_mul_add _ r, Nat.testBit_two_pow_mul_add _ q,
    Nat.testBit_two_pow_mul, Nat.testBit_two_pow_mul, Nat.testBit_mod_two_pow, Nat.testBit_div_two_pow]
  have h15 : ∀ j, Nat.testBit 15 j = decide (j < 4) := fun j => Nat.testBit_two_pow_sub_one 4 j
  rw [h15]
  by_cases h1 : i < s
  · simp [h1, show ¬ s ≤ i from by omega, show i < s + 4 from by omega, show i < 32 from by omega]
  · by_cases h2 : i < s + 4
    · simp [h1, h2, show s ≤ i from by omega, show i - s < 4 from by omega, show i < 32 from by omega]
    · have hd' : d.testBit (i - s) = false := Nat.testBit_lt_two_pow (Nat.lt_of_lt_of_le hd (show 2 ^ 4 ≤ 2 ^ (i - s) from Nat.pow_le_pow_right (by omega) (by omega)))
      simp [h2, show s ≤ i from by omega, show ¬ i - s < 4 from by omega, hd']
      rw [show i - (s + 4) + (s + 4) = i from by omega]
      by_cases h3 : i < 32
      · simp [h3]
      · have : n.testBit i = false := Nat.testBit_lt_two_pow (Nat.lt_of_lt_of_le hn (show 2 ^ 16 ≤ 2 ^ i from Nat.pow_le_pow_right (by omega) (by omega)))
        simp [this]

theorem put_int (v d : Int) (s : Nat) (hs : s ≤ 12) (h0 : 0 ≤ v) (h1 : v < 65536) (h2 : 0 ≤ d) (h3 : d ≤ 15) :
    bits .or .i32 (bits .andNot .i32 v ((2 ^ s * 15 : Nat) : Int)) (((2 ^ s * d.toNat : Nat)) : Int) = ((2 ^ (s + 4) * (v.toNat / 2 ^ (s + 4)) + (2 ^ s * d.toNat + v.toNat % 2 ^ s) : Nat) : Int) := by
  obtain ⟨n, rfl⟩ := Int.eq_ofNat_of_zero_le h0
  obtain ⟨x, rfl⟩ := Int.eq_ofNat_of_zero_le h2
  have p : 2 ^ s ≤ 2 ^ 12 := Nat.pow_le_pow_right (by omega) hs
  have p2 : 2 ^ s * x ≤ 2 ^ 12 * 15 := Nat.mul_le_mul p (by omega)
  rw [Int.toNat_natCast, Int.toNat_natCast, i32_andNot_nat n (2 ^ s * 15) (by omega) (by omega)]
  have hx : n &&& (4294967295 - 2 ^ s * 15) < 2147483648 := Nat.lt_of_le_of_lt Nat.and_le_left (by omega)
  rw [i32_or_nat _ _ hx (by omega)]
  have := put_nib n x s hs (by omega) (by omega)
  rw [show 2 ^ 32 - (2 ^ s * 15 + 1) = 4294967295 - 2 ^ s * 15 from by omega] at this
  rw [this]

/-- the value read is the value wanted, at each place -/
theorem want0 (v d : Int) (h0 : 0 ≤ v) (h1 : v < 65536) (h2 : 0 ≤ d) (h3 : d ≤ 15) :
    bits .or .i32 (bits .andNot .i32 v 61440) (d * 4096) = 4096 * d + 256 * (v / 256 % 16) + 16 * (v / 16 % 16) + v % 16 := by
  have h := put_int v d 12 (by omega) h0 h1 h2 h3
  have e : ((2 ^ 12 * d.toNat : Nat) : Int) = d * 4096 := by omega
  rw [e] at h
  refine Eq.trans h ?_
  omega
theorem want1 (v d : Int) (h0 : 0 ≤ v) (h1 : v < 65536) (h2 : 0 ≤ d) (h3 : d ≤ 15) :
    bits .or .i32 (bits .andNot .i32 v 3840) (d * 256) = 4096 * (v / 4096 % 16) + 256 * d + 16 * (v / 16 % 16) + v % 16 := by
  have h := put_int v d 8 (by omega) h0 h1 h2 h3
  have e : ((2 ^ 8 * d.toNat : Nat) : Int) = d * 256 := by omega
  rw [e] at h
  refine Eq.trans h ?_
  omega
theorem want2 (v d : Int) (h0 : 0 ≤ v) (h1 : v < 65536) (h2 : 0 ≤ d) (h3 : d ≤ 15) :
    bits .or .i32 (bits .andNot .i32 v 240) (d * 16) = 4096 * (v / 4096 % 16) + 256 * (v / 256 % 16) + 16 * d + v % 16 := by
  have h := put_int v d 4 (by omega) h0 h1 h2 h3
  have e : ((2 ^ 4 * d.toNat : Nat) : Int) = d * 16 := by omega
  rw [e] at h
  refine Eq.trans h ?_
  omega
theorem want3 (v d : Int) (h0 : 0 ≤ v) (h1 : v < 65536) (h2 : 0 ≤ d) (h3 : d ≤ 15) :
    bits .or .i32 (bits .andNot .i32 v 15) d = 4096 * (v / 4096 % 16) + 256 * (v / 256 % 16) + 16 * (v / 16 % 16) + d := by
  have h := put_int v d 0 (by omega) h0 h1 h2 h3
  have e : ((2 ^ 0 * d.toNat : Nat) : Int) = d := by omega
  rw [e] at h
  refine Eq.trans h ?_
  omega


theorem law0 (v : Int) (u : Bool) (c : UInt8) (h0 : 0 ≤ v) (h1 : v < 65536) (w : World) :
    Calls Try.prog 4 #[.int .u16 v, .bool u, .int .i64 0, .int .u8 c.toNat] w fun e w' => e = .returned (.bool true) ∧ Kp w w' := by
  have hd := hexD_bd c.toNat
  have hc := u8_lt c
  go_enter Try.func4, Try.ntmps4
  go_wp2_with fail
  refine (hex4_w v u h0 h1 _).mono ?_
  rintro e w1 ⟨c0, c1, c2, c3, rfl, H, hg⟩
  obtain ⟨cap, W2, hconv, k0, k1, k2, k3, hfro, hkp⟩ := str_bytes w1 c0 c1 c2 c3
  have hf := hfro 0 (by omega)
  have hb := bytes_str (W2.setCell ⟨w1.heap.size, 0, none⟩ (.int .u8 c.toNat)) w1.heap.size cap c c1 c2 c3
    (World.cell?_setCell_same _ _ _ k0) ((World.cell?_setCell_other _ _ _ _ (by simp)).trans k1) ((World.cell?_setCell_other _ _ _ _ (by simp)).trans k2) ((World.cell?_setCell_other _ _ _ _ (by simp)).trans k3)
  have hK : Kp w (W2.setCell ⟨w1.heap.size, 0, none⟩ (.int .u8 c.toNat)) := (Kp.trans hg.1 hkp).setCell hg.1.size _
  clear hfro k1 k2 k3
  go_wp2_with fail
  refine (parseZ_w c c1 c2 c3 _).mono ?_
  rintro e w2 ⟨rfl, rfl⟩
  by_cases hx : hexD c.toNat < 0
  · have hp : pb c c1 c2 c3 = false := by
      have : hexB c.toNat = false := by simp [hexB]; omega
      simp [pb, this]
    have hv : pv c c1 c2 c3 = 0 := by simp [pv, hp]
    go_wp2_with (go_at_call 6; refine (hexDigit_w _ hc.1 hc.2 _).mono ?_; rintro e w' ⟨rfl, rfl⟩)
    go_ret
    exact ⟨rfl, hK⟩
  · have hp : pb c c1 c2 c3 = true := by
      obtain ⟨q0, q1, q2, q3⟩ := unhide H
      simp [pb, hexB]; omega
    have hv : Hid ((pv c c1 c2 c3 == bits .or .i32 (bits .andNot .i32 v 61440) (hexD c.toNat * 4096)) = true) := by
      obtain ⟨q0, q1, q2, q3⟩ := unhide H
      refine hide (beq_iff_eq.2 ?_)
      rw [want0 v _ h0 h1 (by omega) hd.2]
      simp only [pv, hp, if_true]
      omega
    go_wp2_with (go_at_call 6; refine (hexDigit_w _ hc.1 hc.2 _).mono ?_; rintro e w' ⟨rfl, rfl⟩)
    go_ret
    exact ⟨ret_bool (unhide hv), hK⟩

theorem law1 (v : Int) (u : Bool) (c : UInt8) (h0 : 0 ≤ v) (h1 : v < 65536) (w : World) :
    Calls Try.prog 4 #[.int .u16 v, .bool u, .int .i64 1, .int .u8 c.toNat] w fun e w' => e = .returned (.bool true) ∧ Kp w w' := by
  have hd := hexD_bd c.toNat
  have hc := u8_lt c
  go_enter Try.func4, Try.ntmps4
  go_wp2_with fail
  refine (hex4_w v u h0 h1 _).mono ?_
  rintro e w1 ⟨c0, c1, c2, c3, rfl, H, hg⟩
  obtain ⟨cap, W2, hconv, k0, k1, k2, k3, hfro, hkp⟩ := str_bytes w1 c0 c1 c2 c3
  have hf := hfro 1 (by omega)
  have hb := bytes_str (W2.setCell ⟨w1.heap.size, 1, none⟩ (.int .u8 c.toNat)) w1.heap.size cap c0 c c2 c3
    ((World.cell?_setCell_other _ _ _ _ (by simp)).trans k0) (World.cell?_setCell_same _ _ _ k1) ((World.cell?_setCell_other _ _ _ _ (by simp)).trans k2) ((World.cell?_setCell_other _ _ _ _ (by simp)).trans k3)
  have hK : Kp w (W2.setCell ⟨w1.heap.size, 1, none⟩ (.int .u8 c.toNat)) := (Kp.trans hg.1 hkp).setCell hg.1.size _
  clear hfro k0 k2 k3
  go_wp2_with fail
  refine (parseZ_w c0 c c2 c3 _).mono ?_
  rintro e w2 ⟨rfl, rfl⟩
  by_cases hx : hexD c.toNat < 0
  · have hp : pb c0 c c2 c3 = false := by
      have : hexB c.toNat = false := by simp [hexB]; omega
      simp [pb, this]
    have hv : pv c0 c c2 c3 = 0 := by simp [pv, hp]
    go_wp2_with (go_at_call 6; refine (hexDigit_w _ hc.1 hc.2 _).mono ?_; rintro e w' ⟨rfl, rfl⟩)
    go_ret
    exact ⟨rfl, hK⟩
  · have hp : pb c0 c c2 c3 = true := by
      obtain ⟨q0, q1, q2, q3⟩ := unhide H
      simp [pb, hexB]; omega
    have hv : Hid ((pv c0 c c2 c3 == bits .or .i32 (bits .andNot .i32 v 3840) (hexD c.toNat * 256)) = true) := by
      obtain ⟨q0, q1, q2, q3⟩ := unhide H
      refine hide (beq_iff_eq.2 ?_)
      rw [want1 v _ h0 h1 (by omega) hd.2]
      simp only [pv, hp, if_true]
      omega
    go_wp2_with (go_at_call 6; refine (hexDigit_w _ hc.1 hc.2 _).mono ?_; rintro e w' ⟨rfl, rfl⟩)
    go_ret
    exact ⟨ret_bool (unhide hv), hK⟩

theorem law2 (v : Int) (u : Bool) (c : UInt8) (h0 : 0 ≤ v) (h1 : v < 65536) (w : World) :
    Calls Try.prog 4 #[.int .u16 v, .bool u, .int .i64 2, .int .u8 c.toNat] w fun e w' => e = .returned (.bool true) ∧ Kp w w' := by
  have hd := hexD_bd c.toNat
  have hc := u8_lt c
  go_enter Try.func4, Try.ntmps4
  go_wp2_with fail
  refine (hex4_w v u h0 h1 _).mono ?_
  rintro e w1 ⟨c0, c1, c2, c3, rfl, H, hg⟩
  obtain ⟨cap, W2, hconv, k0, k1, k2, k3, hfro, hkp⟩ := str_bytes w1 c0 c1 c2 c3
  have hf := hfro 2 (by omega)
  have hb := bytes_str (W2.setCell ⟨w1.heap.size, 2, none⟩ (.int .u8 c.toNat)) w1.heap.size cap c0 c1 c c3
    ((World.cell?_setCell_other _ _ _ _ (by simp)).trans k0) ((World.cell?_setCell_other _ _ _ _ (by simp)).trans k1) (World.cell?_setCell_same _ _ _ k2) ((World.cell?_setCell_other _ _ _ _ (by simp)).trans k3)
  have hK : Kp w (W2.setCell ⟨w1.heap.size, 2, none⟩ (.int .u8 c.toNat)) := (Kp.trans hg.1 hkp).setCell hg.1.size _
  clear hfro k0 k1 k3
  go_wp2_with fail
  refine (parseZ_w c0 c1 c c3 _).mono ?_
  rintro e w2 ⟨rfl, rfl⟩
  by_cases hx : hexD c.toNat < 0
  · have hp : pb c0 c1 c c3 = false := by
      have : hexB c.toNat = false := by simp [hexB]; omega
      simp [pb, this]
    have hv : pv c0 c1 c c3 = 0 := by simp [pv, hp]
    go_wp2_with (go_at_call 6; refine (hexDigit_w _ hc.1 hc.2 _).mono ?_; rintro e w' ⟨rfl, rfl⟩)
    go_ret
    exact ⟨rfl, hK⟩
  · have hp : pb c0 c1 c c3 = true := by
      obtain ⟨q0, q1, q2, q3⟩ := unhide H
      simp [pb, hexB]; omega
    have hv : Hid ((pv c0 c1 c c3 == bits .or .i32 (bits .andNot .i32 v 240) (hexD c.toNat * 16)) = true) := by
      obtain ⟨q0, q1, q2, q3⟩ := unhide H
      refine hide (beq_iff_eq.2 ?_)
      rw [want2 v _ h0 h1 (by omega) hd.2]
      simp only [pv, hp, if_true]
      omega
    go_wp2_with (go_at_call 6; refine (hexDigit_w _ hc.1 hc.2 _).mono ?_; rintro e w' ⟨rfl, rfl⟩)
    go_ret
    exact ⟨ret_bool (unhide hv), hK⟩

theorem law3 (v : Int) (u : Bool) (c : UInt8) (h0 : 0 ≤ v) (h1 : v < 65536) (w : World) :
    Calls Try.prog 4 #[.int .u16 v, .bool u, .int .i64 3, .int .u8 c.toNat] w fun e w' => e = .returned (.bool true) ∧ Kp w w' := by
  have hd := hexD_bd c.toNat
  have hc := u8_lt c
  go_enter Try.func4, Try.ntmps4
  go_wp2_with fail
  refine (hex4_w v u h0 h1 _).mono ?_
  rintro e w1 ⟨c0, c1, c2, c3, rfl, H, hg⟩
  obtain ⟨cap, W2, hconv, k0, k1, k2, k3, hfro, hkp⟩ := str_bytes w1 c0 c1 c2 c3
  have hf := hfro 3 (by omega)
  have hb := bytes_str (W2.setCell ⟨w1.heap.size, 3, none⟩ (.int .u8 c.toNat)) w1.heap.size cap c0 c1 c2 c
    ((World.cell?_setCell_other _ _ _ _ (by simp)).trans k0) ((World.cell?_setCell_other _ _ _ _ (by simp)).trans k1) ((World.cell?_setCell_other _ _ _ _ (by simp)).trans k2) (World.cell?_setCell_same _ _ _ k3)
  have hK : Kp w (W2.setCell ⟨w1.heap.size, 3, none⟩ (.int .u8 c.toNat)) := (Kp.trans hg.1 hkp).setCell hg.1.size _
  clear hfro k0 k1 k2
  go_wp2_with fail
  refine (parseZ_w c0 c1 c2 c _).mono ?_
  rintro e w2 ⟨rfl, rfl⟩
  by_cases hx : hexD c.toNat < 0
  · have hp : pb c0 c1 c2 c = false := by
      have : hexB c.toNat = false := by simp [hexB]; omega
      simp [pb, this]
    have hv : pv c0 c1 c2 c = 0 := by simp [pv, hp]
    go_wp2_with (go_at_call 6; refine (hexDigit_w _ hc.1 hc.2 _).mono ?_; rintro e w' ⟨rfl, rfl⟩)
    go_ret
    exact ⟨rfl, hK⟩
  · have hp : pb c0 c1 c2 c = true := by
      obtain ⟨q0, q1, q2, q3⟩ := unhide H
      simp [pb, hexB]; omega
    have hv : Hid ((pv c0 c1 c2 c == bits .or .i32 (bits .andNot .i32 v 15) (hexD c.toNat)) = true) := by
      obtain ⟨q0, q1, q2, q3⟩ := unhide H
      refine hide (beq_iff_eq.2 ?_)
      rw [want3 v _ h0 h1 (by omega) hd.2]
      simp only [pv, hp, if_true]
      omega
    go_wp2_with (go_at_call 6; refine (hexDigit_w _ hc.1 hc.2 _).mono ?_; rintro e w' ⟨rfl, rfl⟩)
    go_ret
    exact ⟨ret_bool (unhide hv), hK⟩

theorem law_out (v : Int) (u : Bool) (p : Int) (c : Int) (h : p < 0 ∨ 3 < p) (w : World) :
    Calls Try.prog 4 #[.int .u16 v, .bool u, .int .i64 p, .int .u8 c] w fun e w' => e = .returned (.bool true) ∧ Kp w w' := by
  rcases h with h | h
  · go_enter Try.func4, Try.ntmps4
    go_wp2
    go_ret
    exact ⟨rfl, Kp.refl _⟩
  · have h' : ¬ p < 0 := by omega
    go_enter Try.func4, Try.ntmps4
    go_wp2
    go_ret
    exact ⟨rfl, Kp.refl _⟩

theorem law (v : Int) (u : Bool) (p c : Int) (h0 : 0 ≤ v) (h1 : v < 65536) (h2 : 0 ≤ c) (h3 : c < 256) (w : World) :
    Calls Try.prog 4 #[.int .u16 v, .bool u, .int .i64 p, .int .u8 c] w fun e w' => e = .returned (.bool true) ∧ Kp w w' := by
  obtain ⟨x, rfl⟩ : ∃ x : UInt8, c = (x.toNat : Int) := ⟨UInt8.ofNat c.toNat, by
    rw [UInt8.toNat_ofNat']
    omega⟩
  by_cases hp : p < 0 ∨ 3 < p
  · exact law_out v u p _ hp w
  · have h4 : p = 0 ∨ p = 1 ∨ p = 2 ∨ p = 3 := by omega
    rcases h4 with rfl | rfl | rfl | rfl
    · exact law0 v u x h0 h1 w
    · exact law1 v u x h0 h1 w
    · exact law2 v u x h0 h1 w
    · exact law3 v u x h0 h1 w
end Go.Proofs.Qxb6609177a
