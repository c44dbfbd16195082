import Derived.Test.Qxb6609177aHex
import Derived.RegionTactic
import Derived.ChangeAlike
import Derived.BigRegion
import Derived.Laws.IdiomStrings
namespace Go.Proofs.Qxb6609177a
open Go.RowKit
set_option linter.unusedVariables false

theorem ofInt_32 (a : Nat) (ha : a < 4294967296) : (BitVec.ofInt 32 (a : Int)).toNat = a := by
  rw [BitVec.ofInt_natCast, BitVec.toNat_ofNat]; exact Nat.mod_eq_of_lt (by omega)
theorem i32_and_nat (a b : Nat) (ha : a < 2147483648) (hb : b < 2147483648) : bits .and .i32 (a : Int) (b : Int) = ((a &&& b : Nat) : Int) := by
  have hx : a &&& b < 2 ^ 31 := Nat.and_lt_two_pow _ (by omega)
  show IntKind.i32.wrap ((BitVec.ofInt 32 (a : Int) &&& BitVec.ofInt 32 (b : Int)).toNat : Int) = _
  rw [BitVec.toNat_and, ofInt_32 a (by omega), ofInt_32 b (by omega), IntKind.wrap_i32]
  omega
theorem i32_or_nat (a b : Nat) (ha : a < 2147483648) (hb : b < 2147483648) : bits .or .i32 (a : Int) (b : Int) = ((a ||| b : Nat) : Int) := by
  have hx : a ||| b < 2 ^ 31 := Nat.or_lt_two_pow (by omega) (by omega)
  show IntKind.i32.wrap ((BitVec.ofInt 32 (a : Int) ||| BitVec.ofInt 32 (b : Int)).toNat : Int) = _
  rw [BitVec.toNat_or, ofInt_32 a (by omega), ofInt_32 b (by omega), IntKind.wrap_i32]
  omega
theorem i32_andNot_nat (a b : Nat) (ha : a < 2147483648) (hb : b < 2147483648) : bits .andNot .i32 (a : Int) (b : Int) = ((a &&& (4294967295 - b) : Nat) : Int) := by
  have hx : a &&& (4294967295 - b) < 2 ^ 31 := Nat.lt_of_le_of_lt Nat.and_le_left (by omega)
  show IntKind.i32.wrap ((BitVec.ofInt 32 (a : Int) &&& ~~~BitVec.ofInt 32 (b : Int)).toNat : Int) = _
  rw [BitVec.toNat_and, BitVec.toNat_not, ofInt_32 a (by omega), ofInt_32 b (by omega), IntKind.wrap_i32]
  have e : 2 ^ 32 - 1 - b = 4294967295 - b := by omega
  rw [e]
  omega
/-- The low nibble of an int32 that isn't negative. -/
theorem i32_nib (a : Int) (h0 : 0 ≤ a) (h1 : a < 2147483648) : ∃ d : Nat, bits .and .i32 a 15 = (d : Int) ∧ (d : Int) = a % 16 ∧ (d : Int) < 16 := by
  obtain ⟨n, rfl⟩ := Int.eq_ofNat_of_zero_le h0
  refine ⟨n % 16, ?_, by omega, by omega⟩
  have := i32_and_nat n 15 (by omega) (by omega)
  rw [Nat.and_two_pow_sub_one_eq_mod n 4] at this
  exact this

/-- 'string(b)' of four new bytes. -/
theorem conv4 (w : World) (c0 c1 c2 c3 : UInt8) :
    (convert 25 9 (.slice (some ⟨w.heap.size, 0, none⟩) 4 4)).run Try.prog (w.alloc (.cells #[.int .u8 c0.toNat, .int .u8 c1.toNat, .int .u8 c2.toNat, .int .u8 c3.toNat] 5)).drew
      = .ok (.string ⟨#[c0, c1, c2, c3]⟩) (w.alloc (.cells #[.int .u8 c0.toNat, .int .u8 c1.toNat, .int .u8 c2.toNat, .int .u8 c3.toNat] 5)).drew :=
  run_convert_bytes_back (P := Try.prog) (w.alloc (.cells #[.int .u8 c0.toNat, .int .u8 c1.toNat, .int .u8 c2.toNat, .int .u8 c3.toNat] 5)).drew 25 9 5 ⟨w.heap.size, 0, none⟩ 4 [c0, c1, c2, c3] Try.underlying25 Try.underlying5 Try.underlying9
    (by
      intro j hj
      match j, hj with
      | 0, _ => simp [Addr.add]
      | 1, _ => simp [Addr.add]
      | 2, _ => simp [Addr.add]
      | 3, _ => simp [Addr.add])

theorem low_hexD (d : Nat) (h : d < 16) : hexD ((({ data := #[48, 49, 50, 51, 52, 53, 54, 55, 56, 57, 97, 98, 99, 100, 101, 102] } : ByteArray)[d]'h).toNat : Int) = d :=
  hexD_lo _ d h (Or.inl (alpha d h).1)
theorem up_hexD (d : Nat) (h : d < 16) : hexD ((({ data := #[48, 49, 50, 51, 52, 53, 54, 55, 56, 57, 65, 66, 67, 68, 69, 70] } : ByteArray)[d]'h).toNat : Int) = d :=
  hexD_lo _ d h (Or.inr (alpha d h).2)

set_option maxHeartbeats 1000000 in
theorem hex4_w (v : Int) (u : Bool) (h0 : 0 ≤ v) (h1 : v < 65536) (w : World) :
    Calls Try.prog 7 #[.int .i32 v, .bool u] w fun e w' => ∃ c0 c1 c2 c3 : UInt8, e = .returned (.string ⟨#[c0, c1, c2, c3]⟩) ∧
      Hid (hexD (c0.toNat : Int) = v / 4096 % 16 ∧ hexD (c1.toNat : Int) = v / 256 % 16 ∧ hexD (c2.toNat : Int) = v / 16 % 16 ∧ hexD (c3.toNat : Int) = v % 16) ∧ Grown w w' := by
  obtain ⟨d0, e0, m0, l0⟩ := i32_nib v (by omega) (by omega)
  obtain ⟨d1, e1, m1, l1⟩ := i32_nib (v / 16) (by omega) (by omega)
  obtain ⟨d2, e2, m2, l2⟩ := i32_nib (v / 256) (by omega) (by omega)
  obtain ⟨d3, e3, m3, l3⟩ := i32_nib (v / 4096) (by omega) (by omega)
  have M := hide (And.intro m0 (And.intro m1 (And.intro m2 m3)))
  clear m0 m1 m2 m3
  have hconv := conv4 w
  cases u
  · go_enter Try.func7, Try.ntmps7
    go_wp2
    go_region
    go_wp2
    go_ret
    obtain ⟨m0, m1, m2, m3⟩ := unhide M
    refine ⟨_, _, _, _, rfl, hide ?_, by repeat (first | exact Grown.refl _ | apply Grown.drew | apply Grown.alloc)⟩
    rw [low_hexD, low_hexD, low_hexD, low_hexD]
    exact ⟨m3, m2, m1, m0⟩
  · go_enter Try.func7, Try.ntmps7
    go_wp2
    go_region
    go_wp2
    go_ret
    obtain ⟨m0, m1, m2, m3⟩ := unhide M
    refine ⟨_, _, _, _, rfl, hide ?_, by repeat (first | exact Grown.refl _ | apply Grown.drew | apply Grown.alloc)⟩
    rw [up_hexD, up_hexD, up_hexD, up_hexD]
    exact ⟨m3, m2, m1, m0⟩

def pb (c0 c1 c2 c3 : UInt8) : Bool := hexB c0.toNat && (hexB c1.toNat && (hexB c2.toNat && hexB c3.toNat))
def pv (c0 c1 c2 c3 : UInt8) : Int := if pb c0 c1 c2 c3 then 4096 * hexD c0.toNat + 256 * hexD c1.toNat + 16 * hexD c2.toNat + hexD c3.toNat else 0
theorem u8_lt (c : UInt8) : 0 ≤ (c.toNat : Int) ∧ (c.toNat : Int) < 256 := by
  have := c.toNat_lt
  omega
theorem hexD_bd (c : Int) : -1 ≤ hexD c ∧ hexD c ≤ 15 := by unfold hexD; omega
theorem hexD_ok {c : Int} (h : Hid (hexB c = true)) : 0 ≤ hexD c ∧ hexD c ≤ 15 := by
  have := hexD_bd c
  have h2 := unhide h
  unfold hexB at h2
  simp at h2
  omega
theorem or_nib (r x : Int) (h0 : 0 ≤ r) (h1 : r < 65536) (h2 : 0 ≤ x) (h3 : x ≤ 15) : bits .or .i32 (r * 16) x = 16 * r + x := by
  obtain ⟨a, rfl⟩ := Int.eq_ofNat_of_zero_le h0
  obtain ⟨b, rfl⟩ := Int.eq_ofNat_of_zero_le h2
  have h := i32_or_nat (2 ^ 4 * a) b (by omega) (by omega)
  rw [← Nat.two_pow_add_eq_or_of_lt (by omega)] at h
  have e : ((2 ^ 4 * a : Nat) : Int) = (a : Int) * 16 := by omega
  rw [e] at h
  rw [h]
  omega
theorem int_eq {k : IntKind} {a b : Int} (h : a = b) : Value.int k a = .int k b := by rw [h]

set_option maxHeartbeats 1000000 in
theorem parse_w (c0 c1 c2 c3 : UInt8) (w : World) :
    Calls Try.prog 10 #[.string ⟨#[c0, c1, c2, c3]⟩] w fun e w' => e = .returned (.tuple #[.int .i32 (pv c0 c1 c2 c3), .bool (pb c0 c1 c2 c3)]) ∧ w' = w := by
  go_enter Try.func10, Try.ntmps10
  go_wp2
  go_loop [4, 6] (fun r i => (i = .int .i64 0 ∧ r = .int .i32 0) ∨
      (i = .int .i64 1 ∧ r = .int .i32 (hexD c0.toNat) ∧ Hid (hexB c0.toNat = true)) ∨
      (i = .int .i64 2 ∧ r = .int .i32 (16 * hexD c0.toNat + hexD c1.toNat) ∧ Hid (hexB c0.toNat = true) ∧ Hid (hexB c1.toNat = true)) ∨
      (i = .int .i64 3 ∧ r = .int .i32 (256 * hexD c0.toNat + 16 * hexD c1.toNat + hexD c2.toNat) ∧ Hid (hexB c0.toNat = true) ∧ Hid (hexB c1.toNat = true) ∧ Hid (hexB c2.toNat = true)) ∨
      (i = .int .i64 4 ∧ r = .int .i32 (4096 * hexD c0.toNat + 256 * hexD c1.toNat + 16 * hexD c2.toNat + hexD c3.toNat) ∧ Hid (hexB c0.toNat = true) ∧ Hid (hexB c1.toNat = true) ∧ Hid (hexB c2.toNat = true) ∧ Hid (hexB c3.toNat = true)))
    (fun _ i => 4 - (intOf i).toNat)
  case atStart => exact Or.inl ⟨rfl, rfl⟩
  case round =>
    have b0 := u8_lt c0
    have b1 := u8_lt c1
    have b2 := u8_lt c2
    have b3 := u8_lt c3
    rcases hrel with ⟨rfl, rfl⟩ | ⟨rfl, rfl, g0⟩ | ⟨rfl, rfl, g0, g1⟩ | ⟨rfl, rfl, g0, g1, g2⟩ | ⟨rfl, rfl, g0, g1, g2, g3⟩
    · cases hb : hexB c0.toNat
      · go_wp2_with (first | (go_at_call 9; refine (isHex_w _ b0.1 b0.2 _).mono ?_; rintro e w' ⟨rfl, rfl⟩))
        go_ret2
        exact ⟨by simp [pv, pb, hb], rfl⟩
      · have x0 := hexD_ok (hide hb)
        go_wp2_with (first | (go_at_call 9; refine (isHex_w _ b0.1 b0.2 _).mono ?_; rintro e w' ⟨rfl, rfl⟩) | (go_at_call 11; refine (hexValue_w _ b0.1 b0.2 hb _).mono ?_; rintro e w' ⟨rfl, rfl⟩))
        exact ⟨Or.inr (Or.inl ⟨rfl, int_eq (by omega), hide trivial⟩), by simp [intOf]⟩
    · have x0 := hexD_ok g0
      cases hb : hexB c1.toNat
      · go_wp2_with (first | (go_at_call 9; refine (isHex_w _ b1.1 b1.2 _).mono ?_; rintro e w' ⟨rfl, rfl⟩))
        go_ret2
        exact ⟨by simp [pv, pb, hb], rfl⟩
      · have x1 := hexD_ok (hide hb)
        go_wp2_with (first | (go_at_call 9; refine (isHex_w _ b1.1 b1.2 _).mono ?_; rintro e w' ⟨rfl, rfl⟩) | (go_at_call 11; refine (hexValue_w _ b1.1 b1.2 hb _).mono ?_; rintro e w' ⟨rfl, rfl⟩))
        exact ⟨Or.inr (Or.inr (Or.inl ⟨rfl, int_eq (by rw [or_nib _ _ (by omega) (by omega) (by omega) (by omega)]), g0, hide trivial⟩)), by simp [intOf]⟩
    · have x0 := hexD_ok g0
      have x1 := hexD_ok g1
      cases hb : hexB c2.toNat
      · go_wp2_with (first | (go_at_call 9; refine (isHex_w _ b2.1 b2.2 _).mono ?_; rintro e w' ⟨rfl, rfl⟩))
        go_ret2
        exact ⟨by simp [pv, pb, hb], rfl⟩
      · have x2 := hexD_ok (hide hb)
        go_wp2_with (first | (go_at_call 9; refine (isHex_w _ b2.1 b2.2 _).mono ?_; rintro e w' ⟨rfl, rfl⟩) | (go_at_call 11; refine (hexValue_w _ b2.1 b2.2 hb _).mono ?_; rintro e w' ⟨rfl, rfl⟩))
        exact ⟨Or.inr (Or.inr (Or.inr (Or.inl ⟨rfl, int_eq (by rw [or_nib _ _ (by omega) (by omega) (by omega) (by omega)]; omega), g0, g1, hide trivial⟩))), by simp [intOf]⟩
    · have x0 := hexD_ok g0
      have x1 := hexD_ok g1
      have x2 := hexD_ok g2
      cases hb : hexB c3.toNat
      · go_wp2_with (first | (go_at_call 9; refine (isHex_w _ b3.1 b3.2 _).mono ?_; rintro e w' ⟨rfl, rfl⟩))
        go_ret2
        exact ⟨by simp [pv, pb, hb], rfl⟩
      · have x3 := hexD_ok (hide hb)
        go_wp2_with (first | (go_at_call 9; refine (isHex_w _ b3.1 b3.2 _).mono ?_; rintro e w' ⟨rfl, rfl⟩) | (go_at_call 11; refine (hexValue_w _ b3.1 b3.2 hb _).mono ?_; rintro e w' ⟨rfl, rfl⟩))
        exact ⟨Or.inr (Or.inr (Or.inr (Or.inr ⟨rfl, int_eq (by rw [or_nib _ _ (by omega) (by omega) (by omega) (by omega)]; omega), g0, g1, g2, hide trivial⟩))), by simp [intOf]⟩
    · go_wp2
      go_ret2
      exact ⟨by simp [pv, pb, unhide g0, unhide g1, unhide g2, unhide g3], rfl⟩

theorem parseZ_w (c0 c1 c2 c3 : UInt8) (w : World) :
    Calls Try.prog 8 #[.string ⟨#[c0, c1, c2, c3]⟩] w fun e w' => e = .returned (.tuple #[.int .i32 (pv c0 c1 c2 c3), .bool (pb c0 c1 c2 c3)]) ∧ w' = w := by
  go_enter Try.func8, Try.ntmps8
  go_wp2_with (go_at_call 10; refine (parse_w _ _ _ _ _).mono ?_; rintro e w' ⟨rfl, rfl⟩)
  go_ret2
  exact ⟨rfl, rfl⟩

/-! 'Kp W w'': of what was there in W nothing has turned (new blocks may bear the run-time's mark). -/
def Kp (W w' : World) : Prop := W.keptBut w' (fun _ => False)
theorem Kp.refl (W : World) : Kp W W := World.keptBut_refl _ _
theorem Kp.trans {a b c : World} (h1 : Kp a b) (h2 : Kp b c) : Kp a c := World.keptBut_trans h1 h2
theorem Kp.alloc {W w' : World} (h : Kp W w') (o : Obj) : Kp W (w'.alloc o) := World.keptBut_trans h (World.keptBut_alloc _ _ _)
theorem Kp.drew {W w' : World} (h : Kp W w') : Kp W w'.drew := h
theorem Kp.setCell {W w' : World} (h : Kp W w') {a : Addr} (ha : W.heap.size ≤ a.block) (v : Value) : Kp W (w'.setCell a v) := by
  obtain ⟨h1, h2, h3⟩ := h
  refine ⟨h1, h2, fun i hi => ?_⟩
  have e : (w'.setCell a v).heap[i]? = w'.heap[i]? := by
    simp only [World.setCell, Array.getElem?_modify]
    rw [if_neg (by omega)]
  rw [e]
  exact h3 i hi

/-- '[]byte(s)' of four bytes: a new row whose first four cells are they. -/
theorem str_bytes (w : World) (c0 c1 c2 c3 : UInt8) : ∃ (cap : Nat) (W2 : World),
    (convert 9 25 (.string ⟨#[c0, c1, c2, c3]⟩)).run Try.prog w = .ok (.slice (some ⟨w.heap.size, 0, none⟩) 4 cap) W2 ∧
    W2.cell? ⟨w.heap.size, 0, none⟩ = some (.int .u8 c0.toNat) ∧ W2.cell? ⟨w.heap.size, 1, none⟩ = some (.int .u8 c1.toNat) ∧
    W2.cell? ⟨w.heap.size, 2, none⟩ = some (.int .u8 c2.toNat) ∧ W2.cell? ⟨w.heap.size, 3, none⟩ = some (.int .u8 c3.toNat) ∧
    (∀ j, j < 4 → W2.frozen? ⟨w.heap.size, j, none⟩ = false) ∧ Kp w W2 := by
  have h := run_bytes_of_string (P := Try.prog) w 9 25 5 ⟨#[c0, c1, c2, c3]⟩ Try.underlying9 Try.underlying25 Try.underlying5
  refine ⟨_, _, h, ?_, ?_, ?_, ?_, ?_, ?_⟩
  · exact (World.cell?_alloc_mark w.drew _ _ _ _).trans (bytesRow_at _ _ 0 (by simp))
  · exact (World.cell?_alloc_mark w.drew _ _ _ _).trans (bytesRow_at _ _ 1 (by simp))
  · exact (World.cell?_alloc_mark w.drew _ _ _ _).trans (bytesRow_at _ _ 2 (by simp))
  · exact (World.cell?_alloc_mark w.drew _ _ _ _).trans (bytesRow_at _ _ 3 (by simp))
  · intro j hj
    refine (World.frozen?_alloc_mark w.drew _ _ _ _ _).trans ?_
    have : 4 ≤ (bytesRow ⟨#[c0, c1, c2, c3]⟩ (grownCap w (ByteArray.mk #[c0, c1, c2, c3]).size 0 5)).size := by simp [bytesRow]
    have e : ∀ n : Nat, 4 ≤ n → (decide (n ≤ j) && decide (j < n + 1)) = false := fun n hn => by simp; omega
    exact e _ this
  · exact ((Kp.refl w).drew).alloc _

/-- 'string(b)' of four known cells. -/
theorem bytes_str (w : World) (b cap : Nat) (c0 c1 c2 c3 : UInt8)
    (k0 : w.cell? ⟨b, 0, none⟩ = some (.int .u8 c0.toNat)) (k1 : w.cell? ⟨b, 1, none⟩ = some (.int .u8 c1.toNat))
    (k2 : w.cell? ⟨b, 2, none⟩ = some (.int .u8 c2.toNat)) (k3 : w.cell? ⟨b, 3, none⟩ = some (.int .u8 c3.toNat)) :
    (convert 25 9 (.slice (some ⟨b, 0, none⟩) 4 cap)).run Try.prog w = .ok (.string ⟨#[c0, c1, c2, c3]⟩) w :=
  run_convert_bytes_back (P := Try.prog) w 25 9 5 ⟨b, 0, none⟩ cap [c0, c1, c2, c3] Try.underlying25 Try.underlying5 Try.underlying9
    (by
      intro j hj
      match j, hj with
      | 0, _ => simpa [Addr.add] using k0
      | 1, _ => simpa [Addr.add] using k1
      | 2, _ => simpa [Addr.add] using k2
      | 3, _ => simpa [Addr.add] using k3)
end Go.Proofs.Qxb6609177a
