import Derived.Test.Qxb6609177aRows
import Derived.WalkKit
namespace Go.Proofs.Qxb6609177a
set_option linter.unusedVariables false
open Go.RowKit

theorem hide {p : Prop} (h : p) : Hid p := h
theorem unhide {p : Prop} (h : Hid p) : p := h
def intOf : Value → Int | .int _ q => q | _ => 0

theorem wf_u8 {a : Int} (h : (Lit.int .u8 a).wf = true) : 0 ≤ a ∧ a < 256 := by
  have h' : IntKind.u8.min ≤ a ∧ a ≤ IntKind.u8.max := by simpa [Lit.wf] using h
  have e1 : IntKind.u8.min = 0 := by decide
  have e2 : IntKind.u8.max = 255 := by decide
  omega
theorem wf_u16 {a : Int} (h : (Lit.int .u16 a).wf = true) : 0 ≤ a ∧ a < 65536 := by
  have h' : IntKind.u16.min ≤ a ∧ a ≤ IntKind.u16.max := by simpa [Lit.wf] using h
  have e1 : IntKind.u16.min = 0 := by decide
  have e2 : IntKind.u16.max = 65535 := by decide
  omega
theorem wf_i64 {a : Int} (h : (Lit.int .i64 a).wf = true) : -9223372036854775808 ≤ a ∧ a ≤ 9223372036854775807 := by
  have h' : IntKind.i64.min ≤ a ∧ a ≤ IntKind.i64.max := by simpa [Lit.wf] using h
  have e1 : IntKind.i64.min = -9223372036854775808 := by decide
  have e2 : IntKind.i64.max = 9223372036854775807 := by decide
  omega

/-- the value of a hex digit, or -1 -/
def hexD (c : Int) : Int :=
  if 48 ≤ c ∧ c ≤ 57 then c - 48 else if 97 ≤ c ∧ c ≤ 102 then c - 87 else if 65 ≤ c ∧ c ≤ 70 then c - 55 else -1

/-- is it a hex digit? -/
def hexB (c : Int) : Bool := decide (0 ≤ hexD c)

/-- What '| 0x20' does to a byte, as far as it matters here. -/
theorem or32 (c : Int) (h0 : 0 ≤ c) (h1 : c < 256) :
    (if 48 ≤ c ∧ c ≤ 57 then hexB c = true ∧ hexD c = c - 48
      else if 97 ≤ bits BinOp.or IntKind.u8 c 32 ∧ bits BinOp.or IntKind.u8 c 32 ≤ 102 then hexB c = true ∧ bits BinOp.or IntKind.u8 c 32 = hexD c + 87 ∧ 57 < c
      else hexB c = false) := by
  obtain ⟨n, rfl⟩ := Int.eq_ofNat_of_zero_le h0
  have key : ∀ n : Fin 256, 
    (if 48 ≤ (n.val : Int) ∧ (n.val : Int) ≤ 57 then hexB n.val = true ∧ hexD n.val = n.val - 48
      else if 97 ≤ bits BinOp.or IntKind.u8 n.val 32 ∧ bits BinOp.or IntKind.u8 n.val 32 ≤ 102 then hexB n.val = true ∧ bits BinOp.or IntKind.u8 n.val 32 = hexD n.val + 87 ∧ 57 < (n.val : Int)
      else hexB n.val = false) := by decide +kernel
  exact key ⟨n, by omega⟩

theorem ret_bool {a b : Bool} (h : a = b) : Ending.returned (.bool a) = .returned (.bool b) := by rw [h]
theorem ret_int {k : IntKind} {a b : Int} (h : a = b) : Ending.returned (.int k a) = .returned (.int k b) := by rw [h]

set_option maxHeartbeats 400000 in
theorem isHex_w (c : Int) (h0 : 0 ≤ c) (h1 : c < 256) (w : World) :
    Calls Try.prog 9 #[.int .u8 c] w fun e w' => e = .returned (.bool (hexB c)) ∧ w' = w := by
  have K := hide (or32 c h0 h1)
  go_enter Try.func9, Try.ntmps9
  go_wp2
  all_goals
    go_ret
    have key := unhide K
    refine ⟨ret_bool ?_, rfl⟩
    split at key
    · obtain ⟨k1, -⟩ := key
      rw [k1]
      all_goals first | rfl | (exfalso; omega)
    · split at key
      · obtain ⟨k1, k2, k3⟩ := key
        rw [k1]
        all_goals first | rfl | (exfalso; omega) | (simp; omega)
      · rw [key]
        all_goals first | rfl | (exfalso; omega) | (simp; omega)

theorem isHexZ_w (c : Int) (h0 : 0 ≤ c) (h1 : c < 256) (w : World) :
    Calls Try.prog 5 #[.int .u8 c] w fun e w' => e = .returned (.bool (hexB c)) ∧ w' = w := by
  go_enter Try.func5, Try.ntmps5
  go_wp2_with (go_at_call 9; refine (isHex_w _ h0 h1 _).mono ?_; rintro e w' ⟨rfl, rfl⟩)
  go_ret
  exact ⟨rfl, rfl⟩

set_option maxHeartbeats 400000 in
theorem hexValue_w (c : Int) (h0 : 0 ≤ c) (h1 : c < 256) (hx : hexB c = true) (w : World) :
    Calls Try.prog 11 #[.int .u8 c] w fun e w' => e = .returned (.int .u8 (hexD c)) ∧ w' = w := by
  have K := hide (or32 c h0 h1)
  have K2 : Hid (0 ≤ hexD c ∧ hexD c ≤ 15) := by
    have hx' := hx
    unfold hexB hexD at hx'
    simp at hx'
    unfold Hid hexD
    omega
  have HX := hide hx
  clear hx
  by_cases hc : c ≤ 57
  · go_enter Try.func11, Try.ntmps11
    go_wp2
    go_ret
    have key := unhide K
    have hx := unhide HX
    refine ⟨ret_int ?_, rfl⟩
    split at key
    · omega
    · split at key
      · omega
      · simp [hx] at key
  · go_enter Try.func11, Try.ntmps11
    go_wp2
    go_ret
    have key := unhide K
    have hx := unhide HX
    have k2 := unhide K2
    refine ⟨ret_int ?_, rfl⟩
    split at key
    · omega
    · split at key
      · omega
      · simp [hx] at key

/-- The two alphabets at a place. -/
theorem alpha (k : Nat) (h : k < 16) :
    ((({ data := #[48, 49, 50, 51, 52, 53, 54, 55, 56, 57, 97, 98, 99, 100, 101, 102] } : ByteArray)[k]'h).toNat : Int) = (if k < 10 then (k : Int) + 48 else (k : Int) + 87) ∧
    ((({ data := #[48, 49, 50, 51, 52, 53, 54, 55, 56, 57, 65, 66, 67, 68, 69, 70] } : ByteArray)[k]'h).toNat : Int) = (if k < 10 then (k : Int) + 48 else (k : Int) + 55) := by
  have key : ∀ k : Fin 16, 
      ((({ data := #[48, 49, 50, 51, 52, 53, 54, 55, 56, 57, 97, 98, 99, 100, 101, 102] } : ByteArray)[k.val]'k.isLt).toNat : Int) = (if k.val < 10 then (k.val : Int) + 48 else (k.val : Int) + 87) ∧
    ((({ data := #[48, 49, 50, 51, 52, 53, 54, 55, 56, 57, 65, 66, 67, 68, 69, 70] } : ByteArray)[k.val]'k.isLt).toNat : Int) = (if k.val < 10 then (k.val : Int) + 48 else (k.val : Int) + 55) := by decide +kernel
  exact key ⟨k, h⟩

theorem hexD_lo (c : Int) (k : Nat) (hk : k < 16) (h : c = (if k < 10 then (k : Int) + 48 else k + 87) ∨ c = (if k < 10 then (k : Int) + 48 else k + 55)) : hexD c = k := by
  unfold hexD
  split at h <;> omega
theorem hexD_no (c : Int) (h : ∀ k : Nat, k < 16 → c ≠ (if k < 10 then (k : Int) + 48 else k + 87) ∧ c ≠ (if k < 10 then (k : Int) + 48 else k + 55)) : hexD c = -1 := by
  unfold hexD
  split
  · have := h (c - 48).toNat (by omega)
    split at this <;> omega
  · split
    · have := h (c - 87).toNat (by omega)
      split at this <;> omega
    · split
      · have := h (c - 55).toNat (by omega)
        split at this <;> omega
      · rfl

set_option maxHeartbeats 400000 in
theorem hexDigit_w (c : Int) (h0 : 0 ≤ c) (h1 : c < 256) (w : World) :
    Calls Try.prog 6 #[.int .u8 c] w fun e w' => e = .returned (.int .i32 (hexD c)) ∧ w' = w := by
  go_enter Try.func6, Try.ntmps6
  go_wp2
  go_loop [3] (fun j => ∃ k : Nat, k ≤ 16 ∧ j = .int .i64 k ∧ Hid (∀ i : Nat, i < k → c ≠ (if i < 10 then (i : Int) + 48 else i + 87) ∧ c ≠ (if i < 10 then (i : Int) + 48 else i + 55))) (fun j => 16 - (intOf j).toNat)
  case atStart => exact ⟨0, by omega, rfl, hide (by intro i hi; omega)⟩
  case round =>
    obtain ⟨k, hk, rfl, hno⟩ := hrel
    by_cases hlt : k < 16
    · have A := hide (alpha k hlt)
      have L := hide (hexD_lo c k hlt)
      go_wp2
      · go_ret
        refine ⟨ret_int ?_, rfl⟩
        rename_i h _
        obtain ⟨a1, a2⟩ := unhide A
        rw [hexD_lo _ k hlt (Or.inl a1)]
      · go_ret
        refine ⟨ret_int ?_, rfl⟩
        rename_i h _
        obtain ⟨a1, a2⟩ := unhide A
        simp only [beq_iff_eq, a1, a2] at h
        rw [unhide L h]
      · rename_i h2 h
        obtain ⟨a1, a2⟩ := unhide A
        simp only [beq_eq_false_iff_ne, a1, a2] at h
        refine ⟨⟨k + 1, by omega, by go_num, hide ?_⟩, by simp [intOf]; omega⟩
        intro i hi
        by_cases e : i = k
        · subst e; exact h
        · exact unhide hno i (by omega)
    · go_wp2
      go_ret
      refine ⟨ret_int ?_, rfl⟩
      rw [hexD_no c (fun i hi => unhide hno i (by omega))]
end Go.Proofs.Qxb6609177a
