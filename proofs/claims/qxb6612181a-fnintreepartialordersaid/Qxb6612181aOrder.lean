/-
  The walk of FnInTreePartialOrder.
-/
import Derived.Test.Qxb6612181aTree
namespace Go.Proofs.Qxb6612181a
open Go.RowKit
set_option linter.unusedVariables false

theorem bytes10_yes (a b c : ByteArray) (w : World) (h : a.size + b.size + c.size ≤ 1048576) :
    Calls Try.prog 10 #[.string a, .string b, .string c] w fun e w' => e = .returned (.bool true) ∧ w' = w := by
  have h1 : (a.size : Int) ≤ 1048576 := by omega
  have h2 : (b.size : Int) ≤ 1048576 := by omega
  have h3 : (c.size : Int) ≤ 1048576 := by omega
  have h4 : (a.size : Int) + (b.size : Int) ≤ 1048576 := by omega
  have h5 : (a.size : Int) + (b.size : Int) + (c.size : Int) ≤ 1048576 := by omega
  go_enter Try.func10, Try.ntmps10
  go_wp2
  go_ret
  exact ⟨rfl, rfl⟩

theorem bytes10_no (a b c : ByteArray) (w : World) (ha : a.size ≤ maxLen) (hb : b.size ≤ maxLen) (hc : c.size ≤ maxLen) (h : ¬ a.size + b.size + c.size ≤ 1048576) :
    Calls Try.prog 10 #[.string a, .string b, .string c] w fun e w' => e = .returned (.bool false) ∧ w' = w := by
  unfold maxLen at ha hb hc
  by_cases h1 : 1048576 < a.size
  · have h1' : 1048576 < (a.size : Int) := by omega
    go_enter Try.func10, Try.ntmps10
    go_wp2
    go_ret
    exact ⟨rfl, rfl⟩
  · have h1' : (a.size : Int) ≤ 1048576 := by omega
    by_cases h2 : 1048576 < b.size
    · have h2' : 1048576 < (b.size : Int) := by omega
      go_enter Try.func10, Try.ntmps10
      go_wp2
      go_ret
      exact ⟨rfl, rfl⟩
    · have h2' : (b.size : Int) ≤ 1048576 := by omega
      by_cases h3 : 1048576 < a.size + b.size
      · have h3' : 1048576 < (a.size : Int) + (b.size : Int) := by omega
        go_enter Try.func10, Try.ntmps10
        go_wp2
        go_ret
        exact ⟨rfl, rfl⟩
      · have h3' : (a.size : Int) + (b.size : Int) ≤ 1048576 := by omega
        by_cases h4 : 1048576 < c.size
        · have h4' : 1048576 < (c.size : Int) := by omega
          go_enter Try.func10, Try.ntmps10
          go_wp2
          go_ret
          exact ⟨rfl, rfl⟩
        · have h4' : (c.size : Int) ≤ 1048576 := by omega
          have h5' : 1048576 < (a.size : Int) + (b.size : Int) + (c.size : Int) := by omega
          go_enter Try.func10, Try.ntmps10
          go_wp2
          go_ret
          exact ⟨rfl, rfl⟩

set_option maxHeartbeats 1000000 in
theorem order_small (a b c : ByteArray) (w : World) (h : a.size + b.size + c.size ≤ 1048576) :
    Calls Try.prog 4 #[.string a, .string b, .string c] w fun e w' => e = .returned (.bool true) ∧ w' = w := by
  have h1 : (a.size : Int) ≤ 1048576 := by omega
  have h2 : (b.size : Int) ≤ 1048576 := by omega
  have h3 : (c.size : Int) ≤ 1048576 := by omega
  have h5 : (a.size : Int) + (b.size : Int) + (c.size : Int) ≤ 1048576 := by omega
  have hr := inB_refl a
  have A := hide (inB_anti a b)
  have T := hide (inB_trans a b c)
  go_enter Try.func4, Try.ntmps4
  go_wp2_with fail
  refine (bytes10_yes a b c _ h).mono ?_
  rintro e w' ⟨rfl, rfl⟩
  go_wp2_with fail
  refine (inTree8 a a _ (by omega)).mono ?_
  rintro e w1 ⟨rfl, rfl⟩
  go_wp2_with fail
  refine (inTree8 a b _ (by omega)).mono ?_
  rintro e w2 ⟨rfl, rfl⟩
  go_wp2_with fail
  refine (inTree8 b a _ (by omega)).mono ?_
  rintro e w3 ⟨rfl, rfl⟩
  go_wp2_with fail
  refine (inTree8 b c _ (by omega)).mono ?_
  rintro e w4 ⟨rfl, rfl⟩
  go_wp2_with fail
  refine (inTree8 a c _ (by omega)).mono ?_
  rintro e w5 ⟨rfl, rfl⟩
  cases hab : inB a b
  · go_wp2
    go_ret
    exact ⟨rfl, rfl⟩
  · cases hba : inB b a
    · cases hbc : inB b c
      · go_wp2
        go_ret
        exact ⟨rfl, rfl⟩
      · have hac : inB a c = true := unhide T hab hbc
        go_wp2
        go_ret
        exact ⟨rfl, rfl⟩
    · have hv := unhide A hab hba
      cases hbc : inB b c
      · go_wp2
        go_ret
        exact ⟨rfl, rfl⟩
      · have hac : inB a c = true := unhide T hab hbc
        go_wp2
        go_ret
        exact ⟨rfl, rfl⟩

theorem order_big (a b c : ByteArray) (w : World) (ha : a.size ≤ maxLen) (hb : b.size ≤ maxLen) (hc : c.size ≤ maxLen) (h : ¬ a.size + b.size + c.size ≤ 1048576) :
    Calls Try.prog 4 #[.string a, .string b, .string c] w fun e w' => e = .returned (.bool true) ∧ w' = w := by
  go_enter Try.func4, Try.ntmps4
  go_wp2_with fail
  refine (bytes10_no a b c _ ha hb hc h).mono ?_
  rintro e w' ⟨rfl, rfl⟩
  go_wp2
  go_ret
  exact ⟨rfl, rfl⟩

theorem order (a b c : ByteArray) (w : World) (ha : a.size ≤ maxLen) (hb : b.size ≤ maxLen) (hc : c.size ≤ maxLen) :
    Calls Try.prog 4 #[.string a, .string b, .string c] w fun e w' => e = .returned (.bool true) ∧ w' = w := by
  by_cases h : a.size + b.size + c.size ≤ 1048576
  · exact order_small a b c w h
  · exact order_big a b c w ha hb hc h
end Go.Proofs.Qxb6612181a
