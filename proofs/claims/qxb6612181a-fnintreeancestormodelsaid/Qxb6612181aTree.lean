/-
  strings.HasPrefix, strings.TrimSuffix (of one slash), inTree: their contracts; nothing writes memory.
-/
import Derived.Test.Qxb6612181aRows
import Derived.WalkKit
import Derived.WalkSpells
namespace Go.Proofs.Qxb6612181a
open Go.RowKit
set_option linter.unusedVariables false

theorem hide {p : Prop} (h : p) : Hid p := h
theorem unhide {p : Prop} (h : Hid p) : p := h

/-- Does s open with p? -/
def preB (s p : ByteArray) : Bool := decide (p.size ≤ s.size) && ((s.extract 0 p.size).toList == p.toList)
/-- Does s end with a slash? -/
def sufB (s : ByteArray) : Bool := decide (1 ≤ s.size) && ((s.extract (s.size - 1) s.size).toList == [47])
/-- s without one closing slash. -/
def trimB (s : ByteArray) : ByteArray := if sufB s = true then s.extract 0 (s.size - 1) else s
def inB (q t : ByteArray) : Bool := (q.toList == t.toList) || preB q (trimB t ++ (⟨#[47]⟩ : ByteArray))

theorem ret_bool {a b : Bool} (h : a = b) : Ending.returned (.bool a) = .returned (.bool b) := by rw [h]

theorem hasPrefix20 (s p : ByteArray) (w : World) :
    Calls Try.prog 20 #[.string s, .string p] w fun e w' => e = .returned (.bool (preB s p)) ∧ w' = w := by
  by_cases h : p.size ≤ s.size
  · have h' : (p.size : Int) ≤ (s.size : Int) := by omega
    have E : Hid (preB s p = ((s.extract 0 p.size).toList == p.toList)) := hide (by simp [preB, h])
    go_enter Try.func20, Try.ntmps20
    go_wp2
    go_ret
    exact ⟨ret_bool (unhide E).symm, rfl⟩
  · have h' : (s.size : Int) < (p.size : Int) := by omega
    have E : Hid (preB s p = false) := hide (by simp [preB]; omega)
    go_enter Try.func20, Try.ntmps20
    go_wp2
    go_ret
    exact ⟨ret_bool (unhide E).symm, rfl⟩
theorem hasPrefix17 (s p : ByteArray) (w : World) :
    Calls Try.prog 17 #[.string s, .string p] w fun e w' => e = .returned (.bool (preB s p)) ∧ w' = w := by
  go_enter Try.func17, Try.ntmps17
  go_wp2_with (go_at_call 20; refine (hasPrefix20 _ _ _).mono ?_; rintro e w' ⟨rfl, rfl⟩)
  go_ret
  exact ⟨rfl, rfl⟩

theorem hasSuffix23 (s : ByteArray) (w : World) (hs : s.size ≤ 1048576) :
    Calls Try.prog 23 #[.string s, .string ⟨#[47]⟩] w fun e w' => e = .returned (.bool (sufB s)) ∧ w' = w := by
  by_cases h : 1 ≤ s.size
  · have h' : (1 : Int) ≤ (s.size : Int) := by omega
    have hs' : (s.size : Int) ≤ 1048576 := by omega
    have e1 : ((s.size : Int) - 1).toNat = s.size - 1 := by omega
    have E : Hid (sufB s = ((s.extract (s.size - 1) s.size).toList == [47])) := hide (by simp [sufB, h])
    go_enter Try.func23, Try.ntmps23
    go_wp2
    go_ret
    exact ⟨ret_bool (unhide E).symm, rfl⟩
  · have h' : (s.size : Int) < 1 := by omega
    have E : Hid (sufB s = false) := hide (by simp [sufB]; omega)
    go_enter Try.func23, Try.ntmps23
    go_wp2
    go_ret
    exact ⟨ret_bool (unhide E).symm, rfl⟩

theorem trim21 (s : ByteArray) (w : World) (hs : s.size ≤ 1048576) :
    Calls Try.prog 21 #[.string s, .string ⟨#[47]⟩] w fun e w' => e = .returned (.string (trimB s)) ∧ w' = w := by
  cases hb : sufB s
  · have E : Hid (trimB s = s) := hide (by simp [trimB, hb])
    go_enter Try.func21, Try.ntmps21
    go_wp2_with (go_at_call 23; refine (hasSuffix23 _ _ hs).mono ?_; rintro e w' ⟨rfl, rfl⟩)
    go_ret
    exact ⟨congrArg (fun x => Ending.returned (.string x)) (unhide E).symm, rfl⟩
  · have E : Hid (trimB s = s.extract 0 (s.size - 1)) := hide (by simp [trimB, hb])
    have h1 : 1 ≤ s.size := by
      simp [sufB] at hb
      omega
    have h' : (1 : Int) ≤ (s.size : Int) := by omega
    have hs' : (s.size : Int) ≤ 1048576 := by omega
    have e1 : ((s.size : Int) - 1).toNat = s.size - 1 := by omega
    go_enter Try.func21, Try.ntmps21
    go_wp2_with (go_at_call 23; refine (hasSuffix23 _ _ hs).mono ?_; rintro e w' ⟨rfl, rfl⟩)
    go_ret
    exact ⟨congrArg (fun x => Ending.returned (.string x)) (unhide E).symm, rfl⟩
theorem trim18 (s : ByteArray) (w : World) (hs : s.size ≤ 1048576) :
    Calls Try.prog 18 #[.string s, .string ⟨#[47]⟩] w fun e w' => e = .returned (.string (trimB s)) ∧ w' = w := by
  go_enter Try.func18, Try.ntmps18
  go_wp2_with (go_at_call 21; refine (trim21 _ _ hs).mono ?_; rintro e w' ⟨rfl, rfl⟩)
  go_ret
  exact ⟨rfl, rfl⟩

theorem trim_size (s : ByteArray) (hs : s.size ≤ 1048576) : (trimB s).size ≤ 1048576 := by
  unfold trimB
  split
  · simp [ByteArray.size_extract]; omega
  · exact hs

theorem inTree15 (q t : ByteArray) (w : World) (ht : t.size ≤ 1048576) :
    Calls Try.prog 15 #[.string q, .string t] w fun e w' => e = .returned (.bool (inB q t)) ∧ w' = w := by
  cases hb : (q.toList == t.toList)
  · have E : Hid (inB q t = preB q (trimB t ++ (⟨#[47]⟩ : ByteArray))) := hide (by simp [inB, hb])
    have hz := trim_size t ht
    go_enter Try.func15, Try.ntmps15
    go_wp2_with (first | (go_at_call 18; refine (trim18 _ _ ht).mono ?_; rintro e w' ⟨rfl, rfl⟩) | (go_at_call 17; refine (hasPrefix17 _ _ _).mono ?_; rintro e w' ⟨rfl, rfl⟩))
    go_ret
    exact ⟨ret_bool (unhide E).symm, rfl⟩
  · have E : Hid (inB q t = true) := hide (by simp [inB, hb])
    go_enter Try.func15, Try.ntmps15
    go_wp2
    go_ret
    exact ⟨ret_bool (unhide E).symm, rfl⟩
theorem inTree8 (q t : ByteArray) (w : World) (ht : t.size ≤ 1048576) :
    Calls Try.prog 8 #[.string q, .string t] w fun e w' => e = .returned (.bool (inB q t)) ∧ w' = w := by
  go_enter Try.func8, Try.ntmps8
  go_wp2_with (go_at_call 15; refine (inTree15 _ _ _ ht).mono ?_; rintro e w' ⟨rfl, rfl⟩)
  go_ret
  exact ⟨rfl, rfl⟩

/-! ### The plain law -/

/-- The bytes of t without one closing slash, and a slash. -/
def nrm (t : ByteArray) : List UInt8 := (trimB t).data.toList ++ [47]

theorem eqB_iff (a b : ByteArray) : (a.toList == b.toList) = true ↔ a = b := by
  rw [beq_iff_eq, ByteArray.toList_eq, ByteArray.toList_eq]
  constructor
  · intro h
    exact ByteArray.ext (Array.ext' h)
  · intro h
    rw [h]

theorem preB_iff (s p : ByteArray) : preB s p = true ↔ p.data.toList <+: s.data.toList := by
  unfold preB
  rw [Bool.and_eq_true, decide_eq_true_iff, beq_iff_eq, ByteArray.toList_eq, ByteArray.toList_eq, List.prefix_iff_eq_take]
  have e : (s.extract 0 p.size).data.toList = s.data.toList.take p.data.toList.length := by simp
  rw [e]
  constructor
  · intro h; exact h.2.symm
  · intro h
    refine ⟨?_, h.symm⟩
    have := congrArg List.length h
    simp at this
    omega

theorem inB_iff (q t : ByteArray) : inB q t = true ↔ q = t ∨ nrm t <+: q.data.toList := by
  unfold inB
  rw [Bool.or_eq_true, eqB_iff, preB_iff]
  simp [nrm]

theorem sufB_iff (s : ByteArray) : sufB s = true ↔ ∃ l, s.data.toList = l ++ [47] := by
  unfold sufB
  rw [Bool.and_eq_true, decide_eq_true_iff, beq_iff_eq, ByteArray.toList_eq]
  have e : (s.extract (s.size - 1) s.size).data.toList = s.data.toList.drop (s.data.toList.length - 1) := by
    have hz : s.data.toList.length = s.size := by simp
    rw [ByteArray.data_extract, Array.toList_extract, hz]
    apply List.take_of_length_le
    simp
  rw [e]
  constructor
  · rintro ⟨h1, h2⟩
    refine ⟨s.data.toList.take (s.data.toList.length - 1), ?_⟩
    rw [← h2, List.take_append_drop]
  · rintro ⟨l, hl⟩
    rw [hl]
    refine ⟨?_, by simp⟩
    have : s.size = s.data.toList.length := by simp
    rw [this, hl]
    simp

/-- Without or with one closing slash laid on. -/
theorem nrm_or (t : ByteArray) : nrm t = t.data.toList ∨ nrm t = t.data.toList ++ [47] := by
  unfold nrm trimB
  cases hb : sufB t
  · right; simp
  · left
    obtain ⟨l, hl⟩ := (sufB_iff t).1 hb
    simp only [if_true]
    have e : (t.extract 0 (t.size - 1)).data.toList = t.data.toList.take (t.data.toList.length - 1) := by
      have hz : t.data.toList.length = t.size := by simp
      rw [ByteArray.data_extract, Array.toList_extract, hz]
      rfl
    rw [e, hl]
    simp

theorem self_nrm (t : ByteArray) : t.data.toList <+: nrm t := by
  rcases nrm_or t with h | h <;> rw [h]
  · exact List.prefix_refl _
  · exact List.prefix_append _ _

theorem inB_refl (a : ByteArray) : inB a a = true := (inB_iff a a).2 (Or.inl rfl)

theorem inB_trans (a b c : ByteArray) (h1 : inB a b = true) (h2 : inB b c = true) : inB a c = true := by
  rw [inB_iff] at *
  rcases h1 with rfl | h1
  · exact h2
  · rcases h2 with rfl | h2
    · exact Or.inr h1
    · exact Or.inr (h2.trans ((self_nrm b).trans h1))

theorem inB_anti (a b : ByteArray) (h1 : inB a b = true) (h2 : inB b a = true) : (a.toList == b.toList) = true := by
  rw [eqB_iff]
  rw [inB_iff] at *
  rcases h1 with rfl | h1
  · rfl
  · rcases h2 with rfl | h2
    · rfl
    · have l1 := h1.length_le
      have l2 := h2.length_le
      have n1 := (self_nrm b).length_le
      have n2 := (self_nrm a).length_le
      have p1 : b.data.toList <+: a.data.toList := (self_nrm b).trans h1
      have e : b.data.toList.length = a.data.toList.length := by omega
      have := p1.eq_of_length e
      exact (ByteArray.ext (Array.ext' this)).symm
end Go.Proofs.Qxb6612181a
