/-
  THE LAW, fmt's texts told.
-/
import Derived.Test.Qxb6609177aFmtTxt
import Derived.Test.Qxb6609177aFmtDec
import Derived.Stop.FmtTextKit
import Derived.Stop.FmtTextVerbs
import Derived.Stop.JoinedTold
import Derived.Stop.Texts
import Derived.Deep.QuietTactic
import Derived.BigQuiet
namespace Go.Proofs.Qxb6609177aFmt
open Go.RowKit Go.Extern.Stop Go.Stop Go.Extern Go.Kit
set_option linter.unusedVariables false

theorem t_parse2 : (FmtText.parse [37, 115, 58, 32, 37, 118]).map FmtText.glue = some [.verb {} 115, .lit [58, 32], .verb {} 118] := by rfl
theorem t_parse3 : (FmtText.parse [37, 115, 58, 37, 100, 58, 32, 37, 118]).map FmtText.glue = some [.verb {} 115, .lit [58], .verb {} 100, .lit [58, 32], .verb {} 118] := by rfl

theorem text2 (f said : List UInt8) (hf : f.length < 2 ^ 64) : FmtText.text "fmt.Sprintf" (reading2 f said) = some (f ++ ([58, 32] ++ said)) := by
  have hs := FmtText.operand_str_at (sh := shape9) rfl rfl f hf
  rw [reading2, FmtText.text_sprintf_glued t_parse2 (FmtText.operands_cons hs (FmtText.operands_cons (FmtText.operand_error_at rfl (FmtText.unpack_pack _ (by decide)) said) FmtText.operands_nil))]
  simp [FmtText.render, FmtText.printArg_s_str, FmtText.printArg_v_said]

theorem text3 (f said : List UInt8) (l : Int) (hf : f.length < 2 ^ 64) (wl : (Lit.int .i64 l).wf = true) : FmtText.text "fmt.Sprintf" (reading3 f l said) = some (f ++ ([58] ++ (Lib.itoa l ++ ([58, 32] ++ said)))) := by
  have hs := FmtText.operand_str_at (sh := shape9) rfl rfl f hf
  have hi := FmtText.operand_int_at (sh := shape3) (k := .i64) rfl rfl l wl
  rw [reading3, FmtText.text_sprintf_glued t_parse3 (FmtText.operands_cons hs (FmtText.operands_cons hi (FmtText.operands_cons (FmtText.operand_error_at rfl (FmtText.unpack_pack _ (by decide)) said) FmtText.operands_nil)))]
  simp [FmtText.render, FmtText.printArg_s_str, FmtText.printArg_v_said, FmtText.printArg_d _ _ wl]

/-- The two texts as bytes. -/
def noLine (f : ByteArray) (e : ByteArray) : ByteArray := f ++ ((⟨#[58, 32]⟩ : ByteArray) ++ e)
def withLine (f : ByteArray) (l : Int) (e : ByteArray) : ByteArray := f ++ ((⟨#[58]⟩ : ByteArray) ++ ((⟨(Lib.itoa l).toArray⟩ : ByteArray) ++ ((⟨#[58, 32]⟩ : ByteArray) ++ e)))

theorem told2 (F : Interp) (f e : ByteArray) (hf : f.size ≤ 1048576) (he : e.size ≤ 2097152) :
    FmtStop.textOf (F.told "fmt.Sprintf" (reading2 f.data.toList e.data.toList) 0) = noLine f e := by
  have hf' : f.data.toList.length ≤ 1048576 := by simpa using hf
  have he' : e.data.toList.length ≤ 2097152 := by simpa using he
  have ht := told_string F (text2 f.data.toList e.data.toList (by omega)) (by simp at *; omega)
  apply ByteArray.ext
  apply Array.ext'
  rw [textOf_list, ht]
  simp [noLine]

theorem told3 (F : Interp) (f e : ByteArray) (l : Int) (wl : (Lit.int .i64 l).wf = true) (hf : f.size ≤ 1048576) (he : e.size ≤ 2097152) :
    FmtStop.textOf (F.told "fmt.Sprintf" (reading3 f.data.toList l e.data.toList) 0) = withLine f l e := by
  have hf' : f.data.toList.length ≤ 1048576 := by simpa using hf
  have he' : e.data.toList.length ≤ 2097152 := by simpa using he
  have hl := FmtText.itoa_length_le wl
  have ht := told_string F (text3 f.data.toList e.data.toList l (by omega) wl) (by simp at *; omega)
  apply ByteArray.ext
  apply Array.ext'
  rw [textOf_list, ht]
  simp [withLine]

theorem errTxt_size (sx : Bool) (m : ByteArray) (hm : m.size ≤ 1048576) : (errTxt sx m).size ≤ 1048590 := by
  cases sx
  · simp [errTxt]; omega
  · have : (⟨#[105, 110, 118, 97, 108, 105, 100, 32, 74, 83, 79, 78, 58, 32]⟩ : ByteArray).size = 14 := rfl
    simp [errTxt, ByteArray.size_append, this]; omega

theorem ret_bool {a b : Bool} (h : a = b) : Ending.returned (.bool a) = .returned (.bool b) := by rw [h]

theorem wf64 {a : Int} (h : (Lit.int .i64 a).wf = true) : -9223372036854775808 ≤ a ∧ a ≤ 9223372036854775807 := by
  have h' : IntKind.i64.min ≤ a ∧ a ≤ IntKind.i64.max := by simpa [Lit.wf] using h
  have e1 : IntKind.i64.min = -9223372036854775808 := by decide
  have e2 : IntKind.i64.max = 9223372036854775807 := by decide
  omega

theorem hasPrefix_w (p r : ByteArray) (w : World) :
    Calls Tryf.prog 6 #[.string (p ++ r), .string p] w fun e w' => e = .returned (.bool true) ∧ w' = w := by
  have hx : (p ++ r).extract 0 p.size = p := by
    apply ByteArray.ext; simp
  have hg : p.size ≤ (p ++ r).size := by simp [ByteArray.size_append]
  have hg' : (p.size : Int) ≤ ((p ++ r).size : Int) := by omega
  generalize p ++ r = s at hx hg hg'
  go_enter Tryf.func6, Tryf.ntmps6
  go_wp2
  go_ret
  exact ⟨rfl, rfl⟩

theorem hasSuffix_w (p r : ByteArray) (w : World) (h : p.size + r.size ≤ 8388608) :
    Calls Tryf.prog 7 #[.string (r ++ p), .string p] w fun e w' => e = .returned (.bool true) ∧ w' = w := by
  have hx : (r ++ p).extract ((r ++ p).size - p.size) (r ++ p).size = p := by
    have e : (r ++ p).size - p.size = r.size := by simp [ByteArray.size_append]
    rw [e]
    exact ByteArray.extract_append_eq_right rfl ByteArray.size_append
  have hg : p.size ≤ (r ++ p).size := by simp [ByteArray.size_append]
  have hg' : (p.size : Int) ≤ ((r ++ p).size : Int) := by omega
  have hs : (r ++ p).size ≤ 8388608 := by rw [ByteArray.size_append]; omega
  have hs' : ((r ++ p).size : Int) ≤ 8388608 := by omega
  clear h
  generalize r ++ p = s at hx hg hg' hs hs'
  have e : (((s.size : Int) - (p.size : Int))).toNat = s.size - p.size := by omega
  go_enter Tryf.func7, Tryf.ntmps7
  go_wp2
  go_ret
  exact ⟨rfl, rfl⟩

theorem bytes_yes (f m : ByteArray) (l : Int) (sx : Bool) (w : World) (h : f.size + m.size ≤ 1048576) :
    Calls Tryf.prog 4 #[.string f, .int .i64 l, .string m, .bool sx] w fun e w' => e = .returned (.bool true) ∧ w' = w := by
  have h1 : (f.size : Int) ≤ 1048576 := by omega
  have h2 : (m.size : Int) ≤ 1048576 := by omega
  have h3 : (f.size : Int) + (m.size : Int) ≤ 1048576 := by omega
  go_enter Tryf.func4, Tryf.ntmps4
  go_wp2
  go_ret
  exact ⟨rfl, rfl⟩

theorem bytes_no (f m : ByteArray) (l : Int) (sx : Bool) (w : World) (hf : f.size ≤ maxLen) (hm : m.size ≤ maxLen) (h : ¬ f.size + m.size ≤ 1048576) :
    Calls Tryf.prog 4 #[.string f, .int .i64 l, .string m, .bool sx] w fun e w' => e = .returned (.bool false) ∧ w' = w := by
  unfold maxLen at hf hm
  by_cases h1 : 1048576 < f.size
  · have h1' : 1048576 < (f.size : Int) := by omega
    go_enter Tryf.func4, Tryf.ntmps4
    go_wp2
    go_ret
    exact ⟨rfl, rfl⟩
  · have h1' : (f.size : Int) ≤ 1048576 := by omega
    by_cases h2 : 1048576 < m.size
    · have h2' : 1048576 < (m.size : Int) := by omega
      go_enter Tryf.func4, Tryf.ntmps4
      go_wp2
      go_ret
      exact ⟨rfl, rfl⟩
    · have h2' : (m.size : Int) ≤ 1048576 := by omega
      have h3 : 1048576 < (f.size : Int) + (m.size : Int) := by omega
      go_enter Tryf.func4, Tryf.ntmps4
      go_wp2
      go_ret
      exact ⟨rfl, rfl⟩

theorem hasPrefix_no (f e : ByteArray) (w : World) :
    Calls Tryf.prog 6 #[.string (noLine f e), .string (f ++ (⟨#[58, 32]⟩ : ByteArray))] w fun e w' => e = .returned (.bool true) ∧ w' = w := by
  have := hasPrefix_w (f ++ (⟨#[58, 32]⟩ : ByteArray)) e w
  rwa [ByteArray.append_assoc] at this

theorem hasSuffix_no (f m : ByteArray) (sx : Bool) (w : World) (h : f.size + m.size ≤ 1048576) :
    Calls Tryf.prog 7 #[.string (noLine f (errTxt sx m)), .string m] w fun e w' => e = .returned (.bool true) ∧ w' = w := by
  cases sx
  · have e : noLine f (errTxt false m) = (f ++ (⟨#[58, 32]⟩ : ByteArray)) ++ m := by simp [noLine, errTxt, ByteArray.append_assoc]
    rw [e]
    refine hasSuffix_w m _ w ?_
    rw [ByteArray.size_append]
    have : (⟨#[58, 32]⟩ : ByteArray).size = 2 := rfl
    omega
  · have e : noLine f (errTxt true m) = (f ++ ((⟨#[58, 32]⟩ : ByteArray) ++ (⟨#[105, 110, 118, 97, 108, 105, 100, 32, 74, 83, 79, 78, 58, 32]⟩ : ByteArray))) ++ m := by simp [noLine, errTxt, ByteArray.append_assoc]
    rw [e]
    refine hasSuffix_w m _ w ?_
    rw [ByteArray.size_append, ByteArray.size_append]
    have : (⟨#[58, 32]⟩ : ByteArray).size = 2 := rfl
    have : (⟨#[105, 110, 118, 97, 108, 105, 100, 32, 74, 83, 79, 78, 58, 32]⟩ : ByteArray).size = 14 := rfl
    omega

theorem noLine_tail (f e : ByteArray) : (noLine f e).extract f.size (noLine f e).size = (⟨#[58, 32]⟩ : ByteArray) ++ e := by
  unfold noLine
  exact ByteArray.extract_append_eq_right rfl ByteArray.size_append
theorem noLine_size (f e : ByteArray) (hf : f.size ≤ 1048576) (he : e.size ≤ 1048590) : f.size ≤ (noLine f e).size ∧ (noLine f e).size ≤ 2097200 := by
  have : (⟨#[58, 32]⟩ : ByteArray).size = 2 := rfl
  unfold noLine
  rw [ByteArray.size_append, ByteArray.size_append]
  omega

set_option maxHeartbeats 800000 in
theorem law_small (F : Interp) (f m : ByteArray) (l : Int) (sx : Bool) (w : World) (hF : F.told.answers w.tape) (wl : Hid ((Lit.int .i64 l).wf = true)) (h : f.size + m.size ≤ 1048576) (h0 : (l == 0) = false) :
    Calls Tryf.prog 3 #[.string f, .int .i64 l, .string m, .bool sx] w fun e w' => e = .returned (.bool true) ∧ Below w.heap.size w w' := by
  have h1 : (f.size : Int) ≤ 1048576 := by omega
  have h2 : (m.size : Int) ≤ 1048576 := by omega
  have h3 : (f.size : Int) + (m.size : Int) ≤ 1048576 := by omega
  have he := errTxt_size sx m (by omega)
  have T2 := hide (told2 F f (errTxt sx m) (by omega) (by omega))
  have T3 := hide (told3 F f (errTxt sx m) l (unhide wl) (by omega) (by omega))
  go_enter Tryf.func3, Tryf.ntmps3
  go_wp2_with fail
  refine (bytes_yes f m l sx _ h).mono ?_
  rintro e w1 ⟨rfl, rfl⟩
  go_wp2_with fail
  refine (text_n F.told f m l sx _ (by exact hF) (by omega) h0).mono ?_
  rintro e w2 ⟨rfl, hb2⟩
  rw [unhide T3]
  go_wp2_with fail
  refine (text_0 F.told f m sx _ (by rw [hb2.tape]; exact hF) (by omega)).mono ?_
  rintro e w3 ⟨rfl, hb3⟩
  rw [unhide T2]
  obtain ⟨n1, n2⟩ := noLine_size f (errTxt sx m) (by omega) he
  have n1' : (f.size : Int) ≤ ((noLine f (errTxt sx m)).size : Int) := by omega
  have NT := noLine_tail f (errTxt sx m)
  have hl21 : (Lib.itoa l).length ≤ 21 := FmtText.itoa_length_le (unhide wl)
  have HP := hasPrefix_no f (errTxt sx m)
  have HS := hasSuffix_no f m sx
  have HP' := hide HP
  have HS' := hide HS
  clear HP HS
  generalize hN : noLine f (errTxt sx m) = N at *
  have HN := hide hN
  clear hN
  go_wp2_with fail
  refine (unhide HP' _).mono ?_
  rintro e w4 ⟨rfl, rfl⟩
  go_wp2_with fail
  refine (unhide HS' _ h).mono ?_
  rintro e w5 ⟨rfl, rfl⟩
  go_wp2_with fail
  have HB := hide (hb2.trans (hb3.mono hb2.size))
  have HW : Hid (((withLine f l (errTxt sx m)).toList == (f ++ (⟨#[58]⟩ : ByteArray) ++ (⟨(Lib.itoa l).toArray⟩ : ByteArray) ++ ((⟨#[58, 32]⟩ : ByteArray) ++ errTxt sx m)).toList) = true) := by
    refine hide ?_
    simp [withLine, ByteArray.append_assoc]
  clear hb2 hb3 HP' HS' T2 T3 HN
  go_region_with (go_at_call 8; refine (decI l (hide ?_) _).mono ?_; exact wf64 (unhide wl); rintro e w6 ⟨rfl, hb6⟩)
  all_goals
    go_wp2
    go_ret
    exact ⟨ret_bool (unhide HW), ((unhide HB).drew).trans (hb6.mono (unhide HB).size)⟩

set_option maxHeartbeats 800000 in
theorem law_zero (F : Interp) (f m : ByteArray) (sx : Bool) (w : World) (hF : F.told.answers w.tape) (h : f.size + m.size ≤ 1048576) :
    Calls Tryf.prog 3 #[.string f, .int .i64 0, .string m, .bool sx] w fun e w' => e = .returned (.bool true) ∧ Below w.heap.size w w' := by
  have h1 : (f.size : Int) ≤ 1048576 := by omega
  have h2 : (m.size : Int) ≤ 1048576 := by omega
  have h3 : (f.size : Int) + (m.size : Int) ≤ 1048576 := by omega
  have he := errTxt_size sx m (by omega)
  have T2 := hide (told2 F f (errTxt sx m) (by omega) (by omega))
  go_enter Tryf.func3, Tryf.ntmps3
  go_wp2_with fail
  refine (bytes_yes f m 0 sx _ h).mono ?_
  rintro e w1 ⟨rfl, rfl⟩
  go_wp2_with fail
  refine (text_0 F.told f m sx _ (by exact hF) (by omega)).mono ?_
  rintro e w2 ⟨rfl, hb2⟩
  rw [unhide T2]
  go_wp2_with fail
  refine (text_0 F.told f m sx _ (by rw [hb2.tape]; exact hF) (by omega)).mono ?_
  rintro e w3 ⟨rfl, hb3⟩
  rw [unhide T2]
  have HP' := hide (hasPrefix_no f (errTxt sx m))
  have HS' := hide (hasSuffix_no f m sx)
  generalize hN : noLine f (errTxt sx m) = N at *
  clear hN
  go_wp2_with fail
  refine (unhide HP' _).mono ?_
  rintro e w4 ⟨rfl, rfl⟩
  go_wp2_with fail
  refine (unhide HS' _ h).mono ?_
  rintro e w5 ⟨rfl, rfl⟩
  go_wp2
  go_ret
  exact ⟨rfl, hb2.trans (hb3.mono hb2.size)⟩

theorem law_big (f m : ByteArray) (l : Int) (sx : Bool) (w : World) (hf : f.size ≤ maxLen) (hm : m.size ≤ maxLen) (h : ¬ f.size + m.size ≤ 1048576) :
    Calls Tryf.prog 3 #[.string f, .int .i64 l, .string m, .bool sx] w fun e w' => e = .returned (.bool true) ∧ Below w.heap.size w w' := by
  go_enter Tryf.func3, Tryf.ntmps3
  go_wp2_with fail
  refine (bytes_no f m l sx _ hf hm h).mono ?_
  rintro e w1 ⟨rfl, rfl⟩
  go_wp2
  go_ret
  exact ⟨rfl, Below.refl _ _⟩

/-- THE WALK: every input, fmt's texts told. -/
theorem law (F : Interp) (f m : ByteArray) (l : Int) (sx : Bool) (w : World) (hF : F.told.answers w.tape) (wl : (Lit.int .i64 l).wf = true) (hf : f.size ≤ maxLen) (hm : m.size ≤ maxLen) :
    Calls Tryf.prog 3 #[.string f, .int .i64 l, .string m, .bool sx] w fun e w' => e = .returned (.bool true) ∧ Below w.heap.size w w' := by
  by_cases h : f.size + m.size ≤ 1048576
  · by_cases h0 : l = 0
    · subst h0
      exact law_zero F f m sx w hF h
    · exact law_small F f m l sx w hF (hide wl) h (by simpa using h0)
  · exact law_big f m l sx w hf hm h
end Go.Proofs.Qxb6609177aFmt
