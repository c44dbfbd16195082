/-
  ZZerrorText by its contract, FOR EVERY F.
-/
import Derived.Test.Qxb6609177aFmtErr
namespace Go.Proofs.Qxb6609177aFmt
open Go.RowKit Go.Extern.Stop Go.Stop Go.Extern
set_option linter.unusedVariables false

theorem text_0 (F : Interp) (f m : ByteArray) (sx : Bool) (w : World) (hF : F.answers w.tape) (hm : m.size ≤ 1048576) :
    Calls Tryf.prog 5 #[.string f, .int .i64 0, .string m, .bool sx] w fun e w' => e = .returned (.string (FmtStop.textOf (F "fmt.Sprintf" (reading2 f.data.toList (errTxt sx m).data.toList) 0))) ∧ Below w.heap.size w w' := by
  go_enter Tryf.func5, Tryf.ntmps5
  go_wp2_with fail
  refine (err_0 F (w.heap.size + 1) w.heap.size f m sx _ (by exact hF) hm (by simp; omega) (by go_simp) (by go_simp) (by go_simp) (by go_simp) (by go_simp)).mono ?_
  rintro e w' ⟨rfl, hb⟩
  go_wp2
  go_ret
  exact ⟨rfl, ((((Below.refl _ _).alloc (Nat.le_refl _) _).alloc (by simp) _).trans (hb.mono (by simp; omega)))⟩

theorem text_n (F : Interp) (f m : ByteArray) (l : Int) (sx : Bool) (w : World) (hF : F.answers w.tape) (hm : m.size ≤ 1048576) (hl : (l == 0) = false) :
    Calls Tryf.prog 5 #[.string f, .int .i64 l, .string m, .bool sx] w fun e w' => e = .returned (.string (FmtStop.textOf (F "fmt.Sprintf" (reading3 f.data.toList l (errTxt sx m).data.toList) 0))) ∧ Below w.heap.size w w' := by
  go_enter Tryf.func5, Tryf.ntmps5
  go_wp2_with fail
  refine (err_n F (w.heap.size + 1) w.heap.size f m l sx _ (by exact hF) hm (by simp; omega) hl (by go_simp) (by go_simp) (by go_simp) (by go_simp) (by go_simp)).mono ?_
  rintro e w' ⟨rfl, hb⟩
  go_wp2
  go_ret
  exact ⟨rfl, ((((Below.refl _ _).alloc (Nat.le_refl _) _).alloc (by simp) _).trans (hb.mono (by simp; omega)))⟩
end Go.Proofs.Qxb6609177aFmt
