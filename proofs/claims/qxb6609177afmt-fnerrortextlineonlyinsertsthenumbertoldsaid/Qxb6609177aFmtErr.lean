/-
  (*Error).Error over (*JSONError).Error behind fmt's calling stop, FOR EVERY F.
-/
import Derived.Test.Qxb6609177aFmtFacts
import Derived.WalkKit
import Derived.WalkSpells
import Derived.RegionTactic
import Derived.ChangeAlike
import Derived.BigRegion
import Derived.Deep.RegionWith
namespace Go.Proofs.Qxb6609177aFmt
open Go.RowKit Go.Extern.Stop Go.Stop Go.Extern
set_option linter.unusedVariables false
attribute [local go_sem] call11 guard fmt2 fmt2r fmt3 fmt3r act9_115 op9_115 act3_100 op3_100 act27_118 isError27 str27

theorem hide {p : Prop} (h : p) : Hid p := h
theorem unhide {p : Prop} (h : Hid p) : p := h

/-- The text of the package's own error. -/
def errTxt (sx : Bool) (m : ByteArray) : ByteArray := if sx then (⟨#[105, 110, 118, 97, 108, 105, 100, 32, 74, 83, 79, 78, 58, 32]⟩ : ByteArray) ++ m else m

theorem jsonErr (b : Nat) (sx : Bool) (m : ByteArray) (w : World) (hm : m.size ≤ 1048576)
    (k1 : w.cell? ⟨b, 1, none⟩ = some (.string m)) (k2 : w.cell? ⟨b, 2, none⟩ = some (.bool sx)) :
    Calls Tryf.prog 27 #[.pointer (some ⟨b, 0, none⟩)] w fun e w' => e = .returned (.string (errTxt sx m)) ∧ w' = w := by
  cases sx
  · go_enter Tryf.func27, Tryf.ntmps27
    go_wp2
    go_ret
    exact ⟨rfl, rfl⟩
  · go_enter Tryf.func27, Tryf.ntmps27
    go_wp2
    go_ret
    exact ⟨rfl, rfl⟩

/-- WHAT fmt.Sprintf IS ASKED: without a line. -/
def reading2 (f said : List UInt8) : List (List UInt8) :=
  [[37, 115, 58, 32, 37, 118], shape9, FmtStop.pack f, 19 :: 0 :: FmtStop.pack nm27.toByteArray.data.toList, said]
/-- WHAT fmt.Sprintf IS ASKED: with a line. -/
def reading3 (f : List UInt8) (l : Int) (said : List UInt8) : List (List UInt8) :=
  [[37, 115, 58, 37, 100, 58, 32, 37, 118], shape9, FmtStop.pack f, shape3, digits 8 (l % 18446744073709551616).toNat, 19 :: 0 :: FmtStop.pack nm27.toByteArray.data.toList, said]

set_option maxHeartbeats 800000 in
theorem sprintf_2 (F : Interp) (blk b2 : Nat) (f m : ByteArray) (sx : Bool) (w : World) (R : Value → World → Prop) (hF : F.answers w.tape) (hm : m.size ≤ 1048576)
    (c0 : w.cell? ⟨blk, 0, none⟩ = some (.iface 9 (.string f))) (c1 : w.cell? ⟨blk, 1, none⟩ = some (.iface 27 (.pointer (some ⟨b2, 0, none⟩))))
    (j1 : w.cell? ⟨b2, 1, none⟩ = some (.string m)) (j2 : w.cell? ⟨b2, 2, none⟩ = some (.bool sx))
    (h : R (.string (FmtStop.textOf (F "fmt.Sprintf" (reading2 f.data.toList (errTxt sx m).data.toList) 0))) w.drew) :
    Rows Tryf.prog FmtCalls.turnsRow (FmtCalls.save 0 0 (.slice (some ⟨blk, 0, none⟩) 2 2) ⟨#[37, 115, 58, 32, 37, 118]⟩ [] [(0, 115, false), (1, 118, false)]) w R := by
  have hF' := answers_open hF
  apply rows_call nextTurns
  case hr =>
    go_simp
    exact ⟨⟨rfl, rfl, rfl⟩, rfl⟩
  case hi => exact invokeError27 _ _
  case hc =>
    refine (jsonErr b2 sx m _ hm j1 j2).mono fun e w₃ ⟨he, hx⟩ => ?_
    subst he; subst hx
    apply rows_value nextReturned
    case hr =>
      go_simp
      exact ⟨rfl, rfl⟩
    case h => exact h

set_option maxHeartbeats 800000 in
theorem sprintf_3 (F : Interp) (blk b2 : Nat) (f m : ByteArray) (l : Int) (sx : Bool) (w : World) (R : Value → World → Prop) (hF : F.answers w.tape) (hm : m.size ≤ 1048576)
    (c0 : w.cell? ⟨blk, 0, none⟩ = some (.iface 9 (.string f))) (cl : w.cell? ⟨blk, 1, none⟩ = some (.iface 3 (.int .i64 l))) (c1 : w.cell? ⟨blk, 2, none⟩ = some (.iface 27 (.pointer (some ⟨b2, 0, none⟩))))
    (j1 : w.cell? ⟨b2, 1, none⟩ = some (.string m)) (j2 : w.cell? ⟨b2, 2, none⟩ = some (.bool sx))
    (h : R (.string (FmtStop.textOf (F "fmt.Sprintf" (reading3 f.data.toList l (errTxt sx m).data.toList) 0))) w.drew) :
    Rows Tryf.prog FmtCalls.turnsRow (FmtCalls.save 0 0 (.slice (some ⟨blk, 0, none⟩) 3 3) ⟨#[37, 115, 58, 37, 100, 58, 32, 37, 118]⟩ [] [(0, 115, false), (1, 100, false), (2, 118, false)]) w R := by
  have hF' := answers_open hF
  apply rows_call nextTurns
  case hr =>
    go_simp
    exact ⟨⟨rfl, rfl, rfl⟩, rfl⟩
  case hi => exact invokeError27 _ _
  case hc =>
    refine (jsonErr b2 sx m _ hm j1 j2).mono fun e w₃ ⟨he, hx⟩ => ?_
    subst he; subst hx
    apply rows_value nextReturned
    case hr =>
      go_simp
      exact ⟨rfl, rfl⟩
    case h => exact h

set_option maxHeartbeats 800000 in
theorem err_0 (F : Interp) (b b2 : Nat) (f m : ByteArray) (sx : Bool) (w : World) (hF : F.answers w.tape) (hm : m.size ≤ 1048576) (hb2 : b2 < w.heap.size)
    (k0 : w.cell? ⟨b, 0, none⟩ = some (.string f)) (k1 : w.cell? ⟨b, 1, none⟩ = some (.int .i64 0)) (k2 : w.cell? ⟨b, 2, none⟩ = some (.iface 27 (.pointer (some ⟨b2, 0, none⟩)))) 
    (j1 : w.cell? ⟨b2, 1, none⟩ = some (.string m)) (j2 : w.cell? ⟨b2, 2, none⟩ = some (.bool sx)) :
    Calls Tryf.prog 9 #[.pointer (some ⟨b, 0, none⟩)] w fun e w' => e = .returned (.string (FmtStop.textOf (F "fmt.Sprintf" (reading2 f.data.toList (errTxt sx m).data.toList) 0))) ∧ Below w.heap.size w w' := by
  go_enter Tryf.func9, Tryf.ntmps9
  go_wp2
  go_region_with (refine sprintf_2 F w.heap.size b2 f m sx _ _ (by exact hF) hm (by go_simp) (by go_simp) (by go_simp) (by go_simp) ?_)
  all_goals
    go_wp2
    go_ret
    exact ⟨rfl, (((Below.refl _ _).alloc (Nat.le_refl _) _).drew).drew⟩

set_option maxHeartbeats 1600000 in
theorem err_n (F : Interp) (b b2 : Nat) (f m : ByteArray) (l : Int) (sx : Bool) (w : World) (hF : F.answers w.tape) (hm : m.size ≤ 1048576) (hb2 : b2 < w.heap.size) (hl : (l == 0) = false)
    (k0 : w.cell? ⟨b, 0, none⟩ = some (.string f)) (k1 : w.cell? ⟨b, 1, none⟩ = some (.int .i64 l)) (k2 : w.cell? ⟨b, 2, none⟩ = some (.iface 27 (.pointer (some ⟨b2, 0, none⟩)))) 
    (j1 : w.cell? ⟨b2, 1, none⟩ = some (.string m)) (j2 : w.cell? ⟨b2, 2, none⟩ = some (.bool sx)) :
    Calls Tryf.prog 9 #[.pointer (some ⟨b, 0, none⟩)] w fun e w' => e = .returned (.string (FmtStop.textOf (F "fmt.Sprintf" (reading3 f.data.toList l (errTxt sx m).data.toList) 0))) ∧ Below w.heap.size w w' := by
  go_enter Tryf.func9, Tryf.ntmps9
  go_wp2
  go_region_with (refine sprintf_3 F w.heap.size b2 f m l sx _ _ (by exact hF) hm (by go_simp) (by go_simp) (by go_simp) (by go_simp) (by go_simp) ?_)
  all_goals
    go_wp2
    go_ret
    exact ⟨rfl, (((Below.refl _ _).alloc (Nat.le_refl _) _).drew).drew⟩

end Go.Proofs.Qxb6609177aFmt
