/-
  fmt.Errorf by its contracts, FOR EVERY F; what is read of memory; the decoder's methods.
-/
import Derived.Test.Qxb6609199aFmtFacts
import Derived.WalkKit
import Derived.WalkSpells
import Derived.RegionTactic
import Derived.ChangeAlike
import Derived.BigRegion
namespace Go.Proofs.Qxb6609199aFmt
open Go.RowKit Go.Extern.Stop Go.Stop Go.Extern
set_option linter.unusedVariables false
attribute [local go_sem] call22 guard fmtF0 fmtFr fmtB0 fmtBr fmtC0 fmtCr op3_100w op25_100w ptr52 elem52 isError52

theorem hide {p : Prop} (h : p) : Hid p := h
theorem unhide {p : Prop} (h : Hid p) : p := h

set_option maxHeartbeats 800000 in
theorem errorfF (F : Interp) (blk : Nat) (x y : Int) (w : World) (hF : F.answers w.tape)
    (c0 : w.cell? ⟨blk, 0, none⟩ = some (.iface 3 (.int .i64 x))) (c1 : w.cell? ⟨blk, 1, none⟩ = some (.iface 3 (.int .i64 y))) :
    Calls Tryf.prog 20 #[.string ⟨#[102, 105, 101, 108, 100, 32, 111, 102, 32, 37, 100, 32, 98, 121, 116, 101, 115, 32, 114, 117, 110, 115, 32, 112, 97, 115, 116, 32, 116, 104, 101, 32, 101, 110, 100, 44, 32, 37, 100, 32, 98, 121, 116, 101, 115, 32, 108, 101, 102, 116]⟩, .slice (some ⟨blk, 0, none⟩) 2 2] w fun e w' => (∃ p, e = .returned (.iface 52 (.pointer (some p)))) ∧ Below w.heap.size w w' := by
  have hF' := answers_open hF
  go_enter Tryf.func20, Tryf.ntmps20
  go_wp2
  go_ret
  refine ⟨⟨_, rfl⟩, ?_⟩
  exact ((Below.refl _ _).alloc (Nat.le_refl _) _).drew

set_option maxHeartbeats 800000 in
theorem errorfB (F : Interp) (blk : Nat) (x y : Int) (w : World) (hF : F.answers w.tape)
    (c0 : w.cell? ⟨blk, 0, none⟩ = some (.iface 25 (.int .u32 x))) (c1 : w.cell? ⟨blk, 1, none⟩ = some (.iface 3 (.int .i64 y))) :
    Calls Tryf.prog 20 #[.string ⟨#[98, 121, 116, 101, 32, 115, 116, 114, 105, 110, 103, 32, 111, 102, 32, 37, 100, 32, 98, 121, 116, 101, 115, 32, 114, 117, 110, 115, 32, 112, 97, 115, 116, 32, 116, 104, 101, 32, 101, 110, 100, 44, 32, 37, 100, 32, 98, 121, 116, 101, 115, 32, 108, 101, 102, 116]⟩, .slice (some ⟨blk, 0, none⟩) 2 2] w fun e w' => (∃ p, e = .returned (.iface 52 (.pointer (some p)))) ∧ Below w.heap.size w w' := by
  have hF' := answers_open hF
  go_enter Tryf.func20, Tryf.ntmps20
  go_wp2
  go_ret
  refine ⟨⟨_, rfl⟩, ?_⟩
  exact ((Below.refl _ _).alloc (Nat.le_refl _) _).drew

set_option maxHeartbeats 800000 in
theorem errorfC (F : Interp) (blk : Nat) (x y : Int) (w : World) (hF : F.answers w.tape)
    (c0 : w.cell? ⟨blk, 0, none⟩ = some (.iface 25 (.int .u32 x))) (c1 : w.cell? ⟨blk, 1, none⟩ = some (.iface 3 (.int .i64 y))) :
    Calls Tryf.prog 20 #[.string ⟨#[37, 100, 32, 105, 116, 101, 109, 115, 32, 100, 111, 32, 110, 111, 116, 32, 102, 105, 116, 32, 105, 110, 32, 116, 104, 101, 32, 37, 100, 32, 98, 121, 116, 101, 115, 32, 108, 101, 102, 116]⟩, .slice (some ⟨blk, 0, none⟩) 2 2] w fun e w' => (∃ p, e = .returned (.iface 52 (.pointer (some p)))) ∧ Below w.heap.size w w' := by
  have hF' := answers_open hF
  go_enter Tryf.func20, Tryf.ntmps20
  go_wp2
  go_ret
  refine ⟨⟨_, rfl⟩, ?_⟩
  exact ((Below.refl _ _).alloc (Nat.le_refl _) _).drew

end Go.Proofs.Qxb6609199aFmt
