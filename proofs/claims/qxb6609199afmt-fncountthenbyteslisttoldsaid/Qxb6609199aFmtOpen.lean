/-
  A slice of bytes that came in, opened.
-/
import Derived.Test.Qxb6609199aFmtDecoder
import Derived.ProofKit
import Derived.OpenShut
import Derived.ShutString
import Derived.ChangeOld
import Derived.Stop.JoinedAt
import Derived.Stop.JoinedTold
import Derived.SevenToldRow
namespace Go.Proofs.Qxb6609199aFmt
open Go.ChangeShapes Go.WideShapes Go.ChangeAt Go.RowKit Go.Kit
open Go.Extern.Stop Go.Stop Go.Extern

theorem own : ownKnob Tryf.prog.godebug = none := by kernel_rfl
theorem laidOut : laidOutB Tryf.prog = true := by kernel_rfl
theorem laidOut' : laidOutB Tryf.pinned.checked.prog = true := by kernel_rfl
theorem stopKnobs : Tryf.pinned.checked.prog.stopKnobs = [] := by kernel_rfl
theorem quiet (os : Os) : Stop.quiet Tryf.pinned.checked.prog os := by
  intro k hk
  rw [stopKnobs] at hk
  cases hk

/-- What is known of a slice of bytes that came in. -/
structure Came (w : World) (a : Option Addr) (len cap : Nat) (xs : List UInt8) : Prop where
  rd : Reads w.heap.size w a xs
  sz : xs.length = len
  le : len ≤ cap
  small : cap ≤ maxLen
  none : a = Option.none → len = 0 ∧ cap = 0

theorem came {H : Type} {enc : TypeId × Value → H} {W : World} {a : Option Addr} {len cap : Nat} {d : DataW H} {p : List MemPlace}
    (h : DataW.Trod enc Tryf.prog W 0 (fun _ => true) true 22 (.slice a len cap) d p) : ∃ xs, Came W a len cap xs := by
  obtain ⟨fuel, hf⟩ := h
  rcases open_ints Tryf.underlying22 Tryf.underlying5 (by kernel_rfl) hf with ⟨hcs, _⟩ | ⟨x, l, c, zs, hcs, _, hl, hm, hz, _, hcell, hwz⟩
  · simp [Value.cells] at hcs
    obtain ⟨rfl, rfl, rfl⟩ := hcs
    exact ⟨[], ⟨fun j hj => by simp at hj, rfl, Nat.le_refl _, Nat.zero_le _, fun _ => ⟨rfl, rfl⟩⟩⟩
  · simp [Value.cells] at hcs
    obtain ⟨rfl, rfl, rfl⟩ := hcs
    have hz' : zs.length = cap := by simpa using hz
    refine ⟨(zs.take len).map fun z => UInt8.ofNat z.toNat, ⟨?_, by simp; omega, hl, hm, fun h => by cases h⟩⟩
    intro j hj
    have hj' : j < len := by simp at hj; omega
    have h0 := hcell 0 (by omega)
    obtain ⟨b, off, spot⟩ := x
    have hspot : spot = none := by simpa [Addr.add] using World.cell?_spot h0
    subst hspot
    have hc := hcell j (by omega)
    rw [plus_at] at hc
    refine ⟨b, off, rfl, World.block_lt_of_cell? _ _ hc, ?_⟩
    rw [hc]
    have hmem : zs.getD j 0 ∈ zs := by
      have : zs.getD j 0 = zs[j] := by simp [List.getD, show j < zs.length from by omega]
      rw [this]; exact List.getElem_mem _
    have hw := hwz _ hmem
    have hb : IntKind.u8.min ≤ zs.getD j 0 ∧ zs.getD j 0 ≤ IntKind.u8.max := by simpa [Lit.wf] using hw
    have m1 : IntKind.u8.min = 0 := by decide
    have m2 : IntKind.u8.max = 255 := by decide
    have e : zs.getD j 0 = zs[j] := by simp [List.getD, show j < zs.length from by omega]
    rw [e] at hb ⊢
    simp only [List.getElem_map, List.getElem_take, UInt8.toNat_ofNat']
    congr 2
    omega
end Go.Proofs.Qxb6609199aFmt
