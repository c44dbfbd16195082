/-
  A slice of byte slices that came in, opened.
-/
import Derived.Test.Qxb6609199aFmtOpen
import Derived.Test.Qxb6609199aFmtItems
import Derived.Deep.Slices
namespace Go.Proofs.Qxb6609199aFmt
open Go.ChangeShapes Go.WideShapes Go.ChangeAt Go.RowKit Go.Kit
open Go.Extern.Stop Go.Stop Go.Extern

/-- What is known of a slice of byte slices that came in. -/
structure CameItems (w : World) (a : Option Addr) (len cap : Nat) (its : List It) : Prop where
  rd : Items w.heap.size w a its
  sz : its.length = len
  small : len ≤ maxLen

theorem came_items {H : Type} {enc : TypeId × Value → H} {W : World} {a : Option Addr} {len cap : Nat} {d : DataW H} {p : List MemPlace}
    (h : DataW.Trod enc Tryf.prog W 0 (fun _ => true) true 40 (.slice a len cap) d p) : ∃ its, CameItems W a len cap its := by
  obtain ⟨fuel, hf⟩ := h
  rcases Deep.open_slice1 Tryf.underlying40 (by kernel_rfl) hf with ⟨hcs, _⟩ | hx
  · simp [Value.cells] at hcs
    obtain ⟨rfl, rfl, rfl⟩ := hcs
    exact ⟨[], ⟨fun j hj => by simp at hj, rfl, Nat.zero_le _⟩⟩
  · obtain ⟨x, l, c, m, n, V, D, Pl, hcs, _, hl, hm, hmm, _, hV⟩ := hx
    simp [Value.cells] at hcs
    obtain ⟨rfl, rfl, rfl⟩ := hcs
    have hmc : m = cap := by simpa using hmm
    subst hmc
    obtain ⟨f, hfI⟩ := @Deep.choose_lt It ⟨⟨none, 0, 0, []⟩⟩ len (fun i it => V i = .slice it.a it.n it.c ∧ Came W it.a it.n it.c it.xs) (fun i hi => by
      obtain ⟨_, h2⟩ := hV i (by omega)
      have hv : ∃ a' n' c', V i = .slice a' n' c' := by
        rcases open_ints Tryf.underlying22 Tryf.underlying5 (by kernel_rfl) h2 with ⟨e, _⟩ | ⟨x', l', c', zs, e, _⟩
        · exact ⟨_, _, _, (List.cons.inj e).1⟩
        · exact ⟨_, _, _, (List.cons.inj e).1⟩
      obtain ⟨a', n', c', e⟩ := hv
      rw [e] at h2
      obtain ⟨xs, C⟩ := came (enc := enc) (W := W) (a := a') (len := n') (cap := c') ⟨n, by simpa [Value.cells] using h2⟩
      exact ⟨⟨a', n', c', xs⟩, e, C⟩)
    refine ⟨(List.range len).map f, ⟨?_, by simp, Nat.le_trans hl hm⟩⟩
    intro j hj
    have hj' : j < len := by simpa using hj
    have e : ((List.range len).map f)[j] = f j := by simp
    rw [e]
    obtain ⟨h1, h2⟩ := hfI j hj'
    obtain ⟨b, off, spot⟩ := x
    have h0 := (hV 0 (by omega)).1
    have hspot : spot = none := by simpa [Addr.add] using World.cell?_spot h0
    subst hspot
    have hc := (hV j (by omega)).1
    rw [plus_at, h1] at hc
    exact ⟨b, off, rfl, World.block_lt_of_cell? _ _ hc, hc, h2.rd, h2.sz, Nat.le_trans h2.le h2.small⟩
end Go.Proofs.Qxb6609199aFmt
