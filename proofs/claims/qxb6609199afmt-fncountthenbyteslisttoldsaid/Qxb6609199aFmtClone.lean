/-
  zzClone by its contract.
-/
import Derived.Test.Qxb6609199aFmtFrames
namespace Go.Proofs.Qxb6609199aFmt
open Go.RowKit Go.Extern.Stop Go.Stop Go.Extern
set_option linter.unusedVariables false
attribute [local go_sem] eqNil neNil

/-- 'make([]byte, n)'. -/
theorem make_full (n : Nat) (w : World) (hc : n ≤ 16777216) :
    ∃ W, (Instr.makeSlice 22 (.int .i64 n) (.int .i64 n)).run Tryf.prog w = .ok (.slice (some ⟨w.heap.size, 0, none⟩) n n) W ∧ Buf W w.heap.size 0 n [] ∧ Below w.heap.size w W ∧ w.heap.size < W.heap.size := by
  have key := run_make (P := Tryf.prog) w 22 5 Tryf.t5 (.int .u8 0) Tryf.underlying22 (by kernel_rfl) (by kernel_rfl) .i64 .i64 n n (by omega) (Int.le_refl _) (by
    have : Tryf.t5.bytes = 1 := by kernel_rfl
    rw [this]; omega) (by omega)
  have e1 : Tryf.t5.size = 1 := by kernel_rfl
  simp only [Int.toNat_natCast, e1, Nat.mul_one] at key
  refine ⟨_, key, ⟨rfl, Nat.zero_le _, ?_, ?_, fun j hj => by simp at hj⟩, (Below.refl _ _).alloc (Nat.le_refl _) _, by simp⟩
  · intro j hj
    have : (madeCells (Value.int .u8 0).cells n).size = n := size_madeCells _ _
    rw [World.cell?_alloc_new]
    simp [this, hj]
  · intro j hj
    rw [frozen?_alloc_cells]
    simp [World.frozen?]

theorem Buf.put {w : World} {M k c : Nat} {xs : List UInt8} (b : Buf w M k c xs) (y : UInt8) (hk : k < c) : Buf (w.setCell ⟨M, k, none⟩ (.int .u8 (y.toNat : Int))) M (k + 1) c (xs ++ [y]) := by
  have hl := b.len
  obtain ⟨v, hv⟩ := Option.isSome_iff_exists.1 (b.cell k hk)
  refine ⟨by simp [hl], hk, ?_, ?_, ?_⟩
  · intro j hj
    by_cases e : j = k
    · subst e
      rw [World.cell?_setCell_same _ _ _ hv]; rfl
    · rw [World.cell?_setCell_other _ _ _ _ (by intro h; cases h; exact e rfl)]
      exact b.cell j hj
  · intro j hj
    rw [World.frozen?_setCell]
    exact b.loose j hj
  · intro j hj
    by_cases e : j = k
    · subst e
      rw [World.cell?_setCell_same _ _ _ hv, List.getElem_append_right (by omega)]
      simp [hl]
    · have hj' : j < xs.length := by simp at hj; omega
      rw [World.cell?_setCell_other _ _ _ _ (by intro h; cases h; exact e rfl), b.has j hj', List.getElem_append_left hj']

set_option maxHeartbeats 800000 in
theorem clone_some (x : Addr) (n c : Nat) (xs : List UInt8) (w : World) (R : Reads w.heap.size w (some x) xs) (hl : xs.length = n) (hs : n ≤ 1048576) :
    Calls Tryf.prog 14 #[.slice (some x) n c] w fun e w' => e = .returned (.slice (some ⟨w.heap.size, 0, none⟩) n n) ∧ Reads w'.heap.size w' (some ⟨w.heap.size, 0, none⟩) xs ∧ Below w.heap.size w w' := by
  have hs' : (n : Int) ≤ 1048576 := by omega
  obtain ⟨W1, hmk, B1, bl1, sz1⟩ := make_full n w (by omega)
  have HL := hide hl
  clear hl
  go_enter Tryf.func14, Tryf.ntmps14
  go_wp2
  go_loopw [4] (fun i wr => ∃ k : Nat, k ≤ n ∧ i = .int .i64 k ∧ Buf wr w.heap.size k n (xs.take k) ∧ Below w.heap.size w wr ∧ w.heap.size < wr.heap.size) (fun i _ => n - (intOf i).toNat)
  case atStart => exact ⟨0, Nat.zero_le _, rfl, B1, bl1, sz1⟩
  case round =>
    obtain ⟨k, hk, rfl, bk, blk, szk⟩ := hrel
    by_cases hlt : k < n
    · have hlt' : (k : Int) < (n : Int) := by omega
      have hkx : k < xs.length := by rw [unhide HL]; exact hlt
      obtain ⟨b, o, e1, l1, k1⟩ := (R.carry blk (Nat.le_refl _)) k hkx
      cases e1
      obtain ⟨v, hv⟩ := Option.isSome_iff_exists.1 (bk.cell k hlt)
      have hf := bk.loose k hlt
      have P := hide (bk.put xs[k] hlt)
      go_wp2
      refine ⟨⟨k + 1, by omega, by go_num, ?_, blk.trans (below_put _ _ _ _), by simpa using szk⟩, by simp [intOf]; omega⟩
      rw [List.take_succ_eq_append_getElem hkx]
      exact unhide P
    · have hge : (n : Int) ≤ (k : Int) := by omega
      have E : Hid (xs.take k = xs) := hide (List.take_of_length_le (by rw [unhide HL]; omega))
      go_wp2
      go_ret
      rw [unhide E] at bk
      exact ⟨rfl, bk.reads szk, blk⟩

theorem clone_none (c : Nat) (w : World) : Calls Tryf.prog 14 #[.slice none 0 c] w fun e w' => e = .returned (.slice none 0 0) ∧ w' = w := by
  go_enter Tryf.func14, Tryf.ntmps14
  go_wp2
  go_ret
  exact ⟨rfl, rfl⟩

theorem clone (a : Option Addr) (n c : Nat) (xs : List UInt8) (w : World) (R : Reads w.heap.size w a xs) (hl : xs.length = n) (hs : n ≤ 1048576) (hn : a = none → n = 0) :
    Calls Tryf.prog 14 #[.slice a n c] w fun e w' => ∃ a' c', e = .returned (.slice a' n c') ∧ n ≤ c' ∧ Reads w'.heap.size w' a' xs ∧ Below w.heap.size w w' := by
  cases a with
  | some x =>
    refine (clone_some x n c xs w R hl hs).mono ?_
    rintro e w' ⟨rfl, h1, h2⟩
    exact ⟨_, _, rfl, Nat.le_refl _, h1, h2⟩
  | none =>
    obtain rfl := hn rfl
    refine (clone_none c w).mono ?_
    rintro e w' ⟨rfl, rfl⟩
    exact ⟨none, 0, rfl, Nat.le_refl _, R, Below.refl _ _⟩
end Go.Proofs.Qxb6609199aFmt
