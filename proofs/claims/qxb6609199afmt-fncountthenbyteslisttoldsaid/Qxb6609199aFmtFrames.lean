/-
  FnBytesFramesRoundTrip: the walk, FOR EVERY F.
-/
import Derived.Test.Qxb6609199aFmtBytes
namespace Go.Proofs.Qxb6609199aFmt
open Go.RowKit Go.Extern.Stop Go.Stop Go.Extern
set_option linter.unusedVariables false
attribute [local go_sem] eqNil neNil

theorem num4_be4 (v : Nat) (hv : v < 4294967296) : num4 (UInt8.ofNat (v / 16777216)) (UInt8.ofNat (v / 65536 % 256)) (UInt8.ofNat (v / 256 % 256)) (UInt8.ofNat (v % 256)) = v := by
  unfold num4
  rw [UInt8.toNat_ofNat', UInt8.toNat_ofNat', UInt8.toNat_ofNat', UInt8.toNat_ofNat']
  omega

theorem frame_ok (D : Nat) (a : Option Addr) (n c m : Nat) (ys zs : List UInt8) (w : World) (S : St w D a n c (be4 m ++ (ys ++ zs)) .nilIface) (hy : ys.length = m) (hm : m < 4294967296) :
    Calls Tryf.prog 9 #[.pointer (some ⟨D, 0, none⟩)] w fun e w' => e = .returned (.slice (adv a c 4) m m) ∧ St w' D (adv (adv a c 4) (c - 4) m) (n - 4 - m) (c - 4 - m) zs .nilIface ∧ Reads D w' (adv a c 4) ys ∧ Below D w w' := by
  have h := bytes_ok D a n c m _ _ _ _ (ys ++ zs) w S (num4_be4 m hm) (by simp; omega)
  rw [List.drop_left' hy, List.take_left' hy] at h
  exact h

theorem frame_long (F : Interp) (D : Nat) (a : Option Addr) (n c m : Nat) (ys : List UInt8) (w : World) (hF : F.answers w.tape) (S : St w D a n c (be4 m ++ ys) .nilIface) (hy : ys.length < m) (hm : m ≤ 16777216) :
    Calls Tryf.prog 9 #[.pointer (some ⟨D, 0, none⟩)] w fun e w' => e = .returned (.slice none 0 0) ∧ (∃ p, St w' D (adv a c 4) (n - 4) (c - 4) ys (.iface 52 (.pointer (some p)))) ∧ Below D w w' :=
  bytes_long F D a n c m _ _ _ _ ys w hF S (num4_be4 m (by omega)) hy hm

theorem eq_yes (B : Nat) (a b : Option Addr) (n n' c c' : Nat) (xs : List UInt8) (w : World) (hn : n = n') (Ra : Reads B w a xs) (Rb : Reads B w b xs) (hl : xs.length = n') (hB : B ≤ w.heap.size) (hs : n' ≤ 16777216) :
    Calls Tryf.prog 10 #[.slice a n c, .slice b n' c'] w fun e w' => e = .returned (.bool true) ∧ Below w.heap.size w w' := by
  subst hn
  exact eq_true B a b n c c' xs w Ra Rb hl hB hs

/-- 'make([]byte, 0, c)'. -/
theorem make_buf (ci : Int) (c : Nat) (w : World) (hci : ci = (c : Int)) (hc : c ≤ 16777216) :
    ∃ W, (Instr.makeSlice 22 (.int .i64 0) (.int .i64 ci)).run Tryf.prog w = .ok (.slice (some ⟨w.heap.size, 0, none⟩) 0 c) W ∧ Buf W w.heap.size 0 c [] ∧ Below w.heap.size w W ∧ w.heap.size < W.heap.size := by
  subst hci
  have key := run_make (P := Tryf.prog) w 22 5 Tryf.t5 (.int .u8 0) Tryf.underlying22 (by kernel_rfl) (by kernel_rfl) .i64 .i64 0 c (Int.le_refl _) (by omega) (by
    have : Tryf.t5.bytes = 1 := by kernel_rfl
    rw [this]; omega) (by omega)
  have e1 : Tryf.t5.size = 1 := by kernel_rfl
  simp only [Int.toNat_zero, Int.toNat_natCast, e1, Nat.mul_one] at key
  refine ⟨_, key, ⟨rfl, Nat.zero_le _, ?_, ?_, fun j hj => by simp at hj⟩, (Below.refl _ _).alloc (Nat.le_refl _) _, by simp⟩
  · intro j hj
    have : (madeCells (Value.int .u8 0).cells c).size = c := size_madeCells _ _
    rw [World.cell?_alloc_new]
    simp [this, hj]
  · intro j hj
    rw [frozen?_alloc_cells]
    simp [World.frozen?]

theorem bytes6_yes (a1 a2 a3 : Option Addr) (n1 n2 n3 c1 c2 c3 : Nat) (w : World) (h : n1 + n2 + n3 ≤ 1048576) :
    Calls Tryf.prog 6 #[.slice a1 n1 c1, .slice a2 n2 c2, .slice a3 n3 c3] w fun e w' => e = .returned (.bool true) ∧ w' = w := by
  have h1 : (n1 : Int) ≤ 1048576 := by omega
  have h2 : (n2 : Int) ≤ 1048576 := by omega
  have h3 : (n3 : Int) ≤ 1048576 := by omega
  have h4 : (n1 : Int) + (n2 : Int) ≤ 1048576 := by omega
  have h5 : (n1 : Int) + (n2 : Int) + (n3 : Int) ≤ 1048576 := by omega
  go_enter Tryf.func6, Tryf.ntmps6
  go_wp2
  go_ret
  exact ⟨rfl, rfl⟩

theorem bytes6_no (a1 a2 a3 : Option Addr) (n1 n2 n3 c1 c2 c3 : Nat) (w : World) (l1 : n1 ≤ maxLen) (l2 : n2 ≤ maxLen) (l3 : n3 ≤ maxLen) (h : ¬ n1 + n2 + n3 ≤ 1048576) :
    Calls Tryf.prog 6 #[.slice a1 n1 c1, .slice a2 n2 c2, .slice a3 n3 c3] w fun e w' => e = .returned (.bool false) ∧ w' = w := by
  unfold maxLen at l1 l2 l3
  by_cases h1 : 1048576 < n1
  · have h1' : 1048576 < (n1 : Int) := by omega
    go_enter Tryf.func6, Tryf.ntmps6
    go_wp2
    go_ret
    exact ⟨rfl, rfl⟩
  · have h1' : (n1 : Int) ≤ 1048576 := by omega
    by_cases h2 : 1048576 < n2
    · have h2' : 1048576 < (n2 : Int) := by omega
      go_enter Tryf.func6, Tryf.ntmps6
      go_wp2
      go_ret
      exact ⟨rfl, rfl⟩
    · have h2' : (n2 : Int) ≤ 1048576 := by omega
      by_cases h3 : 1048576 < n1 + n2
      · have h3' : 1048576 < (n1 : Int) + (n2 : Int) := by omega
        go_enter Tryf.func6, Tryf.ntmps6
        go_wp2
        go_ret
        exact ⟨rfl, rfl⟩
      · have h3' : (n1 : Int) + (n2 : Int) ≤ 1048576 := by omega
        by_cases h4 : 1048576 < n3
        · have h4' : 1048576 < (n3 : Int) := by omega
          go_enter Tryf.func6, Tryf.ntmps6
          go_wp2
          go_ret
          exact ⟨rfl, rfl⟩
        · have h4' : (n3 : Int) ≤ 1048576 := by omega
          have h5' : 1048576 < (n1 : Int) + (n2 : Int) + (n3 : Int) := by omega
          go_enter Tryf.func6, Tryf.ntmps6
          go_wp2
          go_ret
          exact ⟨rfl, rfl⟩
end Go.Proofs.Qxb6609199aFmt
