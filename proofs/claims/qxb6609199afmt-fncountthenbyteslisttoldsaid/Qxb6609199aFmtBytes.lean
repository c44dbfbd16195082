/-
  zzEq, zzBE32, zzPutBE32, zzClone by their contracts; a buffer of the call's own.
-/
import Derived.Test.Qxb6609199aFmtMethods
import Derived.LoopTactic
import Derived.Deep.AppendSrc
namespace Go.Proofs.Qxb6609199aFmt
open Go.RowKit Go.Extern.Stop Go.Stop Go.Extern
set_option linter.unusedVariables false
attribute [local go_sem] eqNil neNil

set_option maxHeartbeats 800000 in
theorem eq_true (B : Nat) (a b : Option Addr) (n c c' : Nat) (xs : List UInt8) (w : World) (Ra : Reads B w a xs) (Rb : Reads B w b xs) (hl : xs.length = n) (hB : B ≤ w.heap.size) (hs : n ≤ 16777216) :
    Calls Tryf.prog 10 #[.slice a n c, .slice b n c'] w fun e w' => e = .returned (.bool true) ∧ Below w.heap.size w w' := by
  have hs' : (n : Int) ≤ 16777216 := by omega
  have HL := hide hl
  clear hl
  go_enter Tryf.func10, Tryf.ntmps10
  go_wp2
  go_loopw [5] (fun i wr => ∃ k : Nat, k ≤ n ∧ i = .int .i64 k ∧ Below w.heap.size w wr) (fun i _ => n - (intOf i).toNat)
  case atStart => exact ⟨0, Nat.zero_le _, rfl, Below.refl _ _⟩
  case round =>
    obtain ⟨k, hk, rfl, hb⟩ := hrel
    by_cases hlt : k < n
    · have hlt' : (k : Int) < (n : Int) := by omega
      obtain ⟨b1, o1, rfl, l1, k1⟩ := (Ra.carry hb hB) k (by rw [unhide HL]; exact hlt)
      obtain ⟨b2, o2, rfl, l2, k2⟩ := (Rb.carry hb hB) k (by rw [unhide HL]; exact hlt)
      go_wp2
      go_region
      go_wp2
      exact ⟨⟨k + 1, by omega, by go_num, hb.drew⟩, by simp [intOf]; omega⟩
    · have hge : (n : Int) ≤ (k : Int) := by omega
      go_wp2
      go_ret
      exact ⟨rfl, hb⟩

set_option maxHeartbeats 800000 in
theorem be32_17 (a : Option Addr) (n c : Nat) (b0 b1 b2 b3 : UInt8) (xs : List UInt8) (w : World) (B : Nat) (R : Reads B w a (b0 :: b1 :: b2 :: b3 :: xs)) (hB : B ≤ w.heap.size) (hl : xs.length + 4 = n) :
    Calls Tryf.prog 17 #[.slice a n c] w fun e w' => e = .returned (.int .u32 (num4 b0 b1 b2 b3)) ∧ Below w.heap.size w w' := by
  obtain ⟨b, o, rfl, hlt, k0⟩ := R 0 (by simp)
  obtain ⟨_, _, e1, _, k1⟩ := R 1 (by simp)
  obtain ⟨_, _, e2, _, k2⟩ := R 2 (by simp)
  obtain ⟨_, _, e3, _, k3⟩ := R 3 (by simp)
  cases e1
  cases e2
  cases e3
  simp only [List.getElem_cons_zero, List.getElem_cons_succ, Nat.add_zero] at k0 k1 k2 k3
  have E := hide (or_be b0 b1 b2 b3)
  have n0 : (0 : Int) < (n : Int) := by omega
  have n1 : (1 : Int) < (n : Int) := by omega
  have n2 : (2 : Int) < (n : Int) := by omega
  have n3 : (3 : Int) < (n : Int) := by omega
  clear hl
  go_enter Tryf.func17, Tryf.ntmps17
  go_wp2
  go_region
  go_wp2
  go_ret
  exact ⟨ret_int (unhide E), (Below.refl _ _).drew⟩

/-- A buffer of c cells in block M, the first n of which hold the bytes xs. -/
structure Buf (w : World) (M n c : Nat) (xs : List UInt8) : Prop where
  len : xs.length = n
  le : n ≤ c
  cell : ∀ j, j < c → (w.cell? ⟨M, j, none⟩).isSome = true
  loose : ∀ j, j < c → w.frozen? ⟨M, j, none⟩ = false
  has : ∀ j (hj : j < xs.length), w.cell? ⟨M, j, none⟩ = some (.int .u8 (xs[j].toNat : Int))

theorem Buf.carry {w w' : World} {M n c B : Nat} {xs : List UInt8} (h : Buf w M n c xs) (hb : Below B w w') (hM : M < B) : Buf w' M n c xs :=
  ⟨h.len, h.le, fun j hj => by rw [hb.cell (p := ⟨M, j, none⟩) hM]; exact h.cell j hj, fun j hj => by rw [hb.frozen (p := ⟨M, j, none⟩) hM]; exact h.loose j hj,
   fun j hj => by rw [hb.cell (p := ⟨M, j, none⟩) hM]; exact h.has j hj⟩

theorem Buf.reads {w : World} {M n c B : Nat} {xs : List UInt8} (h : Buf w M n c xs) (hM : M < B) : Reads B w (some ⟨M, 0, none⟩) xs := by
  intro j hj
  exact ⟨M, 0, rfl, hM, by rw [Nat.zero_add]; exact h.has j hj⟩

theorem below_cells (M : Nat) : ∀ (vs : List Value) (o : Nat) (w : World), Below M w (w.setCells M o vs)
  | [], _, w => Below.refl M w
  | v :: vs, o, w => (below_put M o v w).trans (below_cells M vs (o + 1) (w.setCell ⟨M, o, none⟩ v))

def cellsOf (ys : List UInt8) : List Value := ys.map fun b => Value.int .u8 (b.toNat : Int)

theorem src_of (B : Nat) (w : World) (a : Option Addr) (m c : Nat) (ys : List UInt8) (R : Reads B w a ys) (hl : ys.length = m) : Src Tryf.prog 1 22 (.slice a m c) m (cellsOf ys) w := by
  have one : ∀ u ∈ cellsOf ys, u.oneCell' = true := by
    intro u hu
    obtain ⟨_, _, rfl⟩ := List.mem_map.1 hu
    rfl
  cases a with
  | none =>
    have h0 : ys = [] := by
      cases ys with
      | nil => rfl
      | cons y ys =>
        obtain ⟨_, _, h, _⟩ := R 0 (by simp)
        cases h
    subst h0
    simp at hl
    subst hl
    exact Src.ofNil w Tryf.underlying22 c
  | some x =>
    refine Src.ofSlice w Tryf.underlying22 x m c (cellsOf ys) (by simp [cellsOf, hl]) ?_ one
    intro j u hj
    unfold cellsOf at hj
    rw [List.getElem?_map] at hj
    cases hy : ys[j]? with
    | none => rw [hy] at hj; cases hj
    | some y =>
      rw [hy] at hj
      obtain ⟨hlt, e⟩ := List.getElem?_eq_some_iff.1 hy
      obtain ⟨b, o, h1, _, h3⟩ := R j hlt
      cases h1
      rw [plus_at, h3, e]
      simpa using hj

theorem info5 : ∃ i, Tryf.prog.info? 5 = some i ∧ i.size = 1 := ⟨Tryf.t5, by kernel_rfl, by kernel_rfl⟩

/-- 'append(buf, ys...)' where there is room. -/
theorem append_room (B : Nat) (w : World) (M n c m c' : Nat) (xs ys : List UInt8) (a : Option Addr) (b : Buf w M n c xs) (R : Reads B w a ys) (hl : ys.length = m) (hr : n + m ≤ c) :
    ∃ W, (Builtin.append_ #[22, 22] 22 #[.slice (some ⟨M, 0, none⟩) n c, .slice a m c']).run Tryf.prog w = .ok (.slice (some ⟨M, 0, none⟩) (n + m) c) W ∧ Buf W M (n + m) c (xs ++ ys) ∧ Below M w W := by
  obtain ⟨i, hi, hi1⟩ := info5
  have hsrc := src_of B w a m c' ys R hl
  have hlen : (cellsOf ys).length = m := by simp [cellsOf, hl]
  have hcell : ∀ j, j < (cellsOf ys).length → (w.cell? ⟨M, n + j, none⟩).isSome = true := fun j hj => b.cell _ (by omega)
  have key := run_append_room_src (P := Tryf.prog) w 22 22 22 5 i Tryf.underlying22 hi M 0 n c (.slice a m c') m (cellsOf ys) (by rw [hi1]; exact hsrc) hr
    (fun j hj => by rw [hi1, Nat.zero_add, Nat.mul_one]; exact hcell j hj)
    (fun j hj => by rw [hi1, Nat.zero_add, Nat.mul_one]; exact b.loose _ (by omega))
  rw [hi1, Nat.zero_add, Nat.mul_one] at key
  refine ⟨_, key, ⟨by simp [b.len, hl], hr, ?_, ?_, ?_⟩, below_cells M _ _ _⟩
  · intro j hj
    by_cases h1 : n ≤ j ∧ j < n + (cellsOf ys).length
    · obtain ⟨d, rfl⟩ : ∃ d, j = n + d := ⟨j - n, by omega⟩
      rw [World.cell?_setCells_in M (cellsOf ys) n w hcell d (by omega)]
      rfl
    · rw [World.cell?_setCells_out M (cellsOf ys) n w ⟨M, j, none⟩ (fun _ _ => by simp; omega)]
      exact b.cell j hj
  · intro j hj
    rw [World.frozen?_setCells]
    exact b.loose j hj
  · intro j hj
    have hxl := b.len
    by_cases h1 : j < n
    · rw [World.cell?_setCells_out M (cellsOf ys) n w ⟨M, j, none⟩ (fun _ _ => by simp; omega), b.has j (by omega), List.getElem_append_left (by omega)]
    · obtain ⟨d, rfl⟩ : ∃ d, j = n + d := ⟨j - n, by omega⟩
      have hd : d < ys.length := by simp at hj; omega
      rw [World.cell?_setCells_in M (cellsOf ys) n w hcell d (by omega)]
      rw [List.getElem_append_right (by omega)]
      simp [cellsOf, hxl]

/-- Four big-endian bytes. -/
def be4 (v : Nat) : List UInt8 := [UInt8.ofNat (v / 16777216), UInt8.ofNat (v / 65536 % 256), UInt8.ofNat (v / 256 % 256), UInt8.ofNat (v % 256)]

theorem be4_length (v : Nat) : (be4 v).length = 4 := rfl

theorem be4_reads (v : Nat) (hv : v < 4294967296) (w : World) :
    Reads (w.heap.size + 1) (w.alloc (.cells #[.int .u8 ((v : Int) / 16777216), .int .u8 ((v : Int) / 65536 % 256), .int .u8 ((v : Int) / 256 % 256), .int .u8 ((v : Int) % 256)] 5)) (some ⟨w.heap.size, 0, none⟩) (be4 v) := by
  intro j hj
  refine ⟨w.heap.size, 0, rfl, Nat.lt_succ_self _, ?_⟩
  rw [be4_length] at hj
  match j, hj with
  | 0, _ => simp [be4]; omega
  | 1, _ => simp [be4]
  | 2, _ => simp [be4]
  | 3, _ => simp [be4]

theorem Buf.lt {w : World} {M n c : Nat} {xs : List UInt8} (b : Buf w M n c xs) (hc : 0 < c) : M < w.heap.size := by
  have := b.cell 0 hc
  cases h : w.cell? ⟨M, 0, none⟩ with
  | none => rw [h] at this; cases this
  | some v => exact World.block_lt_of_cell? _ _ h

/-- 'append(buf, ys...)' where there is room, FOR THE WALK. -/
theorem wpList_append_buf (w : World) {ops : Array Oper} {rest : List Oper} {o : Oper} {a : Act} {Q : Exit → Act → World → Prop}
    (hg : o.guard = none) (s x : Operand) (hop : o.op = Op.call { callee := Callee.builtin Builtin.append, args := #[s, x], argTypes := #[22, 22] }) (hty : o.type = 22)
    (B M n c m c' : Nat) (xs ys : List UInt8) (ad : Option Addr) (hs : a.eval s = .slice (some ⟨M, 0, none⟩) n c) (hx : a.eval x = .slice ad m c')
    (b : Buf w M n c xs) (R : Reads B w ad ys) (hl : ys.length = m) (hr : n + m ≤ c)
    (hK : ∀ W, Buf W M (n + m) c (xs ++ ys) → Below M w W → wpList Tryf.prog ops Q rest (a.put o.dst (.slice (some ⟨M, 0, none⟩) (n + m) c)) W) :
    wpList Tryf.prog ops Q (o :: rest) a w := by
  refine wpList_plain hg fun K hK' => ?_
  obtain ⟨W, hrun, h1, h2⟩ := append_room B w M n c m c' xs ys ad b R hl hr
  unfold Oper.wp
  simp [execOp, hop, hty, resolve, invoke, builtin, hs, hx, hrun, Result.andThen]
  exact hK' _ _ (hK W h1 h2)

set_option maxHeartbeats 800000 in
theorem put_be (M n c : Nat) (v : Nat) (xs : List UInt8) (w : World) (b : Buf w M n c xs) (hr : n + 4 ≤ c) (hv : v < 4294967296) :
    Calls Tryf.prog 7 #[.slice (some ⟨M, 0, none⟩) n c, .int .u32 v] w fun e w' => e = .returned (.slice (some ⟨M, 0, none⟩) (n + 4) c) ∧ Buf w' M (n + 4) c (xs ++ be4 v) ∧ Below M w w' := by
  have hv' : (v : Int) ≤ 4294967295 := by omega
  have hM := b.lt (by omega)
  have hb1 : Below w.heap.size w (w.alloc (.cells #[.int .u8 ((v : Int) / 16777216), .int .u8 ((v : Int) / 65536 % 256), .int .u8 ((v : Int) / 256 % 256), .int .u8 ((v : Int) % 256)] 5)) := (Below.refl _ _).alloc (Nat.le_refl _) _
  have b1 := b.carry hb1 hM
  have R1 := be4_reads v hv w
  go_enter Tryf.func7, Tryf.ntmps7
  go_wp2_with (at_builtin; refine wpList_append_buf _ rfl _ _ rfl rfl (w.heap.size + 1) M n c 4 4 xs (be4 v) _ rfl rfl (by exact b1) (by exact R1) rfl hr ?_; intro W hB hbe)
  go_ret
  exact ⟨rfl, hB, (hb1.mono (Nat.le_of_lt hM)).trans hbe⟩
end Go.Proofs.Qxb6609199aFmt
