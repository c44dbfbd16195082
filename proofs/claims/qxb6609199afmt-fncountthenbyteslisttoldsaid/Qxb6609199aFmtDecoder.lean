/-
  What is read of memory; the decoder's methods by their contracts, FOR EVERY F.
-/
import Derived.Test.Qxb6609199aFmtErrf
namespace Go.Proofs.Qxb6609199aFmt
open Go.RowKit Go.Extern.Stop Go.Stop Go.Extern
set_option linter.unusedVariables false

theorem eqNil (a : Option Addr) (n c : Nat) (w : World) : (binOp .eql 22 (.slice a n c) (.slice none 0 0)).run Tryf.prog w = .ok (.bool a.isNone) w := Lib.run_eql_slice_nil w 22 5 a n c 0 0 Tryf.underlying22
theorem neNil (a : Option Addr) (n c : Nat) (w : World) : (binOp .neq 22 (.slice a n c) (.slice none 0 0)).run Tryf.prog w = .ok (.bool (!a.isNone)) w := run_neq_slice_nil_any w 22 5 a n c 0 0 Tryf.underlying22
attribute [local go_sem] eqNil neNil

/-- The slice that begins at a reads the bytes xs, all of them in blocks below B. -/
def Reads (B : Nat) (w : World) (a : Option Addr) (xs : List UInt8) : Prop :=
  ∀ j (hj : j < xs.length), ∃ b o, a = some ⟨b, o, none⟩ ∧ b < B ∧ w.cell? ⟨b, o + j, none⟩ = some (.int .u8 (xs[j].toNat : Int))

/-- Where 's[k:]' begins. -/
def adv (a : Option Addr) (c k : Nat) : Option Addr := a.map fun x => if c = k then x else x.add k

theorem plus_at (b o i : Nat) : (⟨b, o, none⟩ : Addr).add i = ⟨b, o + i, none⟩ := by unfold Addr.add; split <;> simp_all

theorem Reads.mono {B B' : Nat} {w : World} {a : Option Addr} {xs : List UInt8} (h : Reads B w a xs) (hB : B ≤ B') : Reads B' w a xs := by
  intro j hj
  obtain ⟨b, o, h1, h2, h3⟩ := h j hj
  exact ⟨b, o, h1, Nat.lt_of_lt_of_le h2 hB, h3⟩

theorem Reads.carry {B C : Nat} {w w' : World} {a : Option Addr} {xs : List UInt8} (h : Reads B w a xs) (hb : Below C w w') (hC : B ≤ C) : Reads B w' a xs := by
  intro j hj
  obtain ⟨b, o, h1, h2, h3⟩ := h j hj
  exact ⟨b, o, h1, h2, by rw [hb.cell (p := ⟨b, o + j, none⟩) (Nat.lt_of_lt_of_le h2 hC)]; exact h3⟩

theorem Reads.take {B : Nat} {w : World} {a : Option Addr} {xs : List UInt8} (h : Reads B w a xs) (k : Nat) : Reads B w a (xs.take k) := by
  intro j hj
  rw [List.length_take] at hj
  obtain ⟨b, o, h1, h2, h3⟩ := h j (by omega)
  refine ⟨b, o, h1, h2, ?_⟩
  rw [h3]
  simp

theorem Reads.drop {B : Nat} {w : World} {a : Option Addr} {xs : List UInt8} (h : Reads B w a xs) (c k : Nat) (hc : xs.length ≤ c) : Reads B w (adv a c k) (xs.drop k) := by
  intro j hj
  rw [List.length_drop] at hj
  obtain ⟨b, o, h1, h2, h3⟩ := h (k + j) (by omega)
  refine ⟨b, o + k, ?_, h2, ?_⟩
  · rw [h1]
    have : ¬ c = k := by omega
    simp [adv, this, plus_at]
  · rw [Nat.add_assoc, h3]
    simp

theorem adv_some {a : Option Addr} (c k : Nat) (h : a.isSome = true) : (adv a c k).isSome = true := by
  unfold adv
  cases a
  · cases h
  · rfl

/-- A decoder in block D: what is left to read lies at a (n of c), and reads xs; its failure is e. -/
structure St (w : World) (D : Nat) (a : Option Addr) (n c : Nat) (xs : List UInt8) (e : Value) : Prop where
  c0 : w.cell? ⟨D, 0, none⟩ = some (.slice a n c)
  c1 : w.cell? ⟨D, 1, none⟩ = some e
  f0 : w.frozen? ⟨D, 0, none⟩ = false
  f1 : w.frozen? ⟨D, 1, none⟩ = false
  len : xs.length = n
  cap : n ≤ c
  rd : Reads D w a xs
  small : n ≤ 16777216

theorem St.lt {w : World} {D : Nat} {a : Option Addr} {n c : Nat} {xs : List UInt8} {e : Value} (h : St w D a n c xs e) : D < w.heap.size := World.block_lt_of_cell? _ _ h.c0

theorem St.carry {w w' : World} {D B : Nat} {a : Option Addr} {n c : Nat} {xs : List UInt8} {e : Value} (h : St w D a n c xs e) (hb : Below B w w') (hB : D < B) : St w' D a n c xs e :=
  ⟨by rw [hb.cell (p := ⟨D, 0, none⟩) hB]; exact h.c0, by rw [hb.cell (p := ⟨D, 1, none⟩) hB]; exact h.c1,
   by rw [hb.frozen (p := ⟨D, 0, none⟩) hB]; exact h.f0, by rw [hb.frozen (p := ⟨D, 1, none⟩) hB]; exact h.f1,
   h.len, h.cap, h.rd.carry hb (Nat.le_of_lt hB), h.small⟩

theorem Reads.store {B : Nat} {w : World} {a : Option Addr} {xs : List UInt8} (h : Reads B w a xs) (o : Nat) (v : Value) : Reads B (w.setCell ⟨B, o, none⟩ v) a xs := by
  intro j hj
  obtain ⟨b, o', h1, h2, h3⟩ := h j hj
  refine ⟨b, o', h1, h2, ?_⟩
  rw [World.cell?_setCell_other _ _ _ _ (by intro h; cases h; omega)]
  exact h3

theorem below_put (D o : Nat) (v : Value) (w : World) : Below D w (w.setCell ⟨D, o, none⟩ v) := (Below.refl D w).setCell (p := ⟨D, o, none⟩) (Nat.le_refl D) v

theorem St.put {w : World} {D : Nat} {a : Option Addr} {n c : Nat} {xs : List UInt8} {e : Value} (S : St w D a n c xs e) (k : Nat) (hk : k ≤ n) :
    St (w.setCell ⟨D, 0, none⟩ (.slice (adv a c k) (n - k) (c - k))) D (adv a c k) (n - k) (c - k) (xs.drop k) e := by
  have hl := S.len
  have hc := S.cap
  refine ⟨World.cell?_setCell_same _ _ _ S.c0, ?_, ?_, ?_, ?_, ?_, ?_, ?_⟩
  · rw [World.cell?_setCell_other _ _ _ _ (by simp)]; exact S.c1
  · rw [World.frozen?_setCell]; exact S.f0
  · rw [World.frozen?_setCell]; exact S.f1
  · rw [List.length_drop, hl]
  · omega
  · exact (S.rd.drop c k (by omega)).store 0 _
  · have := S.small; omega

theorem St.fail {w : World} {D : Nat} {a : Option Addr} {n c : Nat} {xs : List UInt8} {e : Value} (S : St w D a n c xs e) (e' : Value) :
    St (w.setCell ⟨D, 1, none⟩ e') D a n c xs e' := by
  refine ⟨?_, World.cell?_setCell_same _ _ _ S.c1, ?_, ?_, S.len, S.cap, S.rd.store 1 _, S.small⟩
  · rw [World.cell?_setCell_other _ _ _ _ (by simp)]; exact S.c0
  · rw [World.frozen?_setCell]; exact S.f0
  · rw [World.frozen?_setCell]; exact S.f1

set_option maxHeartbeats 800000 in
theorem fixed_ok (D : Nat) (a : Option Addr) (n c k : Nat) (ki : Int) (xs : List UInt8) (w : World) (hki : ki = (k : Int)) (S : St w D a n c xs .nilIface) (hk : k ≤ n) :
    Calls Tryf.prog 15 #[.pointer (some ⟨D, 0, none⟩), .int .i64 ki] w fun e w' => e = .returned (.slice a k k) ∧ St w' D (adv a c k) (n - k) (c - k) (xs.drop k) .nilIface ∧ Below D w w' := by
  subst hki
  have c0 := S.c0
  have c1 := S.c1
  have f0 := S.f0
  have f1 := S.f1
  have hk' : (k : Int) ≤ (n : Int) := by omega
  have hs : (n : Int) ≤ 16777216 := by have := S.small; omega
  have hc : (k : Int) ≤ (c : Int) := by have := S.cap; omega
  have P := hide (S.put k hk)
  go_enter Tryf.func15, Tryf.ntmps15
  go_wp2
  · go_ret
    rename_i h
    subst h
    have P' := unhide P
    simp only [Nat.sub_self] at P'
    have e : adv a c c = a := by cases a <;> simp [adv]
    rw [e] at P' ⊢
    exact ⟨rfl, P', below_put D 0 _ _⟩
  · go_ret
    rename_i h
    have P' := unhide P
    have e : adv a c k = Option.map (fun x => x.add k) a := by cases a <;> simp [adv, h]
    rw [e] at P' ⊢
    exact ⟨rfl, P', below_put D 0 _ _⟩

theorem fixed_err (D : Nat) (a : Option Addr) (n c : Nat) (ki : Int) (xs : List UInt8) (p : Addr) (w : World) (S : St w D a n c xs (.iface 52 (.pointer (some p)))) :
    Calls Tryf.prog 15 #[.pointer (some ⟨D, 0, none⟩), .int .i64 ki] w fun e w' => e = .returned (.slice none 0 0) ∧ w' = w := by
  have c0 := S.c0
  have c1 := S.c1
  go_enter Tryf.func15, Tryf.ntmps15
  go_wp2
  go_ret
  exact ⟨rfl, rfl⟩

set_option maxHeartbeats 800000 in
theorem fixed_bad (F : Interp) (D : Nat) (a : Option Addr) (n c k : Nat) (ki : Int) (xs : List UInt8) (w : World) (hF : F.answers w.tape) (hki : ki = (k : Int)) (S : St w D a n c xs .nilIface) (hk : n < k) :
    Calls Tryf.prog 15 #[.pointer (some ⟨D, 0, none⟩), .int .i64 ki] w fun e w' => e = .returned (.slice none 0 0) ∧ (∃ p, St w' D a n c xs (.iface 52 (.pointer (some p)))) ∧ Below D w w' := by
  subst hki
  have c0 := S.c0
  have c1 := S.c1
  have f0 := S.f0
  have f1 := S.f1
  have hk' : (n : Int) < (k : Int) := by omega
  have hlt := S.lt
  go_enter Tryf.func15, Tryf.ntmps15
  go_wp2_with fail
  refine (errorfF F w.heap.size k n _ (by exact hF) (by go_simp) (by go_simp)).mono ?_
  rintro e w1 ⟨⟨p, rfl⟩, hb⟩
  have hbw : Below w.heap.size w w1 := ((Below.refl _ _).alloc (Nat.le_refl _) _).trans (hb.mono (by simp))
  have S1 := S.carry hbw hlt
  have d0 := S1.c0
  have d1 := S1.c1
  have g0 := S1.f0
  have g1 := S1.f1
  go_wp2
  go_ret
  exact ⟨rfl, ⟨p, S1.fail _⟩, (hbw.mono (Nat.le_of_lt hlt)).trans (below_put D 1 _ _)⟩

/-- The big-endian number of four bytes. -/
def num4 (b0 b1 b2 b3 : UInt8) : Nat := b0.toNat * 16777216 + b1.toNat * 65536 + b2.toNat * 256 + b3.toNat

theorem or_add (x y : Nat) (k : Nat) (hx : x < 2 ^ k) (hs : x + 2 ^ k * y < 4294967296) : bits .or .u32 (x : Int) ((2 ^ k * y : Nat) : Int) = ((x + 2 ^ k * y : Nat) : Int) := by
  rw [u32_or_nat x (2 ^ k * y) (by omega) (by omega), Nat.or_comm, ← Nat.two_pow_add_eq_or_of_lt hx, Nat.add_comm]

theorem or_le (b0 b1 b2 b3 : UInt8) :
    bits .or .u32 (bits .or .u32 (bits .or .u32 ((b3.toNat : Int) % 4294967296) ((b2.toNat : Int) % 4294967296 * 256 % 4294967296)) ((b1.toNat : Int) % 4294967296 * 65536 % 4294967296)) ((b0.toNat : Int) % 4294967296 * 16777216 % 4294967296) = ((num4 b0 b1 b2 b3 : Nat) : Int) := by
  have h0 := b0.toNat_lt
  have h1 := b1.toNat_lt
  have h2 := b2.toNat_lt
  have h3 := b3.toNat_lt
  have e3 : (b3.toNat : Int) % 4294967296 = (b3.toNat : Int) := by omega
  have e2 : (b2.toNat : Int) % 4294967296 * 256 % 4294967296 = ((2 ^ 8 * b2.toNat : Nat) : Int) := by omega
  have e1 : (b1.toNat : Int) % 4294967296 * 65536 % 4294967296 = ((2 ^ 16 * b1.toNat : Nat) : Int) := by omega
  have e0 : (b0.toNat : Int) % 4294967296 * 16777216 % 4294967296 = ((2 ^ 24 * b0.toNat : Nat) : Int) := by omega
  rw [e3, e2, e1, e0, or_add _ _ 8 (by omega) (by omega), or_add _ _ 16 (by omega) (by omega), or_add _ _ 24 (by omega) (by omega)]
  unfold num4
  omega

theorem or_add' (x y : Nat) (k : Nat) (hy : y < 2 ^ k) (hs : 2 ^ k * x + y < 4294967296) : bits .or .u32 ((2 ^ k * x : Nat) : Int) (y : Int) = ((2 ^ k * x + y : Nat) : Int) := by
  rw [u32_or_nat (2 ^ k * x) y (by omega) (by omega), ← Nat.two_pow_add_eq_or_of_lt hy]

theorem or_be (b0 b1 b2 b3 : UInt8) :
    bits .or .u32 (bits .or .u32 (bits .or .u32 ((b0.toNat : Int) % 4294967296 * 16777216 % 4294967296) ((b1.toNat : Int) % 4294967296 * 65536 % 4294967296)) ((b2.toNat : Int) % 4294967296 * 256 % 4294967296)) ((b3.toNat : Int) % 4294967296) = ((num4 b0 b1 b2 b3 : Nat) : Int) := by
  have h0 := b0.toNat_lt
  have h1 := b1.toNat_lt
  have h2 := b2.toNat_lt
  have h3 := b3.toNat_lt
  have e3 : (b3.toNat : Int) % 4294967296 = (b3.toNat : Int) := by omega
  have e2 : (b2.toNat : Int) % 4294967296 * 256 % 4294967296 = ((2 ^ 8 * b2.toNat : Nat) : Int) := by omega
  have e1 : (b1.toNat : Int) % 4294967296 * 65536 % 4294967296 = ((2 ^ 16 * b1.toNat : Nat) : Int) := by omega
  have e0 : (b0.toNat : Int) % 4294967296 * 16777216 % 4294967296 = ((2 ^ 24 * b0.toNat : Nat) : Int) := by omega
  rw [e3, e2, e1, e0, or_add' _ _ 24 (by omega) (by omega)]
  rw [show 2 ^ 24 * b0.toNat + 2 ^ 16 * b1.toNat = 2 ^ 16 * (2 ^ 8 * b0.toNat + b1.toNat) from by omega, or_add' _ _ 16 (by omega) (by omega)]
  rw [show 2 ^ 16 * (2 ^ 8 * b0.toNat + b1.toNat) + 2 ^ 8 * b2.toNat = 2 ^ 8 * (2 ^ 16 * b0.toNat + 2 ^ 8 * b1.toNat + b2.toNat) from by omega, or_add' _ _ 8 (by omega) (by omega)]
  unfold num4
  omega

theorem ret_int {k : IntKind} {a b : Int} (h : a = b) : Ending.returned (.int k a) = .returned (.int k b) := by rw [h]
theorem ret_bool {a b : Bool} (h : a = b) : Ending.returned (.bool a) = .returned (.bool b) := by rw [h]

set_option maxHeartbeats 800000 in
theorem be32 (a : Option Addr) (b0 b1 b2 b3 : UInt8) (w : World) (B : Nat) (R : Reads B w a [b0, b1, b2, b3]) (hB : B ≤ w.heap.size) :
    Calls Tryf.prog 21 #[.agg #[], .slice a 4 4] w fun e w' => e = .returned (.int .u32 (num4 b0 b1 b2 b3)) ∧ Below w.heap.size w w' := by
  obtain ⟨b, o, rfl, hlt, k0⟩ := R 0 (by simp)
  obtain ⟨_, _, e1, _, k1⟩ := R 1 (by simp)
  obtain ⟨_, _, e2, _, k2⟩ := R 2 (by simp)
  obtain ⟨_, _, e3, _, k3⟩ := R 3 (by simp)
  cases e1
  cases e2
  cases e3
  simp only [List.getElem_cons_zero, List.getElem_cons_succ, Nat.add_zero] at k0 k1 k2 k3
  have hlt' : b < w.heap.size := by omega
  have E := hide (or_le b0 b1 b2 b3)
  go_enter Tryf.func21, Tryf.ntmps21
  go_wp2
  go_region
  go_wp2
  go_ret
  exact ⟨ret_int (unhide E), ((Below.refl _ _).alloc (Nat.le_refl _) _).drew⟩

theorem four {xs : List UInt8} (h : 4 ≤ xs.length) : ∃ b0 b1 b2 b3 ys, xs = b0 :: b1 :: b2 :: b3 :: ys := by
  match xs, h with
  | b0 :: b1 :: b2 :: b3 :: ys, _ => exact ⟨b0, b1, b2, b3, ys, rfl⟩

set_option maxHeartbeats 800000 in
theorem uint32_ok (D : Nat) (a : Option Addr) (n c : Nat) (b0 b1 b2 b3 : UInt8) (xs : List UInt8) (w : World) (S : St w D a n c (b0 :: b1 :: b2 :: b3 :: xs) .nilIface) :
    Calls Tryf.prog 19 #[.pointer (some ⟨D, 0, none⟩)] w fun e w' => e = .returned (.int .u32 (num4 b0 b1 b2 b3)) ∧ St w' D (adv a c 4) (n - 4) (c - 4) xs .nilIface ∧ Below D w w' := by
  have hl := S.len
  simp only [List.length_cons] at hl
  have h4 : 4 ≤ n := by omega
  have R4 := S.rd.take 4
  simp only [List.take_succ_cons, List.take_zero] at R4
  have hlt := S.lt
  have hsome : ∃ x, a = some x := by
    obtain ⟨b, o, h, _⟩ := S.rd 0 (by simp)
    exact ⟨_, h⟩
  obtain ⟨x, rfl⟩ := hsome
  clear hl
  go_enter Tryf.func19, Tryf.ntmps19
  go_wp2_with fail
  refine (fixed_ok D (some x) n c 4 4 _ _ rfl S h4).mono ?_
  rintro e w1 ⟨rfl, S1, hb⟩
  simp only [List.drop_succ_cons, List.drop_zero] at S1
  go_wp2_with fail
  refine (be32 (some x) b0 b1 b2 b3 _ D (R4.carry hb (Nat.le_refl D)) (Nat.le_of_lt S1.lt)).mono ?_
  rintro e w2 ⟨rfl, hb2⟩
  go_wp2
  go_ret
  exact ⟨rfl, S1.carry hb2 S1.lt, hb.trans (hb2.mono (Nat.le_of_lt S1.lt))⟩

theorem uint32_err (D : Nat) (a : Option Addr) (n c : Nat) (xs : List UInt8) (p : Addr) (w : World) (S : St w D a n c xs (.iface 52 (.pointer (some p)))) :
    Calls Tryf.prog 19 #[.pointer (some ⟨D, 0, none⟩)] w fun e w' => e = .returned (.int .u32 0) ∧ w' = w := by
  go_enter Tryf.func19, Tryf.ntmps19
  go_wp2_with (go_at_call 15; refine (fixed_err D a n c 4 xs p _ S).mono ?_; rintro e w' ⟨rfl, rfl⟩)
  go_ret
  exact ⟨rfl, rfl⟩

theorem uint32_bad (F : Interp) (D : Nat) (a : Option Addr) (n c : Nat) (xs : List UInt8) (w : World) (hF : F.answers w.tape) (S : St w D a n c xs .nilIface) (h : n < 4) :
    Calls Tryf.prog 19 #[.pointer (some ⟨D, 0, none⟩)] w fun e w' => e = .returned (.int .u32 0) ∧ (∃ p, St w' D a n c xs (.iface 52 (.pointer (some p)))) ∧ Below D w w' := by
  go_enter Tryf.func19, Tryf.ntmps19
  go_wp2_with fail
  refine (fixed_bad F D a n c 4 4 xs _ (by exact hF) rfl S h).mono ?_
  rintro e w1 ⟨rfl, hS, hb⟩
  go_wp2
  go_ret
  exact ⟨rfl, hS, hb⟩
end Go.Proofs.Qxb6609199aFmt
