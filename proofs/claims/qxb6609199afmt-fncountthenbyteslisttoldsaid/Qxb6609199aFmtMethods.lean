/-
  (*Decoder).Bytes, (*Decoder).Count, NewDecoder, ZZrest, ZZerr by their contracts, FOR EVERY F.
-/
import Derived.Test.Qxb6609199aFmtDecoder
namespace Go.Proofs.Qxb6609199aFmt
open Go.RowKit Go.Extern.Stop Go.Stop Go.Extern
set_option linter.unusedVariables false
attribute [local go_sem] eqNil neNil

theorem num4_lt (b0 b1 b2 b3 : UInt8) : num4 b0 b1 b2 b3 < 4294967296 := by
  have h0 := b0.toNat_lt
  have h1 := b1.toNat_lt
  have h2 := b2.toNat_lt
  have h3 := b3.toNat_lt
  unfold num4
  omega

theorem newDecoder (a : Option Addr) (n c : Nat) (xs : List UInt8) (w : World) (R : Reads w.heap.size w a xs) (hl : xs.length = n) (hc : n ≤ c) (hs : n ≤ 16777216) :
    Calls Tryf.prog 8 #[.slice a n c] w fun e w' => e = .returned (.pointer (some ⟨w.heap.size, 0, none⟩)) ∧ St w' w.heap.size a n c xs .nilIface ∧ Below w.heap.size w w' := by
  go_enter Tryf.func8, Tryf.ntmps8
  go_wp2
  go_ret
  have hb : Below w.heap.size w (w.alloc (.cells #[.slice a n c, .nilIface] 44)) := (Below.refl _ _).alloc (Nat.le_refl _) _
  exact ⟨rfl, ⟨by simp, by simp, by simp, by simp, hl, hc, R.carry hb (Nat.le_refl _), hs⟩, hb⟩

theorem rest_w (D : Nat) (a : Option Addr) (n c : Nat) (xs : List UInt8) (e : Value) (w : World) (S : St w D a n c xs e) :
    Calls Tryf.prog 11 #[.pointer (some ⟨D, 0, none⟩)] w fun e w' => e = .returned (.slice a n c) ∧ w' = w := by
  have c0 := S.c0
  go_enter Tryf.func11, Tryf.ntmps11
  go_wp2
  go_ret
  exact ⟨rfl, rfl⟩
theorem err_nil (D : Nat) (a : Option Addr) (n c : Nat) (xs : List UInt8) (w : World) (S : St w D a n c xs .nilIface) :
    Calls Tryf.prog 12 #[.pointer (some ⟨D, 0, none⟩)] w fun e w' => e = .returned .nilIface ∧ w' = w := by
  have c1 := S.c1
  go_enter Tryf.func12, Tryf.ntmps12
  go_wp2
  go_ret
  exact ⟨rfl, rfl⟩
theorem err_is (D : Nat) (a : Option Addr) (n c : Nat) (xs : List UInt8) (p : Addr) (w : World) (S : St w D a n c xs (.iface 52 (.pointer (some p)))) :
    Calls Tryf.prog 12 #[.pointer (some ⟨D, 0, none⟩)] w fun e w' => e = .returned (.iface 52 (.pointer (some p))) ∧ w' = w := by
  have c1 := S.c1
  go_enter Tryf.func12, Tryf.ntmps12
  go_wp2
  go_ret
  exact ⟨rfl, rfl⟩

set_option maxHeartbeats 800000 in
/-- A frame whose bytes are there. -/
theorem bytes_ok (D : Nat) (a : Option Addr) (n c m : Nat) (b0 b1 b2 b3 : UInt8) (xs : List UInt8) (w : World) (S : St w D a n c (b0 :: b1 :: b2 :: b3 :: xs) .nilIface)
    (hm : num4 b0 b1 b2 b3 = m) (hx : m ≤ xs.length) :
    Calls Tryf.prog 9 #[.pointer (some ⟨D, 0, none⟩)] w fun e w' => e = .returned (.slice (adv a c 4) m m) ∧ St w' D (adv (adv a c 4) (c - 4) m) (n - 4 - m) (c - 4 - m) (xs.drop m) .nilIface ∧ Reads D w' (adv a c 4) (xs.take m) ∧ Below D w w' := by
  have hl := S.len
  simp only [List.length_cons] at hl
  have hsm := S.small
  have h1 : m ≤ n - 4 := by omega
  have h2 : n - 4 ≤ 16777216 := by omega
  have h1' : (m : Int) ≤ ((n - 4 : Nat) : Int) := by omega
  have h2' : ((n - 4 : Nat) : Int) ≤ 16777216 := by omega
  clear hl hsm
  go_enter Tryf.func9, Tryf.ntmps9
  go_wp2_with fail
  refine (uint32_ok D a n c b0 b1 b2 b3 xs _ S).mono ?_
  rintro e w1 ⟨rfl, S1, hb⟩
  rw [hm]
  have d0 := S1.c0
  have d1 := S1.c1
  go_wp2_with fail
  refine (fixed_ok D (adv a c 4) (n - 4) (c - 4) m m xs _ rfl S1 h1).mono ?_
  rintro e w2 ⟨rfl, S2, hb2⟩
  go_wp2
  go_ret
  exact ⟨rfl, S2, (S1.rd.take m).carry hb2 (Nat.le_refl D), hb.trans hb2⟩

theorem bytes_err (D : Nat) (a : Option Addr) (n c : Nat) (xs : List UInt8) (p : Addr) (w : World) (S : St w D a n c xs (.iface 52 (.pointer (some p)))) :
    Calls Tryf.prog 9 #[.pointer (some ⟨D, 0, none⟩)] w fun e w' => e = .returned (.slice none 0 0) ∧ w' = w := by
  have c1 := S.c1
  go_enter Tryf.func9, Tryf.ntmps9
  go_wp2_with (go_at_call 19; refine (uint32_err D a n c xs p _ S).mono ?_; rintro e w' ⟨rfl, rfl⟩)
  go_ret
  exact ⟨rfl, rfl⟩

set_option maxHeartbeats 800000 in
/-- A frame that declares more bytes than there are. -/
theorem bytes_long (F : Interp) (D : Nat) (a : Option Addr) (n c m : Nat) (b0 b1 b2 b3 : UInt8) (xs : List UInt8) (w : World) (hF : F.answers w.tape) (S : St w D a n c (b0 :: b1 :: b2 :: b3 :: xs) .nilIface)
    (hm : num4 b0 b1 b2 b3 = m) (hx : xs.length < m) (hms : m ≤ 16777216) :
    Calls Tryf.prog 9 #[.pointer (some ⟨D, 0, none⟩)] w fun e w' => e = .returned (.slice none 0 0) ∧ (∃ p, St w' D (adv a c 4) (n - 4) (c - 4) xs (.iface 52 (.pointer (some p)))) ∧ Below D w w' := by
  have hl := S.len
  simp only [List.length_cons] at hl
  have hsm := S.small
  have h1 : n - 4 < m := by omega
  have h2 : n - 4 ≤ 16777216 := by omega
  have h1' : ((n - 4 : Nat) : Int) < (m : Int) := by omega
  have h2' : ((n - 4 : Nat) : Int) ≤ 16777216 := by omega
  have h3' : (m : Int) ≤ 16777216 := by omega
  clear hl hsm
  go_enter Tryf.func9, Tryf.ntmps9
  go_wp2_with fail
  refine (uint32_ok D a n c b0 b1 b2 b3 xs _ S).mono ?_
  rintro e w1 ⟨rfl, S1, hb⟩
  rw [hm]
  have d0 := S1.c0
  have d1 := S1.c1
  have g1 := S1.f1
  have hlt := S1.lt
  go_wp2_with fail
  refine (errorfB F w1.heap.size m (n - 4 : Nat) _ (by rw [show (w1.alloc _).tape = w1.tape from rfl, hb.tape]; exact hF) (by go_simp) (by go_simp)).mono ?_
  rintro e w2 ⟨⟨p, rfl⟩, hb2⟩
  have hbw : Below w1.heap.size w1 w2 := ((Below.refl _ _).alloc (Nat.le_refl _) _).trans (hb2.mono (by simp))
  have S2 := S1.carry hbw hlt
  have k0 := S2.c0
  have k1 := S2.c1
  have j1 := S2.f1
  go_wp2
  go_ret
  exact ⟨rfl, ⟨p, S2.fail _⟩, hb.trans ((hbw.mono (Nat.le_of_lt hlt)).trans (below_put D 1 _ _))⟩

theorem mul_wrap (m s : Nat) (hm : m < 4294967296) (hs : s ≤ 4294967296) : IntKind.u64.wrap ((m : Int) * (s : Int)) = ((m * s : Nat) : Int) := by
  rw [IntKind.wrap_u64]
  have h1 : m * s ≤ 4294967295 * 4294967296 := Nat.mul_le_mul (by omega) hs
  have e : ((m * s : Nat) : Int) = (m : Int) * (s : Int) := by push_cast; rfl
  rw [← e]
  omega

theorem count_err (D : Nat) (a : Option Addr) (n c : Nat) (s : Int) (xs : List UInt8) (p : Addr) (w : World) (S : St w D a n c xs (.iface 52 (.pointer (some p)))) :
    Calls Tryf.prog 16 #[.pointer (some ⟨D, 0, none⟩), .int .i64 s] w fun e w' => e = .returned (.int .i64 0) ∧ w' = w := by
  have c1 := S.c1
  go_enter Tryf.func16, Tryf.ntmps16
  go_wp2_with (go_at_call 19; refine (uint32_err D a n c xs p _ S).mono ?_; rintro e w' ⟨rfl, rfl⟩)
  go_ret
  exact ⟨rfl, rfl⟩

theorem count_bad (F : Interp) (D : Nat) (a : Option Addr) (n c : Nat) (s : Int) (xs : List UInt8) (w : World) (hF : F.answers w.tape) (S : St w D a n c xs .nilIface) (h : n < 4) :
    Calls Tryf.prog 16 #[.pointer (some ⟨D, 0, none⟩), .int .i64 s] w fun e w' => e = .returned (.int .i64 0) ∧ (∃ p, St w' D a n c xs (.iface 52 (.pointer (some p)))) ∧ Below D w w' := by
  go_enter Tryf.func16, Tryf.ntmps16
  go_wp2_with fail
  refine (uint32_bad F D a n c xs _ (by exact hF) S h).mono ?_
  rintro e w1 ⟨rfl, ⟨p, S1⟩, hb⟩
  have d1 := S1.c1
  go_wp2
  go_ret
  exact ⟨rfl, ⟨p, S1⟩, hb⟩

theorem prod (m s : Nat) (hm : m < 4294967296) (hs : s ≤ 4294967296) : ∃ pr : Nat, pr = m * s ∧ IntKind.u64.wrap ((m : Int) * (s : Int)) = (pr : Int) := ⟨m * s, rfl, mul_wrap m s hm hs⟩

set_option maxHeartbeats 800000 in
theorem count_ok (D : Nat) (a : Option Addr) (n c m s : Nat) (si : Int) (b0 b1 b2 b3 : UInt8) (xs : List UInt8) (w : World) (hsi : si = (s : Int)) (S : St w D a n c (b0 :: b1 :: b2 :: b3 :: xs) .nilIface)
    (hm : num4 b0 b1 b2 b3 = m) (hs : s ≤ 4294967296) (hx : m * s ≤ xs.length) :
    Calls Tryf.prog 16 #[.pointer (some ⟨D, 0, none⟩), .int .i64 si] w fun e w' => e = .returned (.int .i64 m) ∧ St w' D (adv a c 4) (n - 4) (c - 4) xs .nilIface ∧ Below D w w' := by
  subst hsi
  have hl := S.len
  simp only [List.length_cons] at hl
  have hsm := S.small
  have hml : m < 4294967296 := by rw [← hm]; exact num4_lt _ _ _ _
  have hml' : (m : Int) ≤ 4294967295 := by omega
  have h2' : ((n - 4 : Nat) : Int) ≤ 16777216 := by omega
  obtain ⟨pr, hpr, hw⟩ := prod m s hml hs
  have h1' : (pr : Int) ≤ ((n - 4 : Nat) : Int) := by omega
  have hs' : (s : Int) ≤ 4294967296 := by omega
  clear hl hsm hpr hx
  go_enter Tryf.func16, Tryf.ntmps16
  go_wp2_with fail
  refine (uint32_ok D a n c b0 b1 b2 b3 xs _ S).mono ?_
  rintro e w1 ⟨rfl, S1, hb⟩
  rw [hm]
  have d0 := S1.c0
  have d1 := S1.c1
  go_wp2
  go_ret
  exact ⟨rfl, S1, hb⟩

set_option maxHeartbeats 800000 in
theorem count_over (F : Interp) (D : Nat) (a : Option Addr) (n c m s : Nat) (si : Int) (b0 b1 b2 b3 : UInt8) (xs : List UInt8) (w : World) (hF : F.answers w.tape) (hsi : si = (s : Int)) (S : St w D a n c (b0 :: b1 :: b2 :: b3 :: xs) .nilIface)
    (hm : num4 b0 b1 b2 b3 = m) (hs : s ≤ 4294967296) (hx : xs.length < m * s) :
    Calls Tryf.prog 16 #[.pointer (some ⟨D, 0, none⟩), .int .i64 si] w fun e w' => e = .returned (.int .i64 0) ∧ (∃ p, St w' D (adv a c 4) (n - 4) (c - 4) xs (.iface 52 (.pointer (some p)))) ∧ Below D w w' := by
  subst hsi
  have hl := S.len
  simp only [List.length_cons] at hl
  have hsm := S.small
  have hml : m < 4294967296 := by rw [← hm]; exact num4_lt _ _ _ _
  have hml' : (m : Int) ≤ 4294967295 := by omega
  have h2' : ((n - 4 : Nat) : Int) ≤ 16777216 := by omega
  obtain ⟨pr, hpr, hw⟩ := prod m s hml hs
  have h1' : ((n - 4 : Nat) : Int) < (pr : Int) := by omega
  have hs' : (s : Int) ≤ 4294967296 := by omega
  clear hl hsm hpr hx
  go_enter Tryf.func16, Tryf.ntmps16
  go_wp2_with fail
  refine (uint32_ok D a n c b0 b1 b2 b3 xs _ S).mono ?_
  rintro e w1 ⟨rfl, S1, hb⟩
  rw [hm]
  have d0 := S1.c0
  have d1 := S1.c1
  have g1 := S1.f1
  have hlt := S1.lt
  go_wp2_with fail
  refine (errorfC F w1.heap.size m (n - 4 : Nat) _ (by rw [show (w1.alloc _).tape = w1.tape from rfl, hb.tape]; exact hF) (by go_simp) (by go_simp)).mono ?_
  rintro e w2 ⟨⟨p, rfl⟩, hb2⟩
  have hbw : Below w1.heap.size w1 w2 := ((Below.refl _ _).alloc (Nat.le_refl _) _).trans (hb2.mono (by simp))
  have S2 := S1.carry hbw hlt
  have k0 := S2.c0
  have k1 := S2.c1
  have j1 := S2.f1
  go_wp2
  go_ret
  exact ⟨rfl, ⟨p, S2.fail _⟩, hb.trans ((hbw.mono (Nat.le_of_lt hlt)).trans (below_put D 1 _ _))⟩
end Go.Proofs.Qxb6609199aFmt
