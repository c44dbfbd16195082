/-
  decimalUint, decimalInt: the decimal numeral.
-/
import Derived.Test.Qxb6609177aFmtErr
import Derived.LoopTactic
import Derived.Laws.IdiomStrings
import Derived.Lib.ItoaNum
namespace Go.Proofs.Qxb6609177aFmt
open Go.RowKit
set_option linter.unusedVariables false

structure Dec (w wr : World) (u0 : Nat) (u kk : Nat) (acc : List UInt8) : Prop where
  below : Below w.heap.size w wr
  len : acc.length + kk = 20
  pos : 1 ≤ kk
  room : u < 10 ^ kk
  small : u < 18446744073709551616
  same : Lib.decDigits u0 = Lib.decDigits u ++ acc
  cells : ∀ j, j < 20 → ∃ v, wr.cell? ⟨w.heap.size, j, none⟩ = some v
  loose : ∀ j, j < 20 → wr.frozen? ⟨w.heap.size, j, none⟩ = false
  has : ∀ j (hj : j < acc.length), wr.cell? ⟨w.heap.size, kk + j, none⟩ = some (.int .u8 (acc[j].toNat : Int))

theorem slice20 (b q : Nat) (h : q < 20) (w : World) :
    (Instr.sliceAt 38 (.pointer (some ⟨b, 0, none⟩)) (some (.int .i64 q)) none none).run Tryf.prog w = .ok (.slice (some ⟨b, q, none⟩) (20 - q) (20 - q)) w := by
  have hl : Tryf.prog.arrayLen 38 = 20 := by kernel_rfl
  have he : Tryf.prog.elem 38 = 5 := by kernel_rfl
  have hs : (sizeOf 5).run Tryf.prog w = .ok 1 w := by kernel_rfl
  have hu : Tryf.prog.underlying 38 = some (.array (Tryf.prog.arrayLen 38) (Tryf.prog.elem 38)) := by kernel_rfl
  have key := run_sliceAt_array_l (P := Tryf.prog) w 38 ⟨b, 0, none⟩ hu .i64 (q : Int) (by omega) (by rw [hl]; omega)
  rw [key, he, hs, hl]
  have e : ¬ 20 = q := by omega
  simp [slicedAt, Result.andThen, e, Addr.add]
  omega

theorem plus_at (b o i : Nat) : (⟨b, o, none⟩ : Addr).add i = ⟨b, o + i, none⟩ := by unfold Addr.add; split <;> simp_all

/-- The string of the cells from q on. -/
theorem str20 (b q : Nat) (l : List UInt8) (hl : l.length + q = 20) (w : World) (hc : ∀ j (hj : j < l.length), w.cell? ⟨b, q + j, none⟩ = some (.int .u8 (l[j].toNat : Int))) :
    (convert 39 9 (.slice (some ⟨b, q, none⟩) (20 - q) (20 - q))).run Tryf.prog w = .ok (.string ⟨l.toArray⟩) w := by
  have e : 20 - q = l.length := by omega
  rw [e]
  exact run_convert_bytes_back (P := Tryf.prog) w 39 9 5 ⟨b, q, none⟩ _ l Tryf.underlying39 Tryf.underlying5 Tryf.underlying9 (fun j hj => by rw [plus_at]; exact hc j hj)

theorem wrap_div (U : Nat) (h : U < 18446744073709551616) : IntKind.u64.wrap ((U : Int) / 10) = ((U / 10 : Nat) : Int) := by
  rw [IntKind.wrap_u64]
  omega

theorem digit_toNat (U : Nat) : (((UInt8.ofNat (48 + U % 10)).toNat : Nat) : Int) = 48 + (U : Int) % 10 := by
  rw [UInt8.toNat_ofNat']
  omega

theorem Dec.start (w wr : World) (u : Nat) (h : u < 18446744073709551616) (hb : Below w.heap.size w wr)
    (hc : ∀ j, j < 20 → ∃ v, wr.cell? ⟨w.heap.size, j, none⟩ = some v) (hf : ∀ j, j < 20 → wr.frozen? ⟨w.heap.size, j, none⟩ = false) : Dec w wr u u 20 [] :=
  ⟨hb, rfl, by omega, by
    have : 18446744073709551616 ≤ 10 ^ 20 := by decide
    omega, h, by simp, hc, hf, fun j hj => by simp at hj⟩

theorem Dec.put {w wr : World} {u0 U q : Nat} {acc : List UInt8} (D : Dec w wr u0 U (q + 1) acc) :
    ((∀ j (hj : j < (UInt8.ofNat (48 + U % 10) :: acc).length), (wr.setCell ⟨w.heap.size, q, none⟩ (.int .u8 (48 + (U : Int) % 10))).cell? ⟨w.heap.size, q + j, none⟩ = some (.int .u8 ((UInt8.ofNat (48 + U % 10) :: acc)[j].toNat : Int))) ∧
    (UInt8.ofNat (48 + U % 10) :: acc).length + q = 20) := by
  have hl := D.len
  refine ⟨?_, by simp; omega⟩
  intro j hj
  obtain ⟨v, hv⟩ := D.cells q (by omega)
  match j, hj with
  | 0, _ =>
    simp only [Nat.add_zero, List.getElem_cons_zero]
    rw [digit_toNat]
    exact World.cell?_setCell_same _ _ _ hv
  | j + 1, hj =>
    rw [World.cell?_setCell_other _ _ _ _ (by simp)]
    have := D.has j (by simpa using hj)
    simp only [List.getElem_cons_succ]
    rw [← this]
    congr 2
    omega

theorem Dec.next {w wr : World} {u0 U q : Nat} {acc : List UInt8} (D : Dec w wr u0 U (q + 1) acc) (h : ¬ U < 10) :
    Dec w (wr.setCell ⟨w.heap.size, q, none⟩ (.int .u8 (48 + (U : Int) % 10))) u0 (U / 10) q (UInt8.ofNat (48 + U % 10) :: acc) := by
  have hl := D.len
  have hr := D.room
  obtain ⟨p1, p2⟩ := D.put
  refine ⟨D.below.setCell (Nat.le_refl _) _, p2, ?_, ?_, ?_, ?_, ?_, ?_, p1⟩
  · cases q with
    | zero => simp at hr; omega
    | succ q => omega
  · rw [Nat.pow_succ] at hr; omega
  · have := D.small; omega
  · rw [D.same]
    conv => lhs; rw [Lib.decDigits, dif_neg h]
    simp
  · intro j hj
    obtain ⟨v, hv⟩ := D.cells q (by omega)
    by_cases e : j = q
    · subst e
      exact ⟨_, World.cell?_setCell_same _ _ _ hv⟩
    · rw [World.cell?_setCell_other _ _ _ _ (by simp)]
      exact D.cells j hj
  · intro j hj
    rw [World.frozen?_setCell]
    exact D.loose j hj

theorem Dec.last {w wr : World} {u0 U q : Nat} {acc : List UInt8} (D : Dec w wr u0 U (q + 1) acc) (h : U < 10) :
    Lib.decDigits u0 = UInt8.ofNat (48 + U % 10) :: acc := by
  rw [D.same, Lib.decDigits_one h, Nat.mod_eq_of_lt h]
  rfl

theorem ret_str {a b : List UInt8} (h : a = b) : Ending.returned (.string ⟨a.toArray⟩) = .returned (.string ⟨b.toArray⟩) := by rw [h]

set_option maxHeartbeats 800000 in
theorem decU (n : Nat) (h1 : Hid (n < 18446744073709551616)) (w : World) :
    Calls Tryf.prog 10 #[.int .u64 n] w fun e w' => e = .returned (.string ⟨(Lib.decDigits n).toArray⟩) ∧ Below w.heap.size w w' := by
  go_enter Tryf.func10, Tryf.ntmps10
  go_wp2
  go_loopw [0, 4] (fun a k wr => ∃ (U kk : Nat) (acc : List UInt8), a = .int .u64 U ∧ k = .int .i64 kk ∧ Dec w wr n U kk acc) (fun _ k _ => (intOf k).toNat)
  case atStart =>
    refine ⟨n, 20, [], rfl, rfl, Dec.start _ _ _ (unhide h1) ((Below.refl _ _).alloc (Nat.le_refl _) _) ?_ ?_⟩
    · intro j hj
      have : j = 0 ∨ j = 1 ∨ j = 2 ∨ j = 3 ∨ j = 4 ∨ j = 5 ∨ j = 6 ∨ j = 7 ∨ j = 8 ∨ j = 9 ∨ j = 10 ∨ j = 11 ∨ j = 12 ∨ j = 13 ∨ j = 14 ∨ j = 15 ∨ j = 16 ∨ j = 17 ∨ j = 18 ∨ j = 19 := by omega
      rcases this with rfl | rfl | rfl | rfl | rfl | rfl | rfl | rfl | rfl | rfl | rfl | rfl | rfl | rfl | rfl | rfl | rfl | rfl | rfl | rfl <;> exact ⟨.int .u8 0, by simp⟩
    · intro j hj
      rw [frozen?_alloc_cells]
      simp [World.frozen?]
  case round =>
    obtain ⟨U, kk, acc, rfl, rfl, D⟩ := hrel
    have hpos := D.pos
    obtain ⟨q, rfl⟩ : ∃ q, kk = q + 1 := ⟨kk - 1, by omega⟩
    have hl := D.len
    have hq20 : q < 20 := by omega
    have hq20' : (q : Int) < 20 := by omega
    obtain ⟨v, hc⟩ := D.cells q hq20
    have hf := D.loose q hq20
    have hw := wrap_div U D.small
    have hsl := slice20 w.heap.size q hq20
    obtain ⟨p1, p2⟩ := D.put
    have hst := str20 w.heap.size q _ p2 _ p1
    clear hl hpos p1 p2
    by_cases hU : U < 10
    · have hz : (((U / 10 : Nat) : Int) == 0) = true := by rw [Nat.div_eq_of_lt hU]; rfl
      have L := hide (D.last hU)
      go_wp2
      go_ret
      refine ⟨ret_str ?_, D.below.setCell (Nat.le_refl _) _⟩
      rw [unhide L]
      simp
    · have hz : (((U / 10 : Nat) : Int) == 0) = false := by simp; omega
      go_wp2
      exact ⟨⟨U / 10, q, _, by go_num, rfl, D.next hU⟩, by simp [intOf]⟩

theorem neg_wrap (n : Int) (h : -9223372036854775808 ≤ n) (hn : n < 0) : IntKind.u64.wrap (-IntKind.u64.wrap n) = ((n.natAbs : Nat) : Int) := by
  rw [IntKind.wrap_u64, IntKind.wrap_u64]
  omega
theorem pos_wrap (n : Int) (h : n ≤ 9223372036854775807) (hn : 0 ≤ n) : IntKind.u64.wrap n = ((n.toNat : Nat) : Int) := by
  rw [IntKind.wrap_u64]
  omega
theorem dec_short (n : Nat) (h : n < 18446744073709551616) : (Lib.decDigits n).length ≤ 20 := by
  rw [Lib.decDigits_length]
  rcases Nat.lt_or_ge 20 (Lib.nDigits n) with h2 | h2
  · exfalso
    obtain ⟨k, hk⟩ : ∃ k, Lib.nDigits n = k + 1 := ⟨Lib.nDigits n - 1, by omega⟩
    have key : ∀ k n, Lib.nDigits n = k + 1 → 1 ≤ k → 10 ^ k ≤ n := by
      intro k
      induction k with
      | zero => intro n _ h; omega
      | succ k ih =>
        intro n hn _
        by_cases hs : n < 10
        · rw [Lib.nDigits_small hs] at hn; omega
        · rw [Lib.nDigits_big hs] at hn
          by_cases h0 : k = 0
          · subst h0; omega
          · have := ih (n / 10) (by omega) (by omega)
            rw [Nat.pow_succ]; omega
    have h3 := key k n hk (by omega)
    have h4 : 10 ^ 20 ≤ 10 ^ k := Nat.pow_le_pow_right (by omega) (by omega)
    have h5 : 18446744073709551616 ≤ 10 ^ 20 := by decide
    omega
  · exact h2

/-- decimalInt gives the numeral that strconv.Itoa gives. -/
theorem decI (n : Int) (h0 : Hid (-9223372036854775808 ≤ n ∧ n ≤ 9223372036854775807)) (w : World) :
    Calls Tryf.prog 8 #[.int .i64 n] w fun e w' => e = .returned (.string ⟨(Lib.itoa n).toArray⟩) ∧ Below w.heap.size w w' := by
  by_cases hn : n < 0
  · have E := hide (neg_wrap n (unhide h0).1 hn)
    have hs := dec_short n.natAbs (by have := unhide h0; omega)
    have I : Hid ((⟨#[45]⟩ : ByteArray) ++ ⟨(Lib.decDigits n.natAbs).toArray⟩ = ⟨(Lib.itoa n).toArray⟩) := by
      refine hide ?_
      rw [Lib.itoa, if_pos hn]
      apply ByteArray.ext
      simp
    go_enter Tryf.func8, Tryf.ntmps8
    go_wp2_with fail
    rw [unhide E]
    refine (decU n.natAbs (hide (by have := unhide h0; omega)) _).mono ?_
    rintro e w' ⟨rfl, hb⟩
    go_wp2
    go_ret
    exact ⟨congrArg (fun s => Ending.returned (.string s)) (unhide I), hb⟩
  · have E := hide (pos_wrap n (unhide h0).2 (by omega))
    have I : Hid (Lib.itoa n = Lib.decDigits n.toNat) := hide (by rw [Lib.itoa, if_neg hn])
    go_enter Tryf.func8, Tryf.ntmps8
    go_wp2_with fail
    rw [unhide E]
    refine (decU n.toNat (hide (by have := unhide h0; omega)) _).mono ?_
    rintro e w' ⟨rfl, hb⟩
    go_wp2
    go_ret
    exact ⟨ret_str (unhide I).symm, hb⟩
end Go.Proofs.Qxb6609177aFmt
