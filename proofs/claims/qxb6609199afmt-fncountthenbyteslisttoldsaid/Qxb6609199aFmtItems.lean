/-
  A slice of byte slices that is read; its total length; its frames. zzBytes_FnCountThenBytesList by its contract.
-/
import Derived.Test.Qxb6609199aFmtCountLaw
namespace Go.Proofs.Qxb6609199aFmt
open Go.RowKit Go.Extern.Stop Go.Stop Go.Extern
set_option linter.unusedVariables false
attribute [local go_sem] eqNil neNil

/-- One item: where it begins, its length and capacity, its bytes. -/
structure It where
  a : Option Addr
  n : Nat
  c : Nat
  xs : List UInt8

def Items (B : Nat) (w : World) (ai : Option Addr) (its : List It) : Prop :=
  ∀ j (hj : j < its.length), ∃ b o, ai = some ⟨b, o, none⟩ ∧ b < B ∧ w.cell? ⟨b, o + j, none⟩ = some (.slice its[j].a its[j].n its[j].c) ∧
    Reads B w its[j].a its[j].xs ∧ its[j].xs.length = its[j].n ∧ its[j].n ≤ maxLen

theorem Items.carry {B C : Nat} {w w' : World} {ai : Option Addr} {its : List It} (h : Items B w ai its) (hb : Below C w w') (hC : B ≤ C) : Items B w' ai its := by
  intro j hj
  obtain ⟨b, o, h1, h2, h3, h4, h5, h6⟩ := h j hj
  exact ⟨b, o, h1, h2, by rw [hb.cell (p := ⟨b, o + j, none⟩) (Nat.lt_of_lt_of_le h2 hC)]; exact h3, h4.carry hb hC, h5, h6⟩

/-- The lengths added up. -/
def tot : List It → Nat
  | [] => 0
  | i :: r => i.n + tot r

/-- The frames, one behind the other. -/
def wireOf : List It → List UInt8
  | [] => []
  | i :: r => be4 i.n ++ (i.xs ++ wireOf r)

theorem tot_append (l r : List It) : tot (l ++ r) = tot l + tot r := by
  induction l with
  | nil => simp [tot]
  | cons i l ih => simp [tot, ih, Nat.add_assoc]

theorem wireOf_append (l r : List It) : wireOf (l ++ r) = wireOf l ++ wireOf r := by
  induction l with
  | nil => simp [wireOf]
  | cons i l ih => simp [wireOf, ih]

theorem tot_succ (its : List It) (k : Nat) (h : k < its.length) : tot (its.take (k + 1)) = tot (its.take k) + its[k].n := by
  rw [List.take_succ_eq_append_getElem h, tot_append]
  simp [tot]

theorem wireOf_succ (its : List It) (k : Nat) (h : k < its.length) : wireOf (its.take (k + 1)) = wireOf (its.take k) ++ be4 its[k].n ++ its[k].xs := by
  rw [List.take_succ_eq_append_getElem h, wireOf_append]
  simp [wireOf]

theorem wireOf_drop (its : List It) (k : Nat) (h : k < its.length) : wireOf (its.drop k) = be4 its[k].n ++ (its[k].xs ++ wireOf (its.drop (k + 1))) := by
  rw [List.drop_eq_getElem_cons h, wireOf]

theorem tot_take_le (its : List It) (k : Nat) : tot (its.take k) ≤ tot its := by
  have : tot its = tot (its.take k) + tot (its.drop k) := by rw [← tot_append, List.take_append_drop]
  omega

theorem wireOf_length (its : List It) (h : ∀ j (hj : j < its.length), its[j].xs.length = its[j].n) : (wireOf its).length = 4 * its.length + tot its := by
  induction its with
  | nil => rfl
  | cons i r ih =>
    have h0 := h 0 (by simp)
    simp only [List.getElem_cons_zero] at h0
    have hr := ih (fun j hj => by have := h (j + 1) (by simpa using hj); simpa using this)
    simp [wireOf, tot, be4_length, h0, hr]
    omega

/-- It came back with a bool. -/
def IsBool (e : Ending) : Prop := ∃ b, e = .returned (.bool b)

set_option maxHeartbeats 1000000 in
theorem bytes18 (ai at' : Option Addr) (K ci nt ct B : Nat) (its : List It) (w : World) (I : Items B w ai its) (hK : its.length = K) (lk : K ≤ maxLen) (lt : nt ≤ maxLen) :
    Calls Tryf.prog 18 #[.slice ai K ci, .slice at' nt ct] w fun e w' => IsBool e ∧ w' = w := by
  have HK := hide hK
  clear hK
  unfold maxLen at lk lt
  by_cases h1 : 1048576 < K
  · have h1' : 1048576 < (K : Int) := by omega
    go_enter Tryf.func18, Tryf.ntmps18
    go_wp2
    go_ret
    exact ⟨⟨_, rfl⟩, rfl⟩
  · have h1' : (K : Int) ≤ 1048576 := by omega
    go_enter Tryf.func18, Tryf.ntmps18
    go_wp2
    go_loop [5, 6] (fun z i => ∃ (k : Nat) (s : Nat), k ≤ K ∧ i = .int .i64 k ∧ z = .int .i64 s ∧ s ≤ 1048576) (fun _ i => K - (intOf i).toNat)
    case atStart => exact ⟨0, K, Nat.zero_le _, rfl, rfl, by omega⟩
    case round =>
      obtain ⟨k, s, hk, rfl, rfl, hs⟩ := hrel
      have hs' : (s : Int) ≤ 1048576 := by omega
      by_cases hlt : k < K
      · have hlt' : (k : Int) < (K : Int) := by omega
        obtain ⟨b, o, rfl, l1, k1, _, _, l2⟩ := I k (by rw [unhide HK]; exact hlt)
        generalize hx : its[k]'(by rw [unhide HK]; exact hlt) = x at *
        obtain ⟨xa, xn, xc, xx⟩ := x
        clear hx
        unfold maxLen at l2
        by_cases h3 : 1048576 < xn
        · have h3' : 1048576 < (xn : Int) := by omega
          go_wp2
          go_ret
          exact ⟨⟨_, rfl⟩, rfl⟩
        · have h3' : (xn : Int) ≤ 1048576 := by omega
          by_cases h4 : 1048576 < s + xn
          · have h4' : 1048576 < (s : Int) + (xn : Int) := by omega
            go_wp2
            go_ret
            exact ⟨⟨_, rfl⟩, rfl⟩
          · have h4' : (s : Int) + (xn : Int) ≤ 1048576 := by omega
            go_wp2
            exact ⟨⟨k + 1, s + xn, by omega, by go_num, by go_num, by omega⟩, by simp [intOf]; omega⟩
      · have hge : (K : Int) ≤ (k : Int) := by omega
        by_cases h3 : 1048576 < nt
        · have h3' : 1048576 < (nt : Int) := by omega
          go_wp2
          go_ret
          exact ⟨⟨_, rfl⟩, rfl⟩
        · have h3' : (nt : Int) ≤ 1048576 := by omega
          by_cases h4 : 1048576 < s + nt
          · have h4' : 1048576 < (s : Int) + (nt : Int) := by omega
            go_wp2
            go_ret
            exact ⟨⟨_, rfl⟩, rfl⟩
          · have h4' : (s : Int) + (nt : Int) ≤ 1048576 := by omega
            go_wp2
            go_ret
            exact ⟨⟨_, rfl⟩, rfl⟩
end Go.Proofs.Qxb6609199aFmt
