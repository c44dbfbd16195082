/-
  inTreeByCuts by its contract; the walk of FnInTreeAncestorModel.
-/
import Derived.Test.Qxb6612181aTree
import Derived.LoopTactic
namespace Go.Proofs.Qxb6612181a
open Go.RowKit
set_option linter.unusedVariables false

/-- Is q cut at k the bytes T, and does a slash stand there? -/
def hit (q T : ByteArray) (k : Nat) (hk : k < q.size) : Prop := ((q[k].toNat : Nat) : Int) = 47 ∧ ((q.extract 0 k).toList == T.toList) = true

theorem at_list (q : ByteArray) (k : Nat) (hk : k < q.size) : q.data.toList[k]? = some q[k] := by
  rw [Array.getElem?_toList]
  exact Array.getElem?_eq_getElem hk

theorem hit_in (q t : ByteArray) (k : Nat) (hk : k < q.size) (h : hit q (trimB t) k hk) : inB q t = true := by
  obtain ⟨h1, h2⟩ := h
  rw [eqB_iff] at h2
  rw [inB_iff]
  right
  unfold nrm
  have hc : q[k] = 47 := by
    apply UInt8.toNat_inj.1
    have : (47 : UInt8).toNat = 47 := rfl
    omega
  have e : (q.extract 0 k).data.toList = q.data.toList.take k := by
    rw [ByteArray.data_extract, Array.toList_extract]; rfl
  rw [← h2, e, List.prefix_iff_eq_take]
  have hl : (List.take k q.data.toList).length = k := by
    rw [List.length_take]; simp; omega
  rw [List.length_append, hl]
  simp only [List.length_cons, List.length_nil, Nat.zero_add]
  have hk' : k < q.data.toList.length := by simpa using hk
  rw [List.take_succ_eq_append_getElem hk']
  congr 1
  have := at_list q k hk
  rw [List.getElem?_eq_getElem hk'] at this
  have e2 := Option.some.inj this
  rw [e2, hc]

theorem no_hit (q t : ByteArray) (hne : (q.toList == t.toList) = false) (h : ∀ k (hk : k < q.size), ¬ hit q (trimB t) k hk) : inB q t = false := by
  cases hb : inB q t with
  | false => rfl
  | true =>
    exfalso
    rw [inB_iff] at hb
    rcases hb with rfl | hb
    · simp at hne
    · unfold nrm at hb
      obtain ⟨r, hr⟩ := hb
      have hlen : (trimB t).data.toList.length < q.data.toList.length := by
        rw [← hr]; simp
      have hk : (trimB t).size < q.size := by simpa using hlen
      refine h (trimB t).size hk ⟨?_, ?_⟩
      · have := at_list q _ hk
        rw [← hr] at this
        have hsz : (trimB t).size = (trimB t).data.toList.length := by simp
        have e : ((trimB t).data.toList ++ [47] ++ r)[(trimB t).size]? = some 47 := by
          rw [hsz]; simp
        rw [e] at this
        have e3 := Option.some.inj this
        rw [← e3]
        rfl
      · rw [eqB_iff]
        apply ByteArray.ext
        apply Array.ext'
        rw [ByteArray.data_extract, Array.toList_extract]
        have hsz : (trimB t).size = (trimB t).data.toList.length := by simp
        rw [← hr, hsz]
        simp

theorem suf_last (t : ByteArray) (h : 0 < t.size) : sufB t = (((t[t.size - 1]'(by omega)).toNat : Int) == 47) := by
  rw [Bool.eq_iff_iff, sufB_iff, beq_iff_eq]
  have hz : t.data.toList.length = t.size := by simp
  have hx : t.data.toList = t.data.toList.take (t.size - 1) ++ [t[t.size - 1]'(by omega)] := by
    have hk' : t.size - 1 < t.data.toList.length := by omega
    have := at_list t (t.size - 1) (by omega)
    rw [List.getElem?_eq_getElem hk'] at this
    have e2 := Option.some.inj this
    rw [← e2, ← List.take_succ_eq_append_getElem hk', List.take_of_length_le (by omega)]
  constructor
  · rintro ⟨l, hl⟩
    rw [hl] at hx
    have := List.append_inj' hx rfl
    have e := List.cons.inj this.2
    rw [← e.1]
    rfl
  · intro h47
    refine ⟨t.data.toList.take (t.size - 1), hx.trans ?_⟩
    have : t[t.size - 1]'(by omega) = 47 := by
      apply UInt8.toNat_inj.1
      have : (47 : UInt8).toNat = 47 := rfl
      omega
    rw [this]

set_option maxHeartbeats 1000000 in
theorem cuts_c (q t : ByteArray) (w : World) (hq : q.size ≤ 1048576) (ht : t.size ≤ 1048576) (hne : (q.toList == t.toList) = false) (h0 : 0 < t.size) (hs : sufB t = true) :
    Calls Try.prog 9 #[.string q, .string t] w fun e w' => e = .returned (.bool (inB q t)) ∧ w' = w := by
  have hT : Hid (trimB t = t.extract 0 (t.size - 1)) := hide (by simp [trimB, hs])
  have hl : (((t[t.size - 1]'(by omega)).toNat : Int) == 47) = true := by rw [← suf_last t h0]; exact hs
  have h0' : (0 : Int) < (t.size : Int) := by omega
  have ht' : (t.size : Int) ≤ 1048576 := by omega
  have hq' : (q.size : Int) ≤ 1048576 := by omega
  have e1 : ((t.size : Int) - 1).toNat = t.size - 1 := by omega
  have HH := hide (hit_in q t)
  have HN := hide (no_hit q t hne)
  go_enter Try.func9, Try.ntmps9
  go_wp2
  go_loop [6] (fun i => ∃ k : Nat, k ≤ q.size ∧ i = .int .i64 k ∧ Hid (∀ j (hj : j < q.size), j < k → ¬ hit q (trimB t) j hj)) (fun i => q.size - (intOf i).toNat)
  case atStart => exact ⟨0, Nat.zero_le _, rfl, hide (fun j _ hj => by omega)⟩
  case round =>
    obtain ⟨k, hk, rfl, hno⟩ := hrel
    by_cases hlt : k < q.size
    · have hlt' : (k : Int) < (q.size : Int) := by omega
      have stay : Hid (¬ hit q (trimB t) k hlt → ∀ j (hj : j < q.size), j < k + 1 → ¬ hit q (trimB t) j hj) := hide (by
        intro hn j hj hjk
        by_cases e : j = k
        · subst e; exact hn
        · exact unhide hno j hj (by omega))
      cases hc : (((q[k].toNat : Nat) : Int) == 47)
      · have N : Hid (¬ hit q (trimB t) k hlt) := hide (fun h => by rw [beq_eq_false_iff_ne] at hc; exact hc h.1)
        go_wp2
        exact ⟨⟨k + 1, by omega, by go_num, hide (unhide stay (unhide N))⟩, by simp [intOf]; omega⟩
      · cases hm : ((q.extract 0 k).toList == (t.extract 0 (t.size - 1)).toList)
        · have N : Hid (¬ hit q (trimB t) k hlt) := hide (fun h => by
            have h2 := h.2
            rw [unhide hT, hm] at h2
            cases h2)
          go_wp2
          exact ⟨⟨k + 1, by omega, by go_num, hide (unhide stay (unhide N))⟩, by simp [intOf]; omega⟩
        · have Y : Hid (inB q t = true) := hide (unhide HH k hlt ⟨beq_iff_eq.1 hc, by rw [unhide hT]; exact hm⟩)
          go_wp2
          go_ret
          exact ⟨ret_bool (unhide Y).symm, rfl⟩
    · have hge : (q.size : Int) ≤ (k : Int) := by omega
      have Y : Hid (inB q t = false) := hide (unhide HN (fun j hj => unhide hno j hj (by omega)))
      go_wp2
      go_ret
      exact ⟨ret_bool (unhide Y).symm, rfl⟩

set_option maxHeartbeats 1000000 in
theorem cuts_b (q t : ByteArray) (w : World) (hq : q.size ≤ 1048576) (ht : t.size ≤ 1048576) (hne : (q.toList == t.toList) = false) (h0 : 0 < t.size) (hs : sufB t = false) :
    Calls Try.prog 9 #[.string q, .string t] w fun e w' => e = .returned (.bool (inB q t)) ∧ w' = w := by
  have hT : Hid (trimB t = t) := hide (by simp [trimB, hs])
  have hl : (((t[t.size - 1]'(by omega)).toNat : Int) == 47) = false := by rw [← suf_last t h0]; exact hs
  have h0' : (0 : Int) < (t.size : Int) := by omega
  have ht' : (t.size : Int) ≤ 1048576 := by omega
  have hq' : (q.size : Int) ≤ 1048576 := by omega
  have e1 : ((t.size : Int) - 1).toNat = t.size - 1 := by omega
  have HH := hide (hit_in q t)
  have HN := hide (no_hit q t hne)
  go_enter Try.func9, Try.ntmps9
  go_wp2
  go_loop [6] (fun i => ∃ k : Nat, k ≤ q.size ∧ i = .int .i64 k ∧ Hid (∀ j (hj : j < q.size), j < k → ¬ hit q (trimB t) j hj)) (fun i => q.size - (intOf i).toNat)
  case atStart => exact ⟨0, Nat.zero_le _, rfl, hide (fun j _ hj => by omega)⟩
  case round =>
    obtain ⟨k, hk, rfl, hno⟩ := hrel
    by_cases hlt : k < q.size
    · have hlt' : (k : Int) < (q.size : Int) := by omega
      have stay : Hid (¬ hit q (trimB t) k hlt → ∀ j (hj : j < q.size), j < k + 1 → ¬ hit q (trimB t) j hj) := hide (by
        intro hn j hj hjk
        by_cases e : j = k
        · subst e; exact hn
        · exact unhide hno j hj (by omega))
      cases hc : (((q[k].toNat : Nat) : Int) == 47)
      · have N : Hid (¬ hit q (trimB t) k hlt) := hide (fun h => by rw [beq_eq_false_iff_ne] at hc; exact hc h.1)
        go_wp2
        exact ⟨⟨k + 1, by omega, by go_num, hide (unhide stay (unhide N))⟩, by simp [intOf]; omega⟩
      · cases hm : ((q.extract 0 k).toList == (t).toList)
        · have N : Hid (¬ hit q (trimB t) k hlt) := hide (fun h => by
            have h2 := h.2
            rw [unhide hT, hm] at h2
            cases h2)
          go_wp2
          exact ⟨⟨k + 1, by omega, by go_num, hide (unhide stay (unhide N))⟩, by simp [intOf]; omega⟩
        · have Y : Hid (inB q t = true) := hide (unhide HH k hlt ⟨beq_iff_eq.1 hc, by rw [unhide hT]; exact hm⟩)
          go_wp2
          go_ret
          exact ⟨ret_bool (unhide Y).symm, rfl⟩
    · have hge : (q.size : Int) ≤ (k : Int) := by omega
      have Y : Hid (inB q t = false) := hide (unhide HN (fun j hj => unhide hno j hj (by omega)))
      go_wp2
      go_ret
      exact ⟨ret_bool (unhide Y).symm, rfl⟩

set_option maxHeartbeats 1000000 in
theorem cuts_a (q t : ByteArray) (w : World) (hq : q.size ≤ 1048576) (hne : (q.toList == t.toList) = false) (h0 : ¬ 0 < t.size) :
    Calls Try.prog 9 #[.string q, .string t] w fun e w' => e = .returned (.bool (inB q t)) ∧ w' = w := by
  have hT : Hid (trimB t = t) := hide (by
    have : sufB t = false := by simp [sufB]; omega
    simp [trimB, this])
  have h0' : (t.size : Int) ≤ 0 := by omega
  have hq' : (q.size : Int) ≤ 1048576 := by omega
  have hd : decide ((0 : Int) < (t.size : Int)) = false := decide_eq_false (by omega)
  have HH := hide (hit_in q t)
  have HN := hide (no_hit q t hne)
  go_enter Try.func9, Try.ntmps9
  go_wp2
  go_loop [6] (fun i => ∃ k : Nat, k ≤ q.size ∧ i = .int .i64 k ∧ Hid (∀ j (hj : j < q.size), j < k → ¬ hit q (trimB t) j hj)) (fun i => q.size - (intOf i).toNat)
  case atStart => exact ⟨0, Nat.zero_le _, rfl, hide (fun j _ hj => by omega)⟩
  case round =>
    obtain ⟨k, hk, rfl, hno⟩ := hrel
    by_cases hlt : k < q.size
    · have hlt' : (k : Int) < (q.size : Int) := by omega
      have stay : Hid (¬ hit q (trimB t) k hlt → ∀ j (hj : j < q.size), j < k + 1 → ¬ hit q (trimB t) j hj) := hide (by
        intro hn j hj hjk
        by_cases e : j = k
        · subst e; exact hn
        · exact unhide hno j hj (by omega))
      cases hc : (((q[k].toNat : Nat) : Int) == 47)
      · have N : Hid (¬ hit q (trimB t) k hlt) := hide (fun h => by rw [beq_eq_false_iff_ne] at hc; exact hc h.1)
        go_wp2
        exact ⟨⟨k + 1, by omega, by go_num, hide (unhide stay (unhide N))⟩, by simp [intOf]; omega⟩
      · cases hm : ((q.extract 0 k).toList == (t).toList)
        · have N : Hid (¬ hit q (trimB t) k hlt) := hide (fun h => by
            have h2 := h.2
            rw [unhide hT, hm] at h2
            cases h2)
          go_wp2
          exact ⟨⟨k + 1, by omega, by go_num, hide (unhide stay (unhide N))⟩, by simp [intOf]; omega⟩
        · have Y : Hid (inB q t = true) := hide (unhide HH k hlt ⟨beq_iff_eq.1 hc, by rw [unhide hT]; exact hm⟩)
          go_wp2
          go_ret
          exact ⟨ret_bool (unhide Y).symm, rfl⟩
    · have hge : (q.size : Int) ≤ (k : Int) := by omega
      have Y : Hid (inB q t = false) := hide (unhide HN (fun j hj => unhide hno j hj (by omega)))
      go_wp2
      go_ret
      exact ⟨ret_bool (unhide Y).symm, rfl⟩

theorem cuts (q t : ByteArray) (w : World) (hq : q.size ≤ 1048576) (ht : t.size ≤ 1048576) :
    Calls Try.prog 9 #[.string q, .string t] w fun e w' => e = .returned (.bool (inB q t)) ∧ w' = w := by
  cases hne : (q.toList == t.toList)
  · by_cases h0 : 0 < t.size
    · cases hs : sufB t
      · exact cuts_b q t w hq ht hne h0 hs
      · exact cuts_c q t w hq ht hne h0 hs
    · exact cuts_a q t w hq hne h0
  · have E : Hid (inB q t = true) := hide (by simp [inB, hne])
    go_enter Try.func9, Try.ntmps9
    go_wp2
    go_ret
    exact ⟨ret_bool (unhide E).symm, rfl⟩

theorem bytes7_yes (a b : ByteArray) (w : World) (h : a.size + b.size ≤ 1048576) :
    Calls Try.prog 7 #[.string a, .string b] w fun e w' => e = .returned (.bool true) ∧ w' = w := by
  have h1 : (a.size : Int) ≤ 1048576 := by omega
  have h2 : (b.size : Int) ≤ 1048576 := by omega
  have h4 : (a.size : Int) + (b.size : Int) ≤ 1048576 := by omega
  go_enter Try.func7, Try.ntmps7
  go_wp2
  go_ret
  exact ⟨rfl, rfl⟩

theorem bytes7_no (a b : ByteArray) (w : World) (ha : a.size ≤ maxLen) (hb : b.size ≤ maxLen) (h : ¬ a.size + b.size ≤ 1048576) :
    Calls Try.prog 7 #[.string a, .string b] w fun e w' => e = .returned (.bool false) ∧ w' = w := by
  unfold maxLen at ha hb
  by_cases h1 : 1048576 < a.size
  · have h1' : 1048576 < (a.size : Int) := by omega
    go_enter Try.func7, Try.ntmps7
    go_wp2
    go_ret
    exact ⟨rfl, rfl⟩
  · have h1' : (a.size : Int) ≤ 1048576 := by omega
    by_cases h2 : 1048576 < b.size
    · have h2' : 1048576 < (b.size : Int) := by omega
      go_enter Try.func7, Try.ntmps7
      go_wp2
      go_ret
      exact ⟨rfl, rfl⟩
    · have h2' : (b.size : Int) ≤ 1048576 := by omega
      have h3' : 1048576 < (a.size : Int) + (b.size : Int) := by omega
      go_enter Try.func7, Try.ntmps7
      go_wp2
      go_ret
      exact ⟨rfl, rfl⟩

theorem model (q t : ByteArray) (w : World) (hq : q.size ≤ maxLen) (ht : t.size ≤ maxLen) :
    Calls Try.prog 3 #[.string q, .string t] w fun e w' => e = .returned (.bool true) ∧ w' = w := by
  by_cases h : q.size + t.size ≤ 1048576
  · have h1 : (q.size : Int) ≤ 1048576 := by omega
    have h2 : (t.size : Int) ≤ 1048576 := by omega
    have h4 : (q.size : Int) + (t.size : Int) ≤ 1048576 := by omega
    go_enter Try.func3, Try.ntmps3
    go_wp2_with (first | (go_at_call 7; refine (bytes7_yes q t _ h).mono ?_; rintro e w' ⟨rfl, rfl⟩) | (go_at_call 8; refine (inTree8 q t _ (by omega)).mono ?_; rintro e w' ⟨rfl, rfl⟩) | (go_at_call 9; refine (cuts q t _ (by omega) (by omega)).mono ?_; rintro e w' ⟨rfl, rfl⟩))
    go_ret
    exact ⟨ret_bool (by simp), rfl⟩
  · go_enter Try.func3, Try.ntmps3
    go_wp2_with (go_at_call 7; refine (bytes7_no q t _ hq ht h).mono ?_; rintro e w' ⟨rfl, rfl⟩)
    go_ret
    exact ⟨rfl, rfl⟩
end Go.Proofs.Qxb6612181a
