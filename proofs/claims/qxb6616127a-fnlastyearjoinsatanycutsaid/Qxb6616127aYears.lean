/-
  yearsOf, maxInt.
-/
import Derived.Test.Qxb6616127aMem
import Derived.Test.Qxb6616127aPlain
namespace Go.Proofs.Qxb6616127a
open Go.RowKit

theorem max_any (a b : Int) (w : World) : Calls Try.prog 14 #[.int .i64 a, .int .i64 b] w fun e w' => e = .returned (.int .i64 (mxI b a)) ∧ w = w' := by
  by_cases h : b < a
  · have e : Hid (a = mxI b a) := (if_pos h).symm
    go_enter Try.func14, Try.ntmps14
    go_wp2
    go_ret
    exact ⟨ret_int e.out, rfl⟩
  · have e : Hid (b = mxI b a) := (if_neg h).symm
    go_enter Try.func14, Try.ntmps14
    go_wp2
    go_ret
    exact ⟨ret_int e.out, rfl⟩

abbrev keyed (ts : List (ByteArray × List Int)) : List (List UInt8 × List Int) := ts.map fun t => (key t.1, t.2)

theorem years_hit (ts : List (ByteArray × List Int)) (k : Nat) (h : k < ts.length) (id : List UInt8) (hk : (key (ts.getD k (ByteArray.empty, [])).1 == id) = true) :
    yearsFor (keyed (ts.take (k + 1))) id = (ts.getD k (ByteArray.empty, [])).2 := by
  have e : ts.getD k (ByteArray.empty, []) = ts[k] := by simp [List.getD, h]
  rw [e] at hk ⊢
  unfold yearsFor
  rw [List.take_succ_eq_append_getElem h]
  simp only [keyed, List.map_append, List.map_cons, List.map_nil, List.reverse_append, List.reverse_cons, List.reverse_nil, List.nil_append, List.singleton_append, List.find?_cons]
  rw [hk]

theorem years_miss (ts : List (ByteArray × List Int)) (k : Nat) (h : k < ts.length) (id : List UInt8) (hk : (key (ts.getD k (ByteArray.empty, [])).1 == id) = false) :
    yearsFor (keyed (ts.take (k + 1))) id = yearsFor (keyed (ts.take k)) id := by
  have e : ts.getD k (ByteArray.empty, []) = ts[k] := by simp [List.getD, h]
  rw [e] at hk
  unfold yearsFor
  rw [List.take_succ_eq_append_getElem h]
  simp only [keyed, List.map_append, List.map_cons, List.map_nil, List.reverse_append, List.reverse_cons, List.reverse_nil, List.nil_append, List.singleton_append, List.find?_cons]
  rw [hk]

theorem TestsAt.form {w : World} {a : Option Addr} {n cap : Nat} {ts : List (ByteArray × List Int)} (h : TestsAt w (.slice a n cap) ts) : ∀ t, t < n → ∃ b o x c, a = some ⟨b, o, none⟩ ∧
    w.cell? ⟨b, o + t * 2, none⟩ = some (.string (ts.getD t (ByteArray.empty, [])).1) ∧ (ts.getD t (ByteArray.empty, [])).1.size ≤ maxLen ∧
    w.cell? ⟨b, o + t * 2 + 1, none⟩ = some (.slice x (ts.getD t (ByteArray.empty, [])).2.length c) ∧ IntsAt w (.slice x (ts.getD t (ByteArray.empty, [])).2.length c) (ts.getD t (ByteArray.empty, [])).2 := by
  obtain ⟨a', c', hv, _, hc⟩ := h
  obtain ⟨rfl, rfl, _⟩ : a = a' ∧ n = ts.length ∧ cap = c' := by simpa using hv
  exact hc

set_option maxHeartbeats 1000000 in
theorem years_any (a : Option Addr) (n cap : Nat) (ts : List (ByteArray × List Int)) (id : ByteArray) (w : World) (hn : n ≤ 1048576) (hts : ts.length = n) (h : TestsAt w (.slice a n cap) ts) :
    Calls Try.prog 16 #[.slice a n cap, .string id] w fun e w' => ∃ x c, e = .returned (.slice x (yearsFor (keyed ts) (key id)).length c) ∧ IntsAt w (.slice x (yearsFor (keyed ts) (key id)).length c) (yearsFor (keyed ts) (key id)) ∧ w = w' := by
  have HT := h.form
  have HT' : Hid _ := HT
  clear HT h
  obtain ⟨R, hR⟩ : ∃ R, yearsFor (keyed ts) (key id) = R := ⟨_, rfl⟩
  rw [hR]
  have HR : Hid (yearsFor (keyed (ts.take n)) (key id) = R) := by rw [List.take_of_length_le (by omega)]; exact hR
  have HS : Hid (ts.length = n) := hts
  clear hR hts
  go_enter Try.func16, Try.ntmps16
  go_wp2
  go_loop [5] (fun i => ∃ k : Nat, k ≤ n ∧ i = .int .i64 ((k : Int) - 1) ∧ Hid (yearsFor (keyed (ts.take k)) (key id) = R)) (fun i => (intOf i + 1).toNat)
  case atStart => exact ⟨n, Nat.le_refl _, rfl, HR⟩
  case round =>
    obtain ⟨k, hk, rfl, HX⟩ := hrel
    clear HR
    by_cases h0 : 0 < k
    · obtain ⟨k, rfl⟩ : ∃ k', k = k' + 1 := ⟨k - 1, by omega⟩
      obtain ⟨b, o, x, c, rfl, g0, hs, g1, hint⟩ := HT'.out k (by omega)
      clear HT'
      have e1 : ((k + 1 : Nat) : Int) - 1 = (k : Int) := by omega
      rw [e1]
      have hkl : k < ts.length := by rw [HS.out]; omega
      obtain ⟨t, ht⟩ : ∃ t, t = ts.getD k (ByteArray.empty, []) := ⟨_, rfl⟩
      cases hcmp : (key t.1 == key id) with
      | true =>
        rw [ht] at hcmp
        have hv := HX.out
        rw [years_hit ts k hkl (key id) hcmp] at hv
        rw [hv] at g1 hint
        rw [← ht] at hcmp g0
        have HI : Hid (IntsAt w (.slice x R.length c) R) := hint
        have hc2 : (t.1.toList == id.toList) = true := by rw [ByteArray.toList_eq, ByteArray.toList_eq]; exact hcmp
        clear hint hs ht hv HX e1 hcmp
        go_wp2
        go_ret
        exact ⟨x, c, rfl, HI.out, rfl⟩
      | false =>
        rw [ht] at hcmp
        have hv := HX.out
        rw [years_miss ts k hkl (key id) hcmp] at hv
        rw [← ht] at hcmp g0
        have HV : Hid (yearsFor (keyed (ts.take k)) (key id) = R) := hv
        have hc2 : (t.1.toList == id.toList) = false := by rw [ByteArray.toList_eq, ByteArray.toList_eq]; exact hcmp
        clear hint hs ht hv HX g1 e1 hcmp
        go_wp2
        go_round
        case rel => exact ⟨k, by omega, rfl, HV⟩
        case measure => simp [intOf]
    · obtain rfl : k = 0 := by omega
      have hR : R = [] := HX.out.symm
      subst hR
      go_wp2
      go_ret
      exact ⟨none, 0, rfl, ⟨none, 0, rfl, fun _ => rfl, fun t ht => absurd ht (by simp)⟩, rfl⟩

end Go.Proofs.Qxb6616127a
