/-
  plan.LastYear.
-/
import Derived.Test.Qxb6616127aMem
import Derived.Test.Qxb6616127aPlain
namespace Go.Proofs.Qxb6616127a
open Go.RowKit

theorem int_eq {k : IntKind} {a b : Int} (h : a = b) : Value.int k a = Value.int k b := by rw [h]

theorem years_succ (A : Int) (zs : List Int) (t : Nat) (h : t < zs.length) : yearsMax A (zs.take (t + 1)) = mxI (yearsMax A (zs.take t)) (zs.getD t 0) := by
  have e : zs.getD t 0 = zs[t] := by simp [List.getD, h]
  rw [List.take_succ_eq_append_getElem h, e]
  unfold yearsMax
  rw [List.foldl_append]
  rfl

theorem last_succ (look : List UInt8 → List Int) (ss : List ByteArray) (k : Nat) (h : k < ss.length) :
    lastFrom look 0 ((ss.take (k + 1)).map key) = yearsMax (lastFrom look 0 ((ss.take k).map key)) (look (key (ss.getD k ByteArray.empty))) := by
  have e : ss.getD k ByteArray.empty = ss[k] := by simp [List.getD, h]
  rw [List.take_succ_eq_append_getElem h, e, List.map_append]
  unfold lastFrom
  rw [List.foldl_append]
  rfl

/-- What the map value M gives at the id s. -/
def LookAt (w : World) (M : Value) (look : List UInt8 → List Int) (s : ByteArray) : Prop :=
  ∃ x0 x1 a c x3 x4 x5 x6, (Instr.lookup 35 M (.string s) false).run Try.prog w = .ok (.agg #[x0, x1, .slice a (look (key s)).length c, x3, x4, x5, x6]) w ∧ IntsAt w (.slice a (look (key s)).length c) (look (key s))

theorem field_years (x0 x1 : Value) (a : Option Addr) (n c : Nat) (x3 x4 x5 x6 : Value) (w : World) : (Instr.field 48 (.agg #[x0, x1, .slice a n c, x3, x4, x5, x6]) 2).run Try.prog w = .ok (.slice a n c) w := by kernel_rfl

set_option maxHeartbeats 1000000 in
theorem last_any (a : Option Addr) (cap n : Nat) (ss : List ByteArray) (M : Value) (look : List UInt8 → List Int) (w : World) (hn : n ≤ 1048576) (hss : ss.length = n)
    (hids : StrsAt w (.slice a n cap) ss) (hlen : ∀ s ∈ ss, (look (key s)).length ≤ 1048576) (hlook : ∀ s ∈ ss, LookAt w M look s) :
    Calls Try.prog 13 #[.slice a n cap, M] w fun e w' => e = .returned (.int .i64 (lastFrom look 0 (ss.map key))) ∧ w = w' := by
  have HI : Hid (∀ t, t < n → ∃ b o, a = some ⟨b, o, none⟩ ∧ w.cell? ⟨b, o + t, none⟩ = some (.string (ss.getD t ByteArray.empty))) := by
    obtain ⟨a', c', hv, _, hc⟩ := hids
    obtain ⟨rfl, rfl, _⟩ : a = a' ∧ n = ss.length ∧ cap = c' := by simpa using hv
    intro t ht
    obtain ⟨b, o, ha, hcell, _⟩ := hc t ht
    exact ⟨b, o, ha, hcell⟩
  have HL : Hid (∀ s ∈ ss, LookAt w M look s) := hlook
  have HN : Hid (∀ s ∈ ss, (look (key s)).length ≤ 1048576) := hlen
  have HS : Hid (ss.length = n) := hss
  clear hids hlook hlen hss
  go_enter Try.func13, Try.ntmps13
  go_wp2
  go_loop [5, 12] (fun m i => ∃ k : Nat, k ≤ n ∧ i = .int .i64 k ∧ m = .int .i64 (lastFrom look 0 ((ss.take k).map key))) (fun _ i => n - (intOf i).toNat)
  case atStart => exact ⟨0, Nat.zero_le _, rfl, rfl⟩
  case round =>
    obtain ⟨k, hk, rfl, rfl⟩ := hrel
    by_cases hlt : k < n
    · obtain ⟨b', o', rfl, g0⟩ := HI.out k hlt
      obtain ⟨s, hs⟩ : ∃ s, s = ss.getD k ByteArray.empty := ⟨_, rfl⟩
      rw [← hs] at g0
      have hmem : s ∈ ss := by
        have : k < ss.length := by rw [HS.out]; exact hlt
        rw [hs]; simp [List.getD, this]
      obtain ⟨x0, x1, ay, cy, x3, x4, x5, x6, hrun, hy⟩ := HL.out s hmem
      have hl := HN.out s hmem
      have HD : Hid (s = ss.getD k ByteArray.empty) := hs
      clear hs
      obtain ⟨zs, hzs⟩ : ∃ zs, zs = look (key s) := ⟨_, rfl⟩
      rw [← hzs] at hrun hy hl
      have HZ : Hid (zs = look (key s)) := hzs
      clear hzs hmem
      have HY : Hid (∀ t, t < zs.length → ∃ b o, ay = some ⟨b, o, none⟩ ∧ w.cell? ⟨b, o + t, none⟩ = some (.int .i64 (zs.getD t 0))) := by
        obtain ⟨a', c', hv, _, hc⟩ := hy
        obtain ⟨rfl, _⟩ : ay = a' ∧ cy = c' := by simpa using hv
        exact hc
      clear hy
      obtain ⟨A, hA⟩ : ∃ A, A = lastFrom look 0 ((ss.take k).map key) := ⟨_, rfl⟩
      rw [← hA]
      have HA : Hid (A = lastFrom look 0 ((ss.take k).map key)) := hA
      clear hA
      have hf := field_years x0 x1 ay zs.length cy x3 x4 x5 x6 w
      go_wp2
      go_loop [5, 21] (fun m i => ∃ t : Nat, t ≤ zs.length ∧ i = .int .i64 t ∧ m = .int .i64 (yearsMax A (zs.take t))) (fun _ i => zs.length - (intOf i).toNat)
      case atStart => exact ⟨0, Nat.zero_le _, rfl, rfl⟩
      case round =>
        obtain ⟨t, ht, rfl, rfl⟩ := hrel
        by_cases hlt2 : t < zs.length
        · obtain ⟨b2, o2, rfl, g2⟩ := HY.out t hlt2
          obtain ⟨y, hy⟩ : ∃ y, y = zs.getD t 0 := ⟨_, rfl⟩
          rw [← hy] at g2
          have HE : Hid (y = zs.getD t 0) := hy
          clear hy hf hrun
          go_wp2
          go_round
          case rel => exact ⟨t + 1, by omega, by go_num, int_eq (by rw [years_succ A zs t hlt2, ← HE.out]; rfl)⟩
          case measure => simp [intOf]; omega
        · clear hf hrun
          go_wp2
          go_round
          case rel => exact ⟨k + 1, by omega, by go_num, int_eq (by rw [last_succ look ss k (by rw [HS.out]; exact hlt), ← HA.out, ← HD.out, ← HZ.out, List.take_of_length_le (by omega)])⟩
          case measure => simp [intOf]; omega
    · go_wp2
      go_ret
      have e : ss.take k = ss := List.take_of_length_le (by rw [HS.out]; omega)
      exact ⟨ret_int (by rw [← List.map_take, e]), rfl⟩

end Go.Proofs.Qxb6616127a
