/-
  lastYearInputsFit, zzBytes_..: they only read.
-/
import Derived.Test.Qxb6616127aYears
namespace Go.Proofs.Qxb6616127a
open Go.RowKit

theorem StrsAt.form {w : World} {a : Option Addr} {n cap : Nat} {ss : List ByteArray} (h : StrsAt w (.slice a n cap) ss) : ∀ t, t < n → ∃ b o, a = some ⟨b, o, none⟩ ∧ w.cell? ⟨b, o + t, none⟩ = some (.string (ss.getD t ByteArray.empty)) ∧ (ss.getD t ByteArray.empty).size ≤ maxLen := by
  obtain ⟨a', c', hv, _, hc⟩ := h
  obtain ⟨rfl, rfl, _⟩ : a = a' ∧ n = ss.length ∧ cap = c' := by simpa using hv
  exact hc

def FitsEnd (ts : List (ByteArray × List Int)) (m : Nat) (e : Ending) (w w' : World) : Prop :=
  ∃ B, e = .returned (.bool B) ∧ (B = true → ∀ t, t < m → (ts.getD t (ByteArray.empty, [])).2.length ≤ 131072) ∧ w = w'

set_option maxHeartbeats 1000000 in
theorem fits_any (a : Option Addr) (n ca : Nat) (ss : List ByteArray) (b : Option Addr) (m cb : Nat) (ts : List (ByteArray × List Int)) (w : World) (hn : n ≤ 4096) (hm : m ≤ 65536)
    (hids : StrsAt w (.slice a n ca) ss) (hts : TestsAt w (.slice b m cb) ts) :
    Calls Try.prog 11 #[.slice a n ca, .slice b m cb] w fun e w' => FitsEnd ts m e w w' := by
  have HI : Hid _ := hids.form
  have HT : Hid _ := hts.form
  clear hids hts
  go_enter Try.func11, Try.ntmps11
  go_wp2
  go_loop [5, 6] (fun z i => ∃ (k : Nat) (T : Int), k ≤ n ∧ i = .int .i64 k ∧ z = .int .i64 T ∧ 0 ≤ T ∧ T ≤ 1048576) (fun _ i => n - (intOf i).toNat)
  case atStart => exact ⟨0, 0, Nat.zero_le _, rfl, rfl, by omega, by omega⟩
  case round =>
    obtain ⟨k, T, hk, rfl, rfl, hT0, hT1⟩ := hrel
    by_cases hlt : k < n
    · obtain ⟨b', o', rfl, g0, hs⟩ := HI.out k hlt
      unfold maxLen at hs
      generalize ss.getD k ByteArray.empty = s at g0 hs
      by_cases hb : 1048560 - T < (s.size : Int)
      · go_wp2
        go_ret
        exact ⟨false, rfl, (fun h => by cases h), rfl⟩
      · go_wp2
        go_round
        case rel => exact ⟨k + 1, T + (s.size + 16), by omega, by go_num, rfl, by omega, by omega⟩
        case measure => simp [intOf]; omega
    · go_wp2
      clear hk hlt
      go_loop [5, 7] (fun z i => ∃ (k : Nat) (T : Int), k ≤ m ∧ i = .int .i64 k ∧ z = .int .i64 T ∧ 0 ≤ T ∧ T ≤ 1048576 ∧ Hid (∀ t, t < k → (ts.getD t (ByteArray.empty, [])).2.length ≤ 131072)) (fun _ i => m - (intOf i).toNat)
      case atStart => exact ⟨0, T, Nat.zero_le _, rfl, rfl, by omega, by omega, fun t ht => absurd ht (by omega)⟩
      case round =>
        obtain ⟨k, T, hk, rfl, rfl, hT0, hT1, HL⟩ := hrel
        by_cases hlt : k < m
        · obtain ⟨b', o', x, c, rfl, g0, hs, g1, hy⟩ := HT.out k hlt
          clear hy
          unfold maxLen at hs
          obtain ⟨t, ht⟩ : ∃ t, t = ts.getD k (ByteArray.empty, []) := ⟨_, rfl⟩
          rw [← ht] at g0 hs g1
          have HD : Hid (t = ts.getD k (ByteArray.empty, [])) := ht
          clear ht
          by_cases hb : 1048560 - T < (t.1.size : Int)
          · go_wp2
            go_ret
            exact ⟨false, rfl, (fun h => by cases h), rfl⟩
          · by_cases hb2 : (1048576 - (T + ((t.1.size : Int) + 16))) / 8 < (t.2.length : Int)
            · go_wp2
              go_ret
              exact ⟨false, rfl, (fun h => by cases h), rfl⟩
            · go_wp2
              go_round
              case rel => exact ⟨k + 1, T + (t.1.size + 16) + 8 * t.2.length, by omega, by go_num, rfl, by omega, by omega, fun j hj => by
                by_cases e : j = k
                · subst e; rw [← HD.out]; omega
                · exact HL.out j (by omega)⟩
              case measure => simp [intOf]; omega
        · obtain rfl : k = m := by omega
          go_wp2
          go_ret
          exact ⟨true, rfl, fun _ => HL.out, rfl⟩

end Go.Proofs.Qxb6616127a
