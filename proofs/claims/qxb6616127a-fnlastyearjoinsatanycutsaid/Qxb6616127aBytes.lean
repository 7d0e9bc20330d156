/-
  zzBytes_..: they only read, and answer a bool.
-/
import Derived.Test.Qxb6616127aFits
namespace Go.Proofs.Qxb6616127a
open Go.RowKit

def BoolEnd (e : Ending) (w w' : World) : Prop := ∃ B, e = .returned (.bool B) ∧ w = w'

set_option maxHeartbeats 2000000 in
theorem bytes17_any (a : Option Addr) (n ca : Nat) (ss : List ByteArray) (b : Option Addr) (m cb : Nat) (ts : List (ByteArray × List Int)) (j k y : Int) (w : World) (hn : n ≤ maxLen) (hm : m ≤ maxLen)
    (hyl : ∀ t, t < m → (ts.getD t (ByteArray.empty, [])).2.length ≤ maxLen) (hids : StrsAt w (.slice a n ca) ss) (hts : TestsAt w (.slice b m cb) ts) :
    Calls Try.prog 17 #[.slice a n ca, .slice b m cb, .int .i64 j, .int .i64 k, .int .i64 y] w fun e w' => BoolEnd e w w' := by
  unfold maxLen at hn hm
  have HI : Hid _ := hids.form
  have HT : Hid _ := hts.form
  have HL : Hid _ := hyl
  clear hids hts hyl
  by_cases hn2 : 1048576 < n
  · go_enter Try.func17, Try.ntmps17
    go_wp2
    go_ret
    exact ⟨false, rfl, rfl⟩
  · go_enter Try.func17, Try.ntmps17
    go_wp2
    go_loop [11, 12] (fun z i => ∃ (k : Nat) (T : Int), k ≤ n ∧ i = .int .i64 k ∧ z = .int .i64 T ∧ 0 ≤ T ∧ T ≤ 1048576) (fun _ i => n - (intOf i).toNat)
    case atStart => exact ⟨0, n, Nat.zero_le _, rfl, rfl, by omega, by omega⟩
    case round =>
      obtain ⟨k, T, hk, rfl, rfl, hT0, hT1⟩ := hrel
      by_cases hlt : k < n
      · obtain ⟨b', o', rfl, g0, hs⟩ := HI.out k hlt
        unfold maxLen at hs
        generalize ss.getD k ByteArray.empty = s at g0 hs
        by_cases hb : (1048576 : Int) < (s.size : Int)
        · go_wp2
          go_ret
          exact ⟨false, rfl, rfl⟩
        · by_cases hb2 : (1048576 : Int) < T + (s.size : Int)
          · go_wp2
            go_ret
            exact ⟨false, rfl, rfl⟩
          · go_wp2
            go_round
            case rel => exact ⟨k + 1, T + s.size, by omega, by go_num, rfl, by omega, by omega⟩
            case measure => simp [intOf]; omega
      · by_cases hm2 : (1048576 : Int) < (m : Int)
        · go_wp2
          go_ret
          exact ⟨false, rfl, rfl⟩
        · by_cases hm3 : (1048576 : Int) < T + (m : Int)
          · go_wp2
            go_ret
            exact ⟨false, rfl, rfl⟩
          · go_wp2
            clear hk hlt
            go_loop [11, 13] (fun z i => ∃ (k : Nat) (T : Int), k ≤ m ∧ i = .int .i64 k ∧ z = .int .i64 T ∧ 0 ≤ T ∧ T ≤ 1048576) (fun _ i => m - (intOf i).toNat)
            case atStart => exact ⟨0, T + m, Nat.zero_le _, rfl, rfl, by omega, by omega⟩
            case round =>
              obtain ⟨k, U, hk, rfl, rfl, hU0, hU1⟩ := hrel
              clear hT0 hT1 hm3
              by_cases hlt : k < m
              · obtain ⟨b', o', x, c, rfl, g0, hs, g1, hy⟩ := HT.out k hlt
                have hyl := HL.out k hlt
                clear hy
                unfold maxLen at hs hyl
                generalize ts.getD k (ByteArray.empty, []) = t at g0 hs g1 hyl
                by_cases hb : (1048576 : Int) < (t.1.size : Int)
                · go_wp2
                  go_ret
                  exact ⟨false, rfl, rfl⟩
                · by_cases hb2 : (1048576 : Int) < U + (t.1.size : Int)
                  · go_wp2
                    go_ret
                    exact ⟨false, rfl, rfl⟩
                  · by_cases hb3 : (1048576 : Int) < (t.2.length : Int)
                    · go_wp2
                      go_ret
                      exact ⟨false, rfl, rfl⟩
                    · by_cases hb4 : (1048576 : Int) < U + (t.1.size : Int) + (t.2.length : Int)
                      · go_wp2
                        go_ret
                        exact ⟨false, rfl, rfl⟩
                      · go_wp2
                        go_round
                        case rel => exact ⟨k + 1, U + t.1.size + t.2.length, by omega, by go_num, rfl, by omega, by omega⟩
                        case measure => simp [intOf]; omega
              · go_wp2
                go_ret
                exact ⟨true, rfl, rfl⟩

set_option maxHeartbeats 2000000 in
theorem bytes10_any (a : Option Addr) (n ca : Nat) (ss : List ByteArray) (b : Option Addr) (m cb : Nat) (ts : List (ByteArray × List Int)) (c : Int) (w : World) (hn : n ≤ maxLen) (hm : m ≤ maxLen)
    (hyl : ∀ t, t < m → (ts.getD t (ByteArray.empty, [])).2.length ≤ maxLen) (hids : StrsAt w (.slice a n ca) ss) (hts : TestsAt w (.slice b m cb) ts) :
    Calls Try.prog 10 #[.slice a n ca, .slice b m cb, .int .i64 c] w fun e w' => BoolEnd e w w' := by
  unfold maxLen at hn hm
  have HI : Hid _ := hids.form
  have HT : Hid _ := hts.form
  have HL : Hid _ := hyl
  clear hids hts hyl
  by_cases hn2 : 1048576 < n
  · go_enter Try.func10, Try.ntmps10
    go_wp2
    go_ret
    exact ⟨false, rfl, rfl⟩
  · go_enter Try.func10, Try.ntmps10
    go_wp2
    go_loop [7, 8] (fun z i => ∃ (k : Nat) (T : Int), k ≤ n ∧ i = .int .i64 k ∧ z = .int .i64 T ∧ 0 ≤ T ∧ T ≤ 1048576) (fun _ i => n - (intOf i).toNat)
    case atStart => exact ⟨0, n, Nat.zero_le _, rfl, rfl, by omega, by omega⟩
    case round =>
      obtain ⟨k, T, hk, rfl, rfl, hT0, hT1⟩ := hrel
      by_cases hlt : k < n
      · obtain ⟨b', o', rfl, g0, hs⟩ := HI.out k hlt
        unfold maxLen at hs
        generalize ss.getD k ByteArray.empty = s at g0 hs
        by_cases hb : (1048576 : Int) < (s.size : Int)
        · go_wp2
          go_ret
          exact ⟨false, rfl, rfl⟩
        · by_cases hb2 : (1048576 : Int) < T + (s.size : Int)
          · go_wp2
            go_ret
            exact ⟨false, rfl, rfl⟩
          · go_wp2
            go_round
            case rel => exact ⟨k + 1, T + s.size, by omega, by go_num, rfl, by omega, by omega⟩
            case measure => simp [intOf]; omega
      · by_cases hm2 : (1048576 : Int) < (m : Int)
        · go_wp2
          go_ret
          exact ⟨false, rfl, rfl⟩
        · by_cases hm3 : (1048576 : Int) < T + (m : Int)
          · go_wp2
            go_ret
            exact ⟨false, rfl, rfl⟩
          · go_wp2
            clear hk hlt
            go_loop [7, 9] (fun z i => ∃ (k : Nat) (T : Int), k ≤ m ∧ i = .int .i64 k ∧ z = .int .i64 T ∧ 0 ≤ T ∧ T ≤ 1048576) (fun _ i => m - (intOf i).toNat)
            case atStart => exact ⟨0, T + m, Nat.zero_le _, rfl, rfl, by omega, by omega⟩
            case round =>
              obtain ⟨k, U, hk, rfl, rfl, hU0, hU1⟩ := hrel
              clear hT0 hT1 hm3
              by_cases hlt : k < m
              · obtain ⟨b', o', x, c, rfl, g0, hs, g1, hy⟩ := HT.out k hlt
                have hyl := HL.out k hlt
                clear hy
                unfold maxLen at hs hyl
                generalize ts.getD k (ByteArray.empty, []) = t at g0 hs g1 hyl
                by_cases hb : (1048576 : Int) < (t.1.size : Int)
                · go_wp2
                  go_ret
                  exact ⟨false, rfl, rfl⟩
                · by_cases hb2 : (1048576 : Int) < U + (t.1.size : Int)
                  · go_wp2
                    go_ret
                    exact ⟨false, rfl, rfl⟩
                  · by_cases hb3 : (1048576 : Int) < (t.2.length : Int)
                    · go_wp2
                      go_ret
                      exact ⟨false, rfl, rfl⟩
                    · by_cases hb4 : (1048576 : Int) < U + (t.1.size : Int) + (t.2.length : Int)
                      · go_wp2
                        go_ret
                        exact ⟨false, rfl, rfl⟩
                      · go_wp2
                        go_round
                        case rel => exact ⟨k + 1, U + t.1.size + t.2.length, by omega, by go_num, rfl, by omega, by omega⟩
                        case measure => simp [intOf]; omega
              · go_wp2
                go_ret
                exact ⟨true, rfl, rfl⟩

end Go.Proofs.Qxb6616127a
