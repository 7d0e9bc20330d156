/-
  zzBytes_.., gradeRowsFit: they only read.
-/
import Derived.Test.Qxb6616127aPers
namespace Go.Proofs.Qxb6616127a
open Go.RowKit

def AnyBool (e : Ending) (w w' : World) : Prop := ∃ B, e = .returned (.bool B) ∧ w = w'

set_option maxHeartbeats 2000000 in
theorem gbytes_any (a : Option Addr) (n cap : Nat) (rs : List (ByteArray × Int × Int)) (g : ByteArray) (c x k : Int) (w : World) (hn : n ≤ maxLen) (hg : g.size ≤ maxLen) (hsz : ∀ t, t < n → (rs.getD t (ByteArray.empty, 0, 0)).1.size ≤ maxLen) (h : RowsAt w (.slice a n cap) rs) :
    Calls Try.prog 6 #[.slice a n cap, .string g, .int .i64 c, .int .i32 x, .int .i64 k] w fun e w' => AnyBool e w w' := by
  unfold maxLen at hn hg
  have HF : Hid _ := h.form.2.2
  have HS : Hid _ := hsz
  clear h hsz
  by_cases hn2 : 1048576 < n
  · go_enter Try.func6, Try.ntmps6
    go_wp2
    go_ret
    exact ⟨false, rfl, rfl⟩
  · go_enter Try.func6, Try.ntmps6
    go_wp2
    go_loop [11, 12] (fun z i => ∃ (t : Nat) (T : Int), t ≤ n ∧ i = .int .i64 t ∧ z = .int .i64 T ∧ 0 ≤ T ∧ T ≤ 1048576) (fun _ i => n - (intOf i).toNat)
    case atStart => exact ⟨0, n, Nat.zero_le _, rfl, rfl, by omega, by omega⟩
    case round =>
      obtain ⟨t, T, ht, rfl, rfl, hT0, hT1⟩ := hrel
      by_cases hlt : t < n
      · obtain ⟨b, o, rfl, g0, _, _⟩ := HF.out t hlt
        have hs := HS.out t hlt
        unfold maxLen at hs
        generalize (rs.getD t (ByteArray.empty, 0, 0)).1 = s at g0 hs
        by_cases hb : (1048576 : Int) < (s.size : Int)
        · go_wp2
          go_ret
          exact ⟨false, rfl, rfl⟩
        · by_cases hb2 : (1048576 : Int) < T + (s.size : Int)
          · go_wp2
            go_ret
            exact ⟨false, rfl, rfl⟩
          · go_wp2
            go_round
            case rel => exact ⟨t + 1, T + s.size, by omega, by go_num, rfl, by omega, by omega⟩
            case measure => simp [intOf]; omega
      · by_cases hb : (1048576 : Int) < (g.size : Int)
        · go_wp2
          go_ret
          exact ⟨false, rfl, rfl⟩
        · by_cases hb2 : (1048576 : Int) < T + (g.size : Int)
          · go_wp2
            go_ret
            exact ⟨false, rfl, rfl⟩
          · go_wp2
            go_ret
            exact ⟨true, rfl, rfl⟩

set_option maxHeartbeats 1000000 in
theorem gfit_any (a : Option Addr) (n cap : Nat) (rs : List (ByteArray × Int × Int)) (u : Int) (w : World) (hn : n ≤ 65536) (hu : 0 ≤ u ∧ u ≤ 1048576) (hsz : ∀ t, t < n → (rs.getD t (ByteArray.empty, 0, 0)).1.size ≤ maxLen) (h : RowsAt w (.slice a n cap) rs) :
    Calls Try.prog 7 #[.slice a n cap, .int .i64 u] w fun e w' => AnyBool e w w' := by
  have HF : Hid _ := h.form.2.2
  have HS : Hid _ := hsz
  clear h hsz
  go_enter Try.func7, Try.ntmps7
  go_wp2
  go_loop [5, 6] (fun z i => ∃ (t : Nat) (T : Int), t ≤ n ∧ i = .int .i64 t ∧ z = .int .i64 T ∧ 0 ≤ T ∧ T ≤ 1048576) (fun _ i => n - (intOf i).toNat)
  case atStart => exact ⟨0, u, Nat.zero_le _, rfl, rfl, hu.1, hu.2⟩
  case round =>
    obtain ⟨t, T, ht, rfl, rfl, hT0, hT1⟩ := hrel
    by_cases hlt : t < n
    · obtain ⟨b, o, rfl, g0, _, _⟩ := HF.out t hlt
      have hs := HS.out t hlt
      unfold maxLen at hs
      generalize (rs.getD t (ByteArray.empty, 0, 0)).1 = s at g0 hs
      by_cases hb : 1048560 - T < (s.size : Int)
      · go_wp2
        go_ret
        exact ⟨false, rfl, rfl⟩
      · go_wp2
        go_round
        case rel => exact ⟨t + 1, T + (s.size + 16), by omega, by go_num, rfl, by omega, by omega⟩
        case measure => simp [intOf]; omega
    · go_wp2
      go_ret
      exact ⟨true, rfl, rfl⟩

end Go.Proofs.Qxb6616127a
