/-
  THE READERS: zzEq, zzBareWord, zzSameWords.
-/
import Derived.Test.Qxb6616016aSmall
import Derived.Deep.QuietTactic
import Derived.BigQuiet
namespace Go.Proofs.Qxb6616016a
open Go.RowKit

/-- The slice value v holds the bytes zs. -/
def BytesAt (w : World) (v : Value) (zs : List Int) : Prop :=
  ∃ a cap, v = .slice a zs.length cap ∧ ∀ t, t < zs.length → ∃ b o, a = some ⟨b, o, none⟩ ∧ w.cell? ⟨b, o + t, none⟩ = some (.int .u8 (zs.getD t 0))

theorem BytesAt.form {w : World} {v : Value} {zs : List Int} (h : BytesAt w v zs) (hne : zs ≠ []) :
    ∃ b o cap, v = .slice (some ⟨b, o, none⟩) zs.length cap ∧ ∀ t, t < zs.length → w.cell? ⟨b, o + t, none⟩ = some (.int .u8 (zs.getD t 0)) := by
  obtain ⟨a, cap, hv, hc⟩ := h
  obtain ⟨b, o, ha, _⟩ := hc 0 (by cases zs <;> simp_all)
  refine ⟨b, o, cap, by rw [hv, ha], fun t ht => ?_⟩
  obtain ⟨b', o', ha', hc'⟩ := hc t ht
  rw [ha] at ha'
  obtain ⟨rfl, rfl⟩ : b = b' ∧ o = o' := by simpa using ha'
  exact hc'

set_option maxHeartbeats 400000 in
theorem eq_some (ba oa ca bb ob cb n : Nat) (A : List Int) (w : World) (hA : A.length = n) (hn : n ≤ 1048576)
    (hca : ∀ t, t < n → w.cell? ⟨ba, oa + t, none⟩ = some (.int .u8 (A.getD t 0))) (hcb : ∀ t, t < n → w.cell? ⟨bb, ob + t, none⟩ = some (.int .u8 (A.getD t 0))) :
    Calls Try.prog 13 #[.slice (some ⟨ba, oa, none⟩) n ca, .slice (some ⟨bb, ob, none⟩) n cb] w fun e w' => e = .returned (.bool true) ∧ ∃ q, w' = w.drewN q := by
  go_enter Try.func13, Try.ntmps13
  go_wp2
  go_loopw [5] (fun i wr => ∃ k : Nat, k ≤ n ∧ i = .int .i64 k ∧ ∃ q, wr = w.drewN q) (fun i _ => n - (intOf i).toNat)
  case atStart => exact ⟨0, Nat.zero_le _, rfl, 0, rfl⟩
  case round =>
    obtain ⟨k, hk, rfl, q, rfl⟩ := hrel
    by_cases hlt : k < n
    · have ga := hca k hlt
      have gb := hcb k hlt
      have i1 : (0 : Int) ≤ (k : Int) := by omega
      have i2 : (k : Int) < (n : Int) := by omega
      clear hca hcb
      go_wp2
      go_quiet (fail)
      go_wp2
      go_roundw
      case rel => exact ⟨k + 1, by omega, by go_num, _, rfl⟩
      case measure => simp [intOf]; omega
    · go_wp2
      go_ret
      exact ⟨rfl, _, rfl⟩

set_option maxHeartbeats 400000 in
theorem eq_none (a b : Option Addr) (ca cb : Nat) (w : World) :
    Calls Try.prog 13 #[.slice a 0 ca, .slice b 0 cb] w fun e w' => e = .returned (.bool true) ∧ ∃ q, w' = w.drewN q := by
  go_enter Try.func13, Try.ntmps13
  go_wp2
  refine wp_loop_rounds 1 ?_
  rw [rounds_succ]
  go_wp2
  go_ret
  exact ⟨rfl, 0, rfl⟩

theorem eq_any (x y : Value) (zs : List Int) (w : World) (hn : zs.length ≤ 1048576) (hx : BytesAt w x zs) (hy : BytesAt w y zs) :
    Calls Try.prog 13 #[x, y] w fun e w' => e = .returned (.bool true) ∧ ∃ q, w' = w.drewN q := by
  by_cases h0 : zs = []
  · subst h0
    obtain ⟨a, ca, rfl, _⟩ := hx
    obtain ⟨b, cb, rfl, _⟩ := hy
    exact eq_none a b ca cb w
  · obtain ⟨ba, oa, ca, rfl, hca⟩ := hx.form h0
    obtain ⟨bb, ob, cb, rfl, hcb⟩ := hy.form h0
    exact eq_some ba oa ca bb ob cb _ zs w rfl hn hca hcb

def bareW (zs : List Int) : Bool := !zs.isEmpty && zs.all bareB

theorem all_take_succ (zs : List Int) (k : Nat) (h : k < zs.length) (p : Int → Bool) : (zs.take (k + 1)).all p = ((zs.take k).all p && p (zs.getD k 0)) := by
  rw [List.take_succ_eq_append_getElem h, List.all_append]
  simp [List.getD, h]

set_option maxHeartbeats 400000 in
theorem bareWord_some (b o c n : Nat) (A : List Int) (w : World) (hA : A.length = n) (h0 : 0 < n) (hn : n ≤ 1048576)
    (hca : ∀ t, t < n → w.cell? ⟨b, o + t, none⟩ = some (.int .u8 (A.getD t 0))) :
    Calls Try.prog 12 #[.slice (some ⟨b, o, none⟩) n c] w fun e w' => e = .returned (.bool (A.all bareB)) ∧ w = w' := by
  have hne : ((n : Int) == 0) = false := by simp; omega
  go_enter Try.func12, Try.ntmps12
  go_wp2
  go_loop [3] (fun i => ∃ k : Nat, k ≤ n ∧ i = .int .i64 k ∧ (A.take k).all bareB = true) (fun i => n - (intOf i).toNat)
  case atStart => exact ⟨0, Nat.zero_le _, rfl, rfl⟩
  case round =>
    obtain ⟨k, hk, rfl, hall⟩ := hrel
    have HA : Hid ((A.take k).all bareB = true) := hall
    clear hall
    by_cases hlt : k < n
    · have ga := hca k hlt
      clear hca
      obtain ⟨c, hc⟩ : ∃ c, c = A.getD k 0 := ⟨_, rfl⟩
      rw [← hc] at ga
      have HC : Hid (c = A.getD k 0) := hc
      clear hc
      cases hb : bareB c with
      | true =>
        go_wp2_with (go_at_call 6; refine (bareByte_any _ _).mono ?_; rintro e w' ⟨rfl, rfl⟩)
        go_round
        case rel => exact ⟨k + 1, by omega, by go_num, by rw [all_take_succ A k (by omega), HA.out, ← HC.out, hb]; rfl⟩
        case measure => simp [intOf]; omega
      | false =>
        go_wp2_with (go_at_call 6; refine (bareByte_any _ _).mono ?_; rintro e w' ⟨rfl, rfl⟩)
        go_ret
        have hF : A.all bareB = false := by
          rw [List.all_eq_false]
          have hkA : k < A.length := by omega
          refine ⟨A.getD k 0, by simp [List.getD, hkA], by rw [← HC.out, hb]; simp⟩
        exact ⟨ret_bool hF.symm, rfl⟩
    · go_wp2
      go_ret
      have hT : A.all bareB = true := by
        have := HA.out
        rwa [List.take_of_length_le (by omega)] at this
      exact ⟨ret_bool hT.symm, rfl⟩

set_option maxHeartbeats 400000 in
theorem bareWord_none (a : Option Addr) (c : Nat) (w : World) :
    Calls Try.prog 12 #[.slice a 0 c] w fun e w' => e = .returned (.bool false) ∧ w = w' := by
  go_enter Try.func12, Try.ntmps12
  go_wp2
  go_ret
  exact ⟨rfl, rfl⟩

theorem bareWord_any (x : Value) (zs : List Int) (w : World) (hn : zs.length ≤ 1048576) (hx : BytesAt w x zs) :
    Calls Try.prog 12 #[x] w fun e w' => e = .returned (.bool (bareW zs)) ∧ w = w' := by
  by_cases h0 : zs = []
  · subst h0
    obtain ⟨a, ca, rfl, _⟩ := hx
    exact bareWord_none a ca w
  · obtain ⟨ba, oa, ca, rfl, hca⟩ := hx.form h0
    have hb : bareW zs = zs.all bareB := by cases zs <;> simp_all [bareW]
    rw [hb]
    exact bareWord_some ba oa ca _ zs w rfl (by cases zs <;> simp_all) hn hca

end Go.Proofs.Qxb6616016a
