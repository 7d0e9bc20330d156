/-
  isLastOf; cuts of a slice of strings.
-/
import Derived.Test.Qxb6616127aAux
namespace Go.Proofs.Qxb6616127a
open Go.RowKit

theorem IntsAt.cells {w : World} {a : Option Addr} {n cap : Nat} {zs : List Int} (h : IntsAt w (.slice a n cap) zs) : ∀ t, t < n → ∃ b o, a = some ⟨b, o, none⟩ ∧ w.cell? ⟨b, o + t, none⟩ = some (.int .i64 (zs.getD t 0)) := by
  obtain ⟨a', c', hv, _, hc⟩ := h
  obtain ⟨rfl, rfl, _⟩ : a = a' ∧ n = zs.length ∧ cap = c' := by simpa using hv
  exact hc

def SeenTo (s : Bool) (r : Int) (zs : List Int) (t : Nat) : Prop := s = true ↔ (r = 0 ∨ ∃ i, i < t ∧ zs.getD i 0 = r)

theorem SeenTo.yes {r : Int} {zs : List Int} {t : Nat} (e : zs.getD t 0 = r) : SeenTo true r zs (t + 1) :=
  ⟨fun _ => .inr ⟨t, by omega, e⟩, fun _ => rfl⟩
theorem SeenTo.no {s : Bool} {r : Int} {zs : List Int} {t : Nat} (h : SeenTo s r zs t) (e : zs.getD t 0 ≠ r) : SeenTo s r zs (t + 1) := by
  constructor
  · intro hs
    rcases h.1 hs with h0 | ⟨i, hi, he⟩
    · exact .inl h0
    · exact .inr ⟨i, by omega, he⟩
  · intro hs
    rcases hs with h0 | ⟨i, hi, he⟩
    · exact h.2 (.inl h0)
    · by_cases hit : i = t
      · subst hit; exact absurd he e
      · exact h.2 (.inr ⟨i, by omega, he⟩)

set_option maxHeartbeats 1000000 in
theorem isLast_any (r : Int) (a : Option Addr) (n cap : Nat) (zs : List Int) (w : World) (hn : n ≤ 1048576) (hz : zs.length = n) (h0 : 0 ≤ r) (hle : ∀ z ∈ zs, z ≤ r) (hin : r = 0 ∨ r ∈ zs) (h : IntsAt w (.slice a n cap) zs) :
    Calls Try.prog 15 #[.int .i64 r, .slice a n cap] w fun e w' => e = .returned (.bool true) ∧ w = w' := by
  have HI : Hid _ := h.cells
  have HLE : Hid (∀ t, t < n → zs.getD t 0 ≤ r) := by
    intro t ht
    have hlt : t < zs.length := by omega
    refine hle _ ?_
    simp [List.getD, hlt]
  have HIN : Hid (r = 0 ∨ ∃ i, i < n ∧ zs.getD i 0 = r) := by
    rcases hin with h | h
    · exact .inl h
    · obtain ⟨i, hi, rfl⟩ := List.getElem_of_mem h
      exact .inr ⟨i, by omega, by simp [List.getD, hi]⟩
  clear h hle hin
  go_enter Try.func15, Try.ntmps15
  go_wp2
  go_loop [5, 6] (fun sv i => ∃ (t : Nat) (s : Bool), t ≤ n ∧ i = .int .i64 t ∧ sv = .bool s ∧ Hid (SeenTo s r zs t)) (fun _ i => n - (intOf i).toNat)
  case atStart => exact ⟨0, _, Nat.zero_le _, rfl, rfl, by
    constructor
    · intro h; exact .inl (by simpa using h)
    · intro h
      rcases h with h | ⟨i, hi, _⟩
      · simpa using h
      · omega⟩
  case round =>
    obtain ⟨t, s, ht, rfl, rfl, HS⟩ := hrel
    by_cases hlt : t < n
    · obtain ⟨b, o, rfl, g0⟩ := HI.out t hlt
      have hl := HLE.out t hlt
      obtain ⟨z, hzd⟩ : ∃ z, z = zs.getD t 0 := ⟨_, rfl⟩
      rw [← hzd] at g0 hl
      have HD : Hid (z = zs.getD t 0) := hzd
      clear hzd
      by_cases he : z = r
      · subst he
        go_wp2
        go_round
        case rel => exact ⟨t + 1, true, by omega, by go_num, rfl, SeenTo.yes HD.out.symm⟩
        case measure => simp [intOf]; omega
      · have he' : (z == r) = false := by simpa using he
        go_wp2
        go_round
        case rel => exact ⟨t + 1, s, by omega, by go_num, rfl, HS.out.no (by rw [← HD.out]; exact he)⟩
        case measure => simp [intOf]; omega
    · obtain rfl : t = n := by omega
      have hs : s = true := HS.out.2 HIN.out
      subst hs
      go_wp2
      go_ret
      exact ⟨rfl, rfl⟩

theorem StrsAt.cells {w : World} {a : Option Addr} {n cap : Nat} {ss : List ByteArray} (h : StrsAt w (.slice a n cap) ss) : n = ss.length ∧ ∀ t, t < n → ∃ b o, a = some ⟨b, o, none⟩ ∧ w.cell? ⟨b, o + t, none⟩ = some (.string (ss.getD t ByteArray.empty)) ∧ (ss.getD t ByteArray.empty).size ≤ maxLen := by
  obtain ⟨a', c', hv, _, hc⟩ := h
  obtain ⟨rfl, rfl, _⟩ : a = a' ∧ n = ss.length ∧ cap = c' := by simpa using hv
  exact ⟨rfl, hc⟩

theorem strs_take {w : World} {g n cap : Nat} {ss : List ByteArray} (h : StrsAt w (.slice (some ⟨g, 0, none⟩) n cap) ss) (c : Nat) (hc : c ≤ n) : StrsAt w (.slice (some ⟨g, 0, none⟩) c cap) (ss.take c) := by
  obtain ⟨hn, hh⟩ := h.cells
  refine ⟨some ⟨g, 0, none⟩, cap, by simp; omega, (fun h => by cases h), fun t ht => ?_⟩
  have ht' : t < c := by simp at ht; omega
  obtain ⟨b, o, e, h1, h2⟩ := hh t (by omega)
  have eg : (ss.take c).getD t ByteArray.empty = ss.getD t ByteArray.empty := by simp [List.getD, ht']
  rw [eg]
  exact ⟨b, o, e, h1, h2⟩

theorem strs_drop {w : World} {g n cap cap' : Nat} {ss : List ByteArray} (h : StrsAt w (.slice (some ⟨g, 0, none⟩) n cap) ss) (c m : Nat) (A : Option Addr) (hm : c + m ≤ n) (hA : 0 < m → A = some ⟨g, c, none⟩) (hA0 : A = none → cap' = 0) :
    StrsAt w (.slice A m cap') ((ss.drop c).take m) := by
  obtain ⟨hn, hh⟩ := h.cells
  refine ⟨A, cap', by simp; omega, hA0, fun t ht => ?_⟩
  have ht' : t < m := by simp at ht; omega
  obtain ⟨b, o, e, h1, h2⟩ := hh (c + t) (by omega)
  obtain ⟨rfl, rfl⟩ : g = b ∧ 0 = o := by simpa using e
  have eg : ((ss.drop c).take m).getD t ByteArray.empty = ss.getD (c + t) ByteArray.empty := by simp [List.getD, ht']
  rw [eg]
  refine ⟨g, c, hA (by omega), ?_, h2⟩
  rw [Nat.zero_add] at h1
  exact h1

end Go.Proofs.Qxb6616127a
