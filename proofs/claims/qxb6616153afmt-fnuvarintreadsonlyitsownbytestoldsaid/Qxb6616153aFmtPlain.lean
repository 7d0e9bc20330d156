/-
  PLAIN: the shortest varint at the front of some bytes. No Go in sight.
-/
import Derived.Lib.VarintDec
namespace Go.Proofs.Qxb6616153aFmt

/-- The place of the first byte below 128 among the first k. -/
def stop : Nat → List UInt8 → Option Nat
  | 0, _ => none
  | _ + 1, [] => none
  | k + 1, b :: r => if b.toNat < 128 then some 0 else (stop k r).map (· + 1)

/-- What groups of seven bits spell, the least first. -/
def valL : List UInt8 → Nat
  | [] => 0
  | b :: r => b.toNat % 128 + 128 * valL r

/-- The shortest varint at the front: its value and its length. -/
def shortV (l : List UInt8) : Option (Nat × Nat) :=
  match stop 10 l with
  | none => none
  | some t => if (t = 9 ∧ 1 < (l.getD t 0).toNat) ∨ (0 < t ∧ (l.getD t 0).toNat = 0) then none else some (valL (l.take (t + 1)), t + 1)

theorem stop_some : ∀ (k : Nat) (l : List UInt8) (t : Nat), stop k l = some t → t < k ∧ t < l.length ∧ (l.getD t 0).toNat < 128 ∧ ∀ j, j < t → 128 ≤ (l.getD j 0).toNat
  | 0, _, _, h => by simp [stop] at h
  | _ + 1, [], _, h => by simp [stop] at h
  | k + 1, b :: r, t, h => by
    unfold stop at h
    by_cases hb : b.toNat < 128
    · rw [if_pos hb] at h
      cases h
      exact ⟨by omega, by simp, by simpa using hb, fun j hj => absurd hj (by omega)⟩
    · rw [if_neg hb] at h
      cases hs : stop k r with
      | none => rw [hs] at h; simp at h
      | some s =>
        rw [hs] at h
        simp at h
        subst h
        obtain ⟨h1, h2, h3, h4⟩ := stop_some k r s hs
        refine ⟨by omega, by simp; omega, by simpa using h3, fun j hj => ?_⟩
        cases j with
        | zero => simpa using hb
        | succ j => simpa using h4 j (by omega)

theorem stop_none : ∀ (k : Nat) (l : List UInt8), stop k l = none → ∀ j, j < k → j < l.length → 128 ≤ (l.getD j 0).toNat
  | 0, _, _, j, hj, _ => absurd hj (by omega)
  | _ + 1, [], _, j, _, hj => absurd hj (by simp)
  | k + 1, b :: r, h, j, hj, hl => by
    unfold stop at h
    by_cases hb : b.toNat < 128
    · rw [if_pos hb] at h
      cases h
    · rw [if_neg hb] at h
      have hs : stop k r = none := by
        cases hs : stop k r with
        | none => rfl
        | some s => rw [hs] at h; simp at h
      cases j with
      | zero => simpa using hb
      | succ j => simpa using stop_none k r hs j (by omega) (by simp at hl; omega)

/-- The place is found wherever it is the first. -/
theorem stop_of (k : Nat) (l : List UInt8) (t : Nat) (h1 : t < k) (h2 : t < l.length) (h3 : (l.getD t 0).toNat < 128) (h4 : ∀ j, j < t → 128 ≤ (l.getD j 0).toNat) : stop k l = some t := by
  cases hs : stop k l with
  | none => exact absurd (stop_none k l hs t h1 h2) (by omega)
  | some s =>
    obtain ⟨g1, g2, g3, g4⟩ := stop_some k l s hs
    by_cases e : s = t
    · rw [e]
    · rcases Nat.lt_or_gt_of_ne e with h | h
      · exact absurd (h4 s h) (by omega)
      · exact absurd (g4 t h) (by omega)

theorem stop_none_of (k : Nat) (l : List UInt8) (h : ∀ j, j < k → j < l.length → 128 ≤ (l.getD j 0).toNat) : stop k l = none := by
  cases hs : stop k l with
  | none => rfl
  | some s =>
    obtain ⟨g1, g2, g3, _⟩ := stop_some k l s hs
    exact absurd (h s g1 g2) (by omega)

theorem pow7 (i : Nat) : (2 : Nat) ^ (7 * (i + 1)) = 128 * 2 ^ (7 * i) := by
  rw [show 7 * (i + 1) = 7 * i + 7 by omega, Nat.pow_add, Nat.mul_comm]

theorem from_stop : ∀ (l : List UInt8) (i acc : Nat), i ≤ 10 → Lib.uvarintFrom i acc l =
    match stop (10 - i) l with
    | some t => if i + t = 9 ∧ 1 < (l.getD t 0).toNat then (0, -10) else (acc + valL (l.take (t + 1)) * 2 ^ (7 * i), ((i + t + 1 : Nat) : Int))
    | none => if l.length ≤ 10 - i then (0, 0) else (0, -11)
  | [], i, acc, hi => by
    have : stop (10 - i) [] = none := by cases (10 - i) <;> rfl
    rw [this]
    simp [Lib.uvarintFrom]
  | b :: r, i, acc, hi => by
    by_cases h10 : i = 10
    · subst h10
      simp [Lib.uvarintFrom, stop]
    · obtain ⟨k, hk⟩ : ∃ k, 10 - i = k + 1 := ⟨9 - i, by omega⟩
      rw [hk]
      unfold stop Lib.uvarintFrom
      rw [if_neg h10]
      by_cases hb : b.toNat < 128
      · rw [if_pos hb, if_pos hb]
        by_cases h9 : i = 9 ∧ 1 < b.toNat
        · rw [if_pos h9]
          simp [h9.1, h9.2]
        · rw [if_neg h9]
          have : ¬ (i + 0 = 9 ∧ 1 < ((b :: r).getD 0 0).toNat) := by simpa using h9
          simp only [this, if_false]
          have e : b.toNat % 128 = b.toNat := Nat.mod_eq_of_lt hb
          simp [valL, e]
      · rw [if_neg hb, if_neg hb]
        have ih := from_stop r (i + 1) (acc + b.toNat % 128 * 2 ^ (7 * i)) (by omega)
        rw [show 10 - (i + 1) = k by omega] at ih
        rw [ih]
        cases hs : stop k r with
        | none =>
          simp only [Option.map_none, List.length_cons]
          by_cases hl : r.length ≤ k
          · rw [if_pos hl, if_pos (by omega)]
          · rw [if_neg hl, if_neg (by omega)]
        | some t =>
          simp only [Option.map_some]
          have e1 : (b :: r).getD (t + 1) 0 = r.getD t 0 := by simp
          rw [e1, show i + 1 + t = i + (t + 1) by omega]
          by_cases h9 : i + (t + 1) = 9 ∧ 1 < (r.getD t 0).toNat
          · rw [if_pos h9, if_pos h9]
          · rw [if_neg h9, if_neg h9]
            have e2 : (b :: r).take (t + 1 + 1) = b :: r.take (t + 1) := rfl
            rw [e2]
            simp only [valL]
            rw [pow7, Nat.add_mul, Nat.add_assoc]
            congr 3
            rw [← Nat.mul_assoc, Nat.mul_comm (valL _) 128]

/-- WHAT binary.Uvarint TELLS, and the shortest varint. -/
theorem dec_some {l : List UInt8} {v k : Nat} (h : shortV l = some (v, k)) :
    Lib.uvarintDec l = (v, (k : Int)) ∧ 1 ≤ k ∧ k ≤ 10 ∧ k ≤ l.length ∧ (1 < k → (l.getD (k - 1) 0).toNat ≠ 0) := by
  unfold shortV at h
  unfold Lib.uvarintDec
  rw [from_stop l 0 0 (by omega)]
  cases hs : stop 10 l with
  | none => rw [hs] at h; cases h
  | some t =>
    rw [hs] at h
    dsimp only at h
    obtain ⟨h1, h2, _, _⟩ := stop_some 10 l t hs
    by_cases hc : (t = 9 ∧ 1 < (l.getD t 0).toNat) ∨ (0 < t ∧ (l.getD t 0).toNat = 0)
    · rw [if_pos hc] at h; cases h
    · rw [if_neg hc] at h
      simp only [Option.some.injEq, Prod.mk.injEq] at h
      obtain ⟨rfl, rfl⟩ := h
      have hn : ¬ (0 + t = 9 ∧ 1 < (l.getD t 0).toNat) := by
        intro hx
        exact hc (.inl ⟨by omega, hx.2⟩)
      refine ⟨?_, by omega, by omega, by omega, fun hk => ?_⟩
      · simp only [if_neg hn]
        simp
      · intro hz
        exact hc (.inr ⟨by omega, by simpa using hz⟩)

theorem dec_none {l : List UInt8} (h : shortV l = none) :
    (Lib.uvarintDec l).2 = 0 ∨ (Lib.uvarintDec l).2 < 0 ∨ ∃ k : Nat, (Lib.uvarintDec l).2 = (k : Int) ∧ 1 < k ∧ k ≤ l.length ∧ (l.getD (k - 1) 0).toNat = 0 := by
  unfold shortV at h
  unfold Lib.uvarintDec
  rw [from_stop l 0 0 (by omega)]
  cases hs : stop 10 l with
  | none =>
    simp only [show 10 - 0 = 10 from rfl]
    by_cases hl : l.length ≤ 10
    · rw [if_pos hl]; exact .inl rfl
    · rw [if_neg hl]; exact .inr (.inl (by decide))
  | some t =>
    rw [hs] at h
    dsimp only at h
    obtain ⟨h1, h2, _, _⟩ := stop_some 10 l t hs
    dsimp only
    by_cases h9 : 0 + t = 9 ∧ 1 < (l.getD t 0).toNat
    · rw [if_pos h9]; exact .inr (.inl (by decide))
    · rw [if_neg h9]
      by_cases hc : (t = 9 ∧ 1 < (l.getD t 0).toNat) ∨ (0 < t ∧ (l.getD t 0).toNat = 0)
      · rcases hc with hc | hc
        · exact absurd ⟨by omega, hc.2⟩ h9
        · exact .inr (.inr ⟨t + 1, by simp, by omega, by omega, by simpa using hc.2⟩)
      · rw [if_neg hc] at h; cases h

theorem short_lt {l : List UInt8} {v k : Nat} (h : shortV l = some (v, k)) : v < 18446744073709551616 := by
  have := Lib.uvarintDec_lt l
  rw [(dec_some h).1] at this
  exact this

/-- The first place below 128 in a prefix. -/
theorem stop_take (k : Nat) (l : List UInt8) (m : Nat) : stop k (l.take m) = match stop k l with
    | some t => if t < m then some t else none
    | none => none := by
  have e : ∀ j, j < m → (l.take m).getD j 0 = l.getD j 0 := fun j hj => by simp [List.getD, hj]
  cases hs : stop k l with
  | none =>
    refine stop_none_of k _ fun j hj hl => ?_
    simp at hl
    rw [e j (by omega)]
    exact stop_none k l hs j hj (by omega)
  | some t =>
    obtain ⟨h1, h2, h3, h4⟩ := stop_some k l t hs
    dsimp only
    by_cases ht : t < m
    · rw [if_pos ht]
      exact stop_of k _ t h1 (by simp; omega) (by rw [e t ht]; exact h3) (fun j hj => by rw [e j (by omega)]; exact h4 j hj)
    · rw [if_neg ht]
      refine stop_none_of k _ fun j hj hl => ?_
      simp at hl
      rw [e j (by omega)]
      exact h4 j (by omega)

/-- A prefix that holds the varint reads the same. -/
theorem short_take {l : List UInt8} {v k : Nat} (h : shortV l = some (v, k)) (m : Nat) : shortV (l.take m) = if k ≤ m then some (v, k) else none := by
  unfold shortV at h ⊢
  rw [stop_take]
  cases hs : stop 10 l with
  | none => rw [hs] at h; cases h
  | some t =>
    rw [hs] at h
    dsimp only at h ⊢
    by_cases hc : (t = 9 ∧ 1 < (l.getD t 0).toNat) ∨ (0 < t ∧ (l.getD t 0).toNat = 0)
    · rw [if_pos hc] at h; cases h
    · rw [if_neg hc] at h
      simp only [Option.some.injEq, Prod.mk.injEq] at h
      obtain ⟨rfl, rfl⟩ := h
      by_cases ht : t < m
      · have e : (l.take m).getD t 0 = l.getD t 0 := by simp [List.getD, ht]
        rw [if_pos ht, if_pos (by omega)]
        dsimp only
        rw [e, if_neg hc, List.take_take, Nat.min_eq_left (by omega)]
      · rw [if_neg ht, if_neg (by omega)]

theorem short_take_none {l : List UInt8} (h : shortV l = none) (m : Nat) : shortV (l.take m) = none := by
  unfold shortV at h ⊢
  rw [stop_take]
  cases hs : stop 10 l with
  | none => rfl
  | some t =>
    rw [hs] at h
    dsimp only at h ⊢
    by_cases hc : (t = 9 ∧ 1 < (l.getD t 0).toNat) ∨ (0 < t ∧ (l.getD t 0).toNat = 0)
    · by_cases ht : t < m
      · have e : (l.take m).getD t 0 = l.getD t 0 := by simp [List.getD, ht]
        rw [if_pos ht]
        dsimp only
        rw [e, if_pos hc]
      · rw [if_neg ht]
    · rw [if_neg hc] at h; cases h

/-- The groups of the value. -/
theorem valL_lt : ∀ l : List UInt8, valL l < 128 ^ l.length
  | [] => by simp [valL]
  | b :: r => by
    have := valL_lt r
    have hb : b.toNat % 128 < 128 := Nat.mod_lt _ (by omega)
    rw [valL, List.length_cons, Nat.pow_succ]
    omega

theorem valL_group : ∀ (l : List UInt8) (j : Nat), j < l.length → valL l / 128 ^ j % 128 = (l.getD j 0).toNat % 128
  | [], _, h => absurd h (by simp)
  | b :: r, 0, _ => by simp [valL]
  | b :: r, j + 1, h => by
    have ih := valL_group r j (by simp at h; omega)
    rw [valL, Nat.pow_succ, Nat.mul_comm (128 ^ j) 128, ← Nat.div_div_eq_div_mul]
    have e : (b.toNat % 128 + 128 * valL r) / 128 = valL r := by
      have hb : b.toNat % 128 < 128 := Nat.mod_lt _ (by omega)
      omega
    rw [e, ih]
    simp

/-- What the success says of the bytes. -/
theorem short_bytes {l : List UInt8} {v k : Nat} (h : shortV l = some (v, k)) :
    v = valL (l.take k) ∧ 1 ≤ k ∧ k ≤ 10 ∧ k ≤ l.length ∧ (l.getD (k - 1) 0).toNat < 128 ∧ (∀ j, j + 1 < k → 128 ≤ (l.getD j 0).toNat) ∧ (1 < k → (l.getD (k - 1) 0).toNat ≠ 0) ∧ (k = 10 → (l.getD 9 0).toNat ≤ 1) := by
  unfold shortV at h
  cases hs : stop 10 l with
  | none => rw [hs] at h; cases h
  | some t =>
    rw [hs] at h
    dsimp only at h
    obtain ⟨h1, h2, h3, h4⟩ := stop_some 10 l t hs
    by_cases hc : (t = 9 ∧ 1 < (l.getD t 0).toNat) ∨ (0 < t ∧ (l.getD t 0).toNat = 0)
    · rw [if_pos hc] at h; cases h
    · rw [if_neg hc] at h
      simp only [Option.some.injEq, Prod.mk.injEq] at h
      obtain ⟨rfl, rfl⟩ := h
      refine ⟨rfl, by omega, by omega, by omega, by simpa using h3, fun j hj => h4 j (by omega), fun hk hz => hc (.inr ⟨by omega, by simpa using hz⟩), fun hk => ?_⟩
      have h9 : t = 9 := by omega
      subst h9
      by_cases hx : 1 < (l.getD 9 0).toNat
      · exact absurd (.inl ⟨rfl, hx⟩) hc
      · omega

/-- ... and the groups: the j-th group of seven bits of v is that of byte j. -/
theorem short_group {l : List UInt8} {v k : Nat} (h : shortV l = some (v, k)) (j : Nat) (hj : j < k) : v / 128 ^ j % 128 = (l.getD j 0).toNat % 128 := by
  obtain ⟨hv, h1, h2, h3, _⟩ := short_bytes h
  rw [hv, valL_group _ j (by simp; omega)]
  congr 2
  simp [List.getD, hj]

theorem short_top {l : List UInt8} {v k : Nat} (h : shortV l = some (v, k)) : v / 128 ^ k = 0 := by
  obtain ⟨hv, h1, h2, h3, _⟩ := short_bytes h
  have := valL_lt (l.take k)
  rw [List.length_take, Nat.min_eq_left h3] at this
  rw [hv]
  exact Nat.div_eq_of_lt this

end Go.Proofs.Qxb6616153aFmt
