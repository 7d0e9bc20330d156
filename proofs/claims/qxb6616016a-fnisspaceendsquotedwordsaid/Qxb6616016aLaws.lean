/-
  PLAIN LAWS of the plain functions.
-/
import Derived.Test.Qxb6616016aPlain
namespace Go.Proofs.Qxb6616016a

theorem aq_acc (L : List Int) (q : Int) (f i : Nat) (acc : List Int) : aqAt L q f i acc = (aqAt L q f i []).map (fun p => (acc ++ p.1, p.2)) := by
  induction f generalizing i acc with
  | zero => simp [aqAt]
  | succ f ih =>
    have step : ∀ (k : Nat) (x : Int), aqAt L q f k (acc ++ [x]) = (aqAt L q f k ([] ++ [x])).map (fun p => (acc ++ p.1, p.2)) := by
      intro k x
      rw [ih k (acc ++ [x]), ih k ([] ++ [x])]
      cases aqAt L q f k [] <;> simp
    simp only [aqAt]
    split
    · split
      · split <;> simp
      · split
        · exact step _ _
        · split
          · exact step _ _
          · split <;> exact step _ _
    · simp

theorem aq_bd (L : List Int) (q : Int) (f i : Nat) (ys : List Int) (j : Nat) (h : aqAt L q f i [] = some (ys, j)) :
    i < j ∧ j ≤ L.length ∧ ys.length + i ≤ j ∧ (j = L.length ∨ spB (L.getD j 0) = true) := by
  induction f generalizing i ys with
  | zero => simp [aqAt] at h
  | succ f ih =>
    have step : ∀ (k : Nat) (x : Int), i < k → aqAt L q f k ([] ++ [x]) = some (ys, j) → i < j ∧ j ≤ L.length ∧ ys.length + i ≤ j ∧ (j = L.length ∨ spB (L.getD j 0) = true) := by
      intro k x hk hx
      rw [aq_acc] at hx
      cases hy : aqAt L q f k [] with
      | none => rw [hy] at hx; simp at hx
      | some p =>
        obtain ⟨zs, j'⟩ := p
        rw [hy] at hx
        simp at hx
        obtain ⟨rfl, rfl⟩ := hx
        obtain ⟨a, b, c, d⟩ := ih k zs hy
        refine ⟨by omega, b, ?_, d⟩
        simp; omega
    simp only [aqAt] at h
    split at h
    · split at h
      · split at h
        · simp at h
        · rename_i hlt _ hn
          simp at h
          obtain ⟨rfl, rfl⟩ := h
          refine ⟨by omega, by omega, by simp, ?_⟩
          by_cases h1 : i + 1 = L.length
          · exact .inl h1
          · refine .inr ?_
            cases hs : spB (L.getD (i + 1) 0) with
            | true => rfl
            | false => exact absurd ⟨by omega, hs⟩ hn
      · split at h
        · exact step _ _ (by omega) h
        · split at h
          · exact step _ _ (by omega) h
          · split at h <;> exact step _ _ (by omega) h
    · simp at h

theorem aw_acc (L : List Int) (f i : Nat) (acc : List Int) : awAt L f i acc = (awAt L f i []).map (fun p => (acc ++ p.1, p.2)) := by
  induction f generalizing i acc with
  | zero => simp [awAt]
  | succ f ih =>
    simp only [awAt]
    split
    · split
      · simp
      · split
        · exact aq_acc _ _ _ _ _
        · rw [ih (i + 1) (acc ++ [L.getD i 0]), ih (i + 1) ([] ++ [L.getD i 0])]
          cases awAt L f (i + 1) [] <;> simp
    · simp

theorem aw_bd (L : List Int) (f i : Nat) (ys : List Int) (j : Nat) (hi : i ≤ L.length) (h : awAt L f i [] = some (ys, j)) :
    i ≤ j ∧ j ≤ L.length ∧ ys.length + i ≤ j ∧ (j = L.length ∨ spB (L.getD j 0) = true) ∧ (i < L.length → spB (L.getD i 0) = false → i < j) := by
  induction f generalizing i ys with
  | zero => simp [awAt] at h
  | succ f ih =>
    simp only [awAt] at h
    split at h
    · split at h
      · rename_i hlt hs
        simp at h
        obtain ⟨rfl, rfl⟩ := h
        have hsp : spB (L.getD i 0) = true := by rcases hs with h | h | h | h <;> rw [h] <;> rfl
        exact ⟨Nat.le_refl _, hi, by simp, .inr hsp, fun _ h => by rw [hsp] at h; cases h⟩
      · split at h
        · obtain ⟨a, b, c, d⟩ := aq_bd _ _ _ _ _ _ h
          exact ⟨by omega, b, by omega, d, fun _ _ => by omega⟩
        · rename_i hlt _ _
          rw [aw_acc] at h
          cases hy : awAt L f (i + 1) [] with
          | none => rw [hy] at h; simp at h
          | some p =>
            obtain ⟨zs, j'⟩ := p
            rw [hy] at h
            simp at h
            obtain ⟨rfl, rfl⟩ := h
            obtain ⟨a, b, c, d, _⟩ := ih (i + 1) zs (by omega) hy
            refine ⟨by omega, b, ?_, d, fun _ _ => by omega⟩
            simp; omega
    · simp at h
      obtain ⟨rfl, rfl⟩ := h
      exact ⟨Nat.le_refl _, hi, by simp, .inl (by omega), fun h => absurd h (by omega)⟩

theorem drop_cons {L : List Int} {i : Nat} {x : Int} {t : List Int} (h : L.drop i = x :: t) : i < L.length ∧ L.getD i 0 = x ∧ L.drop (i + 1) = t := by
  have hlt : i < L.length := by
    by_cases hh : i < L.length
    · exact hh
    · rw [List.drop_eq_nil_of_le (by omega)] at h; cases h
  rw [List.drop_eq_getElem_cons hlt] at h
  obtain ⟨h1, h2⟩ := List.cons.inj h
  exact ⟨hlt, by simp [List.getD, hlt, h1], h2⟩

theorem bare_not {c : Int} (h : bareB c = true) : c ≠ 32 ∧ c ≠ 9 ∧ c ≠ 13 ∧ c ≠ 10 ∧ c ≠ 11 ∧ c ≠ 12 ∧ c ≠ 34 ∧ c ≠ 39 := by
  unfold bareB at h
  simp at h
  omega

theorem sp_false {c : Int} (h : c ≠ 32 ∧ c ≠ 9 ∧ c ≠ 13 ∧ c ≠ 10 ∧ c ≠ 11 ∧ c ≠ 12) : spB c = false := by
  unfold spB
  simp
  omega

/-- A bare word to the line's end. -/
theorem aw_plain (L : List Int) (f i : Nat) (T : List Int) (hT : L.drop i = T) (hi : i ≤ L.length) (hp : ∀ x ∈ T, x ≠ 32 ∧ x ≠ 9 ∧ x ≠ 13 ∧ x ≠ 10 ∧ x ≠ 34 ∧ x ≠ 39) (hf : L.length < i + f) :
    awAt L f i [] = some (T, L.length) := by
  induction f generalizing i T with
  | zero => omega
  | succ f ih =>
    cases T with
    | nil =>
      have : L.length ≤ i := by have := congrArg List.length hT; simp at this; omega
      rw [awAt, if_neg (by omega), show i = L.length by omega]
    | cons x t =>
      obtain ⟨h1, h2, h3⟩ := drop_cons hT
      obtain ⟨p1, p2, p3, p4, p5, p6⟩ := hp x (by simp)
      rw [awAt, if_pos h1, h2, if_neg (by omega), if_neg (by omega), aw_acc, ih (i + 1) t h3 (by omega) (fun y hy => hp y (by simp [hy])) (by omega)]
      simp

/-- A quote that is not closed. -/
theorem aq_open (L : List Int) (q : Int) (f i : Nat) (acc : List Int) (hq : ∀ k, i ≤ k → k < L.length → L.getD k 0 ≠ q) : aqAt L q f i acc = none := by
  induction f generalizing i acc with
  | zero => rfl
  | succ f ih =>
    have step : ∀ (k : Nat) (a : List Int), i ≤ k → aqAt L q f k a = none := fun k a hk => ih k a (fun m hm hl => hq m (by omega) hl)
    rw [aqAt]
    split
    · rename_i hlt
      rw [if_neg (hq i (Nat.le_refl _) hlt)]
      split
      · exact step _ _ (by omega)
      · split
        · exact step _ _ (by omega)
        · split <;> exact step _ _ (by omega)
    · rfl

/-- A double quote that is closed, no backslash in it. -/
theorem aq_closed (L : List Int) (f i : Nat) (ws : List Int) (d : Int) (rest : List Int) (hT : L.drop i = ws ++ 34 :: d :: rest) (hp : ∀ x ∈ ws, x ≠ 34 ∧ x ≠ 92) (hf : L.length < i + f) :
    aqAt L 34 f i [] = if spB d = true then some (ws, i + ws.length + 1) else none := by
  induction f generalizing i ws with
  | zero =>
    have := congrArg List.length hT
    simp at this
    omega
  | succ f ih =>
    cases ws with
    | nil =>
      obtain ⟨h1, h2, h3⟩ := drop_cons hT
      obtain ⟨h4, h5, _⟩ := drop_cons h3
      rw [aqAt, if_pos h1, if_pos h2, h5]
      cases hs : spB d with
      | true => simp
      | false => simp [h4]
    | cons x t =>
      obtain ⟨h1, h2, h3⟩ := drop_cons hT
      obtain ⟨p1, p2⟩ := hp x (by simp)
      rw [aqAt, if_pos h1, h2, if_neg p1, if_neg (by omega), if_neg (by omega), if_neg (by omega), aq_acc, ih (i + 1) t h3 (fun y hy => hp y (by simp [hy])) (by omega)]
      cases spB d with
      | true => simp; omega
      | false => simp

theorem sp_end (L : List Int) (f : Nat) (ws : List (List Int)) (hf : 0 < f) : spAt L f L.length ws = some ws := by
  obtain ⟨f, rfl⟩ : ∃ g, f = g + 1 := ⟨f - 1, by omega⟩
  rw [spAt, if_neg (by omega)]

/-- LAW 1: a leading byte and a bare word. -/
theorem law_one (c : Int) (zs : List Int) (h0 : zs ≠ []) (hb : ∀ x ∈ zs, bareB x = true) :
    spAt (c :: zs) ((c :: zs).length + 1) 0 [] = if spB c = true then some [zs] else if c = 34 ∨ c = 39 then none else some [c :: zs] := by
  have hl : 0 < zs.length := List.length_pos_iff.2 h0
  have hplain : ∀ x ∈ zs, x ≠ 32 ∧ x ≠ 9 ∧ x ≠ 13 ∧ x ≠ 10 ∧ x ≠ 34 ∧ x ≠ 39 := fun x hx => by
    obtain ⟨a1, a2, a3, a4, a5, a6, a7, a8⟩ := bare_not (hb x hx); exact ⟨a1, a2, a3, a4, a7, a8⟩
  rw [spAt, if_pos (by simp)]
  show (if spB c = true then _ else _) = _
  cases hs : spB c with
  | true =>
    simp only [if_true]
    obtain ⟨y, t, rfl⟩ : ∃ y t, zs = y :: t := by cases zs with | nil => exact absurd rfl h0 | cons y t => exact ⟨y, t, rfl⟩
    have hy := bare_not (hb y (by simp))
    rw [show (c :: y :: t).length = t.length + 1 + 1 by simp, spAt, if_pos (by simp)]
    show (if spB y = true then _ else _) = _
    rw [sp_false ⟨hy.1, hy.2.1, hy.2.2.1, hy.2.2.2.1, hy.2.2.2.2.1, hy.2.2.2.2.2.1⟩]
    rw [aw_plain (c :: y :: t) _ 1 (y :: t) (by simp) (by simp) hplain (by simp; omega)]
    simp only [Bool.false_eq_true, if_false]
    exact sp_end _ _ _ (by omega)
  | false =>
    simp only [Bool.false_eq_true, if_false]
    by_cases hq : c = 34 ∨ c = 39
    · rw [if_pos hq]
      have : awAt (c :: zs) ((c :: zs).length + 1) 0 [] = none := by
        rw [awAt, if_pos (by simp)]
        rw [show (c :: zs).getD 0 0 = c from rfl, if_neg (by omega), if_pos hq]
        refine aq_open _ _ _ _ _ (fun k hk hlt => ?_)
        obtain ⟨k, rfl⟩ : ∃ m, k = m + 1 := ⟨k - 1, by omega⟩
        have hk2 : k < zs.length := by simpa using hlt
        have hm := hplain zs[k] (List.getElem_mem hk2)
        have he : (c :: zs).getD (k + 1) 0 = zs[k] := by simp [List.getD, hk2]
        rw [he]
        omega
      rw [this]
    · rw [if_neg hq]
      have hc : ∀ x ∈ c :: zs, x ≠ 32 ∧ x ≠ 9 ∧ x ≠ 13 ∧ x ≠ 10 ∧ x ≠ 34 ∧ x ≠ 39 := by
        intro x hx
        rcases List.mem_cons.1 hx with rfl | hx
        · have : spB x = false := hs
          unfold spB at this
          simp at this
          omega
        · exact hplain x hx
      rw [aw_plain (c :: zs) _ 0 (c :: zs) rfl (by simp) hc (by omega)]
      exact sp_end _ _ _ (by simp)

/-- LAW 2: a quoted text, a byte, a bare word or nothing. -/
theorem law_two (c : Int) (ws vs : List Int) (hw : ∀ x ∈ ws, x ≠ 34 ∧ x ≠ 92) (hb : ∀ x ∈ vs, bareB x = true) (L : List Int) (hL : L = 34 :: (ws ++ 34 :: c :: vs)) :
    spAt L (L.length + 1) 0 [] = if spB c = true then some (ws :: (if vs = [] then [] else [vs])) else none := by
  have hlen : L.length = ws.length + vs.length + 3 := by rw [hL]; simp; omega
  have h0 : L.getD 0 0 = 34 := by rw [hL]; rfl
  have h1 : awAt L (L.length + 1) 0 [] = if spB c = true then some (ws, 1 + ws.length + 1) else none := by
    rw [awAt, if_pos (by omega), h0, if_neg (by omega), if_pos (.inl rfl)]
    exact aq_closed L _ 1 ws c vs (by rw [hL]; rfl) hw (by omega)
  rw [spAt, if_pos (by omega), h0, if_neg (by decide), h1]
  cases hs : spB c with
  | false => simp
  | true =>
    simp only [if_true]
    have hd : L.drop (1 + ws.length + 1) = c :: vs := by
      rw [hL, show 1 + ws.length + 1 = (ws.length + 1) + 1 by omega, List.drop_succ_cons, List.drop_append]
      simp
    obtain ⟨g1, g2, g3⟩ := drop_cons hd
    obtain ⟨f, hf⟩ : ∃ f, L.length = f + 1 + 1 := ⟨L.length - 2, by omega⟩
    rw [show spAt L L.length (1 + ws.length + 1) ([] ++ [ws]) = spAt L (f + 1 + 1) (1 + ws.length + 1) ([] ++ [ws]) by rw [← hf]]
    rw [spAt, if_pos g1, g2, if_pos hs]
    cases vs with
    | nil =>
      rw [show 1 + ws.length + 1 + 1 = L.length by simp at hlen; omega, sp_end _ _ _ (by omega)]
      rfl
    | cons y t =>
      obtain ⟨k1, k2, k3⟩ := drop_cons g3
      have hy := bare_not (hb y (by simp))
      rw [spAt, if_pos k1, k2, sp_false ⟨hy.1, hy.2.1, hy.2.2.1, hy.2.2.2.1, hy.2.2.2.2.1, hy.2.2.2.2.2.1⟩]
      rw [aw_plain L _ _ (y :: t) g3 (by omega) (fun x hx => by obtain ⟨a1, a2, a3, a4, a5, a6, a7, a8⟩ := bare_not (hb x hx); exact ⟨a1, a2, a3, a4, a7, a8⟩) (by omega)]
      simp only [Bool.false_eq_true, if_false]
      rw [sp_end _ _ _ (by simp at hlen; omega)]
      simp

end Go.Proofs.Qxb6616016a
