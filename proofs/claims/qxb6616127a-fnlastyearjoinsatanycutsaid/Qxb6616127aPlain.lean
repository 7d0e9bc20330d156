/-
  PLAIN: the last year, and its laws.
-/
import Derived.WalkKit
namespace Go.Proofs.Qxb6616127a

def mxI (a y : Int) : Int := if a < y then y else a
def yearsMax (acc : Int) (zs : List Int) : Int := zs.foldl mxI acc
def lastFrom (look : List UInt8 → List Int) (acc : Int) (ks : List (List UInt8)) : Int := ks.foldl (fun m k => yearsMax m (look k)) acc

/-- The years of the last test with the id. -/
def yearsFor (ts : List (List UInt8 × List Int)) (id : List UInt8) : List Int :=
  match ts.reverse.find? (fun t => t.1 == id) with
  | some t => t.2
  | none => []

theorem mxI_comm3 (a b c : Int) : mxI (mxI a b) c = mxI (mxI a c) b := by
  unfold mxI; repeat' split
  all_goals omega

theorem years_mx (zs : List Int) (a y : Int) : yearsMax (mxI a y) zs = mxI (yearsMax a zs) y := by
  induction zs generalizing a with
  | nil => rfl
  | cons z t ih =>
    show yearsMax (mxI (mxI a y) z) t = mxI (yearsMax (mxI a z) t) y
    rw [mxI_comm3, ih]

theorem last_mx (look : List UInt8 → List Int) (ks : List (List UInt8)) (a y : Int) : lastFrom look (mxI a y) ks = mxI (lastFrom look a ks) y := by
  induction ks generalizing a with
  | nil => rfl
  | cons k t ih =>
    show lastFrom look (yearsMax (mxI a y) (look k)) t = mxI (lastFrom look (yearsMax a (look k)) t) y
    rw [years_mx, ih]

theorem years_put (l1 l2 : List Int) (a y : Int) : yearsMax a (l1 ++ y :: l2) = mxI (yearsMax a (l1 ++ l2)) y := by
  unfold yearsMax
  rw [List.foldl_append, List.foldl_append]
  exact years_mx l2 _ y

theorem mxI_same (a y : Int) : mxI (mxI a y) y = mxI a y := by
  unfold mxI; repeat' split
  all_goals omega

/-- LAW 'rises': a year put in at one id. -/
theorem last_rises (look look' : List UInt8 → List Int) (id : List UInt8) (l1 l2 : List Int) (y : Int) (h1 : look id = l1 ++ l2) (h2 : look' id = l1 ++ y :: l2) (h3 : ∀ k, k ≠ id → look' k = look k)
    (ks : List (List UInt8)) (a : Int) : lastFrom look' a ks = if id ∈ ks then mxI (lastFrom look a ks) y else lastFrom look a ks := by
  induction ks generalizing a with
  | nil => rfl
  | cons k t ih =>
    show lastFrom look' (yearsMax a (look' k)) t = _
    rw [show lastFrom look a (k :: t) = lastFrom look (yearsMax a (look k)) t from rfl]
    rw [ih]
    by_cases hk : k = id
    · subst hk
      rw [h2, years_put, ← h1, last_mx]
      rw [if_pos (List.mem_cons_self)]
      split
      · rw [mxI_same]
      · rfl
    · rw [h3 k hk]
      have : (id ∈ k :: t) ↔ id ∈ t := by
        constructor
        · intro h
          rcases List.mem_cons.1 h with h | h
          · exact absurd h.symm hk
          · exact h
        · exact List.mem_cons_of_mem _
      simp only [this]

theorem le_mxI (a y : Int) : a ≤ mxI a y ∧ y ≤ mxI a y := by unfold mxI; split <;> omega

theorem le_years (zs : List Int) (a : Int) : a ≤ yearsMax a zs := by
  induction zs generalizing a with
  | nil => exact Int.le_refl _
  | cons z t ih => exact Int.le_trans (le_mxI a z).1 (ih (mxI a z))

theorem le_last (look : List UInt8 → List Int) (ks : List (List UInt8)) (a : Int) : a ≤ lastFrom look a ks := by
  induction ks generalizing a with
  | nil => exact Int.le_refl _
  | cons k t ih => exact Int.le_trans (le_years (look k) a) (ih _)

/-- LAW 'joins'. -/
theorem last_joins (look : List UInt8 → List Int) (l1 l2 : List (List UInt8)) : lastFrom look 0 (l1 ++ l2) = mxI (lastFrom look 0 l2) (lastFrom look 0 l1) := by
  have h0 := le_last look l1 0
  have : lastFrom look 0 (l1 ++ l2) = lastFrom look (mxI 0 (lastFrom look 0 l1)) l2 := by
    rw [show mxI 0 (lastFrom look 0 l1) = lastFrom look 0 l1 by unfold mxI; split <;> omega]
    exact List.foldl_append
  rw [this, last_mx]

/-- The last year is one of the years, or what it began with. -/
theorem years_mem (zs : List Int) (a : Int) : yearsMax a zs = a ∨ yearsMax a zs ∈ zs := by
  induction zs generalizing a with
  | nil => exact .inl rfl
  | cons z t ih =>
    rcases ih (mxI a z) with h | h
    · show yearsMax (mxI a z) t = a ∨ yearsMax (mxI a z) t ∈ z :: t
      rw [h]
      unfold mxI
      split
      · exact .inr List.mem_cons_self
      · exact .inl rfl
    · exact .inr (List.mem_cons_of_mem _ h)

theorem years_ge (zs : List Int) (a : Int) : ∀ z ∈ zs, z ≤ yearsMax a zs := by
  induction zs generalizing a with
  | nil => intro z hz; cases hz
  | cons y t ih =>
    intro z hz
    rcases List.mem_cons.1 hz with rfl | hz
    · exact Int.le_trans (le_mxI a z).2 (le_years t _)
    · exact ih (mxI a y) z hz

end Go.Proofs.Qxb6616127a
