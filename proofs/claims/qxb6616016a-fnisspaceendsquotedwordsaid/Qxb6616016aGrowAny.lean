/-
  grow, whatever the words so far.
-/
import Derived.Test.Qxb6616016aGrow
import Derived.WalkSpells
namespace Go.Proofs.Qxb6616016a
open Go.RowKit

theorem grow_any (B k : Nat) (V : Value) (vs : List Value) (T0 : Int) (w : World) (hk0 : (k : Int) ≤ T0) (hT0 : T0 ≤ 1048576) (hb : B ≤ w.heap.size)
    (hone : ∀ v ∈ vs, v.oneCell' = true) (hown : w.ownsRow B 22 1 V k vs) :
    Calls Try.prog 17 #[V, .int .i64 T0, .int .i64 8] w fun e w' => ∃ g cap, e = .returned (.slice (some ⟨g, 0, none⟩) k cap) ∧ Hid (V.ownBlock = some g ∨ g = w.heap.size) ∧ Below w.heap.size w w' ∧ w'.ownsRow B 22 1 (.slice (some ⟨g, 0, none⟩) k cap) k vs := by
  obtain ⟨T, rfl⟩ : ∃ T : Nat, T0 = (T : Int) := ⟨T0.toNat, by omega⟩
  have hk : k ≤ T := by omega
  have hT : T ≤ 1048576 := by omega
  have hlen : vs.length = k := by have := hown.1; omega
  rcases hown.2 with ⟨rfl, rfl⟩ | ⟨g, cap, cur, rfl, hg, hh, hkc, hcm, hcs, htk⟩
  · refine (grow_full B 0 none vs T w hk hT hb hlen hone (fun h => absurd h (by omega))).mono ?_
    rintro e w' ⟨cap, rfl, _, hB, ho⟩
    exact ⟨_, cap, rfl, .inr rfl, hB, ho⟩
  · by_cases hlt : k < cap
    · refine (grow_room g k cap T w hlt).mono ?_
      rintro e w' ⟨rfl, rfl⟩
      exact ⟨g, cap, rfl, .inl rfl, Below.refl _ _, hown⟩
    · obtain rfl : k = cap := by omega
      refine (grow_full B k _ vs T w hk hT hb hlen hone (fun _ => ⟨_, rfl, hown.cells rfl⟩)).mono ?_
      rintro e w' ⟨cap, rfl, _, hB, ho⟩
      exact ⟨_, cap, rfl, .inr rfl, hB, ho⟩

end Go.Proofs.Qxb6616016a
