/-
  zzQuotedThen: the line that it builds.
-/
import Derived.Test.Qxb6616016aOne
namespace Go.Proofs.Qxb6616016a
open Go.RowKit

theorem any_cells {w : World} {a : Option Addr} {n ca : Nat} {ws : List Int} (h : BytesAt w (.slice a n ca) ws) : ∀ ad, a = some ad → ∀ j u, (U8 ws)[j]? = some u → w.cell? (ad.add j) = some u := by
  intro ad had j u hu
  obtain ⟨a', c', hv, hc⟩ := h
  obtain ⟨rfl, _, _⟩ : a = a' ∧ n = ws.length ∧ ca = c' := by simpa using hv
  have hj : j < ws.length := by have := (List.getElem?_eq_some_iff.1 hu).1; simpa using this
  obtain ⟨b, o, ha, hcell⟩ := hc j hj
  rw [had] at ha
  obtain rfl := Option.some.inj ha
  rw [Addr.add_lit, hcell, ← hu]
  simp [U8, List.getD, hj]

theorem two_new (w : World) (x y : Value) (t : TypeId) : ∀ j u, [x, y][j]? = some u → (w.alloc (.cells #[x, y] t)).cell? ((⟨w.heap.size, 0, none⟩ : Addr).add j) = some u := by
  intro j u hj
  rw [Addr.add_lit]
  match j, hj with
  | 0, hj => simp at hj; subst hj; simp
  | 1, hj => simp at hj; subst hj; simp

set_option maxHeartbeats 1000000 in
set_option maxRecDepth 100000 in
theorem then_any (a : Option Addr) (n ca : Nat) (b : Option Addr) (m cb : Nat) (ws vs : List Int) (c : Int) (w : World) (hn : ws.length = n) (hm : vs.length = m) (h1 : n ≤ 65536) (h2 : m ≤ 65536)
    (na : a = none → n = 0 ∧ ca = 0) (nb : b = none → m = 0 ∧ cb = 0) (hx : BytesAt w (.slice a n ca) ws) (hy : BytesAt w (.slice b m cb) vs) :
    Calls Try.prog 8 #[.slice a n ca, .int .u8 c, .slice b m cb] w fun e w' => e = .returned (rowOf w.heap.size (n + m + 3) (n + m + 3)) ∧ Below w.heap.size w w' ∧
      w'.ownsRow w.heap.size 5 1 (rowOf w.heap.size (n + m + 3) (n + m + 3)) (n + m + 3) (U8 (34 :: (ws ++ 34 :: c :: vs))) := by
  have HX : Hid (BytesAt w (.slice a n ca) ws) := hx
  have HY : Hid (BytesAt w (.slice b m cb) vs) := hy
  have NA : Hid (a = none → n = 0 ∧ ca = 0) := na
  have NB : Hid (b = none → m = 0 ∧ cb = 0) := nb
  have LN : Hid (ws.length = n) := hn
  have LM : Hid (vs.length = m) := hm
  clear hx hy na nb hn hm
  obtain ⟨inf, hi, hz0, hz1, hz2⟩ := info_parts Try.info5
  go_enter Try.func8, Try.ntmps8
  go_wp2_with (first
    | (at_make; refine wpList_make_own _ rfl _ _ 22 rfl w.heap.size 5 inf (.int .u8 0) 1 Try.underlying22 hi hz0 hz1 _ _ _ (n + m + 3) rfl rfl (by omega) (by rw [hz2]; omega) (by unfold maxLen; omega) (Nat.le_refl _) ?_; intro w1 hown1 hgrow1)
    | (at_builtin; refine wpList_append_fits _ rfl (.tmp 15) (.tmp 16) 22 rfl w.heap.size 5 inf 1 Try.underlying22 hi hz1 w.heap.size 0 (n + m + 3) [] rfl (hown1.alloc _) ⟨w1.heap.size, 0, none⟩ 1 1 [.int .u8 34] rfl rfl (cell_one_new _ _ _) (by simp [Value.oneCell']) (by omega) ?_; intro w2 hown2 hgrow2; have hb2 : Below w.heap.size w w2 := ((((Below.refl _ _).grown hgrow1 (Nat.le_refl _) (fun k h => by cases h)).alloc hgrow1.size _).grown hgrow2 (Nat.le_trans hgrow1.size (World.grownBy_alloc w1 _ none).size) (fun k h => by cases h; exact Nat.le_refl _)))
    | (at_builtin; refine wpList_append_fits_any _ rfl (.tmp 18) (.tmp 19) 22 rfl w.heap.size 5 inf 1 Try.underlying22 hi hz1 w.heap.size 1 (n + m + 3) _ rfl hown2 a n ca (U8 ws) rfl (by simp [LN.out]) NA.out (any_cells (HX.out.later hb2)) (ints_oneCell _ _) (by omega) ?_; intro w3 hown3 hgrow3; have hb3 : Below w.heap.size w w3 := hb2.grown hgrow3 hb2.size (fun k h => by cases h; exact Nat.le_refl _))
    | (at_builtin; refine wpList_append_fits _ rfl (.tmp 21) (.tmp 23) 22 rfl w.heap.size 5 inf 1 Try.underlying22 hi hz1 w.heap.size (1 + n) (n + m + 3) _ rfl (hown3.alloc _) ⟨w3.heap.size, 0, none⟩ 2 2 [.int .u8 34, .int .u8 c] rfl rfl (two_new _ _ _ _) (by simp [Value.oneCell']) (by omega) ?_; intro w4 hown4 hgrow4; have hb4 : Below w.heap.size w w4 := (hb3.alloc hb3.size _).grown hgrow4 (Nat.le_trans hb3.size (World.grownBy_alloc w3 _ none).size) (fun k h => by cases h; exact Nat.le_refl _))
    | (at_builtin; refine wpList_append_fits_any _ rfl (.tmp 25) (.tmp 26) 22 rfl w.heap.size 5 inf 1 Try.underlying22 hi hz1 w.heap.size (1 + n + 2) (n + m + 3) _ rfl hown4 b m cb (U8 vs) rfl (by simp [LM.out]) NB.out (any_cells (HY.out.later hb4)) (ints_oneCell _ _) (by omega) ?_; intro w5 hown5 hgrow5; have hb5 : Below w.heap.size w w5 := hb4.grown hgrow5 hb4.size (fun k h => by cases h; exact Nat.le_refl _)))
  go_ret
  have e1 : 1 + n + 2 + m = n + m + 3 := by omega
  rw [e1] at hown5
  refine ⟨?_, hb5, ?_⟩
  · show Ending.returned (Value.slice _ (1 + n + 2 + m) _) = _
    rw [e1]
  · have e2 : U8 (34 :: (ws ++ 34 :: c :: vs)) = [] ++ [Value.int .u8 34] ++ U8 ws ++ [.int .u8 34, .int .u8 c] ++ U8 vs := by simp [U8]
    rw [e2]
    exact hown5

end Go.Proofs.Qxb6616016a
