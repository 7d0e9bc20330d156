/-
  FnIsSpaceLeadingByteSkipped: the walk.
-/
import Derived.Test.Qxb6616016aSplit
namespace Go.Proofs.Qxb6616016a
open Go.RowKit

theorem BytesAt.later {w w' : World} {x : Value} {zs : List Int} (h : BytesAt w x zs) (hb : Below w.heap.size w w') : BytesAt w' x zs := by
  obtain ⟨a, cap, hv, hc⟩ := h
  refine ⟨a, cap, hv, fun t ht => ?_⟩
  obtain ⟨b, o, ha, hcell⟩ := hc t ht
  exact ⟨b, o, ha, (hb.cell (World.block_lt_of_cell? w _ hcell)).trans hcell⟩

set_option maxHeartbeats 400000 in
theorem zspace_any (c : Int) (w : World) :
    Calls Try.prog 10 #[.int .u8 c] w fun e w' => e = .returned (.bool (spB c)) ∧ w = w' := by
  go_enter Try.func10, Try.ntmps10
  go_wp2_with (go_at_call 15; refine (isSpace_any _ _).mono ?_; rintro e w' ⟨rfl, rfl⟩)
  go_ret
  exact ⟨rfl, rfl⟩

set_option maxHeartbeats 400000 in
theorem zsplit_any (b o cap n : Nat) (L : List Int) (w : World) (hL : L.length = n) (hn : n ≤ 1048576) (hbw : b < w.heap.size)
    (hc : ∀ t, t < n → w.cell? ⟨b, o + t, none⟩ = some (.int .u8 (L.getD t 0))) :
    Calls Try.prog 7 #[.slice (some ⟨b, o, none⟩) n cap] w fun e w' => SEnd (spAt L (n + 1) 0 []) e w w' := by
  have hcall := split_any b o cap n L w hL hn hbw hc
  generalize spAt L (n + 1) 0 [] = R at hcall ⊢
  have HC : Hid (Calls Try.prog 14 #[.slice (some ⟨b, o, none⟩) n cap] w fun e w' => SEnd R e w w') := hcall
  clear hcall hc
  cases R with
  | none =>
    go_enter Try.func7, Try.ntmps7
    go_wp2_with (go_at_call 14; refine HC.out.mono ?_; rintro e w' ⟨rfl, hb⟩)
    go_ret2
    exact ⟨rfl, hb⟩
  | some ws =>
    go_enter Try.func7, Try.ntmps7
    go_wp2_with (go_at_call 14; refine HC.out.mono ?_; rintro e w' ⟨V, rfl, hb, hV⟩)
    go_ret2
    exact ⟨V, rfl, hb, hV⟩

/-- The law's early ways. -/
theorem one_big (c : Int) (a : Option Addr) (n cap : Nat) (w : World) (h : 65536 < n) (hn : n ≤ 9223372036854775807) :
    Calls Try.prog 4 #[.int .u8 c, .slice a n cap] w fun e w' => e = .returned (.bool true) ∧ Below w.heap.size w w' := by
  by_cases h2 : 1048576 < n
  · go_enter Try.func4, Try.ntmps4
    go_wp2
    go_ret
    exact ⟨rfl, Below.refl _ _⟩
  · go_enter Try.func4, Try.ntmps4
    go_wp2
    go_ret
    exact ⟨rfl, Below.refl _ _⟩

set_option maxHeartbeats 400000 in
theorem one_not (c : Int) (a : Option Addr) (n cap : Nat) (zs : List Int) (w : World) (hz : zs.length = n) (h : n ≤ 65536) (hb : BytesAt w (.slice a n cap) zs) (hbare : bareW zs = false) :
    Calls Try.prog 4 #[.int .u8 c, .slice a n cap] w fun e w' => e = .returned (.bool true) ∧ Below w.heap.size w w' := by
  go_enter Try.func4, Try.ntmps4
  go_wp2_with (first | (go_at_call 12; refine (bareWord_any _ zs _ (by omega) hb).mono ?_; rintro e w' ⟨rfl, rfl⟩) | go_in)
  go_ret
  exact ⟨rfl, Below.refl _ _⟩

theorem cells_of_own {w : World} {B g n : Nat} {xs : List Int} (h : w.ownsRow B 5 1 (rowOf g n xs.length) xs.length (U8 xs)) : ∀ t, t < xs.length → w.cell? ⟨g, 0 + t, none⟩ = some (.int .u8 (xs.getD t 0)) := by
  intro t ht
  have := h.cells rfl t (.int .u8 (xs.getD t 0)) (by simp [U8, List.getElem?_map, List.getElem?_eq_getElem ht, List.getD])
  rw [Addr.add_lit] at this
  exact this

theorem bytes_of_own {w : World} {B g n : Nat} {xs : List Int} (h : w.ownsRow B 5 1 (rowOf g n xs.length) xs.length (U8 xs)) : BytesAt w (rowOf g n xs.length) xs :=
  ⟨_, _, rfl, fun t ht => ⟨g, 0, rfl, cells_of_own h t ht⟩⟩

theorem src_cells {w : World} {b o : Nat} {zs : List Int} (h : ∀ t, t < zs.length → w.cell? ⟨b, o + t, none⟩ = some (.int .u8 (zs.getD t 0))) : ∀ j u, (U8 zs)[j]? = some u → w.cell? ((⟨b, o, none⟩ : Addr).add j) = some u := by
  intro j u hu
  have hj : j < zs.length := by have := (List.getElem?_eq_some_iff.1 hu).1; simpa using this
  rw [Addr.add_lit, h j hj]
  rw [← hu]
  simp [U8, List.getD, hj]

/-- The one word of a list of one. -/
theorem WordsAt.one {w : World} {V : Value} {zs : List Int} (h : WordsAt w V [zs]) : ∃ b o cv a c, V = .slice (some ⟨b, o, none⟩) 1 cv ∧ w.cell? ⟨b, o, none⟩ = some (.slice a zs.length c) ∧ BytesAt w (.slice a zs.length c) zs := by
  obtain ⟨a, cv, hV, hw⟩ := h
  obtain ⟨b, o, x, ha, hx, hb⟩ := hw 0 (by simp)
  obtain ⟨a', c', hx', hb'⟩ := hb
  have hb2 : ([zs] : List (List Int)).getD 0 [] = zs := rfl
  rw [hb2] at hx' hb'
  refine ⟨b, o, cv, a', c', by rw [hV, ha]; rfl, by rw [← hx']; exact hx, ⟨a', c', rfl, hb'⟩⟩

set_option maxHeartbeats 1000000 in
set_option maxRecDepth 100000 in
theorem one_main (c : Int) (b o cap : Nat) (zs : List Int) (w : World) (h : zs.length ≤ 65536) (h0 : zs ≠ []) (hall : ∀ x ∈ zs, bareB x = true)
    (hc : ∀ t, t < zs.length → w.cell? ⟨b, o + t, none⟩ = some (.int .u8 (zs.getD t 0))) :
    Calls Try.prog 4 #[.int .u8 c, .slice (some ⟨b, o, none⟩) zs.length cap] w fun e w' => e = .returned (.bool true) ∧ Below w.heap.size w w' := by
  have hx : BytesAt w (.slice (some ⟨b, o, none⟩) zs.length cap) zs := ⟨_, _, rfl, fun t ht => ⟨b, o, rfl, hc t ht⟩⟩
  have hbare : bareW zs = true := by
    have h1 : zs.isEmpty = false := by cases zs <;> simp_all
    have h2 : zs.all bareB = true := List.all_eq_true.2 hall
    simp [bareW, h1, h2]
  have hlaw := law_one c zs h0 hall
  have hbw : b < w.heap.size := by
    have := hc 0 (List.length_pos_iff.2 h0)
    exact World.block_lt_of_cell? w _ this
  have hsrc := src_cells hc
  have HX : Hid (BytesAt w (.slice (some ⟨b, o, none⟩) zs.length cap) zs) := hx
  have HS : Hid (∀ j u, (U8 zs)[j]? = some u → w.cell? ((⟨b, o, none⟩ : Addr).add j) = some u) := hsrc
  have HW : Hid (spAt (c :: zs) ((c :: zs).length + 1) 0 [] = if spB c = true then some [zs] else if c = 34 ∨ c = 39 then none else some [c :: zs]) := hlaw
  clear hx hsrc hlaw hc hall
  obtain ⟨inf, hi, hz0, hz1, hz2⟩ := info_parts Try.info5
  go_enter Try.func4, Try.ntmps4
  go_wp2_with (first
    | (go_at_call 12; refine (bareWord_any _ zs _ (by omega) HX.out).mono ?_; rintro e w' ⟨rfl, rfl⟩)
    | (go_at_call 11; go_in)
    | (at_make; refine wpList_make_own _ rfl _ _ 22 rfl w.heap.size 5 inf (.int .u8 0) 1 Try.underlying22 hi hz0 hz1 _ _ _ (zs.length + 1) rfl rfl (by omega) (by rw [hz2]; omega) (by unfold maxLen; omega) (Nat.le_refl _) ?_; intro w1 hown1 hgrow1)
    | (at_builtin; refine wpList_append_fits _ rfl (.tmp 22) (.tmp 24) 22 rfl w.heap.size 5 inf 1 Try.underlying22 hi hz1 w.heap.size 0 (zs.length + 1) [] rfl (hown1.alloc _) ⟨w1.heap.size, 0, none⟩ 1 1 [.int .u8 c] rfl rfl (cell_one_new _ _ _) (by simp [Value.oneCell']) (by omega) ?_; intro w2 hown2 hgrow2)
    | (at_builtin; refine wpList_append_fits _ rfl (.tmp 26) (.tmp 27) 22 rfl w.heap.size 5 inf 1 Try.underlying22 hi hz1 w.heap.size 1 (zs.length + 1) _ rfl hown2 ⟨b, o, none⟩ zs.length cap (U8 zs) rfl (by simp) (fun j u hu => hgrow2.cell ((grownBy_trans (hgrow1) (World.grownBy_alloc _ _ _)).cell (HS.out j u hu) (by simp)) (by rw [Addr.add_lit]; simp; omega)) (ints_oneCell _ _) (by omega) ?_; intro w3 hown3 hgrow3))
  have hownL : w3.ownsRow w.heap.size 5 1 (rowOf w.heap.size (zs.length + 1) (c :: zs).length) (c :: zs).length (U8 (c :: zs)) := by
    rw [show (c :: zs).length = 1 + zs.length from by simp [Nat.add_comm]]
    exact hown3
  have hcall := zsplit_any w.heap.size 0 (zs.length + 1) (1 + zs.length) (c :: zs) w3 (by simp [Nat.add_comm]) (by omega) ((hownL.lt _ rfl).2) (fun t ht => cells_of_own hownL t (by simp; omega))
  rw [show 1 + zs.length + 1 = (c :: zs).length + 1 from by simp [Nat.add_comm], HW.out] at hcall
  have hb3 : Below w.heap.size w w3 := ((((Below.refl _ _).grown hgrow1 (Nat.le_refl _) (fun k h => by cases h)).alloc hgrow1.size _).grown hgrow2 (Nat.le_trans hgrow1.size (World.grownBy_alloc w1 _ none).size) (fun k h => by cases h; exact Nat.le_refl _)).grown hgrow3 (Nat.le_trans hgrow1.size (Nat.le_trans (World.grownBy_alloc w1 _ none).size hgrow2.size)) (fun k h => by cases h; exact Nat.le_refl _)
  have hX3 := HX.out.later hb3
  have hL3 := bytes_of_own hownL
  rw [show (c :: zs).length = 1 + zs.length from by simp [Nat.add_comm]] at hL3
  clear hown1 hgrow1 hown2 hgrow2 hown3 hgrow3 HW HS HX hownL
  by_cases hsp : spB c = true
  · rw [if_pos hsp] at hcall
    refine hcall.mono ?_
    rintro e w4 ⟨V, rfl, hb4, hV⟩
    clear hcall
    obtain ⟨bv, ov, cv, av, cx, rfl, hcell, hbv⟩ := hV.one
    have hX4 := hX3.later hb4
    clear hV hX3 hL3
    have HV : Hid (BytesAt w4 (.slice av zs.length cx) zs) := hbv
    have HX4 : Hid (BytesAt w4 (.slice (some ⟨b, o, none⟩) zs.length cap) zs) := hX4
    clear hbv hX4
    go_wp2_with (first | (go_at_call 10; refine (zspace_any _ _).mono ?_; rintro e w' ⟨rfl, rfl⟩) | (go_at_call 13; refine (eq_any _ _ zs _ (by omega) HV.out HX4.out).mono ?_; rintro e w5 ⟨rfl, q, rfl⟩))
    go_ret
    exact ⟨rfl, below_drewN (hb3.trans (hb4.mono hb3.size)) q⟩
  · have hsp' : spB c = false := by simpa using hsp
    rw [if_neg hsp] at hcall
    clear hsp
    by_cases hq : c = 34 ∨ c = 39
    · rw [if_pos hq] at hcall
      refine hcall.mono ?_
      rintro e w4 ⟨rfl, hb4⟩
      clear hcall hX3 hL3
      rcases hq with rfl | rfl
      all_goals
        go_wp2_with (first | (go_at_call 10; refine (zspace_any _ _).mono ?_; rintro e w' ⟨rfl, rfl⟩))
        go_ret
        exact ⟨rfl, hb3.trans (hb4.mono hb3.size)⟩
    · rw [if_neg hq] at hcall
      refine hcall.mono ?_
      rintro e w4 ⟨V, rfl, hb4, hV⟩
      clear hcall
      obtain ⟨bv, ov, cv, av, cx, rfl, hcell, hbv⟩ := hV.one
      have hL4 := hL3.later hb4
      clear hV hX3 hL3
      have HV : Hid (BytesAt w4 (.slice av (c :: zs).length cx) (c :: zs)) := hbv
      have HL4 : Hid (BytesAt w4 (.slice (some ⟨w.heap.size, 0, none⟩) (1 + zs.length) (zs.length + 1)) (c :: zs)) := hL4
      clear hbv hL4
      have k5 : (c == 34) = false := by simp; omega
      have k6 : (c == 39) = false := by simp; omega
      clear hq
      go_wp2_with (first | (go_at_call 10; refine (zspace_any _ _).mono ?_; rintro e w' ⟨rfl, rfl⟩) | (go_at_call 13; refine (eq_any _ _ (c :: zs) _ (by simp; omega) HV.out HL4.out).mono ?_; rintro e w5 ⟨rfl, q, rfl⟩))
      go_ret
      exact ⟨rfl, below_drewN (hb3.trans (hb4.mono hb3.size)) q⟩

/-- Law 1, whatever the slice. -/
theorem one_any (c : Int) (a : Option Addr) (n cap : Nat) (zs : List Int) (w : World) (hz : zs.length = n) (hn : n ≤ 9223372036854775807) (hb : BytesAt w (.slice a n cap) zs) :
    Calls Try.prog 4 #[.int .u8 c, .slice a n cap] w fun e w' => e = .returned (.bool true) ∧ Below w.heap.size w w' := by
  by_cases h1 : 65536 < n
  · exact one_big c a n cap w h1 hn
  · cases hbare : bareW zs with
    | false => exact one_not c a n cap zs w hz (by omega) hb hbare
    | true =>
      have h0 : zs ≠ [] := by rintro rfl; cases hbare
      have hall : ∀ x ∈ zs, bareB x = true := by
        have h2 : zs.all bareB = true := by unfold bareW at hbare; simp only [Bool.and_eq_true] at hbare; exact hbare.2
        exact List.all_eq_true.1 h2
      obtain ⟨b, o, cap', hv, hc⟩ := hb.form h0
      obtain ⟨rfl, hn2, rfl⟩ : a = some ⟨b, o, none⟩ ∧ n = zs.length ∧ cap = cap' := by simpa using hv
      subst hn2
      exact one_main c b o cap zs w (by omega) h0 hall hc

end Go.Proofs.Qxb6616016a
