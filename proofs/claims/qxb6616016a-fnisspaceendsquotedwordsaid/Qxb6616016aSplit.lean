/-
  splitInline: what it computes is 'spAt'.
-/
import Derived.Test.Qxb6616016aWord
import Derived.Test.Qxb6616016aGrowAny
import Derived.Test.Qxb6616016aLaws
namespace Go.Proofs.Qxb6616016a
open Go.RowKit

/-- The word values vs, in the room G that holds xs, are the words ws. -/
def Vals (G : Nat) (xs : List Int) (vs : List Value) (ws : List (List Int)) : Prop :=
  vs.length = ws.length ∧ ∀ j, j < ws.length → ∃ a c s, vs[j]? = some (.slice a (ws.getD j []).length c) ∧ (0 < (ws.getD j []).length → a = some ⟨G, s, none⟩) ∧ (xs.drop s).take (ws.getD j []).length = ws.getD j []

theorem Vals.nil (G : Nat) (xs : List Int) : Vals G xs [] [] := ⟨rfl, fun j h => absurd h (by simp)⟩

theorem take_drop_more {xs ys w : List Int} {s : Nat} (h : (xs.drop s).take w.length = w) : ((xs ++ ys).drop s).take w.length = w := by
  by_cases h0 : w.length = 0
  · rw [h0]; simp [List.eq_nil_of_length_eq_zero h0]
  · have hl := congrArg List.length h
    simp at hl
    rw [List.drop_append_of_le_length (by omega), List.take_append_of_le_length (by simp; omega)]
    exact h

theorem Vals.snoc {G : Nat} {xs : List Int} {vs : List Value} {ws : List (List Int)} (h : Vals G xs vs ws) (y : List Int) (a : Option Addr) (c : Nat) (ha : 0 < y.length → a = some ⟨G, xs.length, none⟩) :
    Vals G (xs ++ y) (vs ++ [.slice a y.length c]) (ws ++ [y]) := by
  obtain ⟨h1, h2⟩ := h
  refine ⟨by simp [h1], fun j hj => ?_⟩
  by_cases hlt : j < ws.length
  · obtain ⟨a', c', s, e1, e2, e3⟩ := h2 j hlt
    have hg : (ws ++ [y]).getD j [] = ws.getD j [] := by rw [List.getD_eq_getElem?_getD, List.getD_eq_getElem?_getD, List.getElem?_append_left hlt]
    rw [hg]
    refine ⟨a', c', s, ?_, e2, take_drop_more e3⟩
    rw [List.getElem?_append_left (by omega)]
    exact e1
  · have hj' : j = ws.length := by simp at hj; omega
    subst hj'
    have hg : (ws ++ [y]).getD ws.length [] = y := by simp [List.getD]
    rw [hg]
    refine ⟨a, c, xs.length, ?_, ha, by simp⟩
    rw [← h1]
    simp

theorem Vals.one {G : Nat} {xs : List Int} {vs : List Value} {ws : List (List Int)} (h : Vals G xs vs ws) : ∀ v ∈ vs, v.oneCell' = true := by
  intro v hv
  obtain ⟨j, hj, rfl⟩ := List.getElem_of_mem hv
  obtain ⟨a, c, s, e1, _⟩ := h.2 j (by rw [← h.1]; exact hj)
  rw [List.getElem?_eq_getElem hj] at e1
  rw [Option.some.inj e1]
  rfl

/-- The slice value v is the list of words ws. -/
def WordsAt (w : World) (v : Value) (ws : List (List Int)) : Prop :=
  ∃ a cap, v = .slice a ws.length cap ∧ ∀ j, j < ws.length → ∃ b o x, a = some ⟨b, o, none⟩ ∧ w.cell? ⟨b, o + j, none⟩ = some x ∧ BytesAt w x (ws.getD j [])

def SEnd (R : Option (List (List Int))) (e : Ending) (w w' : World) : Prop :=
  match R with
  | none => e = .returned (.tuple #[.slice none 0 0, .bool false]) ∧ Below w.heap.size w w'
  | some ws => ∃ V, e = .returned (.tuple #[V, .bool true]) ∧ Below w.heap.size w w' ∧ WordsAt w' V ws

theorem words_end {w : World} {B G n : Nat} {xs : List Int} {V : Value} {vs : List Value} {ws : List (List Int)} (hr : w.ownsRow B 5 1 (rowOf G n xs.length) xs.length (U8 xs)) (hv : w.ownsRow B 22 1 V ws.length vs) (h : Vals G xs vs ws) : WordsAt w V ws := by
  have hcells := hr.cells rfl
  have hb : ∀ j x, j < ws.length → vs[j]? = some x → BytesAt w x (ws.getD j []) := by
    intro j x hj hx
    obtain ⟨a, c, s, e1, e2, e3⟩ := h.2 j hj
    rw [hx] at e1
    obtain rfl := Option.some.inj e1
    refine ⟨a, c, rfl, fun t ht => ⟨G, s, e2 (by omega), ?_⟩⟩
    have hx : xs[s + t]? = some ((ws.getD j []).getD t 0) := by
      have := congrArg (fun l => l[t]?) e3
      simp only [List.getElem?_take, if_pos ht, List.getElem?_drop] at this
      rw [this]
      rw [List.getElem?_eq_getElem ht]
      simp only [List.getD_eq_getElem?_getD (l := ws.getD j []), List.getElem?_eq_getElem ht, Option.getD_some]
    have := hcells (s + t) (.int .u8 ((ws.getD j []).getD t 0)) (by simp only [U8, List.getElem?_map, hx, Option.map_some])
    rw [Addr.add_lit, Nat.zero_add] at this
    exact this
  rcases hv.2 with ⟨rfl, h0⟩ | ⟨g, cap, cur, rfl, _, _⟩
  · exact ⟨none, 0, by rw [h0], fun j hj => absurd hj (by omega)⟩
  · refine ⟨some ⟨g, 0, none⟩, cap, rfl, fun j hj => ?_⟩
    have hjv : j < vs.length := by rw [h.1]; exact hj
    refine ⟨g, 0, vs[j], rfl, ?_, hb j _ hj (List.getElem?_eq_getElem hjv)⟩
    have := hv.cells rfl j vs[j] (List.getElem?_eq_getElem hjv)
    rw [Addr.add_lit] at this
    exact this

theorem grownBy_of_below {w w' : World} (h : Below w.heap.size w w') : w.grownBy w' none := ⟨h.os, h.tape, h.output, h.size, fun k hk _ => h.block k hk⟩

/-- What the word's append does to the round's relation. -/
theorem step_words {w w1 wa w3 : World} {B n gv g3 c3 k : Nat} {V : Value} {zs : List Int} (hown1 : w1.ownsRow B 5 1 (rowOf B n zs.length) zs.length (U8 zs)) (hb1 : Below B w w1) (hs1 : B < w1.heap.size)
    (hVB : V.ownBlock ≠ some B) (hgv : V.ownBlock = some gv ∨ w1.heap.size ≤ gv) (hBgv : B ≤ gv) (hBa : Below w1.heap.size w1 wa) (hgrow3 : wa.grownBy w3 (some gv)) (hat : some gv = some g3 ∨ w1.heap.size ≤ g3) :
    w3.ownsRow B 5 1 (rowOf B n zs.length) zs.length (U8 zs) ∧ (Value.slice (some ⟨g3, 0, none⟩) k c3).ownBlock ≠ some B ∧ Below B w w3 ∧ B < w3.heap.size := by
  have hne : gv ≠ B := by
    rintro rfl
    rcases hgv with h | h
    · exact hVB h
    · omega
  have hsz := hBa.size
  have hsz3 := hgrow3.size
  refine ⟨(hown1.kept (grownBy_of_below hBa) (.inr (by simp [Value.ownBlock]))).kept hgrow3 (.inr ?_), ?_, ?_, by omega⟩
  · intro e
    exact hne (Option.some.inj e).symm
  · intro e
    have e2 : g3 = B := Option.some.inj e
    rcases hat with h | h
    · exact hne ((Option.some.inj h).trans e2)
    · omega
  · exact (hb1.trans (hBa.mono (by omega))).grown hgrow3 (by omega) (fun k hk => by cases hk; exact hBgv)

theorem or_le {p : Prop} {a b c : Nat} (h : p ∨ a = b) (hc : c ≤ b) : p ∨ c ≤ a := by
  rcases h with h | h
  · exact .inl h
  · exact .inr (by omega)

theorem news_later {w1 w2 : World} {x : Value} (h : Below (w1.alloc (.cells #[x] 22)).drew.heap.size (w1.alloc (.cells #[x] 22)).drew w2) :
    ∀ j u, [x][j]? = some u → w2.cell? ((⟨w1.heap.size, 0, none⟩ : Addr).add j) = some u := by
  intro j u hj
  rw [Addr.add_lit]
  have := cell_one_new w1 x 22 j u hj
  rw [Addr.add_lit] at this
  exact (h.cell (by show w1.heap.size < (w1.heap.push _).size; simp)).trans this

set_option maxHeartbeats 2000000 in
set_option maxRecDepth 100000 in
theorem split_any (b o cap n : Nat) (L : List Int) (w : World) (hL : L.length = n) (hn : n ≤ 1048576) (hbw : b < w.heap.size)
    (hc : ∀ t, t < n → w.cell? ⟨b, o + t, none⟩ = some (.int .u8 (L.getD t 0))) :
    Calls Try.prog 14 #[.slice (some ⟨b, o, none⟩) n cap] w fun e w' => SEnd (spAt L (n + 1) 0 []) e w w' := by
  obtain ⟨R, hR⟩ : ∃ R, spAt L (n + 1) 0 [] = R := ⟨_, rfl⟩
  rw [hR]
  have HR : Hid (spAt L (n + 1) 0 [] = R) := hR
  clear hR
  obtain ⟨inf5, hi5, hy0, hy1, hy2⟩ := info_parts Try.info5
  obtain ⟨inf, hi, hz0, hz1, hz2⟩ := info_parts Try.info22
  obtain ⟨B, hB⟩ : ∃ B, B = w.heap.size := ⟨_, rfl⟩
  have HB : Hid (B = w.heap.size) := hB
  have hbB : b < B := by omega
  go_enter Try.func14, Try.ntmps14
  go_wp2_with (at_make; refine wpList_make_own _ rfl _ _ 22 rfl w.heap.size 5 inf5 (.int .u8 0) 1 Try.underlying22 hi5 hy0 hy1 _ _ _ n rfl rfl rfl (by rw [hy2]; omega) (by unfold maxLen; omega) (Nat.le_refl _) ?_; intro w0 hown0 hgrow0)
  rw [← hB] at hown0
  have hB0 : Below B w w0 := by rw [hB]; exact (Below.refl _ _).grown hgrow0 (Nat.le_refl _) (fun k h => by cases h)
  rw [← hB]
  clear hgrow0
  go_loopw [2, 4, 5] (fun V room si wr => ∃ (i f : Nat) (xs : List Int) (ws : List (List Int)) (vs : List Value), i ≤ n ∧ n < i + f ∧ xs.length ≤ i ∧
      (2 * ws.length ≤ i ∨ (2 * ws.length ≤ i + 1 ∧ (i = n ∨ spB (L.getD i 0) = true))) ∧ si = .int .i64 i ∧ room = rowOf B n xs.length ∧
      wr.ownsRow B 5 1 (rowOf B n xs.length) xs.length (U8 xs) ∧ wr.ownsRow B 22 1 V ws.length vs ∧ V.ownBlock ≠ some B ∧ Vals B xs vs ws ∧ Below B w wr ∧ B < wr.heap.size ∧ Hid (spAt L f i ws = R))
    (fun _ _ si _ => n - (intOf si).toNat)
  case atStart => exact ⟨0, n + 1, [], [], [], Nat.zero_le _, by omega, by simp, .inl (by simp), rfl, rfl, hown0, World.ownsRow_nil _ _ _ _, by simp [Value.ownBlock], Vals.nil _ _, hB0, (hown0.lt B rfl).2, HR⟩
  case round =>
    obtain ⟨i, f, xs, ws, vs, hin, hf, hxl, hcount, rfl, rfl, hown, hownV, hVB, hvals, hbel, hBw, HX⟩ := hrel
    obtain ⟨f, rfl⟩ : ∃ f', f = f' + 1 := ⟨f - 1, by omega⟩
    clear hown0 hB0 HR
    have HX' := HX.out
    clear HX
    by_cases hlt : i < n
    · have hcr : ∀ t, t < n → wr.cell? ⟨b, o + t, none⟩ = some (.int .u8 (L.getD t 0)) := fun t ht => (hbel.cell (by show b < B; omega)).trans (hc t ht)
      have g0 := hcr i hlt
      obtain ⟨c, hcd⟩ : ∃ c, c = L.getD i 0 := ⟨_, rfl⟩
      rw [← hcd] at g0
      rw [spAt, if_pos (by omega), ← hcd] at HX'
      cases hsp : spB c with
      | true =>
        rw [if_pos hsp] at HX'
        have HY : Hid (spAt L f (i + 1) ws = R) := HX'
        clear HX' hcr hc hB
        rw [← hcd] at hcount
        clear hcd
        go_wp2_with (go_at_call 15; refine (isSpace_any _ _).mono ?_; rintro e w' ⟨rfl, rfl⟩)
        go_roundw
        case rel => exact ⟨i + 1, f, xs, ws, vs, by omega, by omega, by omega, .inl (by omega), by go_num, rfl, hown, hownV, hVB, hvals, hbel, hBw, HY⟩
        case measure => simp [intOf]; omega
      | false =>
        rw [if_neg (by simp [hsp])] at HX'
        have hcount' : 2 * ws.length ≤ i := by
          rcases hcount with h | ⟨_, h | h⟩
          · exact h
          · omega
          · rw [← hcd, hsp] at h; cases h
        have hcall := aw_any b o cap n B B i L xs wr hL hn (by omega) hin hxl hcr hown
        rw [aw_acc] at hcall
        have hbd := aw_bd L (n + 1) i
        rw [hL] at HX'
        rw [hL, ← hcd] at hbd
        clear hcr hc hcd hB
        cases hA : awAt L (n + 1) i [] with
        | none =>
          rw [hA] at hcall HX'
          clear hbd
          have HC : Hid (Calls Try.prog 16 #[rowOf B n xs.length, .slice (some ⟨b, o, none⟩) n cap, .int .i64 i] wr fun e w' => QEnd B B n none e wr w') := hcall
          have HY : Hid (none = R) := HX'
          clear hcall HX' hA
          go_wp2_with (first | (go_at_call 15; refine (isSpace_any _ _).mono ?_; rintro e w' ⟨rfl, rfl⟩) | (go_at_call 16; refine HC.out.mono ?_; rintro e w1 ⟨rfl, hg1⟩))
          go_ret2
          rw [← HY.out]
          exact ⟨rfl, by rw [← HB.out]; exact hbel.grown hg1 (by omega) (fun k hk => by cases hk; exact Nat.le_refl _)⟩
        | some p =>
          obtain ⟨y, j⟩ := p
          rw [hA] at hcall HX'
          obtain ⟨hj1, hj2, hj3, hj4, hj5⟩ := hbd y j hin hA
          have HC : Hid (Calls Try.prog 16 #[rowOf B n xs.length, .slice (some ⟨b, o, none⟩) n cap, .int .i64 i] wr fun e w' => QEnd B B n (some (xs ++ y, j)) e wr w') := hcall
          have HY : Hid (spAt L f j (ws ++ [y]) = R) := HX'
          have hjlt : i < j := hj5 hlt hsp
          have HJ : Hid (j = n ∨ spB (L.getD j 0) = true) := hj4
          clear hcall HX' hA hbd hj5 hj4 hcount
          go_wp2_with (first | (go_at_call 15; refine (isSpace_any _ _).mono ?_; rintro e w' ⟨rfl, rfl⟩) | (go_at_call 16; refine HC.out.mono ?_; rintro e w1 ⟨rfl, hg1, hown1⟩))
          have hownV1 := hownV.kept hg1 (.inr hVB)
          have hb1 : Below B w w1 := hbel.grown hg1 (by omega) (fun k hk => by cases hk; exact Nat.le_refl _)
          have hs1 : B < w1.heap.size := Nat.lt_of_lt_of_le hBw hg1.size
          clear hown hownV hbel hBw HC
          have j1 : IntKind.i64.wrap ((n : Int) + 1) = (n : Int) + 1 := IntWalk.i64_in _ (by omega)
          have j5 : IntKind.i64.wrap (((n : Int) + 1).tdiv 2) = ((n : Int) + 1) / 2 := by rw [Int.tdiv_eq_ediv_of_nonneg (by omega)]; exact IntWalk.i64_in _ (by omega)
          have j2 : (0 : Int) ≤ (xs.length : Int) := by omega
          have j3 : (xs.length : Int) ≤ (xs.length : Int) + (y.length : Int) := by omega
          have j4 : (xs.length : Int) + (y.length : Int) ≤ (n : Int) := by omega
          have g1 : w1.cell? ⟨b, o + i, none⟩ = some (.int .u8 c) := hg1.cell g0 (by simp; omega)
          have lb := World.block_lt_of_cell? w1 _ g1
          have := World.new_ne w1 ⟨b, o + i, none⟩ g1
          clear hg1 g0
          go_region_held3 (fun w' => w'.cell? ⟨b, o + i, none⟩ = some (.int .u8 c)) (first | go_keep | (refine (hB2.cell (by simp; omega)).trans ?_; first | assumption | go_keep) | (rw [hgrow3.cell_far _ (by have := hB2.size; simp at this ⊢; omega) (by have h9 := (hown2.lt gv rfl).1; intro e9; have e8 : b = gv := Option.some.inj e9; omega)]; assumption))
            (first | (go_at_call 17; refine (grow_any B ws.length _ vs _ _ (by omega) (by omega) (by simp; omega) hvals.one (by first | exact hownV1 | exact hownV1.alloc _)).mono ?_; rintro e w2 ⟨gv, cv, rfl, hblk, hB2, hown2⟩; dsimp only) | (refine step_append_lies _ (by rfl) (.tmp 38) (.tmp 46) 25 (by rfl) B 22 inf _ 1 24 Try.underlying25 hi hz0 hz1 hz2 rfl (by omega) (.slice (some ⟨gv, 0, none⟩) ws.length cv) ws.length vs (by rfl) (hown2.alloc _) ⟨w2.heap.size, 0, none⟩ 1 1 [_] (by rfl) (by rfl) (cell_one_new _ _ _) (by simp [Value.oneCell']) (by omega) (by unfold maxLen; omega) (by omega) (by have := hB2.size; simp at this ⊢; omega) _ rfl ?_; intro g3 c3 w3 hown3 hgrow3 hat3 hlt3) | (refine step_append_lies _ (by rfl) (.tmp 38) (.tmp 46) 25 (by rfl) B 22 inf _ 1 24 Try.underlying25 hi hz0 hz1 hz2 rfl (by omega) (.slice (some ⟨gv, 0, none⟩) ws.length cv) ws.length vs (by rfl) hown2 ⟨w1.heap.size, 0, none⟩ 1 1 [_] (by rfl) (by rfl) (news_later hB2) (by simp [Value.oneCell']) (by omega) (by unfold maxLen; omega) (by omega) (by have := hB2.size; simp at this ⊢; omega) _ rfl ?_; intro g3 c3 w3 hown3 hgrow3 hat3 hlt3))
          · have hBa : Below w1.heap.size w1 (w2.alloc (.cells #[Value.slice (if ((xs.length : Int) + (y.length : Int)).toNat = xs.length then some ⟨B, 0, none⟩ else some ⟨B, xs.length, none⟩) (((xs.length : Int) + (y.length : Int)).toNat - xs.length) (((xs.length : Int) + (y.length : Int)).toNat - xs.length)] 22)) := ((Below.refl _ _).drew.trans hB2).alloc hB2.size _
            have R1 := step_words (k := ws.length + 1) (c3 := c3) hown1 hb1 hs1 hVB (or_le hblk.out (Nat.le_refl _)) ((hown2.lt gv rfl).1) hBa hgrow3 (or_le hat3 hBa.size)
            have e9 : ((xs.length : Int) + (y.length : Int)).toNat - xs.length = y.length := by omega
            rw [e9] at hown3
            have V3 := hvals.snoc y (if ((xs.length : Int) + (y.length : Int)).toNat = xs.length then some ⟨B, 0, none⟩ else some ⟨B, xs.length, none⟩) y.length (fun h => if_neg (by omega))
            have hown3' : w3.ownsRow B 22 1 (.slice (some ⟨g3, 0, none⟩) (ws.length + 1) c3) (ws ++ [y]).length (vs ++ [Value.slice (if ((xs.length : Int) + (y.length : Int)).toNat = xs.length then some ⟨B, 0, none⟩ else some ⟨B, xs.length, none⟩) y.length y.length]) := by
              rw [show (ws ++ [y]).length = ws.length + 1 by simp]
              exact hown3
            have HF : Hid (_ ∧ _ ∧ _) := ⟨hown3', V3, R1⟩
            clear hown1 hown2 hown3 hown3' V3 R1 hBa hgrow3 hat3 hblk hB2 hvals hownV1 e9 j1 j2 j3 j4 j5 g1 lb hVB hb1
            go_wp2
            all_goals
              go_roundw
              case rel => exact ⟨j, f, xs ++ y, ws ++ [y], vs ++ [_], hj2, by omega, by simp; omega, .inr ⟨by simp; omega, HJ.out⟩, rfl, by simp, HF.out.2.2.1, HF.out.1, HF.out.2.2.2.1, HF.out.2.1, HF.out.2.2.2.2.1, HF.out.2.2.2.2.2, HY⟩
              case measure => simp [intOf]; omega
          · have hBa : Below w1.heap.size w1 w2 := ((Below.refl _ _).alloc (Nat.le_refl _) _).drew.trans (hB2.mono (by show _ ≤ (w1.heap.push _).size; simp))
            have R1 := step_words (k := ws.length + 1) (c3 := c3) hown1 hb1 hs1 hVB (or_le hblk.out (by show _ ≤ (w1.heap.push _).size; simp)) ((hown2.lt gv rfl).1) hBa hgrow3 (or_le hat3 hBa.size)
            have e9 : ((xs.length : Int) + (y.length : Int)).toNat - xs.length = y.length := by omega
            rw [e9] at hown3
            have V3 := hvals.snoc y (if ((xs.length : Int) + (y.length : Int)).toNat = xs.length then some ⟨B, 0, none⟩ else some ⟨B, xs.length, none⟩) y.length (fun h => if_neg (by omega))
            have hown3' : w3.ownsRow B 22 1 (.slice (some ⟨g3, 0, none⟩) (ws.length + 1) c3) (ws ++ [y]).length (vs ++ [Value.slice (if ((xs.length : Int) + (y.length : Int)).toNat = xs.length then some ⟨B, 0, none⟩ else some ⟨B, xs.length, none⟩) y.length y.length]) := by
              rw [show (ws ++ [y]).length = ws.length + 1 by simp]
              exact hown3
            have HF : Hid (_ ∧ _ ∧ _) := ⟨hown3', V3, R1⟩
            clear hown1 hown2 hown3 hown3' V3 R1 hBa hgrow3 hat3 hblk hB2 hvals hownV1 e9 j1 j2 j3 j4 j5 g1 lb hVB hb1
            go_wp2
            all_goals
              go_roundw
              case rel => exact ⟨j, f, xs ++ y, ws ++ [y], vs ++ [_], hj2, by omega, by simp; omega, .inr ⟨by simp; omega, HJ.out⟩, rfl, by simp, HF.out.2.2.1, HF.out.1, HF.out.2.2.2.1, HF.out.2.1, HF.out.2.2.2.2.1, HF.out.2.2.2.2.2, HY⟩
              case measure => simp [intOf]; omega
    · rw [spAt, if_neg (by omega)] at HX'
      have HY : Hid (some ws = R) := HX'
      clear HX' hc hcount hB
      go_wp2
      go_ret2
      rw [← HY.out]
      exact ⟨_, rfl, by rw [← HB.out]; exact hbel, words_end hown hownV hvals⟩

end Go.Proofs.Qxb6616016a
