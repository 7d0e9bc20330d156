/-
  appendQuoted: what it computes is 'aqAt'.
-/
import Derived.Test.Qxb6616016aEq
import Derived.Deep.RegionHeld3
import Derived.Deep.AppendLies
import Derived.Deep.DrawnRows
namespace Go.Proofs.Qxb6616016a
open Go.RowKit

theorem Try.info5 : (Try.prog.info? 5).map (fun i => (i.zero, i.size, i.bytes)) = some (some (.int .u8 0), 1, 1) := by kernel_rfl

abbrev rowOf (g n k : Nat) : Value := .slice (some ⟨g, 0, none⟩) k n
abbrev U8 (xs : List Int) : List Value := xs.map (Value.int .u8)

theorem grownBy_trans {a b c : World} {r : Option Nat} (h : a.grownBy b r) (k : b.grownBy c r) : a.grownBy c r :=
  ⟨k.os.trans h.os, k.tape.trans h.tape, k.output.trans h.output, Nat.le_trans h.size k.size, fun i hi hr => (k.block i (Nat.lt_of_lt_of_le hi h.size) hr).trans (h.block i hi hr)⟩

theorem grownBy_drew {a b : World} {r : Option Nat} (h : a.grownBy b r) : a.grownBy b.drew r := ⟨h.os, h.tape, h.output, h.size, h.block⟩

theorem grownBy_cell {a b : World} {g : Nat} (h : a.grownBy b (some g)) {bl o : Nat} {v : Value} (hne : bl ≠ g) (hc : a.cell? ⟨bl, o, none⟩ = some v) : b.cell? ⟨bl, o, none⟩ = some v :=
  h.cell hc (by simpa using hne)

theorem own_snoc {w1 : World} {B g n : Nat} {xs : List Int} {c : Int} (h : w1.ownsRow B 5 1 (rowOf g n (xs.length + 1)) (xs.length + 1) (U8 xs ++ [.int .u8 c])) :
    w1.ownsRow B 5 1 (rowOf g n (xs ++ [c]).length) (xs ++ [c]).length (U8 (xs ++ [c])) := by simpa using h

/-- 'append' within the capacity, as one step of a region that draws its order. -/
theorem step_append_fits {P : Program} {ops : Array Oper} {o : Oper} {a : Act} {w : World} {K : Act → World → Prop} {Q : Exit → Act → World → Prop} {E : Prop}
    (hg : o.guard = none) (s x : Operand) (t : TypeId) (hop : o.op = Op.call { callee := Callee.builtin Builtin.append, args := #[s, x], argTypes := #[t, t] })
    (base : Nat) (e : TypeId) (i : TypeInfo) (size : Nat) (h1 : P.underlying t = some (.slice e)) (h2 : P.info? e = some i) (h4 : i.size = size)
    (g k cap : Nat) (xs : List Value) (hs : a.eval s = .slice (some ⟨g, 0, none⟩) k cap) (hown : w.ownsRow base e size (.slice (some ⟨g, 0, none⟩) k cap) k xs) (ad : Addr) (m c : Nat) (news : List Value) (hx : a.eval x = .slice (some ad) m c) (hn : news.length = m * size)
    (hc : ∀ j u, news[j]? = some u → w.cell? (ad.add j) = some u) (h1c : ∀ u ∈ news, u.oneCell' = true) (b1 : k + m ≤ cap)
    (hK : ∀ w', w'.ownsRow base e size (.slice (some ⟨g, 0, none⟩) (k + m) cap) (k + m) (xs ++ news) → w.grownBy w' (some g) → K (a.put o.dst (.slice (some ⟨g, 0, none⟩) (k + m) cap)) w') :
    if Region.wanted o (yielded ops a.tmps) = true then Oper.wp P o a w K Q else E := by
  have hw : Region.wanted o (yielded ops a.tmps) = true := by simp [Region.wanted, hg]
  rw [if_pos hw]
  obtain ⟨w', hrun, r1, r2⟩ := run_append_fits (P := P) w base t o.type e i size h1 h2 h4 g k cap xs hown ad m c news hn hc h1c b1
  unfold Oper.wp
  simp [execOp, hop, resolve, invoke, builtin, hs, hx, hrun, Result.andThen]
  exact hK w' r1 r2

/-- What the ending is, by the plain result. -/
def QEnd (B g n : Nat) (R : Option (List Int × Nat)) (e : Ending) (w w' : World) : Prop :=
  match R with
  | none => e = .returned (.tuple #[.slice none 0 0, .int .i64 0, .bool false]) ∧ w.grownBy w' (some g)
  | some (ys, j) => e = .returned (.tuple #[rowOf g n ys.length, .int .i64 j, .bool true]) ∧ w.grownBy w' (some g) ∧ w'.ownsRow B 5 1 (rowOf g n ys.length) ys.length (U8 ys)

set_option maxHeartbeats 2000000 in
set_option maxRecDepth 100000 in
theorem aq_any (b o cap n B g i0 : Nat) (L xs0 : List Int) (q : Int) (hq : q = 34 ∨ q = 39) (w : World) (hL : L.length = n) (hn : n ≤ 1048576) (hbg : b ≠ g) (hi0 : i0 ≤ n) (hx0 : xs0.length ≤ i0)
    (hc : ∀ t, t < n → w.cell? ⟨b, o + t, none⟩ = some (.int .u8 (L.getD t 0))) (hown0 : w.ownsRow B 5 1 (rowOf g n xs0.length) xs0.length (U8 xs0)) :
    Calls Try.prog 18 #[rowOf g n xs0.length, .slice (some ⟨b, o, none⟩) n cap, .int .i64 i0, .int .u8 q] w fun e w' => QEnd B g n (aqAt L q (n + 1) i0 xs0) e w w' := by
  obtain ⟨R, hR⟩ : ∃ R, aqAt L q (n + 1) i0 xs0 = R := ⟨_, rfl⟩
  rw [hR]
  have HR : Hid (aqAt L q (n + 1) i0 xs0 = R) := hR
  clear hR
  obtain ⟨inf, hi, hz0, hz1, hz2⟩ := info_parts Try.info5
  go_enter Try.func18, Try.ntmps18
  go_wp2
  go_loopw [0, 2] (fun room si wr => ∃ (i f : Nat) (xs : List Int), i ≤ n ∧ n < i + f ∧ xs.length ≤ i ∧ si = .int .i64 i ∧ room = rowOf g n xs.length ∧
      wr.ownsRow B 5 1 (rowOf g n xs.length) xs.length (U8 xs) ∧ w.grownBy wr (some g) ∧ Hid (aqAt L q f i xs = R))
    (fun _ si _ => n - (intOf si).toNat)
  case atStart => exact ⟨i0, n + 1, xs0, hi0, by omega, hx0, rfl, rfl, hown0, World.grownBy.refl _ _, HR⟩
  case round =>
    obtain ⟨i, f, xs, hin, hf, hxl, rfl, rfl, hown, hgr, HX⟩ := hrel
    clear HR
    by_cases hlt : i < n
    · have hcr : ∀ t, t < n → wr.cell? ⟨b, o + t, none⟩ = some (.int .u8 (L.getD t 0)) := fun t ht => grownBy_cell hgr hbg (hc t ht)
      clear hc
      obtain ⟨f, rfl⟩ : ∃ f', f = f' + 1 := ⟨f - 1, by omega⟩
      have g0 := hcr i hlt
      obtain ⟨c, hcd⟩ : ∃ c, c = L.getD i 0 := ⟨_, rfl⟩
      rw [← hcd] at g0
      have HX' := HX.out
      rw [aqAt, if_pos (by omega), ← hcd] at HX'
      clear HX hcd
      by_cases hcq : c = q
      · subst hcq
        rw [if_pos rfl] at HX'
        by_cases h1 : i + 1 < n
        · have g1 := hcr (i + 1) h1
          obtain ⟨d, hdd⟩ : ∃ d, d = L.getD (i + 1) 0 := ⟨_, rfl⟩
          rw [← hdd] at g1 HX'
          clear hdd hcr
          cases hsp : spB d with
          | true =>
            rw [if_neg (by simp [hsp])] at HX'
            have HY : Hid (some (xs, i + 1) = R) := HX'
            clear HX'
            go_wp2_with (go_at_call 15; refine (isSpace_any _ _).mono ?_; rintro e w' ⟨rfl, rfl⟩)
            go_ret3
            rw [← HY.out]
            exact ⟨rfl, hgr, hown⟩
          | false =>
            rw [if_pos ⟨by omega, hsp⟩] at HX'
            have HY : Hid (none = R) := HX'
            clear HX'
            go_wp2_with (go_at_call 15; refine (isSpace_any _ _).mono ?_; rintro e w' ⟨rfl, rfl⟩)
            go_ret3
            rw [← HY.out]
            exact ⟨rfl, hgr⟩
        · clear hcr
          rw [if_neg (by omega)] at HX'
          have HY : Hid (some (xs, i + 1) = R) := HX'
          clear HX'
          go_wp2
          go_ret3
          rw [← HY.out]
          exact ⟨rfl, hgr, hown⟩
      · rw [if_neg hcq] at HX'
        by_cases h92 : c = 92
        · subst h92
          rcases hq with rfl | rfl
          · -- the double quote
            rw [if_neg (by omega)] at HX'
            by_cases h1 : i + 1 < n
            · have g1 := hcr (i + 1) h1
              obtain ⟨d, hdd⟩ : ∃ d, d = L.getD (i + 1) 0 := ⟨_, rfl⟩
              rw [← hdd] at g1 HX'
              clear hdd
              by_cases h3 : i + 3 < n
              · have g2 := hcr (i + 2) (by omega)
                obtain ⟨x, hxd⟩ : ∃ x, x = L.getD (i + 2) 0 := ⟨_, rfl⟩
                rw [← hxd] at g2 HX'
                have g3 := hcr (i + 3) (by omega)
                obtain ⟨y, hyd⟩ : ∃ y, y = L.getD (i + 3) 0 := ⟨_, rfl⟩
                rw [← hyd] at g3 HX'
                clear hxd hyd
                by_cases hd : d = 120
                · subst hd
                  cases hx : hexB x with
                  | true =>
                    cases hy : hexB y with
                    | true =>
                      rw [if_pos ⟨rfl, rfl, by omega, rfl, hx, hy⟩] at HX'
                      have HY : Hid (aqAt L 34 f (i + 4) (xs ++ [hxF x y]) = R) := HX'
                      clear HX' hcr
                      have j1 : (0 : Int) ≤ (i : Int) + 2 := by omega
                      have j2 : (i : Int) + 2 < (n : Int) := by omega
                      have j3 : (0 : Int) ≤ (i : Int) + 3 := by omega
                      have j4 : (i : Int) + 3 < (n : Int) := by omega
                      have j5 : IntKind.i64.wrap ((i : Int) + 2) = (i : Int) + 2 := IntWalk.i64_in _ (by omega)
                      have j6 : IntKind.i64.wrap ((i : Int) + 3) = (i : Int) + 3 := IntWalk.i64_in _ (by omega)
                      go_wp2_with (go_at_call 19; refine (isHex_any _ _).mono ?_; rintro e w' ⟨rfl, rfl⟩)
                      have lb := World.block_lt_of_cell? wr _ g0
                      have j7 : wr.cell? ⟨b, o + ((i : Int) + 2).toNat, none⟩ = some (.int .u8 x) := by rw [show ((i : Int) + 2).toNat = i + 2 by omega]; exact g2
                      have j8 : wr.cell? ⟨b, o + ((i : Int) + 3).toNat, none⟩ = some (.int .u8 y) := by rw [show ((i : Int) + 3).toNat = i + 3 by omega]; exact g3
                      go_region_held3 (fun w' => w'.cell? ⟨b, o + ((i : Int) + 2).toNat, none⟩ = some (.int .u8 x) ∧ w'.cell? ⟨b, o + ((i : Int) + 3).toNat, none⟩ = some (.int .u8 y)) (first | go_keep | (go_split_ands; refine ⟨?_, ?_⟩ <;> (rw [hgrow1.cell_far _ (by simp; omega) (by simpa using hbg)]; assumption)))
                        (first | (go_at_call 20; refine (hexValue_any _ _).mono ?_; rintro e w' ⟨rfl, rfl⟩) | (refine step_append_fits (by rfl) (.tmp 112) (.tmp 127) 22 (by rfl) B 5 inf 1 Try.underlying22 hi hz1 g xs.length n _ (by rfl) ((hown.alloc _).drew) ⟨wr.heap.size, 0, none⟩ 1 1 [.int .u8 (hxF x y)] (by rfl) (by rfl) (cell_one_new _ _ _) (by simp [Value.oneCell']) (by omega) ?_; intro w1 hown1 hgrow1))
                      clear j1 j2 j3 j4 j5 j6 j7 j8
                      go_wp2
                      go_roundw
                      case rel => exact ⟨i + 4, f, xs ++ [hxF x y], by omega, by omega, by simp; omega, by go_num, by simp, own_snoc hown1, grownBy_trans (grownBy_drew (grownBy_trans hgr (World.grownBy_alloc _ _ _))) hgrow1, HY⟩
                      case measure => simp [intOf]; omega
                    | false =>
                      rw [if_neg (by simp [hy]), if_pos ⟨rfl, rfl, by omega⟩] at HX'
                      have HY : Hid (aqAt L 34 f (i + 2) (xs ++ [unF 120]) = R) := HX'
                      clear HX' hcr
                      go_wp2_with (first | (go_at_call 21; refine (unescape_any _ _).mono ?_; rintro e w' ⟨rfl, rfl⟩) | (go_at_call 19; refine (isHex_any _ _).mono ?_; rintro e w' ⟨rfl, rfl⟩) | (at_builtin; refine wpList_append_fits _ rfl (.tmp 145) (.tmp 152) 22 rfl B 5 inf 1 Try.underlying22 hi hz1 g xs.length n _ rfl (hown.alloc _) ⟨wr.heap.size, 0, none⟩ 1 1 [.int .u8 (unF 120)] rfl rfl (cell_one_new _ _ _) (by simp [Value.oneCell']) (by omega) ?_; intro w1 hown1 hgrow1))
                      go_roundw
                      case rel => exact ⟨i + 2, f, xs ++ [unF 120], by omega, by omega, by simp; omega, by go_num, by simp, own_snoc hown1, grownBy_trans hgr (grownBy_trans (World.grownBy_alloc _ _ _) hgrow1), HY⟩
                      case measure => simp [intOf]; omega
                  | false =>
                    rw [if_neg (by simp [hx]), if_pos ⟨rfl, rfl, by omega⟩] at HX'
                    have HY : Hid (aqAt L 34 f (i + 2) (xs ++ [unF 120]) = R) := HX'
                    clear HX' hcr
                    go_wp2_with (first | (go_at_call 21; refine (unescape_any _ _).mono ?_; rintro e w' ⟨rfl, rfl⟩) | (go_at_call 19; refine (isHex_any _ _).mono ?_; rintro e w' ⟨rfl, rfl⟩) | (at_builtin; refine wpList_append_fits _ rfl (.tmp 145) (.tmp 152) 22 rfl B 5 inf 1 Try.underlying22 hi hz1 g xs.length n _ rfl (hown.alloc _) ⟨wr.heap.size, 0, none⟩ 1 1 [.int .u8 (unF 120)] rfl rfl (cell_one_new _ _ _) (by simp [Value.oneCell']) (by omega) ?_; intro w1 hown1 hgrow1))
                    go_roundw
                    case rel => exact ⟨i + 2, f, xs ++ [unF 120], by omega, by omega, by simp; omega, by go_num, by simp, own_snoc hown1, grownBy_trans hgr (grownBy_trans (World.grownBy_alloc _ _ _) hgrow1), HY⟩
                    case measure => simp [intOf]; omega
                · rw [if_neg (by omega), if_pos ⟨rfl, rfl, by omega⟩] at HX'
                  have hd' : (d == 120) = false := by simpa using hd
                  have HY : Hid (aqAt L 34 f (i + 2) (xs ++ [unF d]) = R) := HX'
                  clear HX' hcr
                  go_wp2_with (first | (go_at_call 21; refine (unescape_any _ _).mono ?_; rintro e w' ⟨rfl, rfl⟩) | (go_at_call 19; refine (isHex_any _ _).mono ?_; rintro e w' ⟨rfl, rfl⟩) | (at_builtin; refine wpList_append_fits _ rfl (.tmp 145) (.tmp 152) 22 rfl B 5 inf 1 Try.underlying22 hi hz1 g xs.length n _ rfl (hown.alloc _) ⟨wr.heap.size, 0, none⟩ 1 1 [.int .u8 (unF d)] rfl rfl (cell_one_new _ _ _) (by simp [Value.oneCell']) (by omega) ?_; intro w1 hown1 hgrow1))
                  go_roundw
                  case rel => exact ⟨i + 2, f, xs ++ [unF d], by omega, by omega, by simp; omega, by go_num, by simp, own_snoc hown1, grownBy_trans hgr (grownBy_trans (World.grownBy_alloc _ _ _) hgrow1), HY⟩
                  case measure => simp [intOf]; omega
              · rw [if_neg (by omega), if_pos ⟨rfl, rfl, by omega⟩] at HX'
                have HY : Hid (aqAt L 34 f (i + 2) (xs ++ [unF d]) = R) := HX'
                clear HX' hcr
                go_wp2_with (first | (go_at_call 21; refine (unescape_any _ _).mono ?_; rintro e w' ⟨rfl, rfl⟩) | (go_at_call 19; refine (isHex_any _ _).mono ?_; rintro e w' ⟨rfl, rfl⟩) | (at_builtin; refine wpList_append_fits _ rfl (.tmp 145) (.tmp 152) 22 rfl B 5 inf 1 Try.underlying22 hi hz1 g xs.length n _ rfl (hown.alloc _) ⟨wr.heap.size, 0, none⟩ 1 1 [.int .u8 (unF d)] rfl rfl (cell_one_new _ _ _) (by simp [Value.oneCell']) (by omega) ?_; intro w1 hown1 hgrow1))
                go_roundw
                case rel => exact ⟨i + 2, f, xs ++ [unF d], by omega, by omega, by simp; omega, by go_num, by simp, own_snoc hown1, grownBy_trans hgr (grownBy_trans (World.grownBy_alloc _ _ _) hgrow1), HY⟩
                case measure => simp [intOf]; omega
            · rw [if_neg (by omega), if_neg (by omega)] at HX'
              have HY : Hid (aqAt L 34 f (i + 1) (xs ++ [92]) = R) := HX'
              clear HX' hcr
              go_wp2_with (at_builtin; refine wpList_append_fits _ rfl (.tmp 20) (.tmp 22) 22 rfl B 5 inf 1 Try.underlying22 hi hz1 g xs.length n _ rfl (hown.alloc _) ⟨wr.heap.size, 0, none⟩ 1 1 [.int .u8 92] rfl rfl (cell_one_new _ _ _) (by simp [Value.oneCell']) (by omega) ?_; intro w1 hown1 hgrow1)
              go_roundw
              case rel => exact ⟨i + 1, f, xs ++ [92], by omega, by omega, by simp; omega, by go_num, by simp, own_snoc hown1, grownBy_trans hgr (grownBy_trans (World.grownBy_alloc _ _ _) hgrow1), HY⟩
              case measure => simp [intOf]; omega
          · -- the single quote
            by_cases h1 : i + 1 < n
            · have g1 := hcr (i + 1) h1
              obtain ⟨d, hdd⟩ : ∃ d, d = L.getD (i + 1) 0 := ⟨_, rfl⟩
              rw [← hdd] at g1 HX'
              clear hdd
              by_cases hd : d = 39
              · subst hd
                rw [if_pos ⟨rfl, rfl, by omega, rfl⟩] at HX'
                have HY : Hid (aqAt L 39 f (i + 2) (xs ++ [39]) = R) := HX'
                clear HX' hcr
                go_wp2_with (at_builtin; refine wpList_append_fits _ rfl (.tmp 69) (.tmp 70) 22 rfl B 5 inf 1 Try.underlying22 hi hz1 g xs.length n _ rfl (hown.alloc _) ⟨wr.heap.size, 0, none⟩ 1 1 [.int .u8 39] rfl rfl (cell_one_new _ _ _) (by simp [Value.oneCell']) (by omega) ?_; intro w1 hown1 hgrow1)
                go_roundw
                case rel => exact ⟨i + 2, f, xs ++ [39], by omega, by omega, by simp; omega, by go_num, by simp, own_snoc hown1, grownBy_trans hgr (grownBy_trans (World.grownBy_alloc _ _ _) hgrow1), HY⟩
                case measure => simp [intOf]; omega
              · rw [if_neg (by omega), if_neg (by omega), if_neg (by omega)] at HX'
                have hd' : (d == 39) = false := by simpa using hd
                have HY : Hid (aqAt L 39 f (i + 1) (xs ++ [92]) = R) := HX'
                clear HX' hcr
                go_wp2_with (at_builtin; refine wpList_append_fits _ rfl (.tmp 20) (.tmp 22) 22 rfl B 5 inf 1 Try.underlying22 hi hz1 g xs.length n _ rfl (hown.alloc _) ⟨wr.heap.size, 0, none⟩ 1 1 [.int .u8 92] rfl rfl (cell_one_new _ _ _) (by simp [Value.oneCell']) (by omega) ?_; intro w1 hown1 hgrow1)
                go_roundw
                case rel => exact ⟨i + 1, f, xs ++ [92], by omega, by omega, by simp; omega, by go_num, by simp, own_snoc hown1, grownBy_trans hgr (grownBy_trans (World.grownBy_alloc _ _ _) hgrow1), HY⟩
                case measure => simp [intOf]; omega
            · rw [if_neg (by omega), if_neg (by omega), if_neg (by omega)] at HX'
              have HY : Hid (aqAt L 39 f (i + 1) (xs ++ [92]) = R) := HX'
              clear HX' hcr
              go_wp2_with (at_builtin; refine wpList_append_fits _ rfl (.tmp 20) (.tmp 22) 22 rfl B 5 inf 1 Try.underlying22 hi hz1 g xs.length n _ rfl (hown.alloc _) ⟨wr.heap.size, 0, none⟩ 1 1 [.int .u8 92] rfl rfl (cell_one_new _ _ _) (by simp [Value.oneCell']) (by omega) ?_; intro w1 hown1 hgrow1)
              go_roundw
              case rel => exact ⟨i + 1, f, xs ++ [92], by omega, by omega, by simp; omega, by go_num, by simp, own_snoc hown1, grownBy_trans hgr (grownBy_trans (World.grownBy_alloc _ _ _) hgrow1), HY⟩
              case measure => simp [intOf]; omega
        · clear hcr
          rw [if_neg (by omega), if_neg (by omega), if_neg (by omega)] at HX'
          have HY : Hid (aqAt L q f (i + 1) (xs ++ [c]) = R) := HX'
          clear HX'
          have hcq' : (c == q) = false := by simpa using hcq
          have h92' : (c == 92) = false := by simpa using h92
          go_wp2_with (at_builtin; refine wpList_append_fits _ rfl (.tmp 20) (.tmp 22) 22 rfl B 5 inf 1 Try.underlying22 hi hz1 g xs.length n _ rfl (hown.alloc _) ⟨wr.heap.size, 0, none⟩ 1 1 [.int .u8 c] rfl rfl (cell_one_new _ _ _) (by simp [Value.oneCell']) (by omega) ?_; intro w1 hown1 hgrow1)
          go_roundw
          case rel => exact ⟨i + 1, f, xs ++ [c], by omega, by omega, by simp; omega, by go_num, by simp, own_snoc hown1, grownBy_trans hgr (grownBy_trans (World.grownBy_alloc _ _ _) hgrow1), HY⟩
          case measure => simp [intOf]; omega
    · obtain ⟨f, rfl⟩ : ∃ f', f = f' + 1 := ⟨f - 1, by omega⟩
      have HX' := HX.out
      rw [aqAt, if_neg (by omega)] at HX'
      have HY : Hid (none = R) := HX'
      clear HX' HX hc
      go_wp2
      go_ret3
      rw [← HY.out]
      exact ⟨rfl, hgr⟩

end Go.Proofs.Qxb6616016a
