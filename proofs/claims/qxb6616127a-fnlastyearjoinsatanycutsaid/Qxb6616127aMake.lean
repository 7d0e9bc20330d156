/-
  lastYearMap.
-/
import Derived.Test.Qxb6616127aMap
namespace Go.Proofs.Qxb6616127a
open Go.RowKit

theorem makeMap_hint (n : Int) (w : World) : (Instr.makeMap 35 (some (.int .i64 n))).run Try.prog w = .ok (.map (some w.heap.size)) (w.alloc (.map #[] 0)) := by kernel_rfl

theorem look_nil_run (s : ByteArray) (w : World) : (Instr.lookup 35 (.map none) (.string s) false).run Try.prog w = .ok (.agg #[.string ByteArray.empty, .int .i64 0, .slice none 0 0, .int .i64 0, .int .i64 0, .bool false, .slice none 0 0]) w := by kernel_rfl

theorem years_put_fun (ts : List (ByteArray × List Int)) (k : Nat) (h : k < ts.length) :
    yearsFor (keyed (ts.take (k + 1))) = lookPut (yearsFor (keyed (ts.take k))) (key (ts.getD k (ByteArray.empty, [])).1) (ts.getD k (ByteArray.empty, [])).2 := by
  funext id
  unfold lookPut
  by_cases e : id = key (ts.getD k (ByteArray.empty, [])).1
  · rw [if_pos e]
    exact years_hit ts k h id (by rw [e]; simp)
  · rw [if_neg e]
    exact years_miss ts k h id (by simp only [beq_eq_false_iff_ne]; exact fun h => e h.symm)

theorem map_nil (w : World) :
    Calls Try.prog 12 #[.slice none 0 0] w fun e w' => e = .returned (.map none) ∧ w = w' := by
  have hq := fun w => Lib.run_eql_slice_nil (P := Try.prog) w 32 63 none 0 0 0 0 Try.underlying32
  go_enter Try.func12, Try.ntmps12
  go_wp2
  go_ret
  exact ⟨rfl, rfl⟩

set_option maxHeartbeats 2000000 in
set_option maxRecDepth 100000 in
theorem map_some (ad : Addr) (n cap : Nat) (ts : List (ByteArray × List Int)) (w : World) (hn : n ≤ 65536) (hts : ts.length = n) (hyl : ∀ t, t < n → (ts.getD t (ByteArray.empty, [])).2.length ≤ 131072) (h : TestsAt w (.slice (some ad) n cap) ts) :
    Calls Try.prog 12 #[.slice (some ad) n cap] w fun e w' => e = .returned (.map (some w.heap.size)) ∧ Below w.heap.size w w' ∧ MapAt w' w.heap.size n (yearsFor (keyed ts)) := by
  have HT : Hid _ := h.form
  have HL : Hid _ := hyl
  have HS : Hid (ts.length = n) := hts
  clear h hyl hts
  have hq := fun w => Lib.run_eql_slice_nil (P := Try.prog) w 32 63 (some ad) n cap 0 0 Try.underlying32
  have hmm := makeMap_hint (n : Int)
  obtain ⟨B, hB⟩ : ∃ B, B = w.heap.size := ⟨_, rfl⟩
  have HB : Hid (B = w.heap.size) := hB
  go_enter Try.func12, Try.ntmps12
  go_wp2
  clear hmm hq
  have m0 := mapAt_made w
  have b0 : Below w.heap.size w (w.alloc (.map #[] 0)) := (Below.refl _ _).alloc (Nat.le_refl _) _
  rw [← hB] at m0 b0
  rw [← hB]
  go_loopw [4] (fun i wr => ∃ k : Nat, k ≤ n ∧ i = .int .i64 k ∧ Hid (MapAt wr B k (yearsFor (keyed (ts.take k)))) ∧ Below B w wr) (fun i _ => n - (intOf i).toNat)
  case atStart => exact ⟨0, Nat.zero_le _, rfl, m0, b0⟩
  case round =>
    obtain ⟨k, hk, rfl, HM, hb⟩ := hrel
    clear m0 b0
    by_cases hlt : k < n
    · obtain ⟨b, o, x, c, had, g0, hs, g1, hy⟩ := HT.out k hlt
      have hl := HL.out k hlt
      obtain rfl := Option.some.inj had
      have hkl : k < ts.length := by rw [HS.out]; exact hlt
      have hbl : b < B := by rw [hB]; exact World.block_lt_of_cell? w _ g0
      have g0' := (hb.cell (p := ⟨b, o + k * 2, none⟩) hbl).trans g0
      have g1' := (hb.cell (p := ⟨b, o + k * 2 + 1, none⟩) hbl).trans g1
      have hy' : IntsAt wr (.slice x (ts.getD k (ByteArray.empty, [])).2.length c) (ts.getD k (ByteArray.empty, [])).2 := hy.later (by rw [← hB]; exact hb)
      obtain ⟨t, ht⟩ : ∃ t, t = ts.getD k (ByteArray.empty, []) := ⟨_, rfl⟩
      rw [← ht] at g0' g1' hs hy' hl
      have HD : Hid (t = ts.getD k (ByteArray.empty, [])) := ht
      have HY : Hid (IntsAt wr (.slice x t.2.length c) t.2) := hy'
      clear g0 g1 hy hy' ht had hB
      have hBw := HM.out.lt
      have i1 : (0 : Int) ≤ (k : Int) := by omega
      have i2 : (k : Int) < (n : Int) := by omega
      go_wp2
      have lb := World.block_lt_of_cell? wr _ g0'
      go_region_held3 (fun w' => w'.cell? ⟨b, o + k * 2, none⟩ = some (.string t.1) ∧ w'.cell? ⟨b, o + k * 2 + 1, none⟩ = some (.slice x t.2.length c)) (first | go_keep | (go_split_ands; refine ⟨?_, ?_⟩ <;> (refine (hb1.cell (by exact lb)).trans ?_; assumption)) | (go_split_ands; refine ⟨?_, ?_⟩ <;> (refine hg2.cell ?_ (by simp; omega); assumption)))
        (first | (go_at_call 21; refine (clone_any x t.2.length c t.2 _ (by omega) rfl (HY.out.later ((Below.refl _ _).drew))).mono ?_; rintro e w1 ⟨a1, c1, rfl, hb1, hi1⟩; obtain ⟨w2, hup, hM2, hg2⟩ := (HM.out.later ((Below.refl _ _).drew.trans hb1)).put (by omega) t.1 hs (.string t.1) (.int .i64 0) a1 t.2 c1 (.int .i64 0) (.int .i64 0) (.bool false) (.slice none 0 0) hi1; dsimp only))
      have hM3 : MapAt w2 B (k + 1) (yearsFor (keyed (ts.take (k + 1)))) := by rw [years_put_fun ts k hkl, ← HD.out]; exact hM2
      have hb3 : Below B w w2 := (hb.drew.trans (hb1.mono (Nat.le_of_lt hBw))).grown hg2 (Nat.le_trans (Nat.le_of_lt hBw) hb1.size) (fun k h => by cases h; exact Nat.le_refl _)
      have HM3 : Hid (MapAt w2 B (k + 1) (yearsFor (keyed (ts.take (k + 1))))) := hM3
      clear hM2 hM3 hup hg2 hb1 hi1 g0' g1'
      go_wp2
      go_roundw
      case rel => exact ⟨k + 1, by omega, by go_num, HM3, hb3⟩
      case measure => simp [intOf]; omega
    · obtain rfl : k = n := by omega
      go_wp2
      go_ret
      have e : ts.take k = ts := List.take_of_length_le (by rw [HS.out]; exact Nat.le_refl _)
      have hM := HM.out
      rw [e] at hM
      rw [HB.out] at hM hb ⊢
      exact ⟨rfl, hb, hM⟩

theorem map_any (x : Option Addr) (n c : Nat) (ts : List (ByteArray × List Int)) (w : World) (hn : n ≤ 65536) (hts : ts.length = n) (hyl : ∀ t, t < n → (ts.getD t (ByteArray.empty, [])).2.length ≤ 131072) (h : TestsAt w (.slice x n c) ts) :
    Calls Try.prog 12 #[.slice x n c] w fun e w' => (e = .returned (.map none) ∧ Below w.heap.size w w' ∧ ts = []) ∨ (∃ b, w.heap.size ≤ b ∧ e = .returned (.map (some b)) ∧ Below w.heap.size w w' ∧ MapAt w' b n (yearsFor (keyed ts))) := by
  cases x with
  | none =>
    obtain ⟨a', c', hv, h0, hc⟩ := h
    obtain ⟨rfl, rfl, rfl⟩ : none = a' ∧ n = ts.length ∧ c = c' := by simpa using hv
    obtain rfl := h0 rfl
    have hz0 : ts = [] := by
      cases ts with
      | nil => rfl
      | cons y t => obtain ⟨b, o, _, _, ha, _⟩ := hc 0 (by simp); cases ha
    subst hz0
    refine (map_nil w).mono ?_
    rintro e w' ⟨rfl, rfl⟩
    exact .inl ⟨rfl, Below.refl _ _, rfl⟩
  | some ad =>
    refine (map_some ad n c ts w hn hts hyl h).mono ?_
    rintro e w' ⟨rfl, hb, hM⟩
    exact .inr ⟨_, Nat.le_refl _, rfl, hb, hM⟩

/-- A nil map gives nothing at every id. -/
theorem look_nil_map (s : ByteArray) (w : World) (look : List UInt8 → List Int) (h0 : look (key s) = []) : LookAt w (.map none) look s := by
  refine ⟨.string ByteArray.empty, .int .i64 0, none, 0, .int .i64 0, .int .i64 0, .bool false, .slice none 0 0, ?_, ?_⟩
  · rw [h0]
    exact look_nil_run s w
  · rw [h0]
    exact nil_ints w

end Go.Proofs.Qxb6616127a
