/-
  FnLastYearRisesToAnAddedYear: the walk.
-/
import Derived.Test.Qxb6616127aAux
namespace Go.Proofs.Qxb6616127a
open Go.RowKit

theorem IntsAt.form {w : World} {a : Option Addr} {n cap : Nat} {zs : List Int} (h : IntsAt w (.slice a n cap) zs) : ∀ t, t < n → ∃ b o, a = some ⟨b, o, none⟩ ∧ w.cell? ⟨b, o + t, none⟩ = some (.int .i64 (zs.getD t 0)) := by
  obtain ⟨a', c', hv, _, hc⟩ := h
  obtain ⟨rfl, rfl, _⟩ : a = a' ∧ n = zs.length ∧ cap = c' := by simpa using hv
  exact hc

theorem StrsAt.later_row {w w' : World} {g n c bm q : Nat} {ss : List ByteArray} (h : StrsAt w (.slice (some ⟨g, 0, none⟩) n c) ss) (hg : g < q) (hb : Below bm w w') (hq : q ≤ bm := by assumption) : StrsAt w' (.slice (some ⟨g, 0, none⟩) n c) ss := by
  have hf := h.form
  obtain ⟨a', c', hv, h0, hc⟩ := h
  obtain ⟨ha', hn, hc'⟩ : some ⟨g, 0, none⟩ = a' ∧ n = ss.length ∧ c = c' := by simpa using hv
  refine ⟨some ⟨g, 0, none⟩, c, by rw [hn], (fun h => by cases h), fun t ht => ?_⟩
  obtain ⟨b, o, e, hcell, hs⟩ := hf t (by omega)
  obtain ⟨rfl, rfl⟩ : g = b ∧ 0 = o := by simpa using e
  exact ⟨g, 0, rfl, (hb.cell (p := ⟨g, 0 + t, none⟩) (by show g < bm; omega)).trans hcell, hs⟩

theorem id_at {w : World} {g n c : Nat} {ss : List ByteArray} (h : StrsAt w (.slice (some ⟨g, 0, none⟩) n c) ss) (j : Nat) (hj : j < n) (hn : ss.length = n) :
    ∃ id, w.cell? ⟨g, j, none⟩ = some (.string id) ∧ id ∈ ss ∧ id.size ≤ maxLen := by
  obtain ⟨b, o, ha, hcell, hs⟩ := h.form j hj
  obtain ⟨rfl, rfl⟩ : g = b ∧ 0 = o := by simpa using ha
  rw [Nat.zero_add] at hcell
  refine ⟨_, hcell, ?_, hs⟩
  have : j < ss.length := by omega
  simp [List.getD, this]

set_option maxHeartbeats 4000000 in
set_option maxRecDepth 100000 in
theorem rises_any (a : Option Addr) (n ca : Nat) (ss : List ByteArray) (b : Option Addr) (m cb : Nat) (ts : List (ByteArray × List Int)) (j k y : Int) (w : World) (hss : ss.length = n) (hts : ts.length = m) (hn : n ≤ maxLen) (hm : m ≤ maxLen)
    (hyl : ∀ t, t < m → (ts.getD t (ByteArray.empty, [])).2.length ≤ maxLen) (hids : StrsAt w (.slice a n ca) ss) (htests : TestsAt w (.slice b m cb) ts) :
    Calls Try.prog 5 #[.slice a n ca, .slice b m cb, .int .i64 j, .int .i64 k, .int .i64 y] w fun e w' => e = .returned (.bool true) ∧ Below w.heap.size w w' := by
  have HI : Hid (StrsAt w (.slice a n ca) ss) := hids
  have HT : Hid (TestsAt w (.slice b m cb) ts) := htests
  have HL : Hid (∀ t, t < m → (ts.getD t (ByteArray.empty, [])).2.length ≤ maxLen) := hyl
  have LS : Hid (ss.length = n) := hss
  have LT : Hid (ts.length = m) := hts
  clear hids htests hyl hss hts
  obtain ⟨inf9, h9, hs0, hs1, hs2⟩ := info_parts Try.info9
  obtain ⟨inf3, h3, hi0, hi1, hi2⟩ := info_parts Try.info3
  go_enter Try.func5, Try.ntmps5
  go_wp2_with fail
  refine (bytes17_any a n ca ss b m cb ts j k y w hn hm HL.out HI.out HT.out).mono ?_
  rintro e w' ⟨B, rfl, rfl⟩
  unfold maxLen at hn hm
  cases B with
  | false =>
    go_wp2_with fail
    go_ret
    exact ⟨rfl, Below.refl _ _⟩
  | true =>
    by_cases hn1 : 4096 < n
    · go_wp2_with fail
      go_ret
      exact ⟨rfl, Below.refl _ _⟩
    · by_cases hm1 : 65536 < m
      · go_wp2_with fail
        go_ret
        exact ⟨rfl, Below.refl _ _⟩
      · go_wp2_with fail
        refine (fits_any a n ca ss b m cb ts w (by omega) (by omega) HI.out HT.out).mono ?_
        rintro e w' ⟨B, rfl, hfit, rfl⟩
        cases B with
        | false =>
          go_wp2_with fail
          go_ret
          exact ⟨rfl, Below.refl _ _⟩
        | true =>
          have HF : Hid (∀ t, t < m → (ts.getD t (ByteArray.empty, [])).2.length ≤ 131072) := hfit rfl
          clear hfit HL
          by_cases hj0 : j < 0
          · go_wp2_with fail
            go_ret
            exact ⟨rfl, Below.refl _ _⟩
          · by_cases hj1 : (n : Int) ≤ j
            · go_wp2_with fail
              go_ret
              exact ⟨rfl, Below.refl _ _⟩
            · obtain ⟨jn, rfl⟩ : ∃ jn : Nat, j = (jn : Int) := ⟨j.toNat, by omega⟩
              have hjn : jn < n := by omega
              obtain ⟨ab, ao, rfl, _, _⟩ := HI.out.form jn hjn
              clear hn hm
              go_wp2_with (first | (at_make; refine wpList_make_row _ rfl (.tmp 50) (.tmp 50) 31 rfl 9 inf9 _ Try.underlying31 h9 hs0 hs1 _ _ n n rfl rfl (Nat.le_refl _) (by rw [hs2]; omega) (by omega) ?_; intro w1 X hX HG hgrow1) | ((with_reducible refine at_copy ?_); refine wpList_copy_splice rfl (.tmp 52) (.tmp 53) 31 31 rfl 9 Try.underlying31 Try.size9 _ _ _ _ _ _ rfl rfl w.heap.size 0 X 9 HG.out (ss.map Value.string) (by rw [List.length_map, LS.out]; exact (Nat.min_self n).symm) (fun h0 => ⟨rfl, strs_src HI.out hgrow1 h0⟩) (by rw [List.length_map, LS.out]; omega) (strs_oneCell _) w.heap.size w ((Below.refl _ _).grown hgrow1 (Nat.le_refl _) (fun k h => by cases h)) (Nat.le_refl _) ?_; intro w2 HG2 hB2; have HI2 : Hid (StrsAt w2 (.slice (some ⟨w.heap.size, 0, none⟩) n n) ss) := strs_copied HI.out LS.out hX HG2.out; obtain ⟨id, hcell, hmem, hsz⟩ := id_at HI2.out jn hjn LS.out))
              clear hgrow1 HG HG2 hX
              have HT2 : Hid (TestsAt w2 (.slice b m cb) ts) := HT.out.later hB2
              refine (years_any b m cb ts id w2 (by omega) LT.out HT2.out).mono ?_
              rintro e w' ⟨x, c, rfl, hys, rfl⟩
              obtain ⟨look, hlook⟩ : ∃ look, look = yearsFor (keyed ts) := ⟨_, rfl⟩
              have HLK : Hid (look = yearsFor (keyed ts)) := hlook
              rw [← hlook] at hys ⊢
              have hlen : ∀ u, (look u).length ≤ 131072 := by rw [hlook]; exact fun u => yearsFor_mem ts u 131072 (by rw [LT.out]; exact HF.out)
              have HLEN : Hid (∀ u, (look u).length ≤ 131072) := hlen
              have hyl := hlen (key id)
              obtain ⟨ys, hysd⟩ : ∃ ys, ys = look (key id) := ⟨_, rfl⟩
              rw [← hysd] at hys hyl ⊢
              have HYS : Hid (ys = look (key id)) := hysd
              have HYI : Hid (IntsAt w2 (.slice x ys.length c) ys) := hys
              clear hlook hlen hysd hys HI
              by_cases hk0 : k < 0
              · go_wp2_with fail
                go_ret
                exact ⟨rfl, hB2⟩
              · by_cases hk1 : (ys.length : Int) < k
                · go_wp2_with fail
                  go_ret
                  exact ⟨rfl, hB2⟩
                · obtain ⟨kn, rfl⟩ : ∃ kn : Nat, k = (kn : Int) := ⟨k.toNat, by omega⟩
                  have hkn : kn ≤ ys.length := by omega
                  go_wp2_with fail
                  refine (map_end b m cb ts w2 (by omega) LT.out HF.out HT2.out).mono ?_
                  rintro e w3 ⟨M, rfl, hb3, hM, _⟩
                  have HM : Hid (∀ s : ByteArray, s.size ≤ maxLen → LookAt w3 M look s) := by rw [HLK.out]; exact hM
                  clear hM
                  have HI3 : Hid (StrsAt w3 (.slice (some ⟨w.heap.size, 0, none⟩) n n) ss) := HI2.out.later hb3
                  go_wp2_with fail
                  refine (last_any _ n n ss M look w3 (by omega) LS.out HI3.out (fun s _ => Nat.le_trans (HLEN.out (key s)) (by omega)) (fun s hs => HM.out s (strs_mem HI3.out s hs))).mono ?_
                  rintro e w' ⟨rfl, rfl⟩
                  obtain ⟨Bf, hBf⟩ : ∃ Bf, Bf = lastFrom look 0 (ss.map key) := ⟨_, rfl⟩
                  rw [← hBf]
                  have HBF : Hid (Bf = lastFrom look 0 (ss.map key)) := hBf
                  have hB3 : Below w.heap.size w w3 := hB2.trans (hb3.mono hB2.size)
                  have HY3 : Hid (IntsAt w3 (.slice x ys.length c) ys) := HYI.out.later hb3
                  have HT3 : Hid (TestsAt w3 (.slice b m cb) ts) := HT2.out.later hb3
                  clear hBf HM HI2 HYI HT2 hb3 hB2 hcell
                  go_wp2_with (at_make; refine wpList_make_full _ rfl _ _ 40 rfl w3.heap.size 3 inf3 (.int .i64 0) 1 Try.underlying40 h3 hi0 hi1 _ _ _ _ (ys.length + 1) rfl rfl (by omega) (by omega) (by rw [hi2]; omega) (by unfold maxLen; omega) (Nat.le_refl _) ?_; intro w4 hown4 hgrow4)
                  obtain ⟨G, hG⟩ : ∃ G, G = putIn ys kn y := ⟨_, rfl⟩
                  have HGD : Hid (G = putIn ys kn y) := hG
                  clear hG
                  go_loopw [16] (fun i wr => ∃ (t : Nat) (X : List Value), t ≤ kn ∧ i = .int .i64 t ∧ Hid (HasTo X G t) ∧ wr.ownsRow w3.heap.size 3 1 (.slice (some ⟨w3.heap.size, 0, none⟩) (ys.length + 1) (ys.length + 1)) (ys.length + 1) X ∧ Below w3.heap.size w3 wr) (fun i _ => kn - (intOf i).toNat)
                  case atStart => exact ⟨0, _, Nat.zero_le _, rfl, fun t ht => absurd ht (by omega), hown4, (Below.refl _ _).grown hgrow4 (Nat.le_refl _) (fun k h => by cases h)⟩
                  case round =>
                    obtain ⟨t, X, ht, rfl, HX, hown, hb⟩ := hrel
                    clear hown4 hgrow4
                    have hXl : t < X.length := by have := hown.1; omega
                    have c1 : wr.cell? ⟨w3.heap.size, t, none⟩ = some X[t] := by rw [hown.cellAt t (by omega)]; exact List.getElem?_eq_getElem hXl
                    have f1 := hown.frozenAt t
                    generalize X[t] = u at c1
                    by_cases hlt : t < kn
                    · obtain ⟨yb, yo, rfl, g0⟩ := HY3.out.form t (by omega)
                      have hbl : yb < w3.heap.size := World.block_lt_of_cell? w3 _ g0
                      have g1 := (hb.cell (p := ⟨yb, yo + t, none⟩) hbl).trans g0
                      obtain ⟨z, hz⟩ : ∃ z, z = ys.getD t 0 := ⟨_, rfl⟩
                      rw [← hz] at g1
                      have HD : Hid (z = G.getD t 0) := by rw [HGD.out, putIn_lo ys kn y hkn t hlt]; exact hz
                      have hne : yb ≠ w3.heap.size := by omega
                      have ST : Hid (_ ∧ _) := hown.stored t (.int .i64 z)
                      clear hz g0
                      go_wp2
                      go_roundw
                      case rel => exact ⟨t + 1, X.set t (.int .i64 z), by omega, by go_num, by rw [HD.out]; exact HX.out.step hXl, ST.out.1, hb.grown ST.out.2 hb.size (fun k h => by cases h; exact Nat.le_refl _)⟩
                      case measure => simp [intOf]; omega
                    · obtain rfl : t = kn := by omega
                      have ST : Hid (_ ∧ _) := hown.stored t (.int .i64 y)
                      have hX2 : HasTo (X.set t (.int .i64 y)) G (t + 1) := by
                        have := HX.out.step hXl
                        rw [HGD.out, putIn_at ys t y hkn, ← HGD.out] at this
                        exact this
                      have HX2 : Hid (HasTo (X.set t (.int .i64 y)) G (t + 1)) := hX2
                      have hb2 : Below w3.heap.size w3 (wr.setCell ⟨w3.heap.size, t, none⟩ (.int .i64 y)) := hb.grown ST.out.2 hb.size (fun k h => by cases h; exact Nat.le_refl _)
                      clear HX hX2
                      go_wp2
                      clear hown c1 f1
                      go_loopw [17] (fun i wr => ∃ (q : Nat) (X : List Value), t ≤ q ∧ q ≤ ys.length ∧ i = .int .i64 q ∧ Hid (HasTo X G (q + 1)) ∧ wr.ownsRow w3.heap.size 3 1 (.slice (some ⟨w3.heap.size, 0, none⟩) (ys.length + 1) (ys.length + 1)) (ys.length + 1) X ∧ Below w3.heap.size w3 wr) (fun i _ => ys.length - (intOf i).toNat)
                      case atStart => exact ⟨t, _, Nat.le_refl _, hkn, rfl, HX2, ST.out.1, hb2⟩
                      case round =>
                        obtain ⟨q, X, hq0, hq1, rfl, HX, hown, hb⟩ := hrel
                        clear HX2 ST hb2
                        by_cases hlt2 : q < ys.length
                        · have hXl : q + 1 < X.length := by have := hown.1; omega
                          have c1 : wr.cell? ⟨w3.heap.size, q + 1, none⟩ = some X[q + 1] := by rw [hown.cellAt (q + 1) (by omega)]; exact List.getElem?_eq_getElem hXl
                          have f1 := hown.frozenAt (q + 1)
                          generalize X[q + 1] = u at c1
                          obtain ⟨yb, yo, rfl, g0⟩ := HY3.out.form q hlt2
                          have hbl : yb < w3.heap.size := World.block_lt_of_cell? w3 _ g0
                          have g1 := (hb.cell (p := ⟨yb, yo + q, none⟩) hbl).trans g0
                          obtain ⟨z, hz⟩ : ∃ z, z = ys.getD q 0 := ⟨_, rfl⟩
                          rw [← hz] at g1
                          have HD : Hid (z = G.getD (q + 1) 0) := by rw [HGD.out, putIn_hi ys t y hkn q hq0]; exact hz
                          have hne : yb ≠ w3.heap.size := by omega
                          have ST : Hid (_ ∧ _) := hown.stored (q + 1) (.int .i64 z)
                          clear hz g0
                          go_wp2
                          go_roundw
                          case rel => exact ⟨q + 1, X.set (q + 1) (.int .i64 z), by omega, by omega, by go_num, by rw [HD.out]; exact HX.out.step hXl, ST.out.1, hb.grown ST.out.2 hb.size (fun k h => by cases h; exact Nat.le_refl _)⟩
                          case measure => simp [intOf]; omega
                        · obtain rfl : q = ys.length := by omega
                          have HGI : Hid (IntsAt wr (.slice (some ⟨w3.heap.size, 0, none⟩) (ys.length + 1) (ys.length + 1)) G) := ints_of_own hown (by rw [HGD.out]; exact putIn_len ys t y hkn) HX.out
                          have HT4 : Hid (TestsAt wr (.slice b m cb) ts) := HT3.out.later hb
                          have HI4 : Hid (StrsAt wr (.slice (some ⟨w.heap.size, 0, none⟩) n n) ss) := HI3.out.later hb
                          have hB4 : Below w.heap.size w wr := hB3.trans (hb.mono hB3.size)
                          have hs4 : w.heap.size ≤ wr.heap.size := hB4.size
                          have hsw : w.heap.size < wr.heap.size := Nat.lt_of_lt_of_le (by obtain ⟨_, _, e, hc4, _⟩ := HI3.out.form jn hjn; obtain ⟨rfl, rfl⟩ := (by simpa using e : w.heap.size = _ ∧ 0 = _); exact World.block_lt_of_cell? w3 _ hc4) hb.size
                          clear HT3 HI3 hB3 HX hown HY3 hb
                          go_wp2_with fail
                          refine (map_end b m cb ts wr (by omega) LT.out HF.out HT4.out).mono ?_
                          rintro e w5 ⟨M2, rfl, hb5, _, hM2⟩
                          have HGI5 : Hid (IntsAt w5 (.slice (some ⟨w3.heap.size, 0, none⟩) (ys.length + 1) (ys.length + 1)) G) := HGI.out.later hb5
                          have HI5 : Hid (StrsAt w5 (.slice (some ⟨w.heap.size, 0, none⟩) n n) ss) := HI4.out.later hb5
                          have hB5 : Below w.heap.size w w5 := hB4.trans (hb5.mono hB4.size)
                          have GL : Hid (G.length = ys.length + 1) := by rw [HGD.out]; exact putIn_len ys t y hkn
                          have LAW : Hid (lastFrom (lookPut look (key id) G) 0 (ss.map key) = mxI y Bf) := by
                            rw [HGD.out, HYS.out, HBF.out]
                            exact rises_law look ss id hmem t y
                          rw [← HLK.out] at hM2
                          clear HGI HT4 HI4 hB4
                          rcases hM2 with ⟨rfl, hl0⟩ | ⟨bm, hbm, rfl, hMA⟩
                          · have hqn := fun w => run_eql_map_nil (P := Try.prog) w 35 9 48 none Try.underlying35
                            have hmm := @run_makeMap Try.prog
                            obtain ⟨w6, hup, hM6, hg6⟩ := (mapAt_made w5).put (by omega) id hsz (.string id) (.int .i64 0) (some ⟨w3.heap.size, 0, none⟩) G (ys.length + 1) (.int .i64 0) (.int .i64 0) (.bool false) (.slice none 0 0) (by rw [GL.out]; exact HGI5.out.later ((Below.refl _ _).alloc (Nat.le_refl _) _))
                            rw [GL.out] at hup
                            rw [← hl0] at hM6
                            have hb6 : Below w5.heap.size w5 w6 := ((Below.refl _ _).alloc (Nat.le_refl _) _).grown hg6 (by simp) (fun k h => by cases h; exact Nat.le_refl _)
                            have hB6 : Below w.heap.size w w6 := hB5.trans (hb6.mono hB5.size)

                            have HI6 : Hid (StrsAt w6 (.slice (some ⟨w.heap.size, 0, none⟩) n n) ss) := HI5.out.later hb6
                            have hlk : ∀ s ∈ ss, LookAt w6 (.map (some w5.heap.size)) (lookPut look (key id) G) s := fun s hs => hM6.look s (strs_mem HI6.out s hs)
                            have HLK6 : Hid (∀ s ∈ ss, LookAt w6 (.map (some w5.heap.size)) (lookPut look (key id) G) s) := hlk
                            clear hM6 hlk hg6
                            go_wp2_with fail
                            refine (last_any _ n n ss _ (lookPut look (key id) G) w6 (by omega) LS.out HI6.out (fun s _ => by unfold lookPut; split; (rw [GL.out]; omega); exact Nat.le_trans (HLEN.out (key s)) (by omega)) HLK6.out).mono ?_
                            rintro e w' ⟨rfl, rfl⟩
                            rw [LAW.out]
                            clear hup
                            go_wp2_with (go_at_call 14; refine (max_any _ _ _).mono ?_; rintro e w' ⟨rfl, rfl⟩)
                            go_ret
                            exact ⟨ret_bool (by simp), hB6⟩
                          · have hqn := fun w => run_eql_map_nil (P := Try.prog) w 35 9 48 (some bm) Try.underlying35
                            obtain ⟨w6, hup, hM6, hg6⟩ := hMA.put (by omega) id hsz (.string id) (.int .i64 0) (some ⟨w3.heap.size, 0, none⟩) G (ys.length + 1) (.int .i64 0) (.int .i64 0) (.bool false) (.slice none 0 0) (by rw [GL.out]; exact HGI5.out)
                            rw [GL.out] at hup
                            have hB6 : Below w.heap.size w w6 := hB5.grown hg6 hB5.size (fun k h => by cases h; omega)
                            have hb6 : Below bm w5 w6 := (Below.refl _ _).grown hg6 (Nat.le_of_lt hMA.lt) (fun k h => by cases h; exact Nat.le_refl _)

                            have HI6 : Hid (StrsAt w6 (.slice (some ⟨w.heap.size, 0, none⟩) n n) ss) := HI5.out.later_row hsw hb6
                            have hlk : ∀ s ∈ ss, LookAt w6 (.map (some bm)) (lookPut look (key id) G) s := fun s hs => hM6.look s (strs_mem HI6.out s hs)
                            have HLK6 : Hid (∀ s ∈ ss, LookAt w6 (.map (some bm)) (lookPut look (key id) G) s) := hlk
                            clear hM6 hlk hg6
                            go_wp2_with fail
                            refine (last_any _ n n ss _ (lookPut look (key id) G) w6 (by omega) LS.out HI6.out (fun s _ => by unfold lookPut; split; (rw [GL.out]; omega); exact Nat.le_trans (HLEN.out (key s)) (by omega)) HLK6.out).mono ?_
                            rintro e w' ⟨rfl, rfl⟩
                            rw [LAW.out]
                            clear hup
                            go_wp2_with (go_at_call 14; refine (max_any _ _ _).mono ?_; rintro e w' ⟨rfl, rfl⟩)
                            go_ret
                            exact ⟨ret_bool (by simp), hB6⟩

end Go.Proofs.Qxb6616127a
