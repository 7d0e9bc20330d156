/-
  FnLastYearJoinsAtAnyCut: the walk.
-/
import Derived.Test.Qxb6616127aJoinsA
namespace Go.Proofs.Qxb6616127a
open Go.RowKit

theorem id_at2 {w : World} {g n c : Nat} {ss : List ByteArray} (h : StrsAt w (.slice (some ⟨g, 0, none⟩) n c) ss) (j : Nat) (hj : j < n) :
    ∃ id, w.cell? ⟨g, j, none⟩ = some (.string id) ∧ (ss.drop j).take 1 = [id] ∧ id.size ≤ maxLen := by
  obtain ⟨hn, hh⟩ := h.cells
  obtain ⟨b, o, ha, hcell, hs⟩ := hh j hj
  obtain ⟨rfl, rfl⟩ : g = b ∧ 0 = o := by simpa using ha
  rw [Nat.zero_add] at hcell
  refine ⟨_, hcell, ?_, hs⟩
  have hl : j < ss.length := by omega
  have e : ss.getD j ByteArray.empty = ss[j] := by simp [List.getD, hl]
  rw [List.drop_eq_getElem_cons hl, e]
  rfl

/-- The three cuts' last years. -/
theorem joins_law (look : List UInt8 → List Int) (ss : List ByteArray) (c : Nat) : lastFrom look 0 (ss.map key) = mxI (lastFrom look 0 ((ss.drop c).map key)) (lastFrom look 0 ((ss.take c).map key)) := by
  rw [← last_joins, ← List.map_append, List.take_append_drop]

set_option maxHeartbeats 4000000 in
set_option maxRecDepth 100000 in
theorem joins_any (a : Option Addr) (n ca : Nat) (ss : List ByteArray) (b : Option Addr) (m cb : Nat) (ts : List (ByteArray × List Int)) (cut : Int) (w : World) (hss : ss.length = n) (hts : ts.length = m) (hn : n ≤ maxLen) (hm : m ≤ maxLen)
    (hyl : ∀ t, t < m → (ts.getD t (ByteArray.empty, [])).2.length ≤ maxLen) (hids : StrsAt w (.slice a n ca) ss) (htests : TestsAt w (.slice b m cb) ts) :
    Calls Try.prog 4 #[.slice a n ca, .slice b m cb, .int .i64 cut] w fun e w' => e = .returned (.bool true) ∧ Below w.heap.size w w' := by
  have HI : Hid (StrsAt w (.slice a n ca) ss) := hids
  have HT : Hid (TestsAt w (.slice b m cb) ts) := htests
  have HL : Hid (∀ t, t < m → (ts.getD t (ByteArray.empty, [])).2.length ≤ maxLen) := hyl
  have LS : Hid (ss.length = n) := hss
  have LT : Hid (ts.length = m) := hts
  clear hids htests hyl hss hts
  obtain ⟨inf9, h9, hs0, hs1, hs2⟩ := info_parts Try.info9
  go_enter Try.func4, Try.ntmps4
  go_wp2_with fail
  refine (bytes10_any a n ca ss b m cb ts cut w hn hm HL.out HI.out HT.out).mono ?_
  rintro e w' ⟨B, rfl, rfl⟩
  unfold maxLen at hn hm
  cases B with
  | false =>
    go_wp2_with fail
    go_ret
    exact ⟨rfl, Below.refl _ _⟩
  | true =>
    by_cases hn1 : 4096 < n
    · go_wp2_with fail
      go_ret
      exact ⟨rfl, Below.refl _ _⟩
    · by_cases hm1 : 65536 < m
      · go_wp2_with fail
        go_ret
        exact ⟨rfl, Below.refl _ _⟩
      · go_wp2_with fail
        refine (fits_any a n ca ss b m cb ts w (by omega) (by omega) HI.out HT.out).mono ?_
        rintro e w' ⟨B, rfl, hfit, rfl⟩
        cases B with
        | false =>
          go_wp2_with fail
          go_ret
          exact ⟨rfl, Below.refl _ _⟩
        | true =>
          have HF : Hid (∀ t, t < m → (ts.getD t (ByteArray.empty, [])).2.length ≤ 131072) := hfit rfl
          clear hfit HL
          by_cases hj0 : cut < 0
          · go_wp2_with fail
            go_ret
            exact ⟨rfl, Below.refl _ _⟩
          · by_cases hj1 : (n : Int) < cut
            · go_wp2_with fail
              go_ret
              exact ⟨rfl, Below.refl _ _⟩
            · obtain ⟨c, rfl⟩ : ∃ c : Nat, cut = (c : Int) := ⟨cut.toNat, by omega⟩
              have hcn : c ≤ n := by omega
              clear hn hm
              obtain ⟨look, hlook⟩ : ∃ look, look = yearsFor (keyed ts) := ⟨_, rfl⟩
              have HLK : Hid (look = yearsFor (keyed ts)) := hlook
              have hlen : ∀ u, (look u).length ≤ 131072 := by rw [hlook]; exact fun u => yearsFor_mem ts u 131072 (by rw [LT.out]; exact HF.out)
              have HLEN : Hid (∀ u, (look u).length ≤ 131072) := hlen
              clear hlook hlen
              have JL : Hid (lastFrom look 0 (ss.map key) = mxI (lastFrom look 0 ((ss.drop c).map key)) (lastFrom look 0 ((ss.take c).map key))) := joins_law look ss c
              cases a with
              | none =>
                have hn0 : n = 0 := by
                  obtain ⟨hlen0, hh⟩ := HI.out.cells
                  by_cases h0 : 0 < n
                  · obtain ⟨_, _, e, _⟩ := hh 0 h0
                    cases e
                  · omega
                subst hn0
                obtain rfl : c = 0 := by omega
                have hca : ca = 0 := by
                  obtain ⟨a', c', hv, h0, _⟩ := HI.out
                  obtain ⟨rfl, _, rfl⟩ : none = a' ∧ 0 = ss.length ∧ ca = c' := by simpa using hv
                  exact h0 rfl
                subst hca
                have hss0 : ss = [] := List.eq_nil_of_length_eq_zero LS.out
                subst hss0
                clear JL
                go_wp2_with fail
                refine (map_end b m cb ts w (by omega) LT.out HF.out HT.out).mono ?_
                rintro e w3 ⟨M, rfl, hb3, hM, _⟩
                have HLA : Hid (Calls Try.prog 13 #[.slice none 0 0, M] w3 fun e w' => e = .returned (.int .i64 0) ∧ w3 = w') :=
                  last_any none 0 0 [] M look w3 (by omega) rfl ⟨none, 0, rfl, fun _ => rfl, fun t ht => absurd ht (by simp)⟩ (fun s hs => by cases hs) (fun s hs => by cases hs)
                clear hM
                go_wp2_with (first | (go_at_call 13; refine HLA.out.mono ?_; rintro e w' ⟨rfl, rfl⟩) | (go_at_call 14; refine (max_any _ _ _).mono ?_; rintro e w' ⟨rfl, rfl⟩; rw [show mxI 0 0 = 0 from rfl]))
                go_ret
                exact ⟨rfl, hb3⟩
              | some ad =>
                go_wp2_with (first | (at_make; refine wpList_make_row _ rfl (.tmp 41) (.tmp 41) 31 rfl 9 inf9 _ Try.underlying31 h9 hs0 hs1 _ _ n n rfl rfl (Nat.le_refl _) (by rw [hs2]; omega) (by omega) ?_; intro w1 X hX HG hgrow1) | ((with_reducible refine at_copy ?_); refine wpList_copy_splice rfl (.tmp 43) (.tmp 44) 31 31 rfl 9 Try.underlying31 Try.size9 _ _ _ _ _ _ rfl rfl w.heap.size 0 X 9 HG.out (ss.map Value.string) (by rw [List.length_map, LS.out]; exact (Nat.min_self n).symm) (fun h0 => ⟨rfl, strs_src HI.out hgrow1 h0⟩) (by rw [List.length_map, LS.out]; omega) (strs_oneCell _) w.heap.size w ((Below.refl _ _).grown hgrow1 (Nat.le_refl _) (fun k h => by cases h)) (Nat.le_refl _) ?_; intro w2 HG2 hB2; have HI2 : Hid (StrsAt w2 (.slice (some ⟨w.heap.size, 0, none⟩) n n) ss) := strs_copied HI.out LS.out hX HG2.out))
                clear hgrow1 HG HG2 hX HI
                have HT2 : Hid (TestsAt w2 (.slice b m cb) ts) := HT.out.later hB2
                refine (map_end b m cb ts w2 (by omega) LT.out HF.out HT2.out).mono ?_
                rintro e w3 ⟨M, rfl, hb3, hM, _⟩
                have HM : Hid (∀ s : ByteArray, s.size ≤ maxLen → LookAt w3 M look s) := by rw [HLK.out]; exact hM
                have HI3 : Hid (StrsAt w3 (.slice (some ⟨w.heap.size, 0, none⟩) n n) ss) := HI2.out.later hb3
                have HT3 : Hid (TestsAt w3 (.slice b m cb) ts) := HT2.out.later hb3
                have hB3 : Below w.heap.size w w3 := hB2.trans (hb3.mono hB2.size)
                clear hM HT2 HI2 HT hb3 hB2
                obtain ⟨A, hA⟩ : ∃ A, A = lastFrom look 0 (ss.map key) := ⟨_, rfl⟩
                obtain ⟨L1, hL1⟩ : ∃ L1, L1 = lastFrom look 0 ((ss.take c).map key) := ⟨_, rfl⟩
                obtain ⟨L2, hL2⟩ : ∃ L2, L2 = lastFrom look 0 ((ss.drop c).map key) := ⟨_, rfl⟩
                have JE : Hid (A = mxI L2 L1) := by rw [hA, hL1, hL2]; exact JL.out
                have HA : Hid (lastFrom look 0 (ss.map key) = A) := hA.symm
                have HL1 : Hid (lastFrom look 0 ((ss.take c).map key) = L1) := hL1.symm
                have HL2 : Hid (lastFrom look 0 ((ss.drop c).map key) = L2) := hL2.symm
                clear hA hL1 hL2 JL
                have hlast : ∀ (x : Option Addr) (k cp : Nat) (rs : List ByteArray), k ≤ 4096 → rs.length = k → StrsAt w3 (.slice x k cp) rs → Calls Try.prog 13 #[.slice x k cp, M] w3 fun e w' => e = .returned (.int .i64 (lastFrom look 0 (rs.map key))) ∧ w3 = w' :=
                  fun x k cp rs hk hr hx => last_any x cp k rs M look w3 (by omega) hr hx (fun s _ => Nat.le_trans (HLEN.out (key s)) (by omega)) (fun s hs => HM.out s (strs_mem hx s hs))
                have HLA : Hid _ := hlast
                clear hlast
                go_wp2_with fail
                refine (HLA.out _ n n ss (by omega) LS.out HI3.out).mono ?_
                rintro e w' ⟨rfl, rfl⟩
                rw [HA.out]
                have j1 : (0 : Int) ≤ (c : Int) := by omega
                have j2 : (c : Int) ≤ (n : Int) := by omega
                go_wp2_with fail
                refine (HLA.out _ c n (ss.take c) (by omega) (by rw [List.length_take, LS.out]; omega) (strs_take HI3.out c hcn)).mono ?_
                rintro e w' ⟨rfl, rfl⟩
                rw [HL1.out]
                by_cases hc1 : c < n
                · have hne : ¬ n = c := by omega
                  obtain ⟨id, hcell, hone, hsz⟩ := id_at2 HI3.out c hc1
                  have HONE : Hid ((ss.drop c).take 1 = [id]) := hone
                  clear hone
                  go_wp2_with fail
                  refine (HLA.out _ (n - c) (n - c) (ss.drop c) (by omega) (by rw [List.length_drop, LS.out]) (by
                    have := strs_drop (cap' := n - c) HI3.out c (n - c) (some ⟨w.heap.size, c, none⟩) (by omega) (fun _ => rfl) (fun h => by cases h)
                    rw [List.take_of_length_le (by rw [List.length_drop, LS.out]; exact Nat.le_refl _)] at this
                    exact this)).mono ?_
                  rintro e w' ⟨rfl, rfl⟩
                  rw [HL2.out]
                  go_wp2_with (first | (go_at_call 14; refine (max_any _ _ _).mono ?_; rintro e w' ⟨rfl, rfl⟩; rw [← JE.out]))
                  refine (HLA.out none 0 0 [] (by omega) rfl ⟨none, 0, rfl, fun _ => rfl, fun t ht => absurd ht (by simp)⟩).mono ?_
                  rintro e w' ⟨rfl, rfl⟩
                  rw [show lastFrom look 0 (List.map key []) = 0 from rfl]
                  go_wp2_with fail
                  have hsub := strs_drop (cap' := n - c) HI3.out c 1 (some ⟨w.heap.size, c, none⟩) (by omega) (fun _ => rfl) (fun h => by cases h)
                  rw [HONE.out] at hsub
                  refine (HLA.out _ 1 (n - c) [id] (by omega) rfl hsub).mono ?_
                  rintro e w' ⟨rfl, rfl⟩
                  rw [show lastFrom look 0 (List.map key [id]) = yearsMax 0 (look (key id)) from rfl]
                  clear hsub
                  obtain ⟨r, hr⟩ : ∃ r, r = yearsMax 0 (look (key id)) := ⟨_, rfl⟩
                  rw [← hr]
                  have HR : Hid (r = yearsMax 0 (look (key id))) := hr
                  clear hr
                  go_wp2_with fail
                  refine (years_any b m cb ts id w3 (by omega) LT.out HT3.out).mono ?_
                  rintro e w' ⟨x, cx, rfl, hys, rfl⟩
                  rw [← HLK.out] at hys ⊢
                  have HYI : Hid (IntsAt w3 (.slice x (look (key id)).length cx) (look (key id))) := hys
                  clear hys
                  go_wp2_with fail
                  refine (isLast_any r x _ cx (look (key id)) w3 (Nat.le_trans (HLEN.out (key id)) (by omega)) rfl (by rw [HR.out]; exact le_years _ 0) (by rw [HR.out]; exact years_ge _ 0) (by rw [HR.out]; exact years_mem _ 0) HYI.out).mono ?_
                  rintro e w' ⟨rfl, rfl⟩
                  go_wp2_with fail
                  go_ret
                  exact ⟨rfl, hB3⟩
                · obtain rfl : c = n := by omega
                  go_wp2_with fail
                  refine (HLA.out _ 0 _ (ss.drop c) (by omega) (by rw [List.length_drop, LS.out]; omega) (by
                    rw [List.drop_eq_nil_of_le (by rw [LS.out]; exact Nat.le_refl _)]
                    exact ⟨_, _, rfl, (fun h => by cases h), fun t ht => absurd ht (by simp)⟩)).mono ?_
                  rintro e w' ⟨rfl, rfl⟩
                  rw [HL2.out]
                  go_wp2_with (first | (go_at_call 14; refine (max_any _ _ _).mono ?_; rintro e w' ⟨rfl, rfl⟩; rw [← JE.out]))
                  refine (HLA.out none 0 0 [] (by omega) rfl ⟨none, 0, rfl, fun _ => rfl, fun t ht => absurd ht (by simp)⟩).mono ?_
                  rintro e w' ⟨rfl, rfl⟩
                  rw [show lastFrom look 0 (List.map key []) = 0 from rfl]
                  go_wp2_with fail
                  go_ret
                  exact ⟨rfl, hB3⟩

end Go.Proofs.Qxb6616127a
