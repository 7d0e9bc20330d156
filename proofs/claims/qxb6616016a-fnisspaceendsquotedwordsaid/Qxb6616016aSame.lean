/-
  zzSameWords: the same words: true.
-/
import Derived.Test.Qxb6616016aOne
namespace Go.Proofs.Qxb6616016a
open Go.RowKit

theorem WordsAt.at {w : World} {V : Value} {ws : List (List Int)} (h : WordsAt w V ws) : ∃ a cap, V = .slice a ws.length cap ∧ ∀ k, k < ws.length → ∃ b o ax cx, a = some ⟨b, o, none⟩ ∧ w.cell? ⟨b, o + k, none⟩ = some (.slice ax (ws.getD k []).length cx) ∧ BytesAt w (.slice ax (ws.getD k []).length cx) (ws.getD k []) := by
  obtain ⟨a, cv, hV, hw⟩ := h
  refine ⟨a, cv, hV, fun k hk => ?_⟩
  obtain ⟨b, o, x, ha, hx, hb⟩ := hw k hk
  obtain ⟨a', c', hx', hb'⟩ := hb
  exact ⟨b, o, a', c', ha, by rw [← hx']; exact hx, ⟨a', c', rfl, hb'⟩⟩

theorem quiet_plus {P : Program} {f : FuncId} {args : Array Value} {w : World} {q x : Nat} {v : Value} (h : Calls P f args (w.drewN (q + x)) fun e w' => e = .returned v ∧ ∃ m, w' = (w.drewN (q + x)).drewN m) :
    Calls P f args (w.drewN (q + x)) fun e w'' => e = .returned v ∧ ∃ n, w'' = w.drewN (q + n) :=
  h.mono fun _ _ ⟨he, m, hm⟩ => ⟨he, x + m, by rw [hm, World.drewN_drewN, Nat.add_assoc]⟩

set_option maxHeartbeats 1000000 in
set_option maxRecDepth 100000 in
theorem same_any (X Y : Value) (ws : List (List Int)) (w : World) (hn : ws.length ≤ 1048576) (hl : ∀ k, k < ws.length → (ws.getD k []).length ≤ 1048576) (hX : WordsAt w X ws) (hY : WordsAt w Y ws) :
    Calls Try.prog 9 #[X, Y] w fun e w' => e = .returned (.bool true) ∧ ∃ q, w' = w.drewN q := by
  obtain ⟨a, ca, rfl, hx⟩ := hX.at
  obtain ⟨b, cb, rfl, hy⟩ := hY.at
  clear hX hY
  obtain ⟨n, hwn⟩ : ∃ n, n = ws.length := ⟨_, rfl⟩
  rw [← hwn] at hn hl hx hy ⊢
  go_enter Try.func9, Try.ntmps9
  go_wp2
  go_loopw [5] (fun i wr => ∃ k : Nat, k ≤ n ∧ i = .int .i64 k ∧ ∃ q, wr = w.drewN q) (fun i _ => n - (intOf i).toNat)
  case atStart => exact ⟨0, Nat.zero_le _, rfl, 0, rfl⟩
  case round =>
    obtain ⟨k, hk, rfl, q, rfl⟩ := hrel
    clear hwn
    by_cases hlt : k < n
    · obtain ⟨b1, o1, ax, cx, rfl, g1, hb1⟩ := hx k hlt
      obtain ⟨b2, o2, ay, cy, rfl, g2, hb2⟩ := hy k hlt
      have hlk := hl k hlt
      clear hx hy hl
      have i1 : (0 : Int) ≤ (k : Int) := by omega
      have i2 : (k : Int) < (n : Int) := by omega
      generalize ws.getD k [] = zs at *
      have H1 : Hid (BytesAt w (.slice ax zs.length cx) zs) := hb1
      have H2 : Hid (BytesAt w (.slice ay zs.length cy) zs) := hb2
      clear hb1 hb2
      go_wp2
      go_quiet ((go_at_call 13; exact quiet_plus (eq_any _ _ zs _ hlk (H1.out.later (below_drewN (Below.refl _ _) _)) (H2.out.later (below_drewN (Below.refl _ _) _)))))
      go_wp2
      go_roundw
      case rel => exact ⟨k + 1, by omega, by go_num, _, rfl⟩
      case measure => simp [intOf]; omega
    · clear hx hy hl
      go_wp2
      go_ret
      exact ⟨rfl, _, rfl⟩

end Go.Proofs.Qxb6616016a
