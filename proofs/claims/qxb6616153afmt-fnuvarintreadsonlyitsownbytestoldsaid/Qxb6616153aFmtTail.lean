/-
  FnUvarintReadsOnlyItsOwnBytes: small laws of the walk.
-/
import Derived.Test.Qxb6616153aFmtTurn
namespace Go.Proofs.Qxb6616153aFmt
open Go.RowKit Go.Extern.Stop Go.Stop Go.Extern

theorem answers_after {F : Interp} {w w' : World} (h : F.answers w.tape) (hb : Below w.heap.size w w') : F.answers w'.tape := by rw [hb.tape]; exact h

/-- A prefix of the bytes. -/
theorem head_bytes {w : World} {a : Option Addr} {n c : Nat} {l : List UInt8} (h : BytesAt w (.slice a n c) l) (m : Nat) (hm : m ≤ n) : BytesAt w (.slice a m c) (l.take m) := by
  obtain ⟨rfl, h0, hc⟩ := h.form
  refine ⟨a, c, by simp; omega, fun ha => (h0 ha).1, fun t ht => ?_⟩
  simp at ht
  obtain ⟨b, o, e, h1⟩ := hc t (by omega)
  refine ⟨b, o, e, ?_⟩
  rw [h1]
  have htm : t < m := by omega
  simp [List.getD, htm]

theorem quiet_plus0 {P : Program} {f : FuncId} {args : Array Value} {w : World} {x : Nat} {v : Value} (h : Calls P f args (w.drewN x) fun e w' => e = .returned v ∧ ∃ m, w' = (w.drewN x).drewN m) :
    Calls P f args (w.drewN x) fun e w'' => e = .returned v ∧ ∃ n, w'' = w.drewN n :=
  h.mono fun _ _ ⟨he, m, hm⟩ => ⟨he, x + m, by rw [hm, World.drewN_drewN]⟩

theorem quiet_same0 {P : Program} {f : FuncId} {args : Array Value} {w : World} {x : Nat} {v : Value} (h : Calls P f args (w.drewN x) fun e w' => e = .returned v ∧ w.drewN x = w') :
    Calls P f args (w.drewN x) fun e w'' => e = .returned v ∧ ∃ n, w'' = w.drewN n :=
  h.mono fun _ _ ⟨he, hw⟩ => ⟨he, x, hw.symm⟩

theorem pow128 (t : Nat) : (2 : Nat) ^ (7 * t) = 128 ^ t := by rw [Nat.pow_mul]

/-- The test of one group, as the walk spells it. -/
theorem group_test (v t x : Nat) (h : v / 128 ^ t % 128 = x % 128) (hx : x < 256) : (bits BinOp.and IntKind.u8 ((v : Int) / 2 ^ (7 * t) % 256) 127 != bits BinOp.and IntKind.u8 (x : Int) 127) = false := by
  have e : (v : Int) / 2 ^ (7 * t) = ((v / 128 ^ t : Nat) : Int) := by
    rw [← pow128]
    simp
  rw [e]
  generalize v / 128 ^ t = q at h
  rw [u8_and127 _ (by omega) (by omega), u8_and127 _ (by omega) (by omega)]
  have : ((q : Int) % 256) % 128 = (x : Int) % 128 := by omega
  rw [this]
  simp

theorem top_test (v k : Nat) (h : v / 128 ^ k = 0) : ((v : Int) / 2 ^ (7 * k) != 0) = false := by
  have e : (v : Int) / 2 ^ (7 * k) = ((v / 128 ^ k : Nat) : Int) := by
    rw [← pow128]
    simp
  rw [e, h]
  rfl

end Go.Proofs.Qxb6616153aFmt
