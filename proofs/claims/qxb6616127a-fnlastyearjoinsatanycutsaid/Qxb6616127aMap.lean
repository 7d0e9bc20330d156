/-
  A map of tests by id, in memory of the call's own; lastYearMap.
-/
import Derived.Test.Qxb6616127aClone
import Derived.Test.Qxb6616127aYears
import Derived.Test.Qxb6616127aLast
import Derived.Deep.RegionHeld3
import Derived.Deep.DrawnRows
namespace Go.Proofs.Qxb6616127a
open Go.RowKit
open Go.WideMaps (keyOf_string_mk)

/-- How an element is seen: as itself. -/
def heldR (v : Value) : Option (DataW Value × List MemPlace) := some (.held v, [])
def zero48 : Value := .agg #[.string ByteArray.empty, .int .i64 0, .slice none 0 0, .int .i64 0, .int .i64 0, .bool false, .slice none 0 0]
theorem zero48_run (w : World) : (zeroValue 48).run Try.prog w = .ok zero48 w := by kernel_rfl
theorem law9 : Maps.Keyed Try.prog 9 := Maps.string_keyed Try.underlying9

/-- Block b is a map of at most n tests; the years at each id are what 'look' says. -/
def MapAt (w : World) (b n : Nat) (look : List UInt8 → List Int) : Prop :=
  ∃ D, w.ownsMap Try.prog 9 heldR b n D ∧ ∀ k, ∃ x0 x1 a c x3 x4 x5 x6, D.atKey (.string k) (.held zero48) = .held (.agg #[x0, x1, .slice a (look k).length c, x3, x4, x5, x6]) ∧ IntsAt w (.slice a (look k).length c) (look k)

theorem nil_ints (w : World) : IntsAt w (.slice none 0 0) [] := ⟨none, 0, rfl, fun _ => rfl, fun t ht => absurd ht (by simp)⟩

theorem mapAt_made (w : World) : MapAt (w.alloc (.map #[] 0)) w.heap.size 0 (fun _ => []) :=
  ⟨_, World.ownsMap_made w Try.prog 9 heldR, fun _ => ⟨.string ByteArray.empty, .int .i64 0, none, 0, .int .i64 0, .int .i64 0, .bool false, .slice none 0 0, rfl, nil_ints _⟩⟩

theorem MapAt.later {w w' : World} {b n : Nat} {look : List UInt8 → List Int} (h : MapAt w b n look) (hb : Below w.heap.size w w') : MapAt w' b n look := by
  obtain ⟨D, ho, hl⟩ := h
  refine ⟨D, ho.kept (row := none) ⟨hb.os, hb.tape, hb.output, hb.size, fun k hk _ => hb.block k hk⟩ (by simp), fun k => ?_⟩
  obtain ⟨x0, x1, a, c, x3, x4, x5, x6, e, hi⟩ := hl k
  exact ⟨x0, x1, a, c, x3, x4, x5, x6, e, hi.later hb⟩

theorem MapAt.lt {w : World} {b n : Nat} {look : List UInt8 → List Int} (h : MapAt w b n look) : b < w.heap.size := by obtain ⟨D, ho, _⟩ := h; exact ho.lt

/-- What the lookup gives. -/
theorem MapAt.look {w : World} {b n : Nat} {look : List UInt8 → List Int} (h : MapAt w b n look) (s : ByteArray) (hs : s.size ≤ maxLen) : LookAt w (.map (some b)) look s := by
  obtain ⟨D, ho, hl⟩ := h
  obtain ⟨v, ps, hrun, hv⟩ := ho.lookup law9 Try.underlying35 (zero48_run w) (show heldR zero48 = some (.held zero48, []) from rfl) (keyOf_string_mk Try.underlying9 hs)
  obtain ⟨x0, x1, a, c, x3, x4, x5, x6, e, hi⟩ := hl (key s)
  have hv2 : DataW.held v = D.atKey (.string (key s)) (.held zero48) := by
    have := congrArg (Option.map Prod.fst) hv
    simpa [heldR] using this
  rw [e] at hv2
  obtain rfl := DataW.held.inj hv2
  exact ⟨x0, x1, a, c, x3, x4, x5, x6, hrun, hi⟩

def lookPut (look : List UInt8 → List Int) (k0 : List UInt8) (zs : List Int) (k : List UInt8) : List Int := if k = k0 then zs else look k

/-- A store at one id. -/
theorem MapAt.put {w : World} {b n : Nat} {look : List UInt8 → List Int} (h : MapAt w b n look) (hn : n ≤ 1048576) (s : ByteArray) (hs : s.size ≤ maxLen) (x0 x1 : Value) (a : Option Addr) (zs : List Int) (c : Nat) (x3 x4 x5 x6 : Value)
    (hi : IntsAt w (.slice a zs.length c) zs) : ∃ w', (Instr.mapUpdate 35 (.map (some b)) (.string s) (.agg #[x0, x1, .slice a zs.length c, x3, x4, x5, x6])).run Try.prog w = .ok () w' ∧
      MapAt w' b (n + 1) (lookPut look (key s) zs) ∧ w.grownBy w' (some b) := by
  obtain ⟨D, ho, hl⟩ := h
  obtain ⟨w', hrun, ho', hg⟩ := ho.update law9 Try.underlying35 (by unfold maxLen; omega) (keyOf_string_mk Try.underlying9 hs) (show heldR (.agg #[x0, x1, .slice a zs.length c, x3, x4, x5, x6]) = some (.held _, []) from rfl)
  have keep : ∀ {x : Value} {ys : List Int}, IntsAt w x ys → IntsAt w' x ys := by
    intro x ys hx
    obtain ⟨a', cap', hv, hn', hc⟩ := hx
    refine ⟨a', cap', hv, hn', fun t ht => ?_⟩
    obtain ⟨b', o', ha, hcell⟩ := hc t ht
    refine ⟨b', o', ha, hg.cell hcell ?_⟩
    intro e
    have e2 : b' = b := Option.some.inj e
    subst e2
    obtain ⟨es, clock, hb, _⟩ := ho
    simp [World.cell?, hb] at hcell
  refine ⟨w', hrun, ⟨_, ho', fun k => ?_⟩, hg⟩
  by_cases hk : k = key s
  · subst hk
    rw [show lookPut look (key s) zs (key s) = zs from if_pos rfl]
    refine ⟨x0, x1, a, c, x3, x4, x5, x6, ?_, keep hi⟩
    obtain ⟨es, clock, _, _, _, rfl⟩ := ho
    exact Maps.atKey_put_same (k := .string (key s)) ⟨_, rfl⟩ trivial _ _
  · rw [show lookPut look (key s) zs k = look k from if_neg hk]
    obtain ⟨y0, y1, a', c', y3, y4, y5, y6, e, hi'⟩ := hl k
    refine ⟨y0, y1, a', c', y3, y4, y5, y6, ?_, keep hi'⟩
    rw [Maps.atKey_put_other (by simpa using hk)]
    exact e

theorem clone_any (x : Option Addr) (n c : Nat) (zs : List Int) (w : World) (hn : n ≤ 1048576) (hz : zs.length = n) (h : IntsAt w (.slice x n c) zs) :
    Calls Try.prog 21 #[.slice x n c] w fun e w' => ∃ a' c', e = .returned (.slice a' n c') ∧ Below w.heap.size w w' ∧ IntsAt w' (.slice a' n c') zs := by
  cases x with
  | none =>
    have h' := h
    obtain ⟨a', c', hv, h0, hc⟩ := h
    obtain ⟨rfl, rfl, rfl⟩ : none = a' ∧ n = zs.length ∧ c = c' := by simpa using hv
    obtain rfl := h0 rfl
    have hz0 : zs = [] := by
      cases zs with
      | nil => rfl
      | cons y t => obtain ⟨b, o, ha, _⟩ := hc 0 (by simp); cases ha
    subst hz0
    refine (clone_nil w).mono ?_
    rintro e w' ⟨rfl, rfl⟩
    exact ⟨none, 0, rfl, Below.refl _ _, h'⟩
  | some ad =>
    refine (clone_some ad n c zs w hn hz h).mono ?_
    rintro e w' ⟨rfl, hb, hi⟩
    exact ⟨_, _, rfl, hb, hi⟩

end Go.Proofs.Qxb6616127a
