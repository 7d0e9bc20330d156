/-
  THE PLAIN FUNCTIONS of the inline splitter, no Go in sight: what isSpace, appendQuoted, appendWord, splitInline compute, by positions in the line's list of bytes.
-/
import Derived.WalkKit
namespace Go.Proofs.Qxb6616016a
open Go.RowKit

def spB (c : Int) : Bool := c == 32 || (c == 9 || (c == 10 || (c == 11 || (c == 12 || c == 13))))
def bareB (c : Int) : Bool := !(c == 32 || (c == 9 || (c == 13 || (c == 10 || (c == 11 || (c == 12 || (c == 34 || c == 39)))))))
def hexB (c : Int) : Bool := (decide (48 ≤ c) && decide (c ≤ 57)) || ((decide (97 ≤ c) && decide (c ≤ 102)) || (decide (65 ≤ c) && decide (c ≤ 70)))
def hvF (c : Int) : Int := if c ≤ 57 then (c - 48) % 256 else if c ≤ 70 then ((c - 65) % 256 + 10) % 256 else ((c - 97) % 256 + 10) % 256
def unF (c : Int) : Int := if (c == 110) = true then 10 else if (c == 114) = true then 13 else if (c == 116) = true then 9 else if (c == 98) = true then 8 else if (c == 97) = true then 7 else c
/-- What the hex escape of two digits appends. -/
def hxF (a b : Int) : Int := bits .or .u8 (IntKind.u8.wrap (hvF a * 2 ^ 4)) (hvF b)

/-- appendQuoted, from place i on, with 'acc' in the room: none: refused; else what the room holds, and the place just past the closing quote. -/
def aqAt (L : List Int) (q : Int) : Nat → Nat → List Int → Option (List Int × Nat)
  | 0, _, _ => none
  | f + 1, i, acc =>
    if i < L.length then
      if L.getD i 0 = q then
        if i + 1 < L.length ∧ spB (L.getD (i + 1) 0) = false then none else some (acc, i + 1)
      else if L.getD i 0 = 92 ∧ q = 39 ∧ i + 1 < L.length ∧ L.getD (i + 1) 0 = 39 then aqAt L q f (i + 2) (acc ++ [39])
      else if L.getD i 0 = 92 ∧ q = 34 ∧ i + 3 < L.length ∧ L.getD (i + 1) 0 = 120 ∧ hexB (L.getD (i + 2) 0) = true ∧ hexB (L.getD (i + 3) 0) = true then
        aqAt L q f (i + 4) (acc ++ [hxF (L.getD (i + 2) 0) (L.getD (i + 3) 0)])
      else if L.getD i 0 = 92 ∧ q = 34 ∧ i + 1 < L.length then aqAt L q f (i + 2) (acc ++ [unF (L.getD (i + 1) 0)])
      else aqAt L q f (i + 1) (acc ++ [L.getD i 0])
    else none

/-- appendWord, from place i on. -/
def awAt (L : List Int) : Nat → Nat → List Int → Option (List Int × Nat)
  | 0, _, _ => none
  | f + 1, i, acc =>
    if i < L.length then
      if L.getD i 0 = 32 ∨ L.getD i 0 = 9 ∨ L.getD i 0 = 13 ∨ L.getD i 0 = 10 then some (acc, i)
      else if L.getD i 0 = 34 ∨ L.getD i 0 = 39 then aqAt L (L.getD i 0) (L.length + 1) (i + 1) acc
      else awAt L f (i + 1) (acc ++ [L.getD i 0])
    else some (acc, i)

/-- splitInline, from place i on, with the words 'ws' found. -/
def spAt (L : List Int) : Nat → Nat → List (List Int) → Option (List (List Int))
  | 0, _, _ => none
  | f + 1, i, ws =>
    if i < L.length then
      if spB (L.getD i 0) = true then spAt L f (i + 1) ws
      else match awAt L (L.length + 1) i [] with
        | none => none
        | some (x, j) => spAt L f j (ws ++ [x])
    else some ws

end Go.Proofs.Qxb6616016a
