/-
  FnUvarintReadsOnlyItsOwnBytes: the walk.
-/
import Derived.Test.Qxb6616153aFmtOnlyNone
import Derived.Test.Qxb6616153aFmtOnlyAz
import Derived.Test.Qxb6616153aFmtOnlyAp
import Derived.Test.Qxb6616153aFmtOnlyBz
import Derived.Test.Qxb6616153aFmtOnlyBp
import Derived.Test.Qxb6616153aFmtOnlyCz
import Derived.Test.Qxb6616153aFmtOnlyCp
namespace Go.Proofs.Qxb6616153aFmt
open Go.RowKit Go.Extern.Stop Go.Stop Go.Extern

theorem only_any (F : Interp) (a : Option Addr) (n c : Nat) (l : List UInt8) (w : World) (hF : F.answers w.tape) (hn : n ≤ maxLen) (hB : BytesAt w (.slice a n c) l) :
    Calls Tryf.prog 4 #[.slice a n c] w fun e w' => e = .returned (.bool true) ∧ Below w.heap.size w w' := by
  cases hs : shortV l with
  | none => exact only_none F a n c l w hF hn hB hs
  | some R =>
    obtain ⟨v, k⟩ := R
    obtain ⟨hv, hk1, hk10, hkl, hlast, hmid, hzz, h9⟩ := short_bytes hs
    obtain ⟨j, rfl⟩ : ∃ j, k = j + 1 := ⟨k - 1, by omega⟩
    by_cases hN : n ≤ j + 1
    · rcases (by omega : j = 0 ∨ (0 < j ∧ j ≤ 8) ∨ 9 ≤ j) with h | h | h
      · exact only_Az F a n c l w hF hn hB v j hs h hN
      · exact only_Bz F a n c l w hF hn hB v j hs h hN
      · exact only_Cz F a n c l w hF hn hB v j hs h hN
    · rcases (by omega : j = 0 ∨ (0 < j ∧ j ≤ 8) ∨ 9 ≤ j) with h | h | h
      · exact only_Ap F a n c l w hF hn hB v j hs h hN
      · exact only_Bp F a n c l w hF hn hB v j hs h hN
      · exact only_Cp F a n c l w hF hn hB v j hs h hN

end Go.Proofs.Qxb6616153aFmt
