/-
  SMALL LAWS: 'make' and 'copy' of a row; what the maps give to LastYear.
-/
import Derived.Test.Qxb6616127aMake
import Derived.Test.Qxb6616127aBytes
import Derived.Laws.CopyOwn
namespace Go.Proofs.Qxb6616127a
open Go.RowKit

theorem Try.info9 : (Try.prog.info? 9).map (fun i => (i.zero, i.size, i.bytes)) = some (some (.string ByteArray.empty), 1, 16) := by kernel_rfl
theorem Try.size9 : (Try.prog.info? 9).map (·.size) = some 1 := by kernel_rfl

/-- 'make([]T, k, R)', T of one cell: a new row of R cells. -/
theorem wpList_make_row {P : Program} (w : World) {ops : Array Oper} {rest : List Oper} {o : Oper} {a : Act} {Q : Exit → Act → World → Prop}
    (hg : o.guard = none) (l c : Operand) (t : TypeId) (hop : o.op = Op.makeSlice t l c)
    (e : TypeId) (i : TypeInfo) (z : Value) (h1 : P.underlying t = some (.slice e)) (h2 : P.info? e = some i) (h3 : i.zero = some z) (h4 : i.size = 1)
    (kl kc : IntKind) (k R : Nat) (hl : a.eval l = .int kl (k : Int)) (hc : a.eval c = .int kc (R : Int)) (hkR : k ≤ R) (b2 : i.bytes * R ≤ 281474976710656) (b3 : R ≤ 1099511627776)
    (hK : ∀ w' (X : List Value), X.length = R → Hid (w'.heap[w.heap.size]? = some (.cells X.toArray e (0, 0))) → w.grownBy w' none → wpList P ops Q rest (a.put o.dst (.slice (some ⟨w.heap.size, 0, none⟩) k R)) w') :
    wpList P ops Q (o :: rest) a w := by
  refine wpList_plain hg fun K hK' => ?_
  have hrun := run_make (P := P) w t e i z h1 h2 h3 kl kc (k : Int) (R : Int) (by omega) (by omega) (by rw [show (i.bytes : Int) * (R : Int) = ((i.bytes * R : Nat) : Int) by simp]; omega) (by omega)
  unfold Oper.wp
  simp [execOp, hop, hl, hc, hrun, Result.andThen]
  refine hK' _ _ (hK _ (madeCells z.cells (R * 1)).toList (by simp [size_madeCells]) ?_ (World.grownBy_alloc _ _ _))
  show _ = _
  rw [h4]
  simpa using heap_alloc_new w _

/-- The walk stands before a 'copy'. -/
theorem at_copy {P : Program} {ops : Array Oper} {Q : Exit → Act → World → Prop} {rest : List Oper} {d : Option Tmp} {x : Array Operand} {y : Array TypeId} {t : TypeId} {p : String} {e : Array Edge} {g : Option (Nat × Bool)} {a : Act} {w : World}
    (h : wpList P ops Q ({ dst := d, op := Op.call { callee := Callee.builtin Builtin.copy, args := x, argTypes := y }, type := t, pos := p, after := e, guard := g } :: rest) a w) :
    wpList P ops Q ({ dst := d, op := Op.call { callee := Callee.builtin Builtin.copy, args := x, argTypes := y }, type := t, pos := p, after := e, guard := g } :: rest) a w := h

/-- The copied strings. -/
theorem strs_copied {w w' : World} {v : Value} {G n : Nat} {X : List Value} {ss : List ByteArray} (hs : StrsAt w v ss) (hl : ss.length = n) (hX : X.length = n) (h : w'.heap[G]? = some (.cells (splice X 0 (ss.map Value.string)).toArray 9 (0, 0))) :
    StrsAt w' (.slice (some ⟨G, 0, none⟩) n n) ss := by
  have e : splice X 0 (ss.map Value.string) = ss.map Value.string := by
    have : X.drop ss.length = [] := List.drop_eq_nil_of_le (by omega)
    simp [splice, this]
  rw [e] at h
  refine ⟨some ⟨G, 0, none⟩, n, by rw [hl], (fun h => by cases h), fun t ht => ⟨G, 0, rfl, ?_, ?_⟩⟩
  · simp [World.cell?, h, List.getD, ht]
  · obtain ⟨_, _, _, _, hc⟩ := hs
    obtain ⟨_, _, _, _, h3⟩ := hc t ht
    exact h3

theorem strs_oneCell (ss : List ByteArray) : ∀ v ∈ ss.map Value.string, v.oneCell' = true := by
  intro v hv
  obtain ⟨_, _, rfl⟩ := List.mem_map.1 hv
  rfl

theorem strs_src {w w1 : World} {a : Option Addr} {n c : Nat} {ss : List ByteArray} (h : StrsAt w (.slice a n c) ss) (hg : w.grownBy w1 none) (h0 : 0 < (ss.map Value.string).length) :
    ∃ ad, a = some ad ∧ ∀ j v, (ss.map Value.string)[j]? = some v → w1.cell? (ad.add j) = some v := by
  have hf := h
  obtain ⟨a', c', hv, _, hc⟩ := h
  obtain ⟨rfl, rfl, rfl⟩ : a = a' ∧ n = ss.length ∧ c = c' := by simpa using hv
  obtain ⟨b, o, ha, _, _⟩ := hc 0 (by simpa using h0)
  refine ⟨⟨b, o, none⟩, ha, fun j v hv => ?_⟩
  have hj : j < ss.length := by have := (List.getElem?_eq_some_iff.1 hv).1; simpa using this
  obtain ⟨b', o', ha', hcell, _⟩ := hc j hj
  rw [ha] at ha'
  obtain ⟨rfl, rfl⟩ : b = b' ∧ o = o' := by simpa using ha'
  rw [Addr.add_lit]
  refine hg.cell ?_ (by simp)
  rw [hcell, ← hv]
  simp [List.getD, hj]

theorem yearsFor_mem (ts : List (ByteArray × List Int)) (id : List UInt8) (N : Nat) (h : ∀ t, t < ts.length → (ts.getD t (ByteArray.empty, [])).2.length ≤ N) : (yearsFor (keyed ts) id).length ≤ N := by
  unfold yearsFor
  cases hf : (keyed ts).reverse.find? (fun t => t.1 == id) with
  | none => simp
  | some t =>
    have hm := List.mem_of_find?_eq_some hf
    rw [List.mem_reverse] at hm
    obtain ⟨u, hu, rfl⟩ := List.mem_map.1 hm
    obtain ⟨i, hi, rfl⟩ := List.getElem_of_mem hu
    have := h i hi
    simpa [List.getD, hi] using this

/-- What lastYearMap leaves. -/
def MapEnd (look : List UInt8 → List Int) (n : Nat) (e : Ending) (w w' : World) : Prop :=
  ∃ M, e = .returned M ∧ Below w.heap.size w w' ∧ (∀ s : ByteArray, s.size ≤ maxLen → LookAt w' M look s) ∧ ((M = .map none ∧ look = fun _ => []) ∨ ∃ b, w.heap.size ≤ b ∧ M = .map (some b) ∧ MapAt w' b n look)

theorem map_end (x : Option Addr) (n c : Nat) (ts : List (ByteArray × List Int)) (w : World) (hn : n ≤ 65536) (hts : ts.length = n) (hyl : ∀ t, t < n → (ts.getD t (ByteArray.empty, [])).2.length ≤ 131072) (h : TestsAt w (.slice x n c) ts) :
    Calls Try.prog 12 #[.slice x n c] w fun e w' => MapEnd (yearsFor (keyed ts)) n e w w' := by
  refine (map_any x n c ts w hn hts hyl h).mono ?_
  rintro e w' (⟨rfl, hb, rfl⟩ | ⟨b, hbs, rfl, hb, hM⟩)
  · exact ⟨_, rfl, hb, fun s _ => look_nil_map s w' _ rfl, .inl ⟨rfl, rfl⟩⟩
  · exact ⟨_, rfl, hb, fun s hs => hM.look s hs, .inr ⟨b, hbs, rfl, hM⟩⟩

theorem LookAt.later {w w' : World} {b n : Nat} {look : List UInt8 → List Int} (h : MapAt w b n look) (hb : Below w.heap.size w w') (s : ByteArray) (hs : s.size ≤ maxLen) : LookAt w' (.map (some b)) look s := (h.later hb).look s hs

theorem strs_mem {w : World} {v : Value} {ss : List ByteArray} (h : StrsAt w v ss) : ∀ s ∈ ss, s.size ≤ maxLen := by
  intro s hs
  obtain ⟨i, hi, rfl⟩ := List.getElem_of_mem hs
  obtain ⟨_, _, _, _, hc⟩ := h
  obtain ⟨_, _, _, _, h3⟩ := hc i hi
  simpa [List.getD, hi] using h3

/-- The years with one put in. -/
def putIn (ys : List Int) (k : Nat) (y : Int) : List Int := ys.take k ++ y :: ys.drop k
theorem putIn_len (ys : List Int) (k : Nat) (y : Int) (h : k ≤ ys.length) : (putIn ys k y).length = ys.length + 1 := by simp [putIn]; omega
theorem putIn_lo (ys : List Int) (k : Nat) (y : Int) (h : k ≤ ys.length) (t : Nat) (ht : t < k) : (putIn ys k y).getD t 0 = ys.getD t 0 := by
  unfold putIn
  rw [List.getD_eq_getElem?_getD, List.getD_eq_getElem?_getD, List.getElem?_append_left (by simp; omega), List.getElem?_take, if_pos ht]
theorem putIn_at (ys : List Int) (k : Nat) (y : Int) (h : k ≤ ys.length) : (putIn ys k y).getD k 0 = y := by
  unfold putIn
  rw [List.getD_eq_getElem?_getD, List.getElem?_append_right (by simp; omega)]
  simp [Nat.min_eq_left h]
theorem putIn_hi (ys : List Int) (k : Nat) (y : Int) (h : k ≤ ys.length) (t : Nat) (ht : k ≤ t) : (putIn ys k y).getD (t + 1) 0 = ys.getD t 0 := by
  unfold putIn
  rw [List.getD_eq_getElem?_getD, List.getD_eq_getElem?_getD, List.getElem?_append_right (by simp; omega)]
  simp only [List.length_take, Nat.min_eq_left h]
  rw [show t + 1 - k = (t - k) + 1 by omega, List.getElem?_cons_succ, List.getElem?_drop, show k + (t - k) = t by omega]

theorem mxI_comm (a b : Int) : mxI a b = mxI b a := by unfold mxI; split <;> split <;> omega

/-- LAW 'rises', at the ids. -/
theorem rises_law (look : List UInt8 → List Int) (ss : List ByteArray) (id : ByteArray) (hid : id ∈ ss) (k : Nat) (y : Int) :
    lastFrom (lookPut look (key id) (putIn (look (key id)) k y)) 0 (ss.map key) = mxI y (lastFrom look 0 (ss.map key)) := by
  rw [last_rises look (lookPut look (key id) (putIn (look (key id)) k y)) (key id) ((look (key id)).take k) ((look (key id)).drop k) y (by simp) (by exact if_pos rfl) (fun k' hk => if_neg hk) (ss.map key) 0]
  rw [if_pos (List.mem_map.2 ⟨id, hid, rfl⟩), mxI_comm]

end Go.Proofs.Qxb6616127a
