/-
  Seat b6601989a: a map[string]bool of the call's own as a set of strings: made, asked, added to, counted.
-/
import Derived.Test.Qxb6601989aBase
namespace Go.Proofs.Qxb6601989a
open Go.RowKit

theorem keyed : Maps.Keyed Try.prog 9 := Maps.string_keyed Try.underlying9

/-- Is the string in the list? (A word of its own, which the walk does not open.) -/
def memB (S : List ByteArray) (s : ByteArray) : Bool := S.any fun x => x.data.toList == s.data.toList
theorem data_inj {x s : ByteArray} (h : x.data.toList = s.data.toList) : x = s := by
  have e2 : x.data = s.data := by simpa using congrArg List.toArray h
  cases x; cases s; simp_all
theorem memB_true {S : List ByteArray} {s : ByteArray} : memB S s = true ↔ s ∈ S := by
  unfold memB
  rw [List.any_eq_true]
  constructor
  · rintro ⟨x, hx, h⟩
    have := data_inj (by simpa using h)
    subst this
    exact hx
  · intro h
    exact ⟨s, h, by simp⟩
theorem memB_false {S : List ByteArray} {s : ByteArray} : memB S s = false ↔ s ∉ S := by
  rw [← memB_true]; simp

/-- Block b is a map whose keys are just the strings of S, each to true. -/
def MSet (w : World) (b : Nat) (S : List ByteArray) : Prop :=
  ∃ D : DataW Unit, w.ownsMap Try.prog 9 (plainElem Try.prog 4) b S.length D ∧ (∀ s : ByteArray, Maps.has D (.string s.data.toList) = memB S s) ∧
    (∀ s ∈ S, D.atKey (.string s.data.toList) (.lit (.bool false)) = .lit (.bool true)) ∧ Maps.size D = S.length

theorem MSet.made (w : World) : MSet (w.alloc (.map #[] 0)) w.heap.size [] :=
  ⟨.map [], World.ownsMap_made w _ _ _, by intro s; simp [memB, Maps.has], by simp, rfl⟩

theorem MSet.kept {w w' : World} {b : Nat} {S : List ByteArray} (h : MSet w b S) (hk : w'.heap[b]? = w.heap[b]?) : MSet w' b S := by
  obtain ⟨D, ⟨es, cl, hb, r⟩, r2⟩ := h
  exact ⟨D, ⟨es, cl, by rw [hk]; exact hb, r⟩, r2⟩

theorem MSet.lt {w : World} {b : Nat} {S : List ByteArray} (h : MSet w b S) : b < w.heap.size := by
  obtain ⟨D, h, _⟩ := h
  exact h.lt

/-- A map is no row and no variable. -/
theorem MSet.ne {w : World} {b k : Nat} {S : List ByteArray} (h : MSet w b S) {cur : Array Value} {e : TypeId} {m : Nat × Nat} (hk : w.heap[k]? = some (.cells cur e m)) : b ≠ k := by
  obtain ⟨D, ⟨es, cl, hb, r⟩, r2⟩ := h
  rintro rfl
  rw [hb] at hk
  cases hk

theorem key_of {s : ByteArray} (hs : s.size ≤ maxLen) : keyOf Try.prog 9 (.string s) = some (.string s.data.toList) := by
  simp [keyOf, Try.underlying9, mapKey, hs]

theorem zero4 (w : World) : (zeroValue 4).run Try.prog w = .ok (.bool false) w := by kernel_rfl

theorem plainElem_bool_inv {v : Value} {z : DataW Unit × List MemPlace} (h : plainElem Try.prog 4 v = some z) : ∃ x, v = .bool x ∧ z = (.lit (.bool x), []) := by
  unfold plainElem at h
  rw [Try.underlying4] at h
  cases v <;> simp at h
  exact ⟨_, rfl, h.symm⟩

/-- 'm[s]'. -/
theorem MSet.look {w : World} {b : Nat} {S : List ByteArray} (h : MSet w b S) {s : ByteArray} (hs : s.size ≤ maxLen) :
    (Instr.lookup 22 (.map (some b)) (.string s) false).run Try.prog w = .ok (.bool (memB S s)) w := by
  obtain ⟨D, h1, h2, h3, _⟩ := h
  obtain ⟨v, ps, hrun, hv⟩ := h1.lookup keyed Try.underlying22 (zero4 w) (plainElem_bool Try.underlying4 false) (key_of hs)
  obtain ⟨x, rfl, hx⟩ := plainElem_bool_inv hv
  rw [hrun]
  have : x = memB S s := by
    cases hm : memB S s with
    | true =>
      rw [h3 s (memB_true.1 hm)] at hx
      simp at hx; exact hx.1
    | false =>
      rw [Maps.atKey_of_not_has (by rw [h2, hm])] at hx
      simp at hx; exact hx.1
  rw [this]

/-- 'm[s]' at a nil map. -/
theorem look_nil (w : World) {s : ByteArray} (hs : s.size ≤ maxLen) : (Instr.lookup 22 (.map none) (.string s) false).run Try.prog w = .ok (.bool false) w := by
  have := Maps.look_nil (w := w) false keyed Try.underlying22 (zero4 w) (key_of hs)
  simpa using this

/-- 'len(m)'. -/
theorem MSet.len {w : World} {b : Nat} {S : List ByteArray} (h : MSet w b S) (ty : TypeId) : (Builtin.len_ #[22] ty #[.map (some b)]).run Try.prog w = .ok (.int .i64 S.length) w := by
  obtain ⟨D, h1, _, _, h4⟩ := h
  rw [h1.len Try.underlying22 ty, h4]

theorem put_set {D : DataW Unit} {S : List ByteArray} {s : ByteArray} (hM : Maps.Tidy D) (hs : s ∉ S) (h2 : ∀ x : ByteArray, Maps.has D (.string x.data.toList) = memB S x)
    (h3 : ∀ x ∈ S, D.atKey (.string x.data.toList) (.lit (.bool false)) = .lit (.bool true)) (h4 : Maps.size D = S.length) :
    (∀ x : ByteArray, Maps.has (D.put (.string s.data.toList) (.lit (.bool true))) (.string x.data.toList) = memB (S ++ [s]) x) ∧
    (∀ x ∈ S ++ [s], (D.put (.string s.data.toList) (.lit (.bool true))).atKey (.string x.data.toList) (.lit (.bool false)) = .lit (.bool true)) ∧ Maps.size (D.put (.string s.data.toList) (.lit (.bool true))) = (S ++ [s]).length := by
  have hkl : WideAt.IsKeyLit (.string s.data.toList) := by first | exact trivial | simp [WideAt.IsKeyLit] | exact ⟨_, rfl⟩
  have inj : ∀ x : ByteArray, x ≠ s → Lit.string x.data.toList ≠ .string s.data.toList := by
    intro x hx e
    exact hx (data_inj (by simpa using e))
  refine ⟨fun x => ?_, fun x hx => ?_, ?_⟩
  · by_cases e : x = s
    · subst e
      rw [Maps.has_put_same hM.isMap hkl]
      exact (memB_true.2 (by simp)).symm
    · rw [Maps.has_put_other (inj x e), h2]
      cases hm : memB S x with
      | true => exact (memB_true.2 (by simp [memB_true.1 hm])).symm
      | false => exact (memB_false.2 (by simp [memB_false.1 hm, e])).symm
  · by_cases e : x = s
    · subst e
      exact Maps.atKey_put_same hM.isMap hkl _ _
    · rw [Maps.atKey_put_other (inj x e)]
      exact h3 x (by simpa [e] using hx)
  · rw [Maps.size_put hM, h2, if_neg (by rw [memB_false.2 hs]; simp), h4]
    simp

/-- 'm[s] = true' at the operation: s is new. -/
theorem put_new {ops : Array Oper} {rest : List Oper} {o : Oper} {a : Act} {Q : Exit → Act → World → Prop} (w : World)
    (hg : o.guard = none) (m x v : Operand) (hop : o.op = Op.mapUpdate 22 m x v) (b : Nat) (S : List ByteArray) (s : ByteArray) (hm : a.eval m = .map (some b)) (hset : MSet w b S) (hn : S.length ≤ 1099511627776) (hs : s.size ≤ maxLen) (hnew : s ∉ S)
    (hx : a.eval x = .string s) (hv : a.eval v = .bool true)
    (hK : ∀ w', MSet w' b (S ++ [s]) → w.grownBy w' (some b) → wpList Try.prog ops Q rest (a.put o.dst undef) w') :
    wpList Try.prog ops Q (o :: rest) a w := by
  obtain ⟨D, h1, h2, h3, h4⟩ := hset
  refine wpList_mapUpdate_own w hg m x v 22 hop 9 4 keyed Try.underlying22 (plainElem Try.prog 4) b S.length D hm h1 (by unfold maxLen; omega) (.string s) (.bool true) (.string s.data.toList) hx hv (key_of hs) (.lit (.bool true)) [] (plainElem_bool Try.underlying4 true) ?_
  intro w' h5 h6
  obtain ⟨r1, r2, r3⟩ := put_set (h1.tidy keyed) hnew h2 h3 h4
  exact hK w' ⟨_, by rw [List.length_append]; exact h5, r1, r2, r3⟩ h6

end Go.Proofs.Qxb6601989a
