/-
  Seat b6600932a: PLAIN LISTS, no Go in sight: where a JSON value ends, told by a small automaton over the bytes; which lists are values; that a value is passed over whole.
-/
namespace Go.Proofs.Qxb6600932a

/-- From just behind a string's opening quote (e: behind a backslash): how many bytes up to and with the closing quote. -/
def sL : Bool → List Int → Option Nat
  | _, [] => none
  | true, _ :: r => (sL false r).map (· + 1)
  | false, c :: r => if c = 34 then some 1 else if c = 92 then (sL true r).map (· + 1) else (sL false r).map (· + 1)

/-- The container automaton: state 0 outside strings, 1 inside, 2 behind a backslash; d: the depth. How many bytes till the depth comes back to nought. -/
def aut : Nat → Nat → List Int → Option Nat
  | _, _, [] => none
  | 0, d, c :: r => if c = 34 then (aut 1 d r).map (· + 1) else if c = 123 ∨ c = 91 then (aut 0 (d + 1) r).map (· + 1) else
      if c = 125 ∨ c = 93 then (if d = 0 then none else if d = 1 then some 1 else (aut 0 (d - 1) r).map (· + 1)) else (aut 0 d r).map (· + 1)
  | 1, d, c :: r => if c = 34 then (aut 0 d r).map (· + 1) else if c = 92 then (aut 2 d r).map (· + 1) else (aut 1 d r).map (· + 1)
  | _, d, _ :: r => (aut 1 d r).map (· + 1)

theorem map_map_add (o : Option Nat) (a b : Nat) : (o.map (· + a)).map (· + b) = o.map (· + (a + b)) := by
  cases o <;> simp [Nat.add_assoc]

theorem map_some {o : Option Nat} {a m : Nat} (h : o.map (· + a) = some m) : ∃ k, o = some k ∧ m = k + a := by
  cases o with
  | none => simp at h
  | some k => exact ⟨k, rfl, by simpa using h.symm⟩

/-! ### the automaton inside a string is the string's reader, then the automaton outside -/

theorem aut_str : ∀ (r : List Int) (e : Bool) (d m : Nat), aut (if e then 2 else 1) d r = some m → ∃ s m', sL e r = some s ∧ aut 0 d (r.drop s) = some m' ∧ m = s + m' := by
  intro r
  induction r with
  | nil => intro e d m h; cases e <;> simp [aut] at h
  | cons c r ih =>
    intro e d m h
    cases e with
    | true =>
      simp only [if_true, aut] at h
      obtain ⟨k, hk, rfl⟩ := map_some h
      obtain ⟨s, m', h1, h2, h3⟩ := ih false d k (by simpa using hk)
      exact ⟨s + 1, m', by simp [sL, h1], by simpa using h2, by omega⟩
    | false =>
      simp only [Bool.false_eq_true, if_false, aut] at h
      by_cases h34 : c = 34
      · rw [if_pos h34] at h
        obtain ⟨k, hk, rfl⟩ := map_some h
        exact ⟨1, k, by simp [sL, h34], by simpa using hk, by omega⟩
      · rw [if_neg h34] at h
        by_cases h92 : c = 92
        · rw [if_pos h92] at h
          obtain ⟨k, hk, rfl⟩ := map_some h
          obtain ⟨s, m', h1, h2, h3⟩ := ih true d k (by simpa using hk)
          exact ⟨s + 1, m', by simp [sL, h92, h1], by simpa using h2, by omega⟩
        · rw [if_neg h92] at h
          obtain ⟨k, hk, rfl⟩ := map_some h
          obtain ⟨s, m', h1, h2, h3⟩ := ih false d k (by simpa using hk)
          exact ⟨s + 1, m', by simp [sL, h34, h92, h1], by simpa using h2, by omega⟩

/-! ### what is passed over whole -/

/-- A run of bytes that the automaton passes over at any depth from 1 on. -/
def Tr (l : List Int) : Prop := ∀ d r, 1 ≤ d → aut 0 d (l ++ r) = (aut 0 d r).map (· + l.length)

theorem Tr.nil : Tr [] := by intro d r _; cases h : aut 0 d r <;> simp [h]

theorem Tr.append {a b : List Int} (ha : Tr a) (hb : Tr b) : Tr (a ++ b) := by
  intro d r hd
  rw [List.append_assoc, ha d _ hd, hb d r hd, map_map_add, List.length_append, Nat.add_comm]

theorem Tr.char {c : Int} (h : c ≠ 34 ∧ c ≠ 123 ∧ c ≠ 91 ∧ c ≠ 125 ∧ c ≠ 93) : Tr [c] := by
  intro d r _
  obtain ⟨h1, h2, h3, h4, h5⟩ := h
  simp [aut, h1, h2, h3, h4, h5]

theorem Tr.chars {l : List Int} (h : ∀ c ∈ l, c ≠ 34 ∧ c ≠ 123 ∧ c ≠ 91 ∧ c ≠ 125 ∧ c ≠ 93) : Tr l := by
  induction l with
  | nil => exact Tr.nil
  | cons c l ih => exact Tr.append (Tr.char (h c (by simp))) (ih fun x hx => h x (by simp [hx]))

/-- A run of bytes that both readers pass over inside a string. -/
def StrB (l : List Int) : Prop := (∀ r, sL false (l ++ r) = (sL false r).map (· + l.length)) ∧ (∀ d r, aut 1 d (l ++ r) = (aut 1 d r).map (· + l.length))

theorem StrB.nil : StrB [] := ⟨fun r => by cases h : sL false r <;> simp [h], fun d r => by cases h : aut 1 d r <;> simp [h]⟩

theorem StrB.append {a b : List Int} (ha : StrB a) (hb : StrB b) : StrB (a ++ b) :=
  ⟨fun r => by rw [List.append_assoc, ha.1, hb.1, map_map_add, List.length_append, Nat.add_comm], fun d r => by rw [List.append_assoc, ha.2, hb.2, map_map_add, List.length_append, Nat.add_comm]⟩

theorem StrB.char {c : Int} (h1 : c ≠ 34) (h2 : c ≠ 92) : StrB [c] := ⟨fun r => by simp [sL, h1, h2], fun d r => by simp [aut, h1, h2]⟩

theorem StrB.esc (c : Int) : StrB [92, c] :=
  ⟨fun r => by simp only [List.cons_append, List.nil_append, sL]; rw [if_neg (by decide), if_pos trivial, map_map_add]; rfl,
   fun d r => by simp only [List.cons_append, List.nil_append, aut]; rw [if_neg (by decide), if_pos trivial, map_map_add]; rfl⟩

theorem StrB.chars {l : List Int} (h : ∀ c ∈ l, c ≠ 34 ∧ c ≠ 92) : StrB l := by
  induction l with
  | nil => exact StrB.nil
  | cons c l ih => exact StrB.append (a := [c]) (StrB.char (h c (by simp)).1 (h c (by simp)).2) (ih fun x hx => h x (by simp [hx]))

/-- A string. -/
def IsStr (v : List Int) : Prop := ∃ b, v = 34 :: (b ++ [34]) ∧ StrB b

theorem IsStr.tr {v : List Int} (h : IsStr v) : Tr v := by
  obtain ⟨b, rfl, hb⟩ := h
  intro d r _
  simp only [List.cons_append, List.append_assoc, aut, if_pos, hb.2, List.nil_append]
  simp only [map_map_add, List.length_cons, List.length_append, List.length_nil]
  congr 1
  funext x
  omega

/-- A container. -/
def IsCon (v : List Int) : Prop := ∃ o b c, v = o :: (b ++ [c]) ∧ (o = 123 ∨ o = 91) ∧ (c = 125 ∨ c = 93) ∧ Tr b

theorem IsCon.at {v : List Int} (h : IsCon v) (d : Nat) (r : List Int) : aut 0 d (v ++ r) = if d = 0 then some v.length else (aut 0 d r).map (· + v.length) := by
  obtain ⟨o, b, c, rfl, ho, hc, hb⟩ := h
  have o34 : o ≠ 34 := by rcases ho with rfl | rfl <;> decide
  have c34 : c ≠ 34 := by rcases hc with rfl | rfl <;> decide
  have co : ¬ (c = 123 ∨ c = 91) := by rcases hc with rfl | rfl <;> decide
  simp only [List.cons_append, List.append_assoc, aut]
  rw [if_neg o34, if_pos ho, hb (d + 1) _ (by omega)]
  simp only [List.nil_append, aut]
  rw [if_neg c34, if_neg co, if_pos hc, if_neg (by omega)]
  by_cases hd : d = 0
  · subst hd; simp; omega
  · rw [if_neg (by omega), if_neg hd, Nat.add_sub_cancel]
    simp only [map_map_add, List.length_cons, List.length_append, List.length_nil]
    congr 1
    funext x
    omega

theorem IsCon.tr {v : List Int} (h : IsCon v) : Tr v := by
  intro d r hd
  rw [h.at d r, if_neg (by omega)]

/-- A byte of a literal: no white space, no comma, no quote, no bracket. -/
def Lt (c : Int) : Prop := c ≠ 32 ∧ c ≠ 9 ∧ c ≠ 10 ∧ c ≠ 13 ∧ c ≠ 44 ∧ c ≠ 93 ∧ c ≠ 125 ∧ c ≠ 34 ∧ c ≠ 123 ∧ c ≠ 91

/-- A byte at which a literal ends. -/
def Stp (c : Int) : Prop := c = 32 ∨ c = 9 ∨ c = 10 ∨ c = 13 ∨ c = 44 ∨ c = 93 ∨ c = 125

def IsLit (v : List Int) : Prop := v ≠ [] ∧ ∀ c ∈ v, Lt c

theorem IsLit.tr {v : List Int} (h : IsLit v) : Tr v :=
  Tr.chars fun c hc => by have := h.2 c hc; unfold Lt at this; omega

/-- A value. -/
def IsVal (v : List Int) : Prop := IsLit v ∨ IsStr v ∨ IsCon v

theorem IsVal.tr {v : List Int} (h : IsVal v) : Tr v := by
  rcases h with h | h | h
  · exact h.tr
  · exact h.tr
  · exact h.tr

theorem IsVal.ne {v : List Int} (h : IsVal v) : v ≠ [] := by
  rcases h with h | ⟨b, rfl, _⟩ | ⟨o, b, c, rfl, _⟩
  · exact h.1
  · simp
  · simp

end Go.Proofs.Qxb6600932a
