/-
  Seat b6601989a: what the walk of 'FnObjectKeysAddExact' wants besides: cuts, a copy of a slice that is read, the object as it is built there.
-/
import Derived.Test.Qxb6601989aSmall
namespace Go.Proofs.Qxb6601989a
open Go.RowKit
set_option linter.unusedVariables false

theorem Strs.rdt {w : World} {a : Option Addr} {len cap : Nat} {zs : List ByteArray} (h : Strs w a len cap zs) : Rd w a len (fun j => (zs.take len).getD j ByteArray.empty) := by
  rcases h.rd with e | ⟨b, off, e, hb, hc⟩
  · exact .inl e
  · refine .inr ⟨b, off, e, hb, fun j hj => ?_⟩
    rw [hc j hj]
    simp [List.getD, hj]

theorem Strs.facts {w : World} {a : Option Addr} {len cap : Nat} {zs : List ByteArray} (h : Strs w a len cap zs) : (zs.take len).length = len ∧ Sht (zs.take len) ∧ len ≤ cap ∧ (a = none → cap = 0) := by
  rcases h with ⟨rfl, rfl, rfl, rfl⟩ | ⟨x, rfl, hl, hm, hz, hcell, hwz⟩
  · exact ⟨rfl, by intro s hs; simp at hs, Nat.le_refl _, fun _ => rfl⟩
  · exact ⟨by simp; omega, fun y hy => hwz y (List.mem_of_mem_take hy), hl, fun e => by cases e⟩

/-- 'xs[f:]' reads as the rest of the list. -/
theorem Rd.cut {w : World} {a : Option Addr} {n c f : Nat} {xs : List ByteArray} (h : Rd w a n (fun j => xs.getD j ByteArray.empty)) (hf : f ≤ n) (hc : n ≤ c) :
    Rd w (if c = f then a else Option.map (fun x => x.add f) a) (n - f) (fun j => (xs.drop f).getD j ByteArray.empty) := by
  by_cases e : c = f
  · exact .inl (by omega)
  · rw [if_neg e]
    by_cases e2 : n - f = 0
    · exact .inl e2
    · rcases h with h | ⟨b, off, rfl, hb, hcell⟩
      · omega
      · refine .inr ⟨b, off + f, by rw [Option.map_some, Addr.add_lit], hb, fun j hj => ?_⟩
        rw [Nat.add_assoc, hcell (f + j) (by omega)]
        show some (Value.string (xs.getD (f + j) ByteArray.empty)) = some (Value.string ((xs.drop f).getD j ByteArray.empty))
        rw [drop_get]

/-- Function 9 at a slice of which the elements are known. -/
theorem clone_rd (a : Option Addr) (n c : Nat) (xs : List ByteArray) (w : World) (hn : n ≤ 1048576) (hx : xs.length = n) (h : Rd w a n (fun j => xs.getD j ByteArray.empty)) (hnil : a = none → n = 0 ∧ c = 0) :
    Calls Try.prog 9 #[.slice a n c] w fun e w' => ∃ ao d, e = .returned (.slice ao n d) ∧ OwnS w' (.slice ao n d) xs ∧ (∀ k, (Value.slice ao n d).ownBlock = some k → w.heap.size ≤ k) ∧ Below w.heap.size w w' := by
  suffices H : Calls Try.prog 9 #[.slice a n c] w fun e w' => ∃ v, e = .returned v ∧ w'.ownsRow w.heap.size 9 1 v n (vs xs) ∧ Below w.heap.size w w' by
    refine H.mono ?_
    rintro e w' ⟨v, rfl, ho, hbe⟩
    have hlt := ho.lt
    have ho' : OwnS w' v xs := by unfold OwnS; rw [hx]; exact owns_zero ho
    obtain ⟨ao, d, rfl⟩ := ho'.form
    rw [hx] at ho' hlt ⊢
    exact ⟨ao, d, rfl, ho', fun k hk => (hlt k hk).1, hbe⟩
  cases a with
  | none =>
    obtain ⟨rfl, rfl⟩ := hnil rfl
    have : xs = [] := List.eq_nil_of_length_eq_zero hx
    subst this
    refine (clone_nil w).mono ?_
    rintro e w' ⟨rfl, rfl⟩
    exact ⟨_, rfl, World.ownsRow_nil _ _ _ _, Below.refl _ _⟩
  | some x =>
    by_cases h0 : n = 0
    · subst h0
      have : xs = [] := List.eq_nil_of_length_eq_zero hx
      subst this
      refine (clone_empty x c w).mono ?_
      rintro e w' ⟨v, rfl, ho, hb⟩
      exact ⟨v, rfl, by simpa [vs] using ho, hb⟩
    · rcases h with e | ⟨b, off, e, hb, hc⟩
      · omega
      · cases e
        refine (clone_some b off n c (fun j => xs.getD j ByteArray.empty) w hn hb hc).mono ?_
        rintro e w' ⟨v, rfl, ho, hbe⟩
        rw [part_full xs n (by omega), List.take_of_length_le (by omega)] at ho
        exact ⟨v, rfl, ho, hbe⟩

/-- Below what was there nothing has turned: the reader reads on. -/
theorem Rd.below {w w' : World} {a : Option Addr} {n : Nat} {T : Nat → ByteArray} (h : Rd w a n T) (hb : Below w.heap.size w w') : Rd w' a n T := by
  rcases h with h | ⟨b, off, e, hbl, hc⟩
  · exact .inl h
  · exact .inr ⟨b, off, e, Nat.lt_of_lt_of_le hbl hb.size, fun j hj => (hb.cell (p := ⟨b, off + j, none⟩) hbl).trans (hc j hj)⟩

theorem Fr.toBelow {w w' : World} (h : Fr (fun _ => False) w w') {B : Nat} (hB : B ≤ w.heap.size) : Below B w w' := h.below (fun _ f => f.elim) hB

/-- The map that came in, in a later world. -/
theorem Askable.mk {H : Type} {w : World} {b m : Nat} {D : DataW H} (h : w.ownsMap Try.prog 9 (plainElem Try.prog 4) b m D) : Askable w b := by
  refine ⟨Maps.size D, fun ty => h.len Try.underlying22 ty, fun s hs => ?_⟩
  obtain ⟨v, ps, hrun, hv⟩ := h.lookup keyed Try.underlying22 (zero4 w) (plainElem_bool Try.underlying4 false) (key_of hs)
  have : ∃ x, v = .bool x := by
    unfold plainElem at hv
    rw [Try.underlying4] at hv
    cases v <;> simp at hv
    exact ⟨_, rfl⟩
  obtain ⟨x, rfl⟩ := this
  exact ⟨x, hrun⟩

/-- Of the map that came in: nil, or one that can be asked in every later world. -/
def MapIn (w : World) (r : Option Nat) : Prop := r = none ∨ ∃ b, r = some b ∧ ∀ w', Below w.heap.size w w' → Askable w' b

theorem MapIn.len {w : World} {r : Option Nat} (h : MapIn w r) {w' : World} (hb : Below w.heap.size w w') : ∃ m : Nat, ∀ ty, (Builtin.len_ #[22] ty #[.map r]).run Try.prog w' = .ok (.int .i64 m) w' := by
  rcases h with rfl | ⟨b, rfl, h⟩
  · exact ⟨0, fun ty => Maps.len_nil (k := 9) (e := 4) Try.underlying22 ty⟩
  · obtain ⟨m, hm, _⟩ := h w' hb
    exact ⟨m, hm⟩

end Go.Proofs.Qxb6601989a
