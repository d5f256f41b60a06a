/-
  Seat b6600932a: an append that may grow, said so that the walk sees letters alone; 'appendNumberB1' (30), 'appendSepB1' (32).
-/
import Derived.Test.Qxb6600932aApp
import Derived.Test.Qxb6600932aJson
namespace Go.Proofs.Qxb6600932a
open Go.RowKit

/-- 'append' of bytes that are written out, to whatever slice of the call's own: it may grow. -/
theorem app_more {ops : Array Oper} {rest : List Oper} {o : Oper} {a : Act} {Q : Exit → Act → World → Prop} (w : World)
    (hg : o.guard = none) (s x : Operand) (hop : o.op = Op.call { callee := Callee.builtin Builtin.append, args := #[s, x], argTypes := #[22, 22] })
    (B : Nat) (hB : B ≤ w.heap.size) (v : Value) (xs : List Int) (hs : a.eval s = v) (hown : Own B w v xs)
    (cs : List Int) (hx : a.eval x = .slice (some ⟨w.heap.size, 0, none⟩) cs.length cs.length) (b1 : xs.length + cs.length ≤ 1099511627776)
    (hK : ∀ ao m c zs w', Hid (zs = xs ++ cs) → Own B w' (.slice ao m c) zs → Below B w w' → B ≤ w'.heap.size → wpList Try.prog ops Q rest (a.put o.dst (.slice ao m c)) w') :
    wpList Try.prog ops Q (o :: rest) a (w.alloc (.cells (bs cs).toArray 5)) :=
  app_grow w hg s x hop B hB v xs hs hown cs hx b1 fun ao c w' h1 h2 => hK ao _ c _ w' rfl h1 h2 (Nat.le_trans hB h2.size)

/-- What a builder leaves: behind xs stands ys. -/
def Left (B : Nat) (w : World) (xs : List Int) (P : List Int → Prop) (e : Ending) (w' : World) : Prop :=
  ∃ ao m c ys, e = .returned (.slice ao m c) ∧ Own B w' (.slice ao m c) (xs ++ ys) ∧ P ys ∧ Below B w w'

theorem Left.mk {B : Nat} {w w' : World} {xs zs ys : List Int} {P : List Int → Prop} {ao : Option Addr} {m c : Nat} (hz : Hid (zs = xs ++ ys)) (ho : Own B w' (.slice ao m c) zs) (hP : P ys) (hb : Below B w w') :
    Left B w xs P (.returned (.slice ao m c)) w' := ⟨ao, m, c, ys, rfl, by rw [← hz.out]; exact ho, hP, hb⟩

def NumP (ys : List Int) : Prop := IsLit ys ∧ ys.length ≤ 7
def SepP (ys : List Int) : Prop := Tr ys ∧ ys.length ≤ 4

/-- A list of bytes of literals, told by reckoning. -/
def ltB (c : Int) : Bool := !(c == 32 || c == 9 || c == 10 || c == 13 || c == 44 || c == 93 || c == 125 || c == 34 || c == 123 || c == 91)
theorem lt_of {c : Int} (h : ltB c = true) : Lt c := by
  simp [ltB] at h
  unfold Lt
  omega
theorem lit_of {l : List Int} (h1 : l ≠ []) (h : l.all ltB = true) : IsLit l := ⟨h1, fun c hc => lt_of (List.all_eq_true.1 h c hc)⟩

def trB (c : Int) : Bool := !(c == 34 || c == 123 || c == 91 || c == 125 || c == 93)
theorem tr_of {l : List Int} (h : l.all trB = true) : Tr l := Tr.chars fun c hc => by
  have := List.all_eq_true.1 h c hc
  simp [trB] at this
  omega

set_option maxHeartbeats 1000000 in
/-- Function 30. -/
theorem num_any (B : Nat) (v : Value) (xs : List Int) (k : Int) (w : World) (hB : B ≤ w.heap.size) (hown : Own B w v xs) (h0 : 0 ≤ k) (h1 : k ≤ 255) (hl : xs.length ≤ 549755813888) :
    Calls Try.prog 30 #[v, .int .u8 k] w (Left B w xs NumP) := by
  have hk8 : k % 8 = 0 ∨ k % 8 = 1 ∨ k % 8 = 2 ∨ k % 8 = 3 ∨ k % 8 = 4 ∨ k % 8 = 5 ∨ k % 8 = 6 ∨ k % 8 = 7 := by omega
  rcases hk8 with e | e | e | e | e | e | e | e
  · go_enter Try.func30, Try.ntmps30
    go_wp2_with (at_builtin; refine app_more _ rfl _ _ rfl B hB v xs rfl hown [48] rfl (by simp; omega) ?_)
    intro ao m c zs w1 hz ho hb _
    go_wp2
    go_ret
    exact Left.mk hz ho ⟨lit_of (by decide) (by decide), by decide⟩ hb
  · go_enter Try.func30, Try.ntmps30
    go_wp2_with (at_builtin; refine app_more _ rfl _ _ rfl B hB v xs rfl hown [45, 49] rfl (by simp; omega) ?_)
    intro ao m c zs w1 hz ho hb _
    go_wp2
    go_ret
    exact Left.mk hz ho ⟨lit_of (by decide) (by decide), by decide⟩ hb
  · go_enter Try.func30, Try.ntmps30
    go_wp2_with (at_builtin; refine app_more _ rfl _ _ rfl B hB v xs rfl hown [49, 50, 51] rfl (by simp; omega) ?_)
    intro ao m c zs w1 hz ho hb _
    go_wp2
    go_ret
    exact Left.mk hz ho ⟨lit_of (by decide) (by decide), by decide⟩ hb
  · go_enter Try.func30, Try.ntmps30
    go_wp2_with (at_builtin; refine app_more _ rfl _ _ rfl B hB v xs rfl hown [52, 46, 53] rfl (by simp; omega) ?_)
    intro ao m c zs w1 hz ho hb _
    go_wp2
    go_ret
    exact Left.mk hz ho ⟨lit_of (by decide) (by decide), by decide⟩ hb
  · go_enter Try.func30, Try.ntmps30
    go_wp2_with (at_builtin; refine app_more _ rfl _ _ rfl B hB v xs rfl hown [45, 54, 101, 55] rfl (by simp; omega) ?_)
    intro ao m c zs w1 hz ho hb _
    go_wp2
    go_ret
    exact Left.mk hz ho ⟨lit_of (by decide) (by decide), by decide⟩ hb
  · go_enter Try.func30, Try.ntmps30
    go_wp2_with (at_builtin; refine app_more _ rfl _ _ rfl B hB v xs rfl hown [56, 46, 57, 69, 45, 49, 48] rfl (by simp; omega) ?_)
    intro ao m c zs w1 hz ho hb _
    go_wp2
    go_ret
    exact Left.mk hz ho ⟨lit_of (by decide) (by decide), by decide⟩ hb
  · go_enter Try.func30, Try.ntmps30
    go_wp2_with (at_builtin; refine app_more _ rfl _ _ rfl B hB v xs rfl hown [49, 101, 43, 50] rfl (by simp; omega) ?_)
    intro ao m c zs w1 hz ho hb _
    go_wp2
    go_ret
    exact Left.mk hz ho ⟨lit_of (by decide) (by decide), by decide⟩ hb
  · go_enter Try.func30, Try.ntmps30
    go_wp2_with (at_builtin; refine app_more _ rfl _ _ rfl B hB v xs rfl hown [45, 48, 46, 48] rfl (by simp; omega) ?_)
    intro ao m c zs w1 hz ho hb _
    go_wp2
    go_ret
    exact Left.mk hz ho ⟨lit_of (by decide) (by decide), by decide⟩ hb

set_option maxHeartbeats 1000000 in
/-- Function 32. -/
theorem sep_any (B : Nat) (v : Value) (xs : List Int) (k : Int) (w : World) (hB : B ≤ w.heap.size) (hown : Own B w v xs) (h0 : 0 ≤ k) (h1 : k ≤ 255) (hl : xs.length ≤ 549755813888) :
    Calls Try.prog 32 #[v, .int .u8 k] w (Left B w xs SepP) := by
  have hk8 : k / 64 = 0 ∨ k / 64 = 1 ∨ k / 64 = 2 ∨ k / 64 = 3 := by omega
  rcases hk8 with e | e | e | e
  · go_enter Try.func32, Try.ntmps32
    go_wp2_with (at_builtin; refine app_more _ rfl _ _ rfl B hB v xs rfl hown [44] rfl (by simp; omega) ?_)
    intro ao m c zs w1 hz ho hb _
    go_wp2
    go_ret
    exact Left.mk hz ho ⟨tr_of (by decide), by decide⟩ hb
  · go_enter Try.func32, Try.ntmps32
    go_wp2_with (at_builtin; refine app_more _ rfl _ _ rfl B hB v xs rfl hown [44, 32] rfl (by simp; omega) ?_)
    intro ao m c zs w1 hz ho hb _
    go_wp2
    go_ret
    exact Left.mk hz ho ⟨tr_of (by decide), by decide⟩ hb
  · go_enter Try.func32, Try.ntmps32
    go_wp2_with (at_builtin; refine app_more _ rfl _ _ rfl B hB v xs rfl hown [10, 44, 9] rfl (by simp; omega) ?_)
    intro ao m c zs w1 hz ho hb _
    go_wp2
    go_ret
    exact Left.mk hz ho ⟨tr_of (by decide), by decide⟩ hb
  · go_enter Try.func32, Try.ntmps32
    go_wp2_with (at_builtin; refine app_more _ rfl _ _ rfl B hB v xs rfl hown [32, 44, 13, 10] rfl (by simp; omega) ?_)
    intro ao m c zs w1 hz ho hb _
    go_wp2
    go_ret
    exact Left.mk hz ho ⟨tr_of (by decide), by decide⟩ hb

end Go.Proofs.Qxb6600932a
