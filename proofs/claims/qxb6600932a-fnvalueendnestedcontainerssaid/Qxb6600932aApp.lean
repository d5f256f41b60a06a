/-
  Seat b6600932a: the laws on append and make, at []byte, said of 'Own' and 'Below'.
-/
import Derived.Test.Qxb6600932aBase
namespace Go.Proofs.Qxb6600932a
open Go.RowKit

theorem bs_one (cs : List Int) : ∀ u ∈ bs cs, u.oneCell' = true := ints_oneCell _ _

theorem Own.alloc {B : Nat} {w : World} {v : Value} {xs : List Int} (h : Own B w v xs) (o : Obj) : Own B (w.alloc o) v xs := World.ownsRow.alloc h o

theorem lit_cells (w : World) (cs : List Int) : ∀ j u, (bs cs)[j]? = some u → (w.alloc (.cells (bs cs).toArray 5)).cell? ((⟨w.heap.size, 0, none⟩ : Addr).add j) = some u := by
  intro j u hu
  rw [Addr.add_lit, cell_of_row (w.alloc (.cells (bs cs).toArray 5)) w.heap.size (0 + j) (bs cs).toArray 5 (0, 0) (heap_alloc_new w _)]
  simpa using hu

theorem below_of_grown {B : Nat} {w w' : World} {row : Option Nat} (hg : w.grownBy w' row) (hB : B ≤ w.heap.size) (hr : ∀ k, row = some k → B ≤ k) : Below B w w' :=
  (Below.refl B w).grown hg hB hr

/-- 'make([]byte, 0, n)'. -/
theorem make_own {ops : Array Oper} {rest : List Oper} {o : Oper} {a : Act} {Q : Exit → Act → World → Prop} (w : World)
    (hg : o.guard = none) (l c : Operand) (hop : o.op = Op.makeSlice 22 l c) (C : Int) (n : Nat) (hl : a.eval l = .int .i64 0) (hc : a.eval c = .int .i64 C) (hC : C = (n : Int)) (hn : n ≤ 1099511627776)
    (hK : ∀ w', Own w.heap.size w' (.slice (some ⟨w.heap.size, 0, none⟩) 0 n) [] → Below w.heap.size w w' → w.heap.size < w'.heap.size → wpList Try.prog ops Q rest (a.put o.dst (.slice (some ⟨w.heap.size, 0, none⟩) 0 n)) w') :
    wpList Try.prog ops Q (o :: rest) a w := by
  obtain ⟨i0, hi, hz0, hz1, hz2⟩ := info_parts Try.info5
  refine wpList_make_own w hg l c 22 hop w.heap.size 5 i0 (.int .u8 0) 1 Try.underlying22 hi hz0 hz1 _ _ C n hl hc hC (by rw [hz2]; omega) (by unfold maxLen; omega) (Nat.le_refl _) ?_
  intro w' h1 h2
  exact hK w' h1 (below_of_grown h2 (Nat.le_refl _) (fun k h => by cases h)) (h1.lt w.heap.size rfl).2

/-- 'append' of bytes that are written out, within the capacity. -/
theorem app_fits {ops : Array Oper} {rest : List Oper} {o : Oper} {a : Act} {Q : Exit → Act → World → Prop} (w : World)
    (hg : o.guard = none) (s x : Operand) (hop : o.op = Op.call { callee := Callee.builtin Builtin.append, args := #[s, x], argTypes := #[22, 22] })
    (B g k cap : Nat) (xs : List Int) (hs : a.eval s = .slice (some ⟨g, 0, none⟩) k cap) (hown : Own B w (.slice (some ⟨g, 0, none⟩) k cap) xs)
    (cs : List Int) (hx : a.eval x = .slice (some ⟨w.heap.size, 0, none⟩) cs.length cs.length) (b1 : k + cs.length ≤ cap)
    (hK : ∀ w', Own B w' (.slice (some ⟨g, 0, none⟩) (k + cs.length) cap) (xs ++ cs) → Below B w w' → wpList Try.prog ops Q rest (a.put o.dst (.slice (some ⟨g, 0, none⟩) (k + cs.length) cap)) w') :
    wpList Try.prog ops Q (o :: rest) a (w.alloc (.cells (bs cs).toArray 5)) := by
  obtain ⟨i0, hi, hz0, hz1, hz2⟩ := info_parts Try.info5
  have hk : k = xs.length := hown.sh.1
  subst hk
  have hlt := World.ownsRow.lt hown g rfl
  refine wpList_append_fits _ hg s x 22 hop B 5 i0 1 Try.underlying22 hi hz1 g xs.length cap (bs xs) hs (hown.alloc _) ⟨w.heap.size, 0, none⟩ cs.length cs.length (bs cs) hx (by simp [bs]) (lit_cells w cs) (bs_one cs) b1 ?_
  intro w' h1 h2
  refine hK w' (by unfold Own; rw [bs_append, List.length_append]; exact h1) ?_
  exact (((Below.refl B w).alloc (by omega) _).grown h2 (by simp; omega) (fun k h => by cases h; exact hlt.1))

/-- 'append(x, y...)', y of the call's own too (below B), within the capacity. -/
theorem app_fits_own {ops : Array Oper} {rest : List Oper} {o : Oper} {a : Act} {Q : Exit → Act → World → Prop} (w : World)
    (hg : o.guard = none) (s x : Operand) (hop : o.op = Op.call { callee := Callee.builtin Builtin.append, args := #[s, x], argTypes := #[22, 22] })
    (B g k cap : Nat) (xs : List Int) (hs : a.eval s = .slice (some ⟨g, 0, none⟩) k cap) (hown : Own B w (.slice (some ⟨g, 0, none⟩) k cap) xs)
    (B' : Nat) (ao : Option Addr) (m c : Nat) (ys : List Int) (hy : Own B' w (.slice ao m c) ys) (hx : a.eval x = .slice ao m c) (b1 : k + m ≤ cap)
    (hK : ∀ w', Own B w' (.slice (some ⟨g, 0, none⟩) (k + m) cap) (xs ++ ys) → Below B w w' → wpList Try.prog ops Q rest (a.put o.dst (.slice (some ⟨g, 0, none⟩) (k + m) cap)) w') :
    wpList Try.prog ops Q (o :: rest) a w := by
  obtain ⟨i0, hi, hz0, hz1, hz2⟩ := info_parts Try.info5
  have hk : k = xs.length := hown.sh.1
  subst hk
  have hlt := World.ownsRow.lt hown g rfl
  obtain ⟨rfl, hsh⟩ := hy.sh
  refine wpList_append_fits_any _ hg s x 22 hop B 5 i0 1 Try.underlying22 hi hz1 g xs.length cap (bs xs) hs hown ao ys.length c (bs ys) hx (by simp [bs]) ?_ ?_ (bs_one ys) b1 ?_
  · intro h
    rcases hsh with ⟨_, h2, h3⟩ | ⟨g', h1, _⟩
    · subst h3; exact ⟨rfl, h2⟩
    · rw [h] at h1; cases h1
  · intro ad had j u hu
    rcases hsh with ⟨h1, _⟩ | ⟨g', h1, _, _, _, _, hc⟩
    · rw [had] at h1; cases h1
    · rw [had] at h1
      obtain rfl := Option.some.inj h1
      have hj : j < ys.length := by have := (List.getElem?_eq_some_iff.1 hu).1; simpa [bs] using this
      rw [bs_get ys j hj] at hu
      rw [Addr.add_lit, Nat.zero_add, hc j hj]; exact hu
  · intro w' h1 h2
    refine hK w' (by unfold Own; rw [bs_append, List.length_append]; exact h1) ?_
    exact below_of_grown h2 (by omega) (fun k h => by cases h; exact hlt.1)

/-- 'append' of bytes that are written out, to whatever slice of the call's own: it may grow. -/
theorem app_grow {ops : Array Oper} {rest : List Oper} {o : Oper} {a : Act} {Q : Exit → Act → World → Prop} (w : World)
    (hg : o.guard = none) (s x : Operand) (hop : o.op = Op.call { callee := Callee.builtin Builtin.append, args := #[s, x], argTypes := #[22, 22] })
    (B : Nat) (hB : B ≤ w.heap.size) (v : Value) (xs : List Int) (hs : a.eval s = v) (hown : Own B w v xs)
    (cs : List Int) (hx : a.eval x = .slice (some ⟨w.heap.size, 0, none⟩) cs.length cs.length) (b1 : xs.length + cs.length ≤ 1099511627776)
    (hK : ∀ ao c w', Own B w' (.slice ao (xs ++ cs).length c) (xs ++ cs) → Below B w w' → wpList Try.prog ops Q rest (a.put o.dst (.slice ao (xs ++ cs).length c)) w') :
    wpList Try.prog ops Q (o :: rest) a (w.alloc (.cells (bs cs).toArray 5)) := by
  obtain ⟨i0, hi, hz0, hz1, hz2⟩ := info_parts Try.info5
  refine wpList_append_own _ hg s x 22 hop B 5 i0 (.int .u8 0) 1 1 Try.underlying22 hi hz0 hz1 hz2 rfl (by decide) v xs.length (bs xs) hs (hown.alloc _) ⟨w.heap.size, 0, none⟩ cs.length cs.length (bs cs) hx (by simp [bs]) (lit_cells w cs) (bs_one cs) (by unfold maxLen; omega) (by omega) (by simp; omega) ?_
  intro v' w' h1 h2 _
  have ho : Own B w' v' (xs ++ cs) := by unfold Own; rw [bs_append, List.length_append]; exact h1
  obtain ⟨ao, c, rfl⟩ := ho.form
  exact hK ao c w' ho (((Below.refl B w).alloc hB _).grown h2 (by simp; omega) (fun k h => (hown.lt k h).1))

end Go.Proofs.Qxb6600932a
