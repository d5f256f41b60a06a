/-
  Seat b6600932a: 'FnValueEndFindsEndOfBuiltValues' (function 9), walked.
-/
import Derived.Test.Qxb6600932aBuildC
import Derived.Test.Qxb6600932aValEnd
namespace Go.Proofs.Qxb6600932a
open Go.RowKit
set_option linter.unusedVariables false

/-- 24 at the top: from nothing. -/
theorem build_top (so : Option Addr) (n sc : Nat) (S : List Int) (w : World) (hn : n ≤ 8192) (hSl : S.length = n) (hby : Byt S) (lie : Lies w.heap.size w (.slice so n sc) S) :
    Calls Try.prog 24 #[.slice so n sc, .int .i64 0, .int .i64 0, .slice none 0 0] w fun e w' => ∃ ao m c q ys, e = .returned (.tuple #[.slice ao m c, .int .i64 q]) ∧
      Own w.heap.size w' (.slice ao m c) ys ∧ IsVal ys ∧ Hid (m = ys.length) ∧ m ≤ 524289 ∧ Below w.heap.size w w' := by
  have h := builds w.heap.size so n sc S (by omega) hSl hby n 0 0 (.slice none 0 0) [] w (by omega) (by omega) (by omega) (by omega) lie (Nat.le_refl _) (World.ownsRow_nil _ _ _ _) (by simp; omega)
  refine h.mono ?_
  intro e w' h
  obtain ⟨ao, m, c, ys, zs, q, rfl, ho, hz, ⟨p1, p2, p3, p4⟩, hb⟩ := h.out
  have e1 : zs = ys := by have := hz.out; simpa using this
  subst e1
  have hm : m = zs.length := ho.sh.1
  exact ⟨ao, m, c, q, zs, rfl, ho, p1, hm, by omega, hb⟩

theorem app_fits_z {ops : Array Oper} {rest : List Oper} {o : Oper} {a : Act} {Q : Exit → Act → World → Prop} (w : World)
    (hg : o.guard = none) (s x : Operand) (hop : o.op = Op.call { callee := Callee.builtin Builtin.append, args := #[s, x], argTypes := #[22, 22] })
    (B g k cap : Nat) (xs : List Int) (hs : a.eval s = .slice (some ⟨g, 0, none⟩) k cap) (hown : Own B w (.slice (some ⟨g, 0, none⟩) k cap) xs)
    (cs : List Int) (hx : a.eval x = .slice (some ⟨w.heap.size, 0, none⟩) cs.length cs.length) (b1 : k + cs.length ≤ cap)
    (hK : ∀ zs w', Hid (zs = xs ++ cs) → Own B w' (.slice (some ⟨g, 0, none⟩) (k + cs.length) cap) zs → Below B w w' → wpList Try.prog ops Q rest (a.put o.dst (.slice (some ⟨g, 0, none⟩) (k + cs.length) cap)) w') :
    wpList Try.prog ops Q (o :: rest) a (w.alloc (.cells (bs cs).toArray 5)) :=
  app_fits w hg s x hop B g k cap xs hs hown cs hx b1 fun w' h1 h2 => hK _ w' rfl h1 h2

theorem app_fits_own_z {ops : Array Oper} {rest : List Oper} {o : Oper} {a : Act} {Q : Exit → Act → World → Prop} (w : World)
    (hg : o.guard = none) (s x : Operand) (hop : o.op = Op.call { callee := Callee.builtin Builtin.append, args := #[s, x], argTypes := #[22, 22] })
    (B g k cap : Nat) (xs : List Int) (hs : a.eval s = .slice (some ⟨g, 0, none⟩) k cap) (hown : Own B w (.slice (some ⟨g, 0, none⟩) k cap) xs)
    (B' : Nat) (ao : Option Addr) (m c : Nat) (ys : List Int) (hy : Own B' w (.slice ao m c) ys) (hx : a.eval x = .slice ao m c) (b1 : k + m ≤ cap)
    (hK : ∀ zs w', Hid (zs = xs ++ ys) → Own B w' (.slice (some ⟨g, 0, none⟩) (k + m) cap) zs → Below B w w' → wpList Try.prog ops Q rest (a.put o.dst (.slice (some ⟨g, 0, none⟩) (k + m) cap)) w') :
    wpList Try.prog ops Q (o :: rest) a w :=
  app_fits_own w hg s x hop B g k cap xs hs hown B' ao m c ys hy hx b1 fun w' h1 h2 => hK _ w' rfl h1 h2

/-- 25, its text told by an equation. -/
theorem zzval_eq {B n cap : Nat} {ao : Option Addr} {w : World} {X : List Int} (h : Own B w (.slice ao n cap) X) (pre v post : List Int) (hX : X = pre ++ (v ++ post)) (hn : n ≤ 1099511627776)
    (hv : IsVal v) (hp : post = [] ∨ ∃ c t, post = c :: t ∧ Stp c) (i : Int) (hi : i = (pre.length : Int)) (r : Int) (hr : r = (pre.length : Int) + v.length) :
    Calls Try.prog 25 #[.slice ao n cap, .int .i64 i] w fun e w' => e = .returned (.int .i64 r) ∧ w' = w :=
  zzval_at pre v post (hX ▸ h) hn hv (fun _ => hp) i hi r hr

theorem zz23_any (a0 a1 : Option Addr) (l0 l1 c0 c1 : Nat) (w : World) :
    Calls Try.prog 23 #[.slice a0 l0 c0, .slice a1 l1 c1] w fun e w' => ∃ b, e = .returned (.bool b) ∧ w' = w := by
  go_enter Try.func23, Try.ntmps23
  go_wp2
  all_goals
    go_ret
    exact ⟨_, rfl, rfl⟩

theorem zz23_true (a0 a1 : Option Addr) (l0 l1 c0 c1 : Nat) (w : World) (h0 : l0 ≤ 8192) (h1 : l1 ≤ 8192) :
    Calls Try.prog 23 #[.slice a0 l0 c0, .slice a1 l1 c1] w fun e w' => e = .returned (.bool true) ∧ w' = w := by
  go_enter Try.func23, Try.ntmps23
  go_wp2
  go_ret
  exact ⟨rfl, rfl⟩

theorem walk9_long (a0 a1 : Option Addr) (l0 l1 c0 c1 : Nat) (w : World) (h : 8192 < l0 ∨ 8192 < l1) :
    Calls Try.prog 9 #[.slice a0 l0 c0, .slice a1 l1 c1] w fun e w' => e = .returned (.bool true) ∧ Below w.heap.size w w' := by
  have H : (8192 < (l0 : Int)) ∨ ((l0 : Int) ≤ 8192 ∧ 8192 < (l1 : Int)) := by omega
  clear h
  rcases H with h | ⟨h, h'⟩
  all_goals
    go_enter Try.func9, Try.ntmps9
    go_wp2_with fail
    refine (zz23_any _ _ _ _ _ _ _).mono ?_
    rintro e w' ⟨b, rfl, rfl⟩
    cases b
    all_goals
      go_wp2
      go_ret
      exact ⟨rfl, Below.refl _ _⟩

set_option maxRecDepth 100000 in
set_option maxHeartbeats 4000000 in
theorem walk9_short (a0 a1 : Option Addr) (l0 l1 c0 c1 : Nat) (z0 z1 : List Int) (w : World) (w0 : Row w a0 l0 c0 z0) (w1 : Row w a1 l1 c1 z1) (h0 : l0 ≤ 8192) (h1 : l1 ≤ 8192) :
    Calls Try.prog 9 #[.slice a0 l0 c0, .slice a1 l1 c1] w fun e w' => e = .returned (.bool true) ∧ Below w.heap.size w w' := by
  have H0 : Hid (Row w a0 l0 c0 z0) := w0
  have H1 : Hid (Row w a1 l1 c1 z1) := w1
  clear w0 w1
  go_enter Try.func9, Try.ntmps9
  go_wp2_with fail
  refine (zz23_true _ _ _ _ _ _ _ h0 h1).mono ?_
  rintro e w' ⟨rfl, rfl⟩
  go_wp2_with fail
  refine (clone_any a0 l0 c0 z0 _ (by omega) H0.out).mono ?_
  rintro e wa ⟨ao0, d0, rfl, own0, len0, byt0, bel0⟩
  generalize z0.take l0 = P at own0 len0 byt0
  have L0 : Hid (P.length = l0) := len0
  clear len0
  go_wp2_with fail
  refine (clone_any a1 l1 c1 z1 _ (by omega) (H1.out.keep bel0)).mono ?_
  rintro e wb ⟨ao1, d1, rfl, own1, len1, byt1, bel1⟩
  generalize z1.take l1 = S at own1 len1 byt1
  have L1 : Hid (S.length = l1) := len1
  clear len1
  have sz1 := bel0.size
  have sz2 := bel1.size
  have lie0 := (own0.lies.keep bel1).mono sz2
  have lie1 := own1.lies
  have bel : Below w'.heap.size w' wb := bel0.trans (bel1.mono sz1)
  clear own0 own1 H0 H1 bel0 bel1
  go_wp2_with fail
  refine (build_top ao0 l0 d0 P _ h0 L0.out byt0 lie0).mono ?_
  rintro e wc ⟨bo1, m1, e1, q1, Y1, rfl, oy1, v1, M1, b1, bel1⟩
  replace lie1 := (lie1.keep bel1).mono bel1.size
  replace bel := bel.trans (bel1.mono (by omega))
  have sz3 := bel1.size
  have ly1 := oy1.lies
  clear lie0 bel1 oy1 byt0 L0
  go_wp2_with fail
  refine (build_top ao1 l1 d1 S _ h1 L1.out byt1 lie1).mono ?_
  rintro e wd ⟨bo2, m2, e2, q2, Y2, rfl, oy2, v2, M2, b2, bel2⟩
  replace ly1 := (ly1.keep bel2).mono bel2.size
  replace bel := bel.trans (bel2.mono (by omega))
  have sz4 := bel2.size
  have ly2 := oy2.lies
  clear lie1 bel2 oy2 byt1 L1
  go_wp2_with fail
  refine (zzval_eq ly1.1 [] Y1 [] (by simp) (by omega) v1 (.inl rfl) _ (by simp) (m1 : Int) (by have := M1.out; simp; omega)).mono ?_
  rintro e w2 ⟨rfl, rfl⟩
  go_wp2_with (at_make; refine make_own _ rfl _ _ rfl _ (m1 + m2 + 5) rfl rfl (by omega) (by omega) ?_)
  intro x0 t0 hb0 hs0
  replace ly1 := ly1.keep hb0
  replace ly2 := ly2.keep hb0
  replace bel := bel.trans (hb0.mono (by omega))
  clear hb0
  go_wp2_with (at_builtin; refine app_fits_z _ rfl (.tmp 48) (.tmp 49) rfl w2.heap.size w2.heap.size _ _ _ rfl t0 [91] rfl (by simp <;> omega) ?_)
  intro X1 x1 hX1 t1 hb1
  replace ly1 := ly1.keep hb1
  replace ly2 := ly2.keep hb1
  replace bel := bel.trans (hb1.mono (by omega))
  have hs1 := hb1.size
  clear hb1 t0
  go_wp2_with (at_builtin; refine app_fits_own_z _ rfl (.tmp 51) (.tmp 52) rfl w2.heap.size w2.heap.size _ _ _ rfl t1 0 bo1 m1 e1 Y1 ly1.1 rfl (by omega) ?_)
  intro X2 x2 hX2 t2 hb2
  replace ly1 := ly1.keep hb2
  replace ly2 := ly2.keep hb2
  replace bel := bel.trans (hb2.mono (by omega))
  have hs2 := hb2.size
  clear hb2 t1
  go_wp2_with (at_builtin; refine app_fits_z _ rfl (.tmp 54) (.tmp 55) rfl w2.heap.size w2.heap.size _ _ _ rfl t2 [32, 44, 10] rfl (by simp <;> omega) ?_)
  intro X3 x3 hX3 t3 hb3
  replace ly1 := ly1.keep hb3
  replace ly2 := ly2.keep hb3
  replace bel := bel.trans (hb3.mono (by omega))
  have hs3 := hb3.size
  clear hb3 t2
  go_wp2_with (at_builtin; refine app_fits_own_z _ rfl (.tmp 57) (.tmp 58) rfl w2.heap.size w2.heap.size _ _ _ rfl t3 0 bo2 m2 e2 Y2 ly2.1 rfl (by omega) ?_)
  intro X4 x4 hX4 t4 hb4
  replace ly1 := ly1.keep hb4
  replace bel := bel.trans (hb4.mono (by omega))
  have hs4 := hb4.size
  clear hb4 t3 ly2
  go_wp2_with (at_builtin; refine app_fits_z _ rfl (.tmp 60) (.tmp 61) rfl w2.heap.size w2.heap.size _ _ _ rfl t4 [93] rfl (by simp <;> omega) ?_)
  intro X5 x5 hX5 t5 hb5
  replace ly1 := ly1.keep hb5
  replace bel := bel.trans (hb5.mono (by omega))
  have hs5 := hb5.size
  clear hb5 t4
  have HX : Hid (X5 = [91] ++ (Y1 ++ ([32, 44, 10] ++ (Y2 ++ [93])))) := by
    unfold Hid; rw [hX5.out, hX4.out, hX3.out, hX2.out, hX1.out]; simp
  clear hX1 hX2 hX3 hX4 hX5
  go_wp2_with fail
  refine (zzval_eq t5 [91] Y1 ([32, 44, 10] ++ (Y2 ++ [93])) HX.out (by omega) v1 (.inr ⟨32, _, rfl, .inl rfl⟩) _ (by simp) (1 + (m1 : Int)) (by have := M1.out; simp; omega)).mono ?_
  rintro e x6 ⟨rfl, rfl⟩
  go_wp2_with fail
  refine (zzval_eq t5 ([91] ++ (Y1 ++ [32, 44, 10])) Y2 [93] (by rw [HX.out]; simp) (by omega) v2 (.inr ⟨93, _, rfl, .inr (.inr (.inr (.inr (.inr (.inl rfl)))))⟩) _ (by have := M1.out; simp; omega) (1 + (m1 : Int) + 3 + m2) (by have := M1.out; have := M2.out; simp; omega)).mono ?_
  rintro e x7 ⟨rfl, rfl⟩
  go_wp2_with fail
  refine (zzval_eq t5 [] X5 [] (by simp) (by omega) (by rw [HX.out]; exact .inr (.inr ⟨91, Y1 ++ ([32, 44, 10] ++ Y2), 93, by simp, .inr rfl, .inr rfl, v1.tr.append ((tr_of (by decide)).append v2.tr)⟩)) (.inl rfl) _ (by simp) (1 + (m1 : Int) + 3 + m2 + 1) (by rw [HX.out]; have := M1.out; have := M2.out; simp; omega)).mono ?_
  rintro e x8 ⟨rfl, rfl⟩
  clear t5 HX
  go_wp2_with (at_make; refine make_own _ rfl _ _ rfl _ (m1 + 6) rfl rfl (by omega) (by omega) ?_)
  have gap : w2.heap.size ≤ x8.heap.size := by omega
  replace ly1 := ly1.mono gap
  have gap' : w'.heap.size ≤ x8.heap.size := by omega
  clear hs0 hs1 hs2 hs3 hs4 hs5 sz1 sz2 sz3 sz4 gap
  intro y0 u0 hb0 hs0
  replace ly1 := ly1.keep hb0
  replace bel := bel.trans (hb0.mono (by omega))
  clear hb0 hs0
  go_wp2_with (at_builtin; refine app_fits_z _ rfl (.tmp 90) (.tmp 91) rfl x8.heap.size x8.heap.size _ _ _ rfl u0 [123, 34, 107, 34, 58] rfl (by simp <;> omega) ?_)
  intro Z1 y1 hZ1 u1 hb1
  replace ly1 := ly1.keep hb1
  replace bel := bel.trans (hb1.mono (by omega))
  clear hb1 u0
  go_wp2_with (at_builtin; refine app_fits_own_z _ rfl (.tmp 93) (.tmp 94) rfl x8.heap.size x8.heap.size _ _ _ rfl u1 0 bo1 m1 e1 Y1 ly1.1 rfl (by omega) ?_)
  intro Z2 y2 hZ2 u2 hb2
  replace bel := bel.trans (hb2.mono (by omega))
  clear hb2 u1 ly1
  go_wp2_with (at_builtin; refine app_fits_z _ rfl (.tmp 96) (.tmp 97) rfl x8.heap.size x8.heap.size _ _ _ rfl u2 [125] rfl (by simp <;> omega) ?_)
  intro Z3 y3 hZ3 u3 hb3
  replace bel := bel.trans (hb3.mono (by omega))
  clear hb3 u2
  have HZ : Hid (Z3 = [123, 34, 107, 34, 58] ++ (Y1 ++ [125])) := by
    unfold Hid; rw [hZ3.out, hZ2.out, hZ1.out]; simp
  clear hZ1 hZ2 hZ3
  go_wp2_with fail
  refine (zzval_eq u3 [123, 34, 107, 34, 58] Y1 [125] HZ.out (by omega) v1 (.inr ⟨125, _, rfl, .inr (.inr (.inr (.inr (.inr (.inr rfl)))))⟩) _ (by simp) (5 + (m1 : Int)) (by have := M1.out; simp; omega)).mono ?_
  rintro e y4 ⟨rfl, rfl⟩
  go_wp2_with fail
  refine (zzval_eq u3 [] Z3 [] (by simp) (by omega) (by rw [HZ.out]; exact .inr (.inr ⟨123, [34, 107, 34] ++ ([58] ++ Y1), 125, by simp, .inl rfl, .inl rfl, (IsStr.tr ⟨[107], rfl, StrB.char (by decide) (by decide)⟩).append ((tr_of (by decide)).append v1.tr)⟩)) (.inl rfl) _ (by simp) (5 + (m1 : Int) + 1) (by rw [HZ.out]; have := M1.out; simp; omega)).mono ?_
  rintro e y5 ⟨rfl, rfl⟩
  go_wp2_with fail
  go_ret
  exact ⟨by simp, bel⟩

/-- Function 9: for every input. -/
theorem walk9 (a0 a1 : Option Addr) (l0 l1 c0 c1 : Nat) (z0 z1 : List Int) (w : World) (w0 : Row w a0 l0 c0 z0) (w1 : Row w a1 l1 c1 z1) :
    Calls Try.prog 9 #[.slice a0 l0 c0, .slice a1 l1 c1] w fun e w' => e = .returned (.bool true) ∧ Below w.heap.size w w' := by
  by_cases h : l0 ≤ 8192 ∧ l1 ≤ 8192
  · exact walk9_short a0 a1 l0 l1 c0 c1 z0 z1 w w0 w1 h.1 h.2
  · exact walk9_long a0 a1 l0 l1 c0 c1 w (by omega)

end Go.Proofs.Qxb6600932a
