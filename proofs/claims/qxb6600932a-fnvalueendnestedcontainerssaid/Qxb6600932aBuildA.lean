/-
  Seat b6600932a: 'buildValueB1' (24): what it leaves; the kinds that hold no container's loop.
-/
import Derived.Test.Qxb6600932aStr
namespace Go.Proofs.Qxb6600932a
open Go.RowKit

def ValP (n pos : Nat) (ys : List Int) (pos' : Nat) : Prop := IsVal ys ∧ pos ≤ pos' ∧ pos' ≤ n ∧ ys.length ≤ 1 + 64 * (pos' - pos)

theorem Left.out {B : Nat} {w w' : World} {xs : List Int} {P : List Int → Prop} {e : Ending} (h : Left B w xs P e w') :
    ∃ ao m c ys zs, e = .returned (.slice ao m c) ∧ Own B w' (.slice ao m c) zs ∧ Hid (zs = xs ++ ys) ∧ P ys ∧ Below B w w' := by
  obtain ⟨ao, m, c, ys, h1, h2, h3, h4⟩ := h
  exact ⟨ao, m, c, ys, xs ++ ys, h1, h2, rfl, h3, h4⟩

theorem Left2.out {B : Nat} {w w' : World} {xs : List Int} {P : List Int → Nat → Prop} {e : Ending} (h : Left2 B w xs P e w') :
    ∃ ao m c ys zs q, e = .returned (.tuple #[.slice ao m c, .int .i64 ((q : Nat) : Int)]) ∧ Own B w' (.slice ao m c) zs ∧ Hid (zs = xs ++ ys) ∧ P ys q ∧ Below B w w' := by
  obtain ⟨ao, m, c, ys, q, h1, h2, h3, h4⟩ := h
  exact ⟨ao, m, c, ys, xs ++ ys, q, h1, h2, rfl, h3, h4⟩

/-- The three ways to the kind κ. -/
def Kd (κ y d : Int) : Prop := (decide (24 ≤ d) = false ∧ y % 8 = κ) ∨ (decide (24 ≤ d) = true ∧ decide (5 ≤ y % 8) = false ∧ y % 8 = κ) ∨ (decide (24 ≤ d) = true ∧ decide (5 ≤ y % 8) = true ∧ y % 8 = κ + 5)

theorem kd_some (y d : Int) : Kd 0 y d ∨ Kd 1 y d ∨ Kd 2 y d ∨ Kd 3 y d ∨ Kd 4 y d ∨ (decide (24 ≤ d) = false ∧ y % 8 = 5) ∨ (decide (24 ≤ d) = false ∧ y % 8 = 6) ∨ (decide (24 ≤ d) = false ∧ y % 8 = 7) := by
  unfold Kd
  by_cases h : 24 ≤ d
  · have h1 : decide (24 ≤ d) = true := by simpa using h
    by_cases h5 : 5 ≤ y % 8
    · have h2 : decide (5 ≤ y % 8) = true := by simpa using h5
      rw [h1, h2]; simp; omega
    · have h2 : decide (5 ≤ y % 8) = false := by simpa using h5
      rw [h1, h2]; simp; omega
  · have h1 : decide (24 ≤ d) = false := by simpa using h
    rw [h1]; simp; omega

/-- What the seed gives at a place. -/
theorem seed_at {B : Nat} {w : World} {g n sc : Nat} {S : List Int} (lie : Lies B w (.slice (some ⟨g, 0, none⟩) n sc) S) (hSl : S.length = n) (hby : Byt S) (j : Nat) (hj : j < n) :
    w.cell? ⟨g, j, none⟩ = some (.int .u8 (S.getD j 0)) ∧ 0 ≤ S.getD j 0 ∧ S.getD j 0 ≤ 255 :=
  ⟨lie.cells j (by omega), hby _ (by rw [List.getD, List.getElem?_eq_getElem (by omega)]; exact List.getElem_mem _)⟩

set_option maxRecDepth 100000 in
/-- The seed is used up. -/
theorem build_end (B : Nat) (so : Option Addr) (n sc : Nat) (d : Int) (v : Value) (xs : List Int) (w : World)
    (hB : B ≤ w.heap.size) (hown : Own B w v xs) (hl : xs.length ≤ 274877906944) :
    Calls Try.prog 24 #[.slice so n sc, .int .i64 n, .int .i64 d, v] w (Left2 B w xs (ValP n n)) := by
  go_enter Try.func24, Try.ntmps24
  go_wp2_with (at_builtin; refine app_more _ rfl (.tmp 20) (.tmp 21) rfl B hB v xs rfl hown [48] rfl (by simp; omega) ?_)
  intro ao m c zs w1 hz ho hb hB1
  go_wp2
  go_ret2
  exact Left2.mk hz ho rfl ⟨.inl (lit_of (by decide) (by decide)), Nat.le_refl _, Nat.le_refl _, by simp⟩ hb

set_option maxRecDepth 100000 in
set_option maxHeartbeats 4000000 in
theorem build_0 (B g n sc : Nat) (pos : Nat) (d y : Int) (v : Value) (xs : List Int) (w : World) (hn : n ≤ 1048576) (hp : pos < n)
    (hcx : w.cell? ⟨g, pos, none⟩ = some (.int .u8 y)) (hy0 : 0 ≤ y) (hy1 : y ≤ 255) (hB : B ≤ w.heap.size) (hown : Own B w v xs) (hl : xs.length ≤ 274877906944) (hk : Kd 0 y d) :
    Calls Try.prog 24 #[.slice (some ⟨g, 0, none⟩) n sc, .int .i64 pos, .int .i64 d, v] w (Left2 B w xs (ValP n pos)) := by
  have hlt : (pos : Int) < (n : Int) := by omega
  rcases hk with ⟨k1, k2⟩ | ⟨k1, k2, k3⟩ | ⟨k1, k2, k3⟩
  all_goals
    go_enter Try.func24, Try.ntmps24
    go_wp2_with fail
    refine (num_any B v xs _ _ hB hown (by omega) (by omega) (by omega)).mono ?_
    intro e w1 h
    obtain ⟨ao, m, c, ys, zs, rfl, ho, hz, hP, hb⟩ := h.out
    go_wp2
    go_ret2
    exact Left2.mk hz ho rfl (pos' := pos + 1) ⟨.inl hP.1, by omega, by omega, by have := hP.2; omega⟩ hb

set_option maxRecDepth 100000 in
set_option maxHeartbeats 4000000 in
theorem build_1 (B g n sc : Nat) (pos : Nat) (d y : Int) (v : Value) (xs : List Int) (w : World) (hn : n ≤ 1048576) (hp : pos < n)
    (hcx : w.cell? ⟨g, pos, none⟩ = some (.int .u8 y)) (hy0 : 0 ≤ y) (hy1 : y ≤ 255) (hB : B ≤ w.heap.size) (hown : Own B w v xs) (hl : xs.length ≤ 274877906944) (hk : Kd 1 y d) :
    Calls Try.prog 24 #[.slice (some ⟨g, 0, none⟩) n sc, .int .i64 pos, .int .i64 d, v] w (Left2 B w xs (ValP n pos)) := by
  have hlt : (pos : Int) < (n : Int) := by omega
  rcases hk with ⟨k1, k2⟩ | ⟨k1, k2, k3⟩ | ⟨k1, k2, k3⟩
  all_goals
    go_enter Try.func24, Try.ntmps24
    go_wp2_with (at_builtin; refine app_more _ rfl (.tmp 70) (.tmp 71) rfl B hB v xs rfl hown [116, 114, 117, 101] rfl (by simp; omega) ?_)
    intro ao m c zs w1 hz ho hb hB1
    go_wp2
    go_ret2
    exact Left2.mk hz ho rfl (pos' := pos + 1) ⟨.inl (lit_of (by decide) (by decide)), by omega, by omega, by simp⟩ hb

set_option maxRecDepth 100000 in
set_option maxHeartbeats 4000000 in
theorem build_2 (B g n sc : Nat) (pos : Nat) (d y : Int) (v : Value) (xs : List Int) (w : World) (hn : n ≤ 1048576) (hp : pos < n)
    (hcx : w.cell? ⟨g, pos, none⟩ = some (.int .u8 y)) (hy0 : 0 ≤ y) (hy1 : y ≤ 255) (hB : B ≤ w.heap.size) (hown : Own B w v xs) (hl : xs.length ≤ 274877906944) (hk : Kd 2 y d) :
    Calls Try.prog 24 #[.slice (some ⟨g, 0, none⟩) n sc, .int .i64 pos, .int .i64 d, v] w (Left2 B w xs (ValP n pos)) := by
  have hlt : (pos : Int) < (n : Int) := by omega
  rcases hk with ⟨k1, k2⟩ | ⟨k1, k2, k3⟩ | ⟨k1, k2, k3⟩
  all_goals
    go_enter Try.func24, Try.ntmps24
    go_wp2_with (at_builtin; refine app_more _ rfl (.tmp 75) (.tmp 76) rfl B hB v xs rfl hown [102, 97, 108, 115, 101] rfl (by simp; omega) ?_)
    intro ao m c zs w1 hz ho hb hB1
    go_wp2
    go_ret2
    exact Left2.mk hz ho rfl (pos' := pos + 1) ⟨.inl (lit_of (by decide) (by decide)), by omega, by omega, by simp⟩ hb

set_option maxRecDepth 100000 in
set_option maxHeartbeats 4000000 in
theorem build_3 (B g n sc : Nat) (pos : Nat) (d y : Int) (v : Value) (xs : List Int) (w : World) (hn : n ≤ 1048576) (hp : pos < n)
    (hcx : w.cell? ⟨g, pos, none⟩ = some (.int .u8 y)) (hy0 : 0 ≤ y) (hy1 : y ≤ 255) (hB : B ≤ w.heap.size) (hown : Own B w v xs) (hl : xs.length ≤ 274877906944) (hk : Kd 3 y d) :
    Calls Try.prog 24 #[.slice (some ⟨g, 0, none⟩) n sc, .int .i64 pos, .int .i64 d, v] w (Left2 B w xs (ValP n pos)) := by
  have hlt : (pos : Int) < (n : Int) := by omega
  rcases hk with ⟨k1, k2⟩ | ⟨k1, k2, k3⟩ | ⟨k1, k2, k3⟩
  rotate_left 2
  · omega
  all_goals
    go_enter Try.func24, Try.ntmps24
    go_wp2_with (at_builtin; refine app_more _ rfl (.tmp 80) (.tmp 81) rfl B hB v xs rfl hown [110, 117, 108, 108] rfl (by simp; omega) ?_)
    intro ao m c zs w1 hz ho hb hB1
    go_wp2
    go_ret2
    exact Left2.mk hz ho rfl (pos' := pos + 1) ⟨.inl (lit_of (by decide) (by decide)), by omega, by omega, by simp⟩ hb

set_option maxRecDepth 100000 in
set_option maxHeartbeats 4000000 in
theorem build_4 (B g n sc : Nat) (S : List Int) (pos : Nat) (d y : Int) (v : Value) (xs : List Int) (w : World) (hn : n ≤ 1048576) (hp : pos < n) (lie : Lies B w (.slice (some ⟨g, 0, none⟩) n sc) S) (hSl : S.length = n) (hby : Byt S)
    (hcx : w.cell? ⟨g, pos, none⟩ = some (.int .u8 y)) (hy0 : 0 ≤ y) (hy1 : y ≤ 255) (hB : B ≤ w.heap.size) (hown : Own B w v xs) (hl : xs.length ≤ 274877906944) (hk : Kd 4 y d) :
    Calls Try.prog 24 #[.slice (some ⟨g, 0, none⟩) n sc, .int .i64 pos, .int .i64 d, v] w (Left2 B w xs (ValP n pos)) := by
  have hlt : (pos : Int) < (n : Int) := by omega
  have HS : Hid (S.length = n) := hSl
  clear hSl
  rcases hk with ⟨k1, k2⟩ | ⟨k1, k2, k3⟩ | ⟨k1, k2, k3⟩
  · go_enter Try.func24, Try.ntmps24
    go_wp2_with fail
    refine (str_any B _ n sc S (pos + 1) v xs _ hn (by omega) lie HS.out hby hB hown (by omega)).mono ?_
    intro e w1 h
    obtain ⟨ao, m, c, ys, zs, q, rfl, ho, hz, ⟨p1, p2, p3, p4⟩, hb⟩ := h.out
    go_wp2
    go_ret2
    exact Left2.mk hz ho rfl ⟨.inr (.inl p1), by omega, by omega, by omega⟩ hb
  · go_enter Try.func24, Try.ntmps24
    go_wp2_with fail
    refine (str_any B _ n sc S (pos + 1) v xs _ hn (by omega) lie HS.out hby hB hown (by omega)).mono ?_
    intro e w1 h
    obtain ⟨ao, m, c, ys, zs, q, rfl, ho, hz, ⟨p1, p2, p3, p4⟩, hb⟩ := h.out
    go_wp2
    go_ret2
    exact Left2.mk hz ho rfl ⟨.inr (.inl p1), by omega, by omega, by omega⟩ hb
  · omega

theorem con_of (o : Int) (b : List Int) (c : Int) (ho : o = 123 ∨ o = 91) (hc : c = 125 ∨ c = 93) (hb : b.all trB = true) : IsCon (o :: (b ++ [c])) := ⟨o, b, c, rfl, ho, hc, tr_of hb⟩

set_option maxRecDepth 100000 in
set_option maxHeartbeats 4000000 in
theorem build_7 (B g n sc : Nat) (pos : Nat) (d y : Int) (v : Value) (xs : List Int) (w : World) (hn : n ≤ 1048576) (hp : pos < n)
    (hcx : w.cell? ⟨g, pos, none⟩ = some (.int .u8 y)) (hy0 : 0 ≤ y) (hy1 : y ≤ 255) (hB : B ≤ w.heap.size) (hown : Own B w v xs) (hl : xs.length ≤ 274877906944) (hk : decide (24 ≤ d) = false ∧ y % 8 = 7) :
    Calls Try.prog 24 #[.slice (some ⟨g, 0, none⟩) n sc, .int .i64 pos, .int .i64 d, v] w (Left2 B w xs (ValP n pos)) := by
  have hlt : (pos : Int) < (n : Int) := by omega
  obtain ⟨k1, k2⟩ := hk
  rcases (show y / 8 % 4 = 0 ∨ y / 8 % 4 = 1 ∨ y / 8 % 4 = 2 ∨ y / 8 % 4 = 3 from by omega) with e2 | e2 | e2 | e2
  · go_enter Try.func24, Try.ntmps24
    go_wp2_with (at_builtin; refine app_more _ rfl (.tmp 49) (.tmp 50) rfl B hB v xs rfl hown [91, 93] rfl (by simp; omega) ?_)
    intro ao m c zs w1 hz ho hb hB1
    go_wp2
    go_ret2
    exact Left2.mk hz ho rfl (pos' := pos + 1) ⟨.inr (.inr (con_of 91 [] 93 (.inr rfl) (.inr rfl) (by decide))), by omega, by omega, by simp⟩ hb
  · go_enter Try.func24, Try.ntmps24
    go_wp2_with (at_builtin; refine app_more _ rfl (.tmp 54) (.tmp 55) rfl B hB v xs rfl hown [123, 125] rfl (by simp; omega) ?_)
    intro ao m c zs w1 hz ho hb hB1
    go_wp2
    go_ret2
    exact Left2.mk hz ho rfl (pos' := pos + 1) ⟨.inr (.inr (con_of 123 [] 125 (.inl rfl) (.inl rfl) (by decide))), by omega, by omega, by simp⟩ hb
  · go_enter Try.func24, Try.ntmps24
    go_wp2_with (at_builtin; refine app_more _ rfl (.tmp 59) (.tmp 60) rfl B hB v xs rfl hown [91, 32, 93] rfl (by simp; omega) ?_)
    intro ao m c zs w1 hz ho hb hB1
    go_wp2
    go_ret2
    exact Left2.mk hz ho rfl (pos' := pos + 1) ⟨.inr (.inr (con_of 91 [32] 93 (.inr rfl) (.inr rfl) (by decide))), by omega, by omega, by simp⟩ hb
  · go_enter Try.func24, Try.ntmps24
    go_wp2_with (at_builtin; refine app_more _ rfl (.tmp 44) (.tmp 45) rfl B hB v xs rfl hown [123, 10, 125] rfl (by simp; omega) ?_)
    intro ao m c zs w1 hz ho hb hB1
    go_wp2
    go_ret2
    exact Left2.mk hz ho rfl (pos' := pos + 1) ⟨.inr (.inr (con_of 123 [10] 125 (.inl rfl) (.inl rfl) (by decide))), by omega, by omega, by simp⟩ hb

end Go.Proofs.Qxb6600932a
