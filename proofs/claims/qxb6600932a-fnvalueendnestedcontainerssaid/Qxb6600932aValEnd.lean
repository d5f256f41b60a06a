/-
  Seat b6600932a: 'stringEnd' (35), 'literalEnd' (36), 'valueEnd' (33; 25 hands on to it), walked over a text that is read as a function T of the place; D j: what is left of it from j on.
-/
import Derived.Test.Qxb6600932aApp
import Derived.Test.Qxb6600932aJson
namespace Go.Proofs.Qxb6600932a
open Go.RowKit

theorem ret_int {k : IntKind} {a b : Int} (h : a = b) : Ending.returned (.int k a) = .returned (.int k b) := by rw [h]

/-- T reads the text's bytes, D its tails. -/
structure Txt (n : Nat) (T : Nat → Int) (D : Nat → List Int) : Prop where
  step : ∀ j, j < n → D j = T j :: D (j + 1)
  done : ∀ j, n ≤ j → D j = []

theorem Txt.of (xs : List Int) : Txt xs.length (fun j => xs.getD j 0) (fun j => xs.drop j) :=
  ⟨fun j hj => by rw [List.drop_eq_getElem_cons hj]; simp [List.getD, hj], fun j hj => by simp [hj]⟩

theorem Txt.lt {n : Nat} {T : Nat → Int} {D : Nat → List Int} (h : Txt n T D) {j : Nat} (hne : D j ≠ []) : j < n := by
  rcases Nat.lt_or_ge j n with hj | hj
  · exact hj
  · exact absurd (h.done j hj) hne

/-- What the reader of a string meets at place j. -/
theorem Txt.str {n : Nat} {T : Nat → Int} {D : Nat → List Int} (h : Txt n T D) {j s : Nat} (hs : sL false (D j) = some s) :
    j < n ∧ ((T j = 34 ∧ s = 1) ∨ (T j ≠ 34 ∧ T j = 92 ∧ j + 1 < n ∧ ∃ s', sL false (D (j + 2)) = some s' ∧ s = s' + 2) ∨ (T j ≠ 34 ∧ T j ≠ 92 ∧ ∃ s', sL false (D (j + 1)) = some s' ∧ s = s' + 1)) := by
  have hj : j < n := h.lt (by intro e; rw [e] at hs; simp [sL] at hs)
  refine ⟨hj, ?_⟩
  rw [h.step j hj] at hs
  simp only [sL] at hs
  by_cases h34 : T j = 34
  · rw [if_pos h34] at hs
    exact .inl ⟨h34, by simpa using hs.symm⟩
  · rw [if_neg h34] at hs
    by_cases h92 : T j = 92
    · rw [if_pos h92] at hs
      obtain ⟨k, hk, rfl⟩ := map_some hs
      have hj1 : j + 1 < n := h.lt (by intro e; rw [e] at hk; simp [sL] at hk)
      rw [h.step (j + 1) hj1] at hk
      simp only [sL] at hk
      obtain ⟨s', hs', rfl⟩ := map_some hk
      exact .inr (.inl ⟨h34, h92, hj1, s', hs', by omega⟩)
    · rw [if_neg h92] at hs
      obtain ⟨k, hk, rfl⟩ := map_some hs
      exact .inr (.inr ⟨h34, h92, k, hk, rfl⟩)

set_option maxHeartbeats 400000 in
/-- Function 35: behind the opening quote at i. -/
theorem strEnd_any (g n cap : Nat) (T : Nat → Int) (D : Nat → List Int) (i s : Nat) (w : World) (hn : n ≤ 1099511627776) (hD : Txt n T D)
    (hc : ∀ j, j < n → w.cell? ⟨g, j, none⟩ = some (.int .u8 (T j))) (hi : i < n) (hs : sL false (D (i + 1)) = some s) :
    Calls Try.prog 35 #[.slice (some ⟨g, 0, none⟩) n cap, .int .i64 i] w fun e w' => e = .returned (.int .i64 ((i + 1 + s : Nat) : Int)) ∧ w' = w := by
  have HS : Hid (sL false (D (i + 1)) = some s) := hs
  have HD : Hid (Txt n T D) := hD
  have HC : Hid (∀ j, j < n → w.cell? ⟨g, j, none⟩ = some (.int .u8 (T j))) := hc
  clear hs hD hc
  go_enter Try.func35, Try.ntmps35
  go_wp2
  go_loop [1] (fun t => ∃ j s' : Nat, Hid (sL false (D j) = some s') ∧ j + s' = i + 1 + s ∧ j ≤ n ∧ t = .int .i64 j) (fun t => n - (intOf t).toNat)
  case atStart => exact ⟨i + 1, s, HS, rfl, by omega, by go_num⟩
  case round =>
    obtain ⟨j, s', hj, he, hjn, rfl⟩ := hrel
    obtain ⟨hlt, ⟨h1, h2⟩ | ⟨h1, h2, h3, s2, h4, h5⟩ | ⟨h1, h2, s2, h4, h5⟩⟩ := HD.out.str hj.out
    · have hcj := HC.out j hlt
      rw [h1] at hcj
      have hlt' : (j : Int) < (n : Int) := by omega
      have HE : Hid (i + 1 + s = j + 1) := by unfold Hid; omega
      clear he h1 h2
      go_wp2
      go_ret
      exact ⟨ret_int (by have := HE.out; omega), rfl⟩
    · have hcj := HC.out j hlt
      have b1 : (T j != 34) = true := by simpa using h1
      have b2 : (T j == 92) = true := by simpa using h2
      have hlt' : (j : Int) < (n : Int) := by omega
      have H4 : Hid (sL false (D (j + 2)) = some s2) := h4
      have HE : Hid (j + 2 + s2 = i + 1 + s) := by unfold Hid; omega
      clear he h1 h2 h4 h5
      go_wp2
      go_round
      case rel => exact ⟨j + 2, s2, H4, HE.out, by omega, by go_num⟩
      case measure => simp [intOf]; omega
    · have hcj := HC.out j hlt
      have b1 : (T j != 34) = true := by simpa using h1
      have b2 : (T j == 92) = false := by simpa using h2
      have hlt' : (j : Int) < (n : Int) := by omega
      have H4 : Hid (sL false (D (j + 1)) = some s2) := h4
      have HE : Hid (j + 1 + s2 = i + 1 + s) := by unfold Hid; omega
      clear he h1 h2 h4 h5
      go_wp2
      go_round
      case rel => exact ⟨j + 1, s2, H4, HE.out, by omega, by go_num⟩
      case measure => simp [intOf]; omega

set_option maxHeartbeats 400000 in
/-- Function 36: no stop from i to q; a stop at q, or the end. -/
theorem litEnd_any (g n cap : Nat) (T : Nat → Int) (i q : Nat) (w : World) (hn : n ≤ 1099511627776)
    (hc : ∀ j, j < n → w.cell? ⟨g, j, none⟩ = some (.int .u8 (T j))) (hi : i ≤ q) (hq : q ≤ n) (hl : ∀ j, i ≤ j → j < q → Lt (T j)) (hs : q < n → Stp (T q)) :
    Calls Try.prog 36 #[.slice (some ⟨g, 0, none⟩) n cap, .int .i64 i] w fun e w' => e = .returned (.int .i64 (q : Int)) ∧ w' = w := by
  have HC : Hid (∀ j, j < n → w.cell? ⟨g, j, none⟩ = some (.int .u8 (T j))) := hc
  have HL : Hid (∀ j, i ≤ j → j < q → Lt (T j)) := hl
  have HS : Hid (q < n → Stp (T q)) := hs
  clear hc hl hs
  go_enter Try.func36, Try.ntmps36
  go_wp2
  go_loop [1] (fun t => ∃ j : Nat, i ≤ j ∧ j ≤ q ∧ t = .int .i64 j) (fun t => q - (intOf t).toNat)
  case atStart => exact ⟨i, Nat.le_refl _, hi, rfl⟩
  case round =>
    obtain ⟨j, hj1, hj2, rfl⟩ := hrel
    by_cases hlt : j < q
    · have hcj := HC.out j (by omega)
      obtain ⟨p1, p2, p3, p4, p5, p6, p7, _⟩ := HL.out j hj1 hlt
      have b1 : (T j == 32) = false := by simpa using p1
      have b2 : (T j == 9) = false := by simpa using p2
      have b3 : (T j == 10) = false := by simpa using p3
      have b4 : (T j == 13) = false := by simpa using p4
      have b5 : (T j == 44) = false := by simpa using p5
      have b6 : (T j == 93) = false := by simpa using p6
      have b7 : (T j == 125) = false := by simpa using p7
      have hlt' : (j : Int) < (n : Int) := by omega
      clear p1 p2 p3 p4 p5 p6 p7
      go_wp2
      go_round
      case rel => exact ⟨j + 1, by omega, by omega, by go_num⟩
      case measure => simp [intOf]; omega
    · obtain rfl : j = q := by omega
      by_cases hjn : j < n
      · have hcj := HC.out j hjn
        have hst := HS.out hjn
        generalize T j = c at hcj hst
        have hlt' : (j : Int) < (n : Int) := by omega
        rcases hst with rfl | rfl | rfl | rfl | rfl | rfl | rfl
        all_goals
          go_wp2
          go_ret
          exact ⟨rfl, rfl⟩
      · obtain rfl : j = n := by omega
        go_wp2
        go_ret
        exact ⟨rfl, rfl⟩

/-! ### containers -/

theorem Txt.drop {n : Nat} {T : Nat → Int} {D : Nat → List Int} (h : Txt n T D) (s : Nat) : ∀ j, D (j + s) = (D j).drop s := by
  induction s with
  | zero => intro j; simp
  | succ s ih =>
    intro j
    rcases Nat.lt_or_ge j n with hj | hj
    · rw [h.step j hj, List.drop_succ_cons, ← ih (j + 1)]
      congr 1
      omega
    · rw [h.done j hj, h.done _ (by omega)]; simp

/-- What the container's reader meets at place j. -/
theorem Txt.con {n : Nat} {T : Nat → Int} {D : Nat → List Int} (h : Txt n T D) {j d m : Nat} (hs : aut 0 d (D j) = some m) :
    j < n ∧ ((T j = 34 ∧ ∃ s m', sL false (D (j + 1)) = some s ∧ aut 0 d (D (j + 1 + s)) = some m' ∧ m = 1 + s + m' ∧ j + 1 + s < n) ∨
      (T j ≠ 34 ∧ (T j = 123 ∨ T j = 91) ∧ ∃ m', aut 0 (d + 1) (D (j + 1)) = some m' ∧ m = m' + 1) ∨
      (T j ≠ 34 ∧ T j ≠ 123 ∧ T j ≠ 91 ∧ (T j = 125 ∨ T j = 93) ∧ d = 1 ∧ m = 1) ∨
      (T j ≠ 34 ∧ T j ≠ 123 ∧ T j ≠ 91 ∧ (T j = 125 ∨ T j = 93) ∧ 2 ≤ d ∧ ∃ m', aut 0 (d - 1) (D (j + 1)) = some m' ∧ m = m' + 1) ∨
      (T j ≠ 34 ∧ T j ≠ 123 ∧ T j ≠ 91 ∧ T j ≠ 125 ∧ T j ≠ 93 ∧ ∃ m', aut 0 d (D (j + 1)) = some m' ∧ m = m' + 1)) := by
  have hj : j < n := h.lt (by intro e; rw [e] at hs; simp [aut] at hs)
  refine ⟨hj, ?_⟩
  rw [h.step j hj] at hs
  simp only [aut] at hs
  by_cases h34 : T j = 34
  · rw [if_pos h34] at hs
    obtain ⟨k, hk, rfl⟩ := map_some hs
    obtain ⟨s, m', h1, h2, h3⟩ := aut_str (D (j + 1)) false d k (by simpa using hk)
    rw [← h.drop s (j + 1)] at h2
    have hl : j + 1 + s < n := h.lt (by intro e; rw [e] at h2; simp [aut] at h2)
    exact .inl ⟨h34, s, m', h1, h2, by omega, hl⟩
  · rw [if_neg h34] at hs
    by_cases ho : T j = 123 ∨ T j = 91
    · rw [if_pos ho] at hs
      obtain ⟨k, hk, rfl⟩ := map_some hs
      exact .inr (.inl ⟨h34, ho, k, hk, rfl⟩)
    · rw [if_neg ho] at hs
      by_cases hc : T j = 125 ∨ T j = 93
      · rw [if_pos hc] at hs
        by_cases h0 : d = 0
        · rw [if_pos h0] at hs; cases hs
        · rw [if_neg h0] at hs
          by_cases h1 : d = 1
          · rw [if_pos h1] at hs
            exact .inr (.inr (.inl ⟨h34, by omega, by omega, hc, h1, by simpa using hs.symm⟩))
          · rw [if_neg h1] at hs
            obtain ⟨k, hk, rfl⟩ := map_some hs
            exact .inr (.inr (.inr (.inl ⟨h34, by omega, by omega, hc, by omega, k, hk, rfl⟩)))
      · rw [if_neg hc] at hs
        obtain ⟨k, hk, rfl⟩ := map_some hs
        exact .inr (.inr (.inr (.inr ⟨h34, by omega, by omega, by omega, by omega, k, hk, rfl⟩)))

set_option maxHeartbeats 1000000 in
/-- Function 33 at a container. -/
theorem valEnd_con (g n cap : Nat) (T : Nat → Int) (D : Nat → List Int) (i m : Nat) (w : World) (hn : n ≤ 1099511627776) (hD : Txt n T D)
    (hc : ∀ j, j < n → w.cell? ⟨g, j, none⟩ = some (.int .u8 (T j))) (hi : i < n) (ho : T i = 123 ∨ T i = 91) (hs : aut 0 0 (D i) = some m) :
    Calls Try.prog 33 #[.slice (some ⟨g, 0, none⟩) n cap, .int .i64 i] w fun e w' => e = .returned (.int .i64 ((i + m : Nat) : Int)) ∧ w' = w := by
  have HS : Hid (aut 0 0 (D i) = some m) := hs
  have HD : Hid (Txt n T D) := hD
  have HC : Hid (∀ j, j < n → w.cell? ⟨g, j, none⟩ = some (.int .u8 (T j))) := hc
  have hci := hc i hi
  have hlt : (i : Int) < (n : Int) := by omega
  have O : (T i == 34) = false ∧ ((T i == 123) = true ∨ ((T i == 123) = false ∧ (T i == 91) = true)) := by
    rcases ho with h | h <;> rw [h] <;> decide
  clear hs hD hc ho
  obtain ⟨o1, o2⟩ := O
  rcases o2 with o2 | ⟨o2, o3⟩
  all_goals
    go_enter Try.func33, Try.ntmps33
    go_wp2_with fail
    clear hci hlt
    go_loop [1, 5] (fun t u => ∃ j d k : Nat, Hid (aut 0 d (D j) = some k) ∧ j + k = i + m ∧ d ≤ j ∧ j ≤ n ∧ t = .int .i64 j ∧ u = .int .i64 d) (fun t _ => n - (intOf t).toNat)
    case atStart => exact ⟨i, 0, m, HS, rfl, by omega, by omega, rfl, rfl⟩
    case round =>
      obtain ⟨j, d, k, hj, he, hdj, hjn, rfl, rfl⟩ := hrel
      obtain ⟨hlt, h⟩ := HD.out.con hj.out
      have hcj := HC.out j hlt
      have hlt' : (j : Int) < (n : Int) := by omega
      rcases h with ⟨h1, s, m', h2, h3, h4, h5⟩ | ⟨h1, h2, m', h3, h4⟩ | ⟨h1, h2, h3, h4, rfl, rfl⟩ | ⟨h1, h2, h3, h4, h5, m', h6, h7⟩ | ⟨h1, h2, h3, h4, h5, m', h6, h7⟩
      · have b1 : (T j == 34) = true := by simpa using h1
        have H2 : Hid (sL false (D (j + 1)) = some s) := h2
        have H3 : Hid (aut 0 d (D (j + 1 + s)) = some m') := h3
        have HE : Hid (j + 1 + s + m' = i + m) := by unfold Hid; omega
        clear h1 h2 h3 h4 he hj
        go_wp2_with (go_at_call 35; refine (strEnd_any g n cap T D j s _ hn HD.out HC.out hlt H2.out).mono ?_; rintro e w' ⟨rfl, rfl⟩)
        go_round
        case rel => exact ⟨j + 1 + s, d, m', H3, HE.out, by omega, by omega, by go_num, rfl⟩
        case measure => simp [intOf]; omega
      · have b1 : (T j == 34) = false := by simpa using h1
        have H3 : Hid (aut 0 (d + 1) (D (j + 1)) = some m') := h3
        have HE : Hid (j + 1 + m' = i + m) := by unfold Hid; omega
        have O : (T j == 123) = true ∨ ((T j == 123) = false ∧ (T j == 91) = true) := by
          rcases h2 with h | h <;> rw [h] <;> decide
        clear h1 h2 h3 h4 he hj
        rcases O with b2 | ⟨b2, b3⟩
        all_goals
          go_wp2_with fail
          go_round
          case rel => exact ⟨j + 1, d + 1, m', H3, HE.out, by omega, by omega, by go_num, by go_num⟩
          case measure => simp [intOf]; omega
      · have b1 : (T j == 34) = false := by simpa using h1
        have b2 : (T j == 123) = false := by simpa using h2
        have b3 : (T j == 91) = false := by simpa using h3
        have HE : Hid (j + 1 = i + m) := he
        have O : (T j == 125) = true ∨ ((T j == 125) = false ∧ (T j == 93) = true) := by
          rcases h4 with h | h <;> rw [h] <;> decide
        clear h1 h2 h3 h4 he hj
        rcases O with b4 | ⟨b4, b5⟩
        all_goals
          go_wp2_with fail
          go_ret
          exact ⟨ret_int (by have := HE.out; omega), rfl⟩
      · have b1 : (T j == 34) = false := by simpa using h1
        have b2 : (T j == 123) = false := by simpa using h2
        have b3 : (T j == 91) = false := by simpa using h3
        have H3 : Hid (aut 0 (d - 1) (D (j + 1)) = some m') := h6
        have HE : Hid (j + 1 + m' = i + m) := by unfold Hid; omega
        have O : (T j == 125) = true ∨ ((T j == 125) = false ∧ (T j == 93) = true) := by
          rcases h4 with h | h <;> rw [h] <;> decide
        have b6 : ((d : Int) - 1 == 0) = false := by simp; omega
        clear h1 h2 h3 h4 h6 h7 he hj
        rcases O with b4 | ⟨b4, b5⟩
        all_goals
          go_wp2_with fail
          go_round
          case rel => exact ⟨j + 1, d - 1, m', H3, HE.out, by omega, by omega, by go_num, by go_num⟩
          case measure => simp [intOf]; omega
      · have b1 : (T j == 34) = false := by simpa using h1
        have b2 : (T j == 123) = false := by simpa using h2
        have b3 : (T j == 91) = false := by simpa using h3
        have b4 : (T j == 125) = false := by simpa using h4
        have b5 : (T j == 93) = false := by simpa using h5
        have H3 : Hid (aut 0 d (D (j + 1)) = some m') := h6
        have HE : Hid (j + 1 + m' = i + m) := by unfold Hid; omega
        clear h1 h2 h3 h4 h5 h6 h7 he hj
        go_wp2_with fail
        go_round
        case rel => exact ⟨j + 1, d, m', H3, HE.out, by omega, by omega, by go_num, rfl⟩
        case measure => simp [intOf]; omega

/-- Function 33 at a string. -/
theorem valEnd_str (g n cap : Nat) (T : Nat → Int) (D : Nat → List Int) (i s : Nat) (w : World) (hn : n ≤ 1099511627776) (hD : Txt n T D)
    (hc : ∀ j, j < n → w.cell? ⟨g, j, none⟩ = some (.int .u8 (T j))) (hi : i < n) (ho : T i = 34) (hs : sL false (D (i + 1)) = some s) :
    Calls Try.prog 33 #[.slice (some ⟨g, 0, none⟩) n cap, .int .i64 i] w fun e w' => e = .returned (.int .i64 ((i + 1 + s : Nat) : Int)) ∧ w' = w := by
  have H := strEnd_any g n cap T D i s w hn hD hc hi hs
  have HC : Hid (Calls Try.prog 35 #[.slice (some ⟨g, 0, none⟩) n cap, .int .i64 i] w fun e w' => e = .returned (.int .i64 ((i + 1 + s : Nat) : Int)) ∧ w' = w) := H
  have hci := hc i hi
  have hlt : (i : Int) < (n : Int) := by omega
  have o1 : (T i == 34) = true := by simpa using ho
  clear H hc hD hs ho
  go_enter Try.func33, Try.ntmps33
  go_wp2_with (go_at_call 35; refine HC.out.mono ?_; rintro e w' ⟨rfl, rfl⟩)
  go_ret
  exact ⟨rfl, rfl⟩

/-- Function 33 at a literal. -/
theorem valEnd_lit (g n cap : Nat) (T : Nat → Int) (i q : Nat) (w : World) (hn : n ≤ 1099511627776)
    (hc : ∀ j, j < n → w.cell? ⟨g, j, none⟩ = some (.int .u8 (T j))) (hi : i < q) (hq : q ≤ n) (hl : ∀ j, i ≤ j → j < q → Lt (T j)) (hs : q < n → Stp (T q)) :
    Calls Try.prog 33 #[.slice (some ⟨g, 0, none⟩) n cap, .int .i64 i] w fun e w' => e = .returned (.int .i64 (q : Int)) ∧ w' = w := by
  have H := litEnd_any g n cap T i q w hn hc (by omega) hq hl hs
  have HC : Hid (Calls Try.prog 36 #[.slice (some ⟨g, 0, none⟩) n cap, .int .i64 i] w fun e w' => e = .returned (.int .i64 (q : Int)) ∧ w' = w) := H
  have hci := hc i (by omega)
  have hlt : (i : Int) < (n : Int) := by omega
  have o := hl i (Nat.le_refl _) hi
  obtain ⟨_, _, _, _, _, _, _, p1, p2, p3⟩ := o
  have o1 : (T i == 34) = false := by simpa using p1
  have o2 : (T i == 123) = false := by simpa using p2
  have o3 : (T i == 91) = false := by simpa using p3
  clear H hc hl hs p1 p2 p3
  go_enter Try.func33, Try.ntmps33
  go_wp2_with (go_at_call 36; refine HC.out.mono ?_; rintro e w' ⟨rfl, rfl⟩)
  go_ret
  exact ⟨rfl, rfl⟩

/-- 25 hands on to 33. -/
theorem zzval {v : Value} {i r : Int} {w : World} (h : Calls Try.prog 33 #[v, .int .i64 i] w fun e w' => e = .returned (.int .i64 r) ∧ w' = w) :
    Calls Try.prog 25 #[v, .int .i64 i] w fun e w' => e = .returned (.int .i64 r) ∧ w' = w := by
  have H : Hid (Calls Try.prog 33 #[v, .int .i64 i] w fun e w' => e = .returned (.int .i64 r) ∧ w' = w) := h
  clear h
  go_enter Try.func25, Try.ntmps25
  go_wp2_with (go_at_call 33; refine H.out.mono ?_; rintro e w' ⟨rfl, rfl⟩)
  go_ret
  exact ⟨rfl, rfl⟩

/-- 25 AT A TEXT THAT READS 'pre v post', v A VALUE: its answer is the place behind v. (A literal must be followed by a stop, or by nothing.) -/
theorem zzval_at {B n cap : Nat} {ao : Option Addr} {w : World} (pre v post : List Int) (h : Own B w (.slice ao n cap) (pre ++ (v ++ post))) (hn : n ≤ 1099511627776)
    (hv : IsVal v) (hp : IsLit v → post = [] ∨ ∃ c t, post = c :: t ∧ Stp c) (i : Int) (hi : i = (pre.length : Int)) (r : Int) (hr : r = (pre.length : Int) + v.length) :
    Calls Try.prog 25 #[.slice ao n cap, .int .i64 i] w fun e w' => e = .returned (.int .i64 r) ∧ w' = w := by
  subst hi
  have hne := hv.ne
  have hvl : 0 < v.length := List.length_pos_iff.2 hne
  obtain ⟨hlen, ⟨_, _, hx⟩ | ⟨g, rfl, _, _, _, _, hc⟩⟩ := h.sh
  · exact absurd (by simpa using hx) (fun e : pre = [] ∧ v = [] ∧ post = [] => hne e.2.1)
  · have hl : n = pre.length + v.length + post.length := by rw [hlen]; simp; omega
    have hT := Txt.of (pre ++ (v ++ post))
    rw [← hlen] at hT hc
    have hD : (pre ++ (v ++ post)).drop pre.length = v ++ post := by simp
    have hget : ∀ d, d < v.length → (pre ++ (v ++ post)).getD (pre.length + d) 0 = v.getD d 0 := by
      intro d hd
      rw [List.getD, List.getElem?_append_right (by omega), Nat.add_sub_cancel_left, List.getElem?_append_left hd, List.getD]
    apply zzval
    rcases hv with hv | ⟨b, rfl, hb⟩ | hv
    · have hq := valEnd_lit g n cap (fun j => (pre ++ (v ++ post)).getD j 0) pre.length (pre.length + v.length) w hn hc (by omega) (by omega) ?_ ?_
      · rw [show r = ((pre.length + v.length : Nat) : Int) from by omega]; exact hq
      · intro j h1 h2
        obtain ⟨d, rfl⟩ : ∃ d, j = pre.length + d := ⟨j - pre.length, by omega⟩
        show Lt ((pre ++ (v ++ post)).getD (pre.length + d) 0)
        rw [hget d (by omega)]
        apply hv.2
        rw [List.getD, List.getElem?_eq_getElem (by omega)]
        exact List.getElem_mem _
      · intro h1
        rcases hp hv with rfl | ⟨c, t, rfl, hst⟩
        · simp at hl; omega
        · have : (pre ++ (v ++ c :: t)).getD (pre.length + v.length) 0 = c := by
            rw [List.getD, List.getElem?_append_right (by omega), Nat.add_sub_cancel_left, List.getElem?_append_right (by omega)]
            simp
          simp only [this]; exact hst
    · have hq := valEnd_str g n cap (fun j => (pre ++ ((34 :: (b ++ [34])) ++ post)).getD j 0) (fun j => (pre ++ ((34 :: (b ++ [34])) ++ post)).drop j) pre.length (b.length + 1) w hn hT hc (by omega) (by simp) ?_
      · rw [show r = ((pre.length + 1 + (b.length + 1) : Nat) : Int) from by rw [hr]; simp; omega]; exact hq
      · have e : (pre ++ ((34 :: (b ++ [34])) ++ post)).drop (pre.length + 1) = b ++ (34 :: post) := by
          rw [← List.drop_drop, hD]; simp
        rw [e, hb.1]
        simp [sL, Nat.add_comm]
    · have hat := hv.at 0 post
      rw [if_pos rfl] at hat
      have hq := valEnd_con g n cap (fun j => (pre ++ (v ++ post)).getD j 0) (fun j => (pre ++ (v ++ post)).drop j) pre.length v.length w hn hT hc (by omega) ?_ (by rw [hD]; exact hat)
      · rw [show r = ((pre.length + v.length : Nat) : Int) from by omega]; exact hq
      · have h0 := hget 0 hvl
        obtain ⟨o, b, c, rfl, ho, _⟩ := hv
        simp only [Nat.add_zero] at h0
        simp only [h0]
        simpa using ho

end Go.Proofs.Qxb6600932a
