/-
  Seat b6600932a: 'plainTextEnd' (function 29; 18 hands on to it) and the two-pass model (function 19), walked.
  The text is read as a function T of the place: no list stands in the walk.
-/
import Derived.Test.Qxb6600932aBase
namespace Go.Proofs.Qxb6600932a
open Go.RowKit

/-- Printable ASCII, no quote, no backslash. -/
def Plain (c : Int) : Prop := 32 ≤ c ∧ c ≤ 126 ∧ c ≠ 34 ∧ c ≠ 92

/-- The place behind the text: 29 answers -1 and reads nothing. -/
theorem pte_ge (a : Option Addr) (n cap : Nat) (i : Int) (w : World) (h : (n : Int) ≤ i) :
    Calls Try.prog 29 #[.slice a n cap, .int .i64 i] w fun e w' => e = .returned (.int .i64 (-1)) ∧ w' = w := by
  have hd : decide ((n : Int) ≤ i) = true := by simpa using h
  go_enter Try.func29, Try.ntmps29
  go_wp2
  go_ret
  exact ⟨rfl, rfl⟩

/-- No quote at the place. -/
theorem pte_no (g n cap : Nat) (T : Nat → Int) (i : Nat) (w : World) (hi : i < n) (hT : T i ≠ 34) (hc : w.cell? ⟨g, i, none⟩ = some (.int .u8 (T i))) :
    Calls Try.prog 29 #[.slice (some ⟨g, 0, none⟩) n cap, .int .i64 i] w fun e w' => e = .returned (.int .i64 (-1)) ∧ w' = w := by
  have hb : (T i != 34) = true := by simpa using hT
  have hlt : (i : Int) < (n : Int) := by omega
  have hd : decide ((n : Int) ≤ i) = false := by simp; omega
  go_enter Try.func29, Try.ntmps29
  go_wp2
  go_ret
  exact ⟨rfl, rfl⟩

set_option maxHeartbeats 400000 in
/-- A quote at i; q: the first place behind it that is no plain byte, or the end. -/
theorem pte_run (g n cap : Nat) (T : Nat → Int) (i q : Nat) (r : Int) (w : World) (hn : n ≤ 1099511627776) (hi : i < n) (hT : T i = 34)
    (hc : ∀ j, j < n → w.cell? ⟨g, j, none⟩ = some (.int .u8 (T j))) (hq : i < q) (hqn : q ≤ n) (hpl : ∀ j, i < j → j < q → Plain (T j))
    (hend : (q < n ∧ T q = 34 ∧ r = (q : Int) + 1) ∨ (q = n ∧ r = -1) ∨ (q < n ∧ T q ≠ 34 ∧ (T q < 32 ∨ 126 < T q ∨ T q = 92) ∧ r = -1)) :
    Calls Try.prog 29 #[.slice (some ⟨g, 0, none⟩) n cap, .int .i64 i] w fun e w' => e = .returned (.int .i64 r) ∧ w' = w := by
  have hci := hc i hi
  rw [hT] at hci
  have hlt : (i : Int) < (n : Int) := by omega
  have hd : decide ((n : Int) ≤ i) = false := by simp; omega
  have HT := hT
  clear hT
  go_enter Try.func29, Try.ntmps29
  go_wp2
  go_loop [1] (fun s => ∃ j : Nat, i < j ∧ j ≤ q ∧ s = .int .i64 j) (fun s => q - (intOf s).toNat)
  case atStart => exact ⟨i + 1, by omega, by omega, by go_num⟩
  case round =>
    obtain ⟨j, hj1, hj2, rfl⟩ := hrel
    by_cases hjq : j < q
    · have hcj := hc j (by omega)
      obtain ⟨p1, p2, p3, p4⟩ := hpl j hj1 hjq
      have b1 : (T j == 34) = false := by simpa using p3
      have b2 : decide (T j < 32) = false := by simp; omega
      have b3 : decide (126 < T j) = false := by simp; omega
      have b4 : (T j == 92) = false := by simpa using p4
      have hjn : (j : Int) < (n : Int) := by omega
      clear hci hpl hend hc p1 p2 p3 p4
      go_wp2
      go_round
      case rel => exact ⟨j + 1, by omega, by omega, by go_num⟩
      case measure => simp [intOf]; omega
    · obtain rfl : j = q := by omega
      rcases hend with ⟨h1, h2, rfl⟩ | ⟨h1, rfl⟩ | ⟨h1, h2, h3, rfl⟩
      · have hcj := hc j (by omega)
        rw [h2] at hcj
        have hjn : (j : Int) < (n : Int) := by omega
        clear hci hpl hc h2
        go_wp2
        go_ret
        exact ⟨rfl, rfl⟩
      · subst h1
        clear hci hpl hc
        go_wp2
        go_ret
        exact ⟨rfl, rfl⟩
      · have hcj := hc j (by omega)
        have b1 : (T j == 34) = false := by simpa using h2
        have hjn : (j : Int) < (n : Int) := by omega
        clear hci hpl hc h2
        rcases h3 with h3 | h3 | h3
        · have b2 : decide (T j < 32) = true := by simp; omega
          go_wp2
          go_ret
          exact ⟨rfl, rfl⟩
        · have b2 : decide (T j < 32) = false := by simp; omega
          have b3 : decide (126 < T j) = true := by simp; omega
          go_wp2
          go_ret
          exact ⟨rfl, rfl⟩
        · have b2 : decide (T j < 32) = false := by simp; omega
          have b3 : decide (126 < T j) = false := by simp; omega
          have b4 : (T j == 92) = true := by simpa using h3
          clear h3
          go_wp2
          go_ret
          exact ⟨rfl, rfl⟩

/-- 18 hands on to 29. -/
theorem zzpte {v : Value} {i r : Int} {w : World} (h : Calls Try.prog 29 #[v, .int .i64 i] w fun e w' => e = .returned (.int .i64 r) ∧ w' = w) :
    Calls Try.prog 18 #[v, .int .i64 i] w fun e w' => e = .returned (.int .i64 r) ∧ w' = w := by
  have H : Hid (Calls Try.prog 29 #[v, .int .i64 i] w fun e w' => e = .returned (.int .i64 r) ∧ w' = w) := h
  clear h
  go_enter Try.func18, Try.ntmps18
  go_wp2_with (go_at_call 29; refine H.out.mono ?_; rintro e w' ⟨rfl, rfl⟩)
  go_ret
  exact ⟨rfl, rfl⟩

/-! ### the two-pass model -/

theorem mdl_ge (a : Option Addr) (n cap : Nat) (i : Int) (w : World) (h : (n : Int) ≤ i) :
    Calls Try.prog 19 #[.slice a n cap, .int .i64 i] w fun e w' => e = .returned (.int .i64 (-1)) ∧ w' = w := by
  have hd : decide ((n : Int) ≤ i) = true := by simpa using h
  go_enter Try.func19, Try.ntmps19
  go_wp2
  go_ret
  exact ⟨rfl, rfl⟩

theorem mdl_no (g n cap : Nat) (T : Nat → Int) (i : Nat) (w : World) (hi : i < n) (hT : T i ≠ 34) (hc : w.cell? ⟨g, i, none⟩ = some (.int .u8 (T i))) :
    Calls Try.prog 19 #[.slice (some ⟨g, 0, none⟩) n cap, .int .i64 i] w fun e w' => e = .returned (.int .i64 (-1)) ∧ w' = w := by
  have hb : (T i != 34) = true := by simpa using hT
  have hlt : (i : Int) < (n : Int) := by omega
  have hd : decide ((n : Int) ≤ i) = false := by simp; omega
  go_enter Try.func19, Try.ntmps19
  go_wp2
  go_ret
  exact ⟨rfl, rfl⟩

set_option maxHeartbeats 800000 in
/-- q: the first quote behind i, or the end; b: the first bad byte between, or q. -/
theorem mdl_run (g n cap : Nat) (T : Nat → Int) (i q b : Nat) (r : Int) (w : World) (hn : n ≤ 1099511627776) (hi : i < n) (hT : T i = 34)
    (hc : ∀ j, j < n → w.cell? ⟨g, j, none⟩ = some (.int .u8 (T j))) (hq : i < q) (hqn : q ≤ n) (h34 : ∀ j, i < j → j < q → T j ≠ 34)
    (hib : i < b) (hbq : b ≤ q) (hok : ∀ j, i < j → j < b → 32 ≤ T j ∧ T j ≤ 126 ∧ T j ≠ 92)
    (hend : (q < n ∧ T q = 34 ∧ b = q ∧ r = (q : Int) + 1) ∨ (q = n ∧ r = -1) ∨ (q < n ∧ T q = 34 ∧ b < q ∧ (T b < 32 ∨ 126 < T b ∨ T b = 92) ∧ r = -1)) :
    Calls Try.prog 19 #[.slice (some ⟨g, 0, none⟩) n cap, .int .i64 i] w fun e w' => e = .returned (.int .i64 r) ∧ w' = w := by
  have hci := hc i hi
  rw [hT] at hci
  have hlt : (i : Int) < (n : Int) := by omega
  have hd : decide ((n : Int) ≤ i) = false := by simp; omega
  have ht : (T i != 34) = false := by simp [hT]
  clear hT
  go_enter Try.func19, Try.ntmps19
  go_wp2
  go_loop [5, 6] (fun s t => ∃ j : Nat, i < j ∧ j ≤ q ∧ s = .int .i64 (-1) ∧ t = .int .i64 j) (fun _ t => q - (intOf t).toNat)
  case atStart => exact ⟨i + 1, by omega, by omega, rfl, by go_num⟩
  case round =>
    obtain ⟨j, hj1, hj2, rfl, rfl⟩ := hrel
    by_cases hjq : j < q
    · have hcj := hc j (by omega)
      have b1 : (T j == 34) = false := by simpa using h34 j hj1 hjq
      have hjn : (j : Int) < (n : Int) := by omega
      clear hci h34 hok hend hc
      go_wp2
      go_round
      case rel => exact ⟨j + 1, by omega, by omega, rfl, by go_num⟩
      case measure => simp [intOf]; omega
    · obtain rfl : j = q := by omega
      by_cases hjn : j < n
      · have hcj := hc j (by omega)
        have h2 : T j = 34 := by rcases hend with h | h | h <;> omega
        rw [h2] at hcj
        have hjn' : (j : Int) < (n : Int) := by omega
        clear h34 hci h2
        go_wp2
        go_loop [7] (fun s => ∃ m : Nat, i < m ∧ m ≤ b ∧ s = .int .i64 m) (fun s => b - (intOf s).toNat)
        case atStart => exact ⟨i + 1, by omega, by omega, by go_num⟩
        case round =>
          obtain ⟨m, hm1, hm2, rfl⟩ := hrel
          by_cases hmb : m < b
          · have hcm := hc m (by omega)
            obtain ⟨p1, p2, p3⟩ := hok m hm1 hmb
            have b2 : decide (T m < 32) = false := by simp; omega
            have b3 : decide (126 < T m) = false := by simp; omega
            have b4 : (T m == 92) = false := by simpa using p3
            have hmq : (m : Int) < (j : Int) := by omega
            clear hok hend hc p1 p2 p3
            go_wp2
            go_round
            case rel => exact ⟨m + 1, by omega, by omega, by go_num⟩
            case measure => simp [intOf]; omega
          · obtain rfl : m = b := by omega
            rcases hend with ⟨h1, h2, rfl, rfl⟩ | ⟨h1, rfl⟩ | ⟨h1, h2, h3, h4, rfl⟩
            · clear hok hc h2
              go_wp2
              go_ret
              exact ⟨rfl, rfl⟩
            · omega
            · have hcm := hc m (by omega)
              have hmq : (m : Int) < (j : Int) := by omega
              clear hok hc h2
              rcases h4 with h3 | h3 | h3
              · have b2 : decide (T m < 32) = true := by simp; omega
                go_wp2
                go_ret
                exact ⟨rfl, rfl⟩
              · have b2 : decide (T m < 32) = false := by simp; omega
                have b3 : decide (126 < T m) = true := by simp; omega
                go_wp2
                go_ret
                exact ⟨rfl, rfl⟩
              · have b2 : decide (T m < 32) = false := by simp; omega
                have b3 : decide (126 < T m) = false := by simp; omega
                have b4 : (T m == 92) = true := by simpa using h3
                clear h3
                go_wp2
                go_ret
                exact ⟨rfl, rfl⟩
      · obtain rfl : j = n := by omega
        have hr : r = -1 := by rcases hend with h | h | h <;> omega
        subst hr
        clear hci h34 hok hc
        go_wp2
        go_ret
        exact ⟨rfl, rfl⟩

/-! ### the first stop exists -/

/-- The first place from i + 1 on that p holds of, or n. -/
theorem first_of (p : Nat → Prop) [DecidablePred p] (i n : Nat) (h : i < n) : ∃ q, i < q ∧ q ≤ n ∧ (∀ j, i < j → j < q → ¬ p j) ∧ (q < n → p q) := by
  suffices H : ∀ d m, i < m → m ≤ n → n - m ≤ d → (∀ j, i < j → j < m → ¬ p j) → ∃ q, i < q ∧ q ≤ n ∧ (∀ j, i < j → j < q → ¬ p j) ∧ (q < n → p q) from
    H (n - (i + 1)) (i + 1) (by omega) (by omega) (Nat.le_refl _) (fun j h1 h2 => by omega)
  intro d
  induction d with
  | zero => intro m h1 h2 h3 h4; exact ⟨m, h1, h2, h4, fun h => by omega⟩
  | succ d ih =>
    intro m h1 h2 h3 h4
    by_cases hm : m < n
    · by_cases hp : p m
      · exact ⟨m, h1, h2, h4, fun _ => hp⟩
      · exact ih (m + 1) (by omega) (by omega) (by omega) (fun j a b => by
          by_cases e : j = m
          · subst e; exact hp
          · exact h4 j a (by omega))
    · exact ⟨m, h1, h2, h4, fun h => by omega⟩

/-- THE PLAIN LAW OF THE FIRST STATEMENT: 29 and 19 answer alike, whatever the text. -/
theorem both (g n cap : Nat) (T : Nat → Int) (i : Nat) (hn : n ≤ 1099511627776) (w : World)
    (hc : ∀ j, j < n → w.cell? ⟨g, j, none⟩ = some (.int .u8 (T j))) :
    ∃ r, (Calls Try.prog 18 #[.slice (some ⟨g, 0, none⟩) n cap, .int .i64 i] w fun e w' => e = .returned (.int .i64 r) ∧ w' = w) ∧
      (Calls Try.prog 19 #[.slice (some ⟨g, 0, none⟩) n cap, .int .i64 i] w fun e w' => e = .returned (.int .i64 r) ∧ w' = w) := by
  by_cases hi : i < n
  · by_cases hT : T i = 34
    · obtain ⟨q, q1, q2, q3, q4⟩ := first_of (fun j => ¬ (32 ≤ T j ∧ T j ≤ 126 ∧ T j ≠ 34 ∧ T j ≠ 92)) i n hi
      have q3' : ∀ j, i < j → j < q → Plain (T j) := fun j a b => by have := q3 j a b; unfold Plain; omega
      by_cases hqn : q < n
      · have q5 := q4 hqn
        by_cases h34 : T q = 34
        · exact ⟨(q : Int) + 1, zzpte (pte_run g n cap T i q _ w hn hi hT hc q1 q2 q3' (.inl ⟨hqn, h34, rfl⟩)),
            mdl_run g n cap T i q q _ w hn hi hT hc q1 q2 (fun j a b => (q3' j a b).2.2.1) q1 (Nat.le_refl _) (fun j a b => ⟨(q3' j a b).1, (q3' j a b).2.1, (q3' j a b).2.2.2⟩) (.inl ⟨hqn, h34, rfl, rfl⟩)⟩
        · have hbad : T q < 32 ∨ 126 < T q ∨ T q = 92 := by omega
          obtain ⟨z, z1, z2, z3, z4⟩ := first_of (fun j => T j = 34) i n hi
          have hqz : q < z := by
            rcases Nat.lt_trichotomy z q with h | h | h
            · have := (q3' z z1 h).2.2.1; have := z4 (by omega); omega
            · subst h; have := z4 hqn; omega
            · exact h
          refine ⟨-1, zzpte (pte_run g n cap T i q _ w hn hi hT hc q1 q2 q3' (.inr (.inr ⟨hqn, h34, hbad, rfl⟩))),
            mdl_run g n cap T i z q _ w hn hi hT hc z1 z2 z3 q1 (by omega) (fun j a b => ⟨(q3' j a b).1, (q3' j a b).2.1, (q3' j a b).2.2.2⟩) ?_⟩
          by_cases hz : z < n
          · exact .inr (.inr ⟨hz, z4 hz, hqz, hbad, rfl⟩)
          · exact .inr (.inl ⟨by omega, rfl⟩)
      · obtain rfl : q = n := by omega
        exact ⟨-1, zzpte (pte_run g q cap T i q _ w hn hi hT hc q1 q2 q3' (.inr (.inl ⟨rfl, rfl⟩))),
          mdl_run g q cap T i q q _ w hn hi hT hc q1 q2 (fun j a b => (q3' j a b).2.2.1) q1 (Nat.le_refl _) (fun j a b => ⟨(q3' j a b).1, (q3' j a b).2.1, (q3' j a b).2.2.2⟩) (.inr (.inl ⟨rfl, rfl⟩))⟩
    · exact ⟨-1, zzpte (pte_no g n cap T i w hi hT (hc i hi)), mdl_no g n cap T i w hi hT (hc i hi)⟩
  · exact ⟨-1, zzpte (pte_ge _ n cap i w (by omega)), mdl_ge _ n cap i w (by omega)⟩

theorem both_any {B n cap : Nat} {ao : Option Addr} {xs : List Int} {w : World} (h : Own B w (.slice ao n cap) xs) (hn : n ≤ 1099511627776) (i : Int) (hi : 0 ≤ i) :
    ∃ r, (Calls Try.prog 18 #[.slice ao n cap, .int .i64 i] w fun e w' => e = .returned (.int .i64 r) ∧ w' = w) ∧
      (Calls Try.prog 19 #[.slice ao n cap, .int .i64 i] w fun e w' => e = .returned (.int .i64 r) ∧ w' = w) := by
  obtain ⟨m, rfl⟩ := Int.eq_ofNat_of_zero_le hi
  obtain ⟨rfl, ⟨rfl, rfl, rfl⟩ | ⟨g, rfl, _, _, _, _, hc⟩⟩ := h.sh
  · exact ⟨-1, zzpte (pte_ge _ _ _ _ w (by simp)), mdl_ge _ _ _ _ w (by simp)⟩
  · exact both g _ cap (fun j => xs.getD j 0) m hn w hc

end Go.Proofs.Qxb6600932a
