/-
  Seat b6600932a: 'nestedLevelEndsB1' (27) and 'FnValueEndNestedContainers' (function 10), walked; the plain law of the nested text.
-/
import Derived.Test.Qxb6600932aWalk9
namespace Go.Proofs.Qxb6600932a
open Go.RowKit
set_option linter.unusedVariables false

/-! ### the nested text, plainly -/

/-- What opens level j. -/
def opn (j : Nat) : List Int := if j % 2 = 0 then [91] else [123, 34, 120, 34, 58]
/-- What closes level j. -/
def cls (j : Nat) : List Int := if j % 2 = 0 then [93] else [125]
/-- The openings of the levels from 0 up to k. -/
def opens : Nat → List Int
  | 0 => []
  | k + 1 => opens k ++ opn k
/-- The closings of the levels below k, the innermost first. -/
def closes : Nat → List Int
  | 0 => []
  | k + 1 => cls k ++ closes k

theorem opens_len (k : Nat) : (opens k).length = (k + 1) / 2 + 5 * (k / 2) := by
  induction k with
  | zero => rfl
  | succ k ih =>
    rw [opens, List.length_append, ih, opn]
    split <;> simp <;> omega
theorem closes_len (k : Nat) : (closes k).length = k := by
  induction k with
  | zero => rfl
  | succ k ih =>
    rw [closes, List.length_append, ih, cls]
    split <;> simp <;> omega
theorem opens_le (k : Nat) : (opens k).length ≤ 5 * k := by rw [opens_len]; omega

/-- Level j, wrapped round a value, is a value. -/
theorem wrap_val (j : Nat) {v : List Int} (h : IsVal v) : IsVal (opn j ++ (v ++ cls j)) := by
  unfold opn cls
  split
  · exact .inr (.inr ⟨91, v, 93, by simp, .inr rfl, .inr rfl, h.tr⟩)
  · exact .inr (.inr ⟨123, [34, 120, 34] ++ ([58] ++ v), 125, by simp, .inl rfl, .inl rfl, (IsStr.tr ⟨[120], rfl, StrB.char (by decide) (by decide)⟩).append ((tr_of (by decide)).append h.tr)⟩)

/-- The levels from j up to j + d, round v. -/
def core (j : Nat) (v : List Int) : Nat → List Int
  | 0 => v
  | d + 1 => core j (opn (j + d) ++ (v ++ cls (j + d))) d

theorem core_val (j : Nat) : ∀ (d : Nat) (v : List Int), IsVal v → IsVal (core j v d) := by
  intro d
  induction d with
  | zero => intro v h; exact h
  | succ d ih => intro v h; exact ih _ (wrap_val _ h)

theorem core_len (j : Nat) : ∀ (d : Nat) (v : List Int), opens (j + d) ++ (v ++ closes (j + d)) = opens j ++ (core j v d ++ closes j) := by
  intro d
  induction d with
  | zero => intro v; rfl
  | succ d ih =>
    intro v
    rw [core, ← ih]
    show opens (j + d + 1) ++ (v ++ closes (j + d + 1)) = _
    rw [opens, closes]
    simp

/-- The text at level j: what opens before it, a value, what closes behind it. -/
theorem nest_at (k j : Nat) (hj : j ≤ k) (v : List Int) (hv : IsVal v) : ∃ u, IsVal u ∧ opens k ++ (v ++ closes k) = opens j ++ (u ++ closes j) := by
  obtain ⟨d, rfl⟩ : ∃ d, k = j + d := ⟨k - j, by omega⟩
  exact ⟨core j v d, core_val j d v hv, core_len j d v⟩

/-- Behind a value there is a stop, or nothing. -/
theorem closes_stop (j : Nat) : closes j = [] ∨ ∃ c t, closes j = c :: t ∧ Stp c := by
  cases j with
  | zero => exact .inl rfl
  | succ j =>
    right
    rw [closes, cls]
    split
    · exact ⟨93, _, rfl, .inr (.inr (.inr (.inr (.inr (.inl rfl)))))⟩
    · exact ⟨125, _, rfl, .inr (.inr (.inr (.inr (.inr (.inr rfl)))))⟩

/-! ### the walks -/

/-- Function 27 at level j of the nested text. -/
theorem level_any {B n cap : Nat} {ao : Option Addr} {w : World} {X : List Int} (h : Own B w (.slice ao n cap) X) (k j : Nat) (v : List Int) (hv : IsVal v) (hj : j ≤ k) (hk : k ≤ 65536) (hX : X = opens k ++ (v ++ closes k)) (hn : n ≤ 1099511627776) (hnk : k ≤ n)
    (i : Int) (hi : i = (j : Int)) :
    Calls Try.prog 27 #[.slice ao n cap, .int .i64 i] w fun e w' => e = .returned (.bool true) ∧ w' = w := by
  subst hi
  obtain ⟨u, hu, e⟩ := nest_at k j hj v hv
  rw [e] at hX
  have hl : n = (opens j).length + u.length + j := by
    have h1 := h.sh.1
    rw [hX] at h1
    rw [h1]
    simp [closes_len]
    omega
  have ol := opens_len j
  have H := zzval_eq h (opens j) u (closes j) hX hn hu (closes_stop j) (((j : Int) + 1) / 2 + 5 * ((j : Int) / 2)) (by rw [ol]; omega) ((n : Int) - j) (by omega)
  have HC : Hid (Calls Try.prog 25 #[.slice ao n cap, .int .i64 (((j : Int) + 1) / 2 + 5 * ((j : Int) / 2))] w fun e w' => e = .returned (.int .i64 ((n : Int) - j)) ∧ w' = w) := H
  clear H hX e hl ol h
  go_enter Try.func27, Try.ntmps27
  go_wp2_with (go_at_call 25; refine HC.out.mono ?_; rintro e w' ⟨rfl, rfl⟩)
  go_ret
  exact ⟨by simp, rfl⟩

theorem zz26_any (a0 : Option Addr) (l0 c0 : Nat) (x : Int) (w : World) :
    Calls Try.prog 26 #[.slice a0 l0 c0, .int .i64 x] w fun e w' => ∃ b, e = .returned (.bool b) ∧ w' = w := by
  go_enter Try.func26, Try.ntmps26
  go_wp2
  all_goals
    go_ret
    exact ⟨_, rfl, rfl⟩

theorem zz26_true (a0 : Option Addr) (l0 c0 : Nat) (x : Int) (w : World) (h0 : l0 ≤ 8192) :
    Calls Try.prog 26 #[.slice a0 l0 c0, .int .i64 x] w fun e w' => e = .returned (.bool true) ∧ w' = w := by
  go_enter Try.func26, Try.ntmps26
  go_wp2
  go_ret
  exact ⟨rfl, rfl⟩

theorem walk10_long (a0 : Option Addr) (l0 c0 : Nat) (x : Int) (w : World) (h : 8192 < l0) :
    Calls Try.prog 10 #[.slice a0 l0 c0, .int .i64 x] w fun e w' => e = .returned (.bool true) ∧ Below w.heap.size w w' := by
  have H : 8192 < (l0 : Int) := by omega
  clear h
  go_enter Try.func10, Try.ntmps10
  go_wp2_with fail
  refine (zz26_any _ _ _ _ _).mono ?_
  rintro e w' ⟨b, rfl, rfl⟩
  cases b
  all_goals
    go_wp2
    go_ret
    exact ⟨rfl, Below.refl _ _⟩

theorem walk10_off (a0 : Option Addr) (l0 c0 : Nat) (x : Int) (w : World) (h0 : l0 ≤ 8192) (h : x < 0 ∨ 65536 < x) :
    Calls Try.prog 10 #[.slice a0 l0 c0, .int .i64 x] w fun e w' => e = .returned (.bool true) ∧ Below w.heap.size w w' := by
  by_cases hn : x < 0
  · have b1 : decide (x < 0) = true := by simpa using hn
    clear h
    go_enter Try.func10, Try.ntmps10
    go_wp2_with fail
    refine (zz26_true _ _ _ _ _ h0).mono ?_
    rintro e w' ⟨rfl, rfl⟩
    go_wp2
    go_ret
    exact ⟨rfl, Below.refl _ _⟩
  · have b1 : decide (x < 0) = false := by simpa using hn
    have hx : 65536 < x := by omega
    have b2 : decide (65536 < x) = true := by simpa using hx
    clear h
    go_enter Try.func10, Try.ntmps10
    go_wp2_with fail
    refine (zz26_true _ _ _ _ _ h0).mono ?_
    rintro e w' ⟨rfl, rfl⟩
    go_wp2
    go_ret
    exact ⟨rfl, Below.refl _ _⟩

theorem opens_even (j : Nat) (h : j % 2 = 0) : opens j ++ [91] = opens (j + 1) := by rw [opens, opn, if_pos h]
theorem opens_odd (j : Nat) (h : ¬ j % 2 = 0) : opens j ++ [123, 34, 120, 34, 58] = opens (j + 1) := by rw [opens, opn, if_neg h]

/-- What has still to be closed. -/
def Clo (K : Nat) (Y zs : List Int) (d : Nat) : Prop := zs ++ closes d = opens K ++ (Y ++ closes K)
theorem Clo.start {K : Nat} {Y zs : List Int} (h : Hid (zs = opens K ++ Y)) : Clo K Y zs K := by unfold Clo; rw [h.out]; simp
theorem Clo.even {K : Nat} {Y zs zs' : List Int} {d : Nat} (h : Clo K Y zs (d + 1)) (hd : d % 2 = 0) (hz : Hid (zs' = zs ++ [93])) : Clo K Y zs' d := by
  unfold Clo at *
  rw [← h, hz.out, closes, cls, if_pos hd]; simp
theorem Clo.odd {K : Nat} {Y zs zs' : List Int} {d : Nat} (h : Clo K Y zs (d + 1)) (hd : ¬ d % 2 = 0) (hz : Hid (zs' = zs ++ [125])) : Clo K Y zs' d := by
  unfold Clo at *
  rw [← h, hz.out, closes, cls, if_neg hd]; simp
theorem Clo.done {K : Nat} {Y zs : List Int} (h : Clo K Y zs 0) : zs = opens K ++ (Y ++ closes K) := by
  unfold Clo at h
  rw [← h, closes]; simp

set_option maxRecDepth 100000 in
set_option maxHeartbeats 4000000 in
theorem walk10_main (a0 : Option Addr) (l0 c0 : Nat) (z0 : List Int) (K : Nat) (w : World) (w0 : Row w a0 l0 c0 z0) (h0 : l0 ≤ 8192) (hK : K ≤ 65536) :
    Calls Try.prog 10 #[.slice a0 l0 c0, .int .i64 K] w fun e w' => e = .returned (.bool true) ∧ Below w.heap.size w w' := by
  have H0 : Hid (Row w a0 l0 c0 z0) := w0
  have b1 : decide ((K : Int) < 0) = false := by simp
  have b2 : decide (65536 < (K : Int)) = false := by simp; omega
  clear w0
  go_enter Try.func10, Try.ntmps10
  go_wp2_with fail
  refine (zz26_true _ _ _ _ _ h0).mono ?_
  rintro e w' ⟨rfl, rfl⟩
  go_wp2_with fail
  refine (clone_any a0 l0 c0 z0 _ (by omega) H0.out).mono ?_
  rintro e wa ⟨ao0, d0, rfl, own0, len0, byt0, bel⟩
  generalize z0.take l0 = P at own0 len0 byt0
  have L0 : Hid (P.length = l0) := len0
  clear len0 H0
  have lie0 := own0.lies
  have sz1 := bel.size
  clear own0
  go_wp2_with fail
  refine (build_top ao0 l0 d0 P _ h0 L0.out byt0 lie0).mono ?_
  rintro e wc ⟨bo1, m1, e1, q1, Y1, rfl, oy1, v1, M1, bd1, bel1⟩
  replace bel := bel.trans (bel1.mono (by omega))
  have sz2 := bel1.size
  have ly1 := oy1.lies
  clear lie0 bel1 oy1 byt0 L0
  go_wp2_with (at_make; refine make_own _ rfl _ _ rfl _ (6 * K + m1) rfl rfl (by omega) (by omega) ?_)
  intro x0 t0 hb0 hs0
  replace ly1 := ly1.keep hb0
  replace bel := bel.trans (hb0.mono (by omega))
  have hgap : w'.heap.size ≤ wc.heap.size := by omega
  clear hb0 hs0 sz1 sz2
  go_wp2_with fail
  go_loopw [7, 8] (fun t i wr => ∃ j l : Nat, j ≤ K ∧ i = .int .i64 j ∧ t = .slice (some ⟨wc.heap.size, 0, none⟩) l (6 * K + m1) ∧ l ≤ 5 * j ∧
      Own wc.heap.size wr (.slice (some ⟨wc.heap.size, 0, none⟩) l (6 * K + m1)) (opens j) ∧ Lies wc.heap.size wr (.slice bo1 m1 e1) Y1 ∧ Below w'.heap.size w' wr)
    (fun _ i _ => K - (intOf i).toNat)
  case atStart => exact ⟨0, 0, Nat.zero_le _, rfl, rfl, Nat.le_refl _, t0, ly1, bel⟩
  case round =>
    clear t0 ly1 bel
    obtain ⟨j, l, hj, rfl, rfl, hl, ho, ly1, bel⟩ := hrel
    by_cases hjk : j < K
    · have hjk' : (j : Int) < (K : Int) := by omega
      by_cases he : j % 2 = 0
      · have b3 : ((j : Int) % 2 == 0) = true := by simp; omega
        have HE : Hid (j % 2 = 0) := he
        clear he
        go_wp2_with (at_builtin; refine app_fits_z _ rfl (.tmp 45) (.tmp 46) rfl wc.heap.size wc.heap.size _ _ _ rfl ho [91] rfl (by simp <;> omega) ?_)
        intro zs x1 hz t1 hb1
        have ez := hz.out.trans (opens_even j HE.out)
        subst ez
        replace ly1 := ly1.keep hb1
        replace bel := bel.trans (hb1.mono hgap)
        clear hz ho hb1
        go_wp2_with fail
        go_roundw
        case rel => exact ⟨j + 1, l + 1, by omega, by go_num, rfl, by omega, t1, ly1, bel⟩
        case measure => simp [intOf]; omega
      · have b3 : ((j : Int) % 2 == 0) = false := by simp; omega
        have HE : Hid (¬ j % 2 = 0) := he
        clear he
        go_wp2_with (at_builtin; refine app_fits_z _ rfl (.tmp 48) (.tmp 49) rfl wc.heap.size wc.heap.size _ _ _ rfl ho [123, 34, 120, 34, 58] rfl (by simp <;> omega) ?_)
        intro zs x1 hz t1 hb1
        have ez := hz.out.trans (opens_odd j HE.out)
        subst ez
        replace ly1 := ly1.keep hb1
        replace bel := bel.trans (hb1.mono hgap)
        clear hz ho hb1
        go_wp2_with fail
        go_roundw
        case rel => exact ⟨j + 1, l + 5, by omega, by go_num, rfl, by omega, t1, ly1, bel⟩
        case measure => simp [intOf]; omega
    · obtain rfl : j = K := by omega
      have HL : Hid (l = (opens j).length) := ho.sh.1
      go_wp2_with (at_builtin; refine app_fits_own_z _ rfl (.tmp 53) (.tmp 54) rfl wc.heap.size wc.heap.size _ _ _ rfl ho 0 bo1 m1 e1 Y1 ly1.1 rfl (by omega) ?_)
      intro zs x1 hz t1 hb1
      replace bel := bel.trans (hb1.mono hgap)
      have clo := Clo.start hz
      clear hz ho hb1 ly1
      go_wp2_with fail
      obtain ⟨wo, rfl⟩ : ∃ wo : World, wo = wr := ⟨_, rfl⟩
      go_loopw [7, 10] (fun t i wr => ∃ (d n2 : Nat) (zs : List Int), d ≤ j ∧ Hid (n2 + d = l + m1 + j) ∧ i = .int .i64 ((d : Int) - 1) ∧ t = .slice (some ⟨wc.heap.size, 0, none⟩) n2 (6 * j + m1) ∧
          Own wc.heap.size wr (.slice (some ⟨wc.heap.size, 0, none⟩) n2 (6 * j + m1)) zs ∧ Clo j Y1 zs d ∧ Below w'.heap.size w' wr)
        (fun _ i _ => ((intOf i) + 1).toNat)
      case atStart => exact ⟨j, l + m1, zs, Nat.le_refl _, rfl, rfl, rfl, t1, clo, bel⟩
      case round =>
        clear t1 clo bel
        obtain ⟨d, n2, zs, hd, hn2, rfl, rfl, ho, clo, bel⟩ := hrel
        cases d with
        | succ d =>
          have hn3 : n2 + 1 ≤ 6 * j + m1 := by have := hn2.out; omega
          have hge : (0 : Int) ≤ ((d + 1 : Nat) : Int) - 1 := by omega
          have ei : (((d + 1 : Nat) : Int) - 1) = (d : Int) := by omega
          have hge' : (0 : Int) ≤ (d : Int) := by omega
          rw [ei]
          clear hge ei
          by_cases he : d % 2 = 0
          · have b3 : ((d : Int) % 2 == 0) = true := by simp; omega
            have HE : Hid (d % 2 = 0) := he
            clear he
            go_wp2_with (at_builtin; refine app_fits_z _ rfl (.tmp 65) (.tmp 66) rfl wc.heap.size wc.heap.size _ _ _ rfl ho [93] rfl (by simp <;> omega) ?_)
            intro zs' x2 hz t2 hb2
            replace bel := bel.trans (hb2.mono hgap)
            have clo2 := clo.even HE.out hz
            clear hz ho hb2 clo
            go_wp2_with fail
            go_roundw
            case rel => exact ⟨d, n2 + 1, zs', by omega, by have := hn2.out; unfold Hid; omega, rfl, rfl, t2, clo2, bel⟩
            case measure => simp [intOf]
          · have b3 : ((d : Int) % 2 == 0) = false := by simp; omega
            have HE : Hid (¬ d % 2 = 0) := he
            clear he
            go_wp2_with (at_builtin; refine app_fits_z _ rfl (.tmp 68) (.tmp 69) rfl wc.heap.size wc.heap.size _ _ _ rfl ho [125] rfl (by simp <;> omega) ?_)
            intro zs' x2 hz t2 hb2
            replace bel := bel.trans (hb2.mono hgap)
            have clo2 := clo.odd HE.out hz
            clear hz ho hb2 clo
            go_wp2_with fail
            go_roundw
            case rel => exact ⟨d, n2 + 1, zs', by omega, by have := hn2.out; unfold Hid; omega, rfl, rfl, t2, clo2, bel⟩
            case measure => simp [intOf]
        | zero =>
          have HX : Hid (zs = opens j ++ (Y1 ++ closes j)) := clo.done
          have hn3 : n2 ≤ 1099511627776 := by have := hn2.out; omega
          have hn4 : j ≤ n2 := by have := hn2.out; omega
          clear clo
          have e0 : (((0 : Nat) : Int) - 1) = -1 := by omega
          rw [e0]
          clear e0
          go_wp2_with fail
          refine (zzval_eq ho (opens j) Y1 (closes j) HX.out hn3 v1 (closes_stop j) _ (by have := HL.out; omega) ((l : Int) + m1) (by have := HL.out; have := M1.out; omega)).mono ?_
          rintro e x3 ⟨rfl, rfl⟩
          rcases Nat.eq_zero_or_pos j with rfl | hpos
          · go_wp2_with fail
            go_ret
            exact ⟨rfl, bel⟩
          · have b5 : ((j : Int) == 0) = false := by simp; omega
            go_wp2_with fail
            refine (level_any ho j 0 Y1 v1 (by omega) (by omega) HX.out hn3 hn4 _ (by simp)).mono ?_
            rintro e x4 ⟨rfl, rfl⟩
            go_wp2_with fail
            refine (level_any ho j (j / 2) Y1 v1 (by omega) (by omega) HX.out hn3 hn4 _ (by omega)).mono ?_
            rintro e x5 ⟨rfl, rfl⟩
            go_wp2_with fail
            refine (level_any ho j (j - 1) Y1 v1 (by omega) (by omega) HX.out hn3 hn4 _ (by omega)).mono ?_
            rintro e x6 ⟨rfl, rfl⟩
            go_wp2_with fail
            go_ret
            exact ⟨rfl, bel⟩

/-- Function 10: for every input. -/
theorem walk10 (a0 : Option Addr) (l0 c0 : Nat) (z0 : List Int) (x : Int) (w : World) (w0 : Row w a0 l0 c0 z0) :
    Calls Try.prog 10 #[.slice a0 l0 c0, .int .i64 x] w fun e w' => e = .returned (.bool true) ∧ Below w.heap.size w w' := by
  by_cases h : l0 ≤ 8192
  · by_cases hx : x < 0 ∨ 65536 < x
    · exact walk10_off a0 l0 c0 x w h hx
    · obtain ⟨K, rfl⟩ := Int.eq_ofNat_of_zero_le (show 0 ≤ x by omega)
      exact walk10_main a0 l0 c0 z0 K w w0 h (by omega)
  · exact walk10_long a0 l0 c0 x w (by omega)

end Go.Proofs.Qxb6600932a
