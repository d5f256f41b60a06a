/-
  Seat b6600932a: 'FnPlainTextEndRefusesBadByte' (function 8), walked.
-/
import Derived.Test.Qxb6600932aQuoted
namespace Go.Proofs.Qxb6600932a
open Go.RowKit

/-- One of the two is too long: the law answers true by itself. -/
theorem walk8_long (a0 a1 : Option Addr) (l0 l1 c0 c1 : Nat) (x y : Int) (w : World) (h : 262144 < l0 ∨ 262144 < l1) :
    Calls Try.prog 8 #[.slice a0 l0 c0, .slice a1 l1 c1, .int .i64 x, .int .u8 y] w fun e w' => e = .returned (.bool true) ∧ Below w.heap.size w w' := by
  have H : (262144 < (l0 : Int)) ∨ ((l0 : Int) ≤ 262144 ∧ 262144 < (l1 : Int)) := by omega
  clear h
  rcases H with h | ⟨h, h'⟩
  all_goals
    go_enter Try.func8, Try.ntmps8
    go_wp2_with fail
    refine (zz22_any _ _ _ _ _ _ _ _ _).mono ?_
    rintro e w' ⟨b, rfl, rfl⟩
    cases b
    all_goals
      go_wp2
      go_ret
      exact ⟨rfl, Below.refl _ _⟩

/-- The place is none of s. -/
theorem walk8_off (a0 a1 : Option Addr) (l0 l1 c0 c1 : Nat) (x y : Int) (w : World) (h0 : l0 ≤ 262144) (h1 : l1 ≤ 262144) (h : x < 0 ∨ (l1 : Int) < x) :
    Calls Try.prog 8 #[.slice a0 l0 c0, .slice a1 l1 c1, .int .i64 x, .int .u8 y] w fun e w' => e = .returned (.bool true) ∧ Below w.heap.size w w' := by
  by_cases hn : x < 0
  · have b1 : decide (x < 0) = true := by simpa using hn
    clear h
    go_enter Try.func8, Try.ntmps8
    go_wp2_with fail
    refine (zz22_true _ _ _ _ _ _ _ _ _ h0 h1).mono ?_
    rintro e w' ⟨rfl, rfl⟩
    go_wp2
    go_ret
    exact ⟨rfl, Below.refl _ _⟩
  · have b1 : decide (x < 0) = false := by simpa using hn
    have hx : (l1 : Int) < x := by omega
    have b2 : decide ((l1 : Int) < x) = true := by simpa using hx
    clear h
    go_enter Try.func8, Try.ntmps8
    go_wp2_with fail
    refine (zz22_true _ _ _ _ _ _ _ _ _ h0 h1).mono ?_
    rintro e w' ⟨rfl, rfl⟩
    go_wp2
    go_ret
    exact ⟨rfl, Below.refl _ _⟩

/-- The byte is not bad. -/
theorem walk8_fine (a0 a1 : Option Addr) (l0 l1 c0 c1 : Nat) (m : Nat) (y : Int) (w : World) (h0 : l0 ≤ 262144) (h1 : l1 ≤ 262144) (hm : m ≤ l1) (h : 32 ≤ y ∧ y ≤ 126 ∧ y ≠ 92) :
    Calls Try.prog 8 #[.slice a0 l0 c0, .slice a1 l1 c1, .int .i64 m, .int .u8 y] w fun e w' => e = .returned (.bool true) ∧ Below w.heap.size w w' := by
  obtain ⟨y1, y2, y3⟩ := h
  have b1 : decide ((m : Int) < 0) = false := by simp
  have b2 : decide ((l1 : Int) < m) = false := by simp; omega
  have b3 : decide (32 ≤ y) = true := by simpa using y1
  have b4 : decide (y ≤ 126) = true := by simpa using y2
  have b5 : (y != 92) = true := by simpa using y3
  clear y3
  go_enter Try.func8, Try.ntmps8
  go_wp2_with fail
  refine (zz22_true _ _ _ _ _ _ _ _ _ h0 h1).mono ?_
  rintro e w' ⟨rfl, rfl⟩
  go_wp2
  go_ret
  exact ⟨rfl, Below.refl _ _⟩

set_option maxHeartbeats 2000000 in
theorem walk8_bad (a0 a1 : Option Addr) (l0 l1 c0 c1 : Nat) (z0 z1 : List Int) (m : Nat) (y : Int) (w : World) (w0 : Row w a0 l0 c0 z0) (w1 : Row w a1 l1 c1 z1)
    (h0 : l0 ≤ 262144) (h1 : l1 ≤ 262144) (hm : m ≤ l1)
    (hy : ((decide (32 ≤ y) = false) ∨ (decide (32 ≤ y) = true ∧ decide (y ≤ 126) = false)) ∨ (decide (32 ≤ y) = true ∧ decide (y ≤ 126) = true ∧ (y != 92) = false)) :
    Calls Try.prog 8 #[.slice a0 l0 c0, .slice a1 l1 c1, .int .i64 m, .int .u8 y] w fun e w' => e = .returned (.bool true) ∧ Below w.heap.size w w' := by
  have H0 : Hid (Row w a0 l0 c0 z0) := w0
  have H1 : Hid (Row w a1 l1 c1 z1) := w1
  have HY : Hid (y ≠ 34 ∧ (y < 32 ∨ 126 < y ∨ y = 92)) := by unfold Hid; simp at hy; omega
  have b1 : decide ((m : Int) < 0) = false := by simp
  have b2 : decide ((l1 : Int) < m) = false := by simp; omega
  clear w0 w1
  rcases hy with (b3 | ⟨b3, b4⟩) | ⟨b3, b4, b5⟩
  all_goals
    go_enter Try.func8, Try.ntmps8
    go_wp2_with fail
    refine (zz22_true _ _ _ _ _ _ _ _ _ h0 h1).mono ?_
    rintro e w' ⟨rfl, rfl⟩
    go_wp2_with fail
    refine (clone_any a0 l0 c0 z0 _ (by omega) H0.out).mono ?_
    rintro e wa ⟨ao0, d0, rfl, own0, len0, byt0, bel0⟩
    generalize z0.take l0 = P at own0 len0 byt0
    go_wp2_with fail
    refine (clone_any a1 l1 c1 z1 _ (by omega) (H1.out.keep bel0)).mono ?_
    rintro e wc ⟨ao1, d1, rfl, own1, len1, byt1, bel1⟩
    generalize z1.take l1 = S at own1 len1 byt1
    have sz1 := bel0.size
    have sz2 := bel1.size
    have lie0 := (own0.lies.keep bel1).mono sz2
    have lie1 := own1.lies
    have belc : Below w'.heap.size w' wc := bel0.trans (bel1.mono sz1)
    clear own0 own1 H0 H1 bel0 bel1
    go_wp2_with (at_make; refine make_own _ rfl _ _ rfl _ (l0 + l1 + 3) rfl rfl (by omega) (by omega) ?_)
    intro w4 ht hbt hsz
    replace lie0 := lie0.keep hbt
    replace lie1 := lie1.keep hbt
    replace belc := belc.trans (hbt.mono (by omega))
    clear hbt
    go_wp2_with (at_builtin; refine app_fits_own _ rfl (.tmp 53) (.tmp 54) rfl wc.heap.size wc.heap.size _ _ _ rfl ht 0 _ _ _ P lie0.1 rfl (by omega) ?_)
    intro w5 ht5 hb5
    replace lie1 := lie1.keep hb5
    replace belc := belc.trans (hb5.mono (by omega))
    clear hb5 ht lie0 hsz
    go_wp2_with (at_builtin; refine app_fits _ rfl (.tmp 56) (.tmp 57) rfl wc.heap.size wc.heap.size _ _ _ rfl ht5 [34] rfl (by simp; omega) ?_)
    intro w6 ht6 hb6
    replace lie1 := lie1.keep hb6
    replace belc := belc.trans (hb6.mono (by omega))
    clear hb6 ht5
    go_wp2_with fail
    have HL0 : Hid (P.length = l0) := len0
    clear len0
    go_loopw [9, 10] (fun t i wr => ∃ k : Nat, k ≤ m ∧ i = .int .i64 k ∧ t = .slice (some ⟨wc.heap.size, 0, none⟩) (l0 + 1 + k) (l0 + l1 + 3) ∧
        Own wc.heap.size wr (.slice (some ⟨wc.heap.size, 0, none⟩) (l0 + 1 + k) (l0 + l1 + 3)) (qd P S k) ∧ Lies wc.heap.size wr (.slice ao1 l1 d1) S ∧ Below w'.heap.size w' wr)
      (fun _ i _ => m - (intOf i).toNat)
    case atStart => exact ⟨0, Nat.zero_le _, rfl, rfl, by rw [qd_zero]; exact ht6, lie1, belc⟩
    case round =>
      clear ht6 lie1 belc
      obtain ⟨k, hk, rfl, rfl, htr, lie1, belr⟩ := hrel
      by_cases hlt : k < m
      · obtain ⟨g, rfl, hg⟩ := lie1.at (by intro h; subst h; simp at len1; omega)
        have hcx := lie1.cells k (by omega)
        have hb := byt1 (S.getD k 0) (by rw [List.getD, List.getElem?_eq_getElem (by omega)]; exact List.getElem_mem _)
        have HN : Hid (qd P S k ++ [pb (S.getD k 0)] = qd P S (k + 1)) := qd_succ P S k (by omega)
        generalize S.getD k 0 = z at hcx hb HN
        have hlt' : (k : Int) < (m : Int) := by omega
        have hlt2 : (k : Int) < (l1 : Int) := by omega
        go_wp2_with (first | (go_at_call 21; refine (plainByte_any _ _ hb.1 hb.2).mono ?_; rintro e w7 ⟨rfl, rfl⟩) | (at_builtin; refine app_fits _ rfl (.tmp 64) (.tmp 70) rfl wc.heap.size wc.heap.size _ _ _ rfl htr [pb z] rfl (by simp; omega) ?_))
        intro w8 ht8 hb8
        rw [HN.out] at ht8
        replace lie1 := lie1.keep hb8
        replace belr := belr.trans (hb8.mono (by omega))
        clear hcx htr hb8
        go_wp2
        go_roundw
        case rel => exact ⟨k + 1, by omega, by go_num, rfl, ht8, lie1, belr⟩
        case measure => simp [intOf]; omega
      · obtain rfl : k = m := by omega
        go_wp2_with (at_builtin; refine app_fits _ rfl (.tmp 72) (.tmp 74) rfl wc.heap.size wc.heap.size _ _ _ rfl htr [y] rfl (by simp; omega) ?_)
        intro w8 ht8 hb8
        replace lie1 := lie1.keep hb8
        replace belr := belr.trans (hb8.mono (by omega))
        clear htr hb8
        go_wp2_with fail
        obtain ⟨wo, rfl⟩ : ∃ wo : World, wo = wr := ⟨_, rfl⟩
        go_loopw [9, 11] (fun t i wr => ∃ (j : Nat) (ys : List Int), k ≤ j ∧ j ≤ l1 ∧ i = .int .i64 j ∧ t = .slice (some ⟨wc.heap.size, 0, none⟩) (l0 + 1 + j + 1) (l0 + l1 + 3) ∧
            Own wc.heap.size wr (.slice (some ⟨wc.heap.size, 0, none⟩) (l0 + 1 + j + 1) (l0 + l1 + 3)) (qd P S k ++ (y :: ys)) ∧ Lies wc.heap.size wr (.slice ao1 l1 d1) S ∧ Below w'.heap.size w' wr)
          (fun _ i _ => l1 - (intOf i).toNat)
        case atStart => exact ⟨k, [], Nat.le_refl _, hm, rfl, rfl, ht8, lie1, belr⟩
        case round =>
          clear ht8 lie1 belr
          obtain ⟨j, ys, hj1, hj2, rfl, rfl, htr, lie1, belr⟩ := hrel
          by_cases hlt : j < l1
          · obtain ⟨g, rfl, hg⟩ := lie1.at (by intro h; subst h; simp at len1; omega)
            have hcx := lie1.cells j (by omega)
            have hb := byt1 (S.getD j 0) (by rw [List.getD, List.getElem?_eq_getElem (by omega)]; exact List.getElem_mem _)
            generalize S.getD j 0 = z at hcx hb
            have hlt2 : (j : Int) < (l1 : Int) := by omega
            go_wp2_with (first | (go_at_call 21; refine (plainByte_any _ _ hb.1 hb.2).mono ?_; rintro e w7 ⟨rfl, rfl⟩) | (at_builtin; refine app_fits _ rfl (.tmp 83) (.tmp 89) rfl wc.heap.size wc.heap.size _ _ _ rfl htr [pb z] rfl (by simp; omega) ?_))
            intro w9 ht9 hb9
            replace lie1 := lie1.keep hb9
            replace belr := belr.trans (hb9.mono (by omega))
            clear hcx htr hb9
            go_wp2
            go_roundw
            case rel => exact ⟨j + 1, ys ++ [pb z], by omega, by omega, by go_num, by go_num, by simpa [Nat.add_assoc, Nat.add_comm, Nat.add_left_comm] using ht9, lie1, belr⟩
            case measure => simp [intOf]; omega
          · obtain rfl : j = l1 := by omega
            go_wp2_with (at_builtin; refine app_fits _ rfl (.tmp 91) (.tmp 92) rfl wc.heap.size wc.heap.size _ _ _ rfl htr [34] rfl (by simp; omega) ?_)
            intro w9 ht9 hb9
            replace belr := belr.trans (hb9.mono (by omega))
            clear htr hb9
            go_wp2_with fail
            have e9 : qd P S k ++ y :: (ys ++ [34]) = P ++ (34 :: ((S.take k).map pb ++ (y :: (ys ++ [34])))) := by simp [qd]
            rw [e9] at ht9
            have h18 := zz_quoted P ((S.take k).map pb) (y :: (ys ++ [34])) ht9 (by omega) (by intro x hx; obtain ⟨z, _, rfl⟩ := List.mem_map.1 hx; exact pb_plain z) (-1) (.inr ⟨rfl, .inr ⟨y, _, rfl, HY.out.1, HY.out.2⟩⟩)
            rw [HL0.out] at h18
            clear ht9 e9
            refine h18.mono ?_
            clear h18
            rintro e w10 ⟨rfl, rfl⟩
            go_wp2
            go_ret
            exact ⟨by simp, belr⟩

/-- Function 8: for every input. -/
theorem walk8 (a0 a1 : Option Addr) (l0 l1 c0 c1 : Nat) (z0 z1 : List Int) (x y : Int) (w : World) (w0 : Row w a0 l0 c0 z0) (w1 : Row w a1 l1 c1 z1) :
    Calls Try.prog 8 #[.slice a0 l0 c0, .slice a1 l1 c1, .int .i64 x, .int .u8 y] w fun e w' => e = .returned (.bool true) ∧ Below w.heap.size w w' := by
  by_cases h : l0 ≤ 262144 ∧ l1 ≤ 262144
  · by_cases hx : x < 0 ∨ (l1 : Int) < x
    · exact walk8_off a0 a1 l0 l1 c0 c1 x y w h.1 h.2 hx
    · obtain ⟨m, rfl⟩ := Int.eq_ofNat_of_zero_le (show 0 ≤ x by omega)
      by_cases hy : 32 ≤ y ∧ y ≤ 126 ∧ y ≠ 92
      · exact walk8_fine a0 a1 l0 l1 c0 c1 m y w h.1 h.2 (by omega) hy
      · exact walk8_bad a0 a1 l0 l1 c0 c1 z0 z1 m y w w0 w1 h.1 h.2 (by omega) (by simp; omega)
  · exact walk8_long a0 a1 l0 l1 c0 c1 x y w (by omega)

end Go.Proofs.Qxb6600932a
