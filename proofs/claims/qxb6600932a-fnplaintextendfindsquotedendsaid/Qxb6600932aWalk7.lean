/-
  Seat b6600932a: 'FnPlainTextEndFindsQuotedEnd' (function 7), walked.
-/
import Derived.Test.Qxb6600932aQuoted
namespace Go.Proofs.Qxb6600932a
open Go.RowKit

/-- One of the three is too long: the law answers true by itself. -/
theorem walk7_long (a0 a1 a2 : Option Addr) (l0 l1 l2 c0 c1 c2 : Nat) (w : World) (h : 262144 < l0 ∨ 262144 < l1 ∨ 262144 < l2) :
    Calls Try.prog 7 #[.slice a0 l0 c0, .slice a1 l1 c1, .slice a2 l2 c2] w fun e w' => e = .returned (.bool true) ∧ Below w.heap.size w w' := by
  have H : (262144 < (l0 : Int)) ∨ ((l0 : Int) ≤ 262144 ∧ 262144 < (l1 : Int)) ∨ ((l0 : Int) ≤ 262144 ∧ (l1 : Int) ≤ 262144 ∧ 262144 < (l2 : Int)) := by omega
  clear h
  rcases H with h | ⟨h, h'⟩ | ⟨h, h', h''⟩
  all_goals
    go_enter Try.func7, Try.ntmps7
    go_wp2_with fail
    refine (zz20_any _ _ _ _ _ _ _ _ _ _).mono ?_
    rintro e w' ⟨b, rfl, rfl⟩
    cases b
    all_goals
      go_wp2
      go_ret
      exact ⟨rfl, Below.refl _ _⟩

set_option maxHeartbeats 1000000 in
theorem walk7_short (a0 a1 a2 : Option Addr) (l0 l1 l2 c0 c1 c2 : Nat) (z0 z1 z2 : List Int) (w : World) (w0 : Row w a0 l0 c0 z0) (w1 : Row w a1 l1 c1 z1) (w2 : Row w a2 l2 c2 z2)
    (h0 : l0 ≤ 262144) (h1 : l1 ≤ 262144) (h2 : l2 ≤ 262144) :
    Calls Try.prog 7 #[.slice a0 l0 c0, .slice a1 l1 c1, .slice a2 l2 c2] w fun e w' => e = .returned (.bool true) ∧ Below w.heap.size w w' := by
  have H0 : Hid (Row w a0 l0 c0 z0) := w0
  have H1 : Hid (Row w a1 l1 c1 z1) := w1
  have H2 : Hid (Row w a2 l2 c2 z2) := w2
  clear w0 w1 w2
  go_enter Try.func7, Try.ntmps7
  go_wp2_with fail
  refine (zz20_true _ _ _ _ _ _ _ _ _ _ h0 h1 h2).mono ?_
  rintro e w' ⟨rfl, rfl⟩
  go_wp2_with fail
  refine (clone_any a0 l0 c0 z0 _ (by omega) H0.out).mono ?_
  rintro e wa ⟨ao0, d0, rfl, own0, len0, byt0, bel0⟩
  generalize z0.take l0 = P at own0 len0 byt0
  go_wp2_with fail
  refine (clone_any a1 l1 c1 z1 _ (by omega) (H1.out.keep bel0)).mono ?_
  rintro e wb ⟨ao1, d1, rfl, own1, len1, byt1, bel1⟩
  generalize z1.take l1 = S at own1 len1 byt1
  go_wp2_with fail
  refine (clone_any a2 l2 c2 z2 _ (by omega) ((H2.out.keep bel0).keep bel1)).mono ?_
  rintro e wc ⟨ao2, d2, rfl, own2, len2, byt2, bel2⟩
  generalize z2.take l2 = X at own2 len2 byt2
  have sz1 := bel0.size
  have sz2 := bel1.size
  have sz3 := bel2.size
  have lie0 := ((own0.lies.keep bel1).mono sz2).keep bel2 |>.mono sz3
  have lie1 := (own1.lies.keep bel2).mono sz3
  have lie2 := own2.lies
  have belc : Below w'.heap.size w' wc := (bel0.trans (bel1.mono sz1)).trans (bel2.mono (by omega))
  clear own0 own1 own2 H0 H1 H2 bel0 bel1 bel2
  go_wp2_with (at_make; refine make_own _ rfl _ _ rfl _ (l0 + l1 + l2 + 2) rfl rfl (by omega) (by omega) ?_)
  intro w4 ht hbt hsz
  replace lie0 := lie0.keep hbt
  replace lie1 := lie1.keep hbt
  replace lie2 := lie2.keep hbt
  replace belc := belc.trans (hbt.mono (by omega))
  clear hbt
  go_wp2_with (at_builtin; refine app_fits_own _ rfl (.tmp 39) (.tmp 40) rfl wc.heap.size wc.heap.size _ _ _ rfl ht 0 _ _ _ P lie0.1 rfl (by omega) ?_)
  intro w5 ht5 hb5
  replace lie1 := lie1.keep hb5
  replace lie2 := lie2.keep hb5
  replace belc := belc.trans (hb5.mono (by omega))
  have hsz5 := hb5.size
  clear hb5 ht lie0
  go_wp2_with (at_builtin; refine app_fits _ rfl (.tmp 42) (.tmp 43) rfl wc.heap.size wc.heap.size _ _ _ rfl ht5 [34] rfl (by simp; omega) ?_)
  intro w6 ht6 hb6
  replace lie1 := lie1.keep hb6
  replace lie2 := lie2.keep hb6
  replace belc := belc.trans (hb6.mono (by omega))
  have hsz6 := hb6.size
  clear hb6 ht5
  go_wp2_with fail
  have HL0 : Hid (P.length = l0) := len0
  clear hsz5 hsz len0
  go_loopw [7, 8] (fun t i wr => ∃ k : Nat, k ≤ l1 ∧ i = .int .i64 k ∧ t = .slice (some ⟨wc.heap.size, 0, none⟩) (l0 + 1 + k) (l0 + l1 + l2 + 2) ∧
      Own wc.heap.size wr (.slice (some ⟨wc.heap.size, 0, none⟩) (l0 + 1 + k) (l0 + l1 + l2 + 2)) (qd P S k) ∧ Lies wc.heap.size wr (.slice ao1 l1 d1) S ∧ Lies wc.heap.size wr (.slice ao2 l2 d2) X ∧ Below w'.heap.size w' wr)
    (fun _ i _ => l1 - (intOf i).toNat)
  case atStart => exact ⟨0, Nat.zero_le _, rfl, rfl, by rw [qd_zero]; exact ht6, lie1, lie2, belc⟩
  case round =>
    clear ht6 lie1 lie2 belc hsz6
    obtain ⟨k, hk, rfl, rfl, htr, lie1, lie2, belr⟩ := hrel
    by_cases hlt : k < l1
    · obtain ⟨g, rfl, hg⟩ := lie1.at (by intro h; subst h; simp at len1; omega)
      have hcx := lie1.cells k (by omega)
      have hb := byt1 (S.getD k 0) (by rw [List.getD, List.getElem?_eq_getElem (by omega)]; exact List.getElem_mem _)
      have HN : Hid (qd P S k ++ [pb (S.getD k 0)] = qd P S (k + 1)) := qd_succ P S k (by omega)
      generalize S.getD k 0 = y at hcx hb HN
      have hlt' : (k : Int) < (l1 : Int) := by omega
      go_wp2_with (first | (go_at_call 21; refine (plainByte_any _ _ hb.1 hb.2).mono ?_; rintro e w7 ⟨rfl, rfl⟩) | (at_builtin; refine app_fits _ rfl (.tmp 51) (.tmp 57) rfl wc.heap.size wc.heap.size _ _ _ rfl htr [pb y] rfl (by simp; omega) ?_))
      intro w8 ht8 hb8
      rw [HN.out] at ht8
      replace lie1 := lie1.keep hb8
      replace lie2 := lie2.keep hb8
      replace belr := belr.trans (hb8.mono (by omega))
      clear hcx htr hb8
      go_wp2
      go_roundw
      case rel => exact ⟨k + 1, by omega, by go_num, rfl, ht8, lie1, lie2, belr⟩
      case measure => simp [intOf]; omega
    · obtain rfl : k = l1 := by omega
      go_wp2_with (at_builtin; refine app_fits _ rfl (.tmp 59) (.tmp 60) rfl wc.heap.size wc.heap.size _ _ _ rfl htr [34] rfl (by simp; omega) ?_)
      intro w8 ht8 hb8
      replace lie2 := lie2.keep hb8
      replace belr := belr.trans (hb8.mono (by omega))
      clear htr hb8
      go_wp2_with (at_builtin; refine app_fits_own _ rfl (.tmp 62) (.tmp 63) rfl wc.heap.size wc.heap.size _ _ _ rfl ht8 0 _ _ _ X lie2.1 rfl (by omega) ?_)
      intro w9 ht9 hb9
      replace belr := belr.trans (hb9.mono (by omega))
      clear ht8 hb9
      go_wp2_with fail
      have e9 : qd P S k ++ 34 :: X = P ++ (34 :: (S.map pb ++ 34 :: X)) := by
        rw [← len1, qd_full]; simp
      rw [e9] at ht9
      have h18 := zz_quoted P (S.map pb) (34 :: X) ht9 (by omega) (by intro x hx; obtain ⟨y, _, rfl⟩ := List.mem_map.1 hx; exact pb_plain y) ((l0 : Int) + k + 2) (.inl ⟨X, rfl, by rw [HL0.out, List.length_map, len1]⟩)
      rw [HL0.out] at h18
      clear ht9 e9
      refine h18.mono ?_
      clear h18
      rintro e w10 ⟨rfl, rfl⟩
      go_wp2
      go_ret
      exact ⟨by simp, belr⟩

/-- Function 7: for every input. -/
theorem walk7 (a0 a1 a2 : Option Addr) (l0 l1 l2 c0 c1 c2 : Nat) (z0 z1 z2 : List Int) (w : World) (w0 : Row w a0 l0 c0 z0) (w1 : Row w a1 l1 c1 z1) (w2 : Row w a2 l2 c2 z2) :
    Calls Try.prog 7 #[.slice a0 l0 c0, .slice a1 l1 c1, .slice a2 l2 c2] w fun e w' => e = .returned (.bool true) ∧ Below w.heap.size w w' := by
  by_cases h : l0 ≤ 262144 ∧ l1 ≤ 262144 ∧ l2 ≤ 262144
  · exact walk7_short a0 a1 a2 l0 l1 l2 c0 c1 c2 z0 z1 z2 w w0 w1 w2 h.1 h.2.1 h.2.2
  · exact walk7_long a0 a1 a2 l0 l1 l2 c0 c1 c2 w (by omega)

end Go.Proofs.Qxb6600932a
