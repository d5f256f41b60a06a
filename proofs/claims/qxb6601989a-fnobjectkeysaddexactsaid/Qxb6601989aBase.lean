/-
  Seat b6601989a: shared ground: slices of strings that came in and of the call's own; sets of strings in a map[string]bool; 'zzCloneStrings' (9), 'zzStringsBytes' (6), walked.
-/
import Derived.Test.Qxb6601989aRows
import Derived.WalkKit
import Derived.WalkSpells
import Derived.WalkLawsBesides
import Derived.Maps.OwnSet
namespace Go.Proofs.Qxb6601989a
open Go.RowKit

theorem Try.info9 : (Try.prog.info? 9).map (fun i => (i.zero, i.size, i.bytes)) = some (some (.string ByteArray.empty), 1, 16) := by kernel_rfl

/-- What the walk is told of a slice of strings that came in. -/
def Strs (w : World) (a : Option Addr) (len cap : Nat) (ss : List ByteArray) : Prop :=
  (a = none ∧ len = 0 ∧ cap = 0 ∧ ss = []) ∨
  ∃ x, a = some x ∧ len ≤ cap ∧ cap ≤ maxLen ∧ ss.length = cap ∧ (∀ i, i < ss.length → w.cell? (x.add i) = some (.string (ss.getD i ByteArray.empty))) ∧ ∀ s ∈ ss, s.size ≤ maxLen

theorem Strs.keep {w w' : World} {a : Option Addr} {len cap : Nat} {zs : List ByteArray} (h : Strs w a len cap zs) (hb : Below w.heap.size w w') : Strs w' a len cap zs := by
  rcases h with h | ⟨x, h1, h2, h3, h4, h5, h6⟩
  · exact .inl h
  · exact .inr ⟨x, h1, h2, h3, h4, fun i hi => cell_later hb (h5 i hi), h6⟩

/-- The strings of a slice of the call's own. -/
def vs (xs : List ByteArray) : List Value := xs.map Value.string
theorem vs_length (xs : List ByteArray) : (vs xs).length = xs.length := by simp [vs]
theorem vs_append (xs ys : List ByteArray) : vs (xs ++ ys) = vs xs ++ vs ys := by simp [vs]
theorem vs_get (xs : List ByteArray) (j : Nat) (h : j < xs.length) : (vs xs)[j]? = some (.string (xs.getD j ByteArray.empty)) := by
  simp [vs, List.getD, h]
theorem vs_one (xs : List ByteArray) : ∀ u ∈ vs xs, u.oneCell' = true := by
  intro u hu
  obtain ⟨_, _, rfl⟩ := List.mem_map.1 hu
  rfl

/-- Short strings: what a key of a map wants. -/
def Sht (xs : List ByteArray) : Prop := ∀ s ∈ xs, s.size ≤ maxLen

/-- A slice value of the call's own holds the strings xs. -/
def OwnS (w : World) (v : Value) (xs : List ByteArray) : Prop := w.ownsRow 0 9 1 v xs.length (vs xs)

theorem OwnS.sh {w : World} {ao : Option Addr} {n cap : Nat} {xs : List ByteArray} (h : OwnS w (.slice ao n cap) xs) :
    n = xs.length ∧ ((ao = none ∧ cap = 0 ∧ xs = []) ∨ ∃ g, ao = some ⟨g, 0, none⟩ ∧ g < w.heap.size ∧ xs.length ≤ cap ∧ cap ≤ maxLen ∧ ∀ j, j < xs.length → w.cell? ⟨g, j, none⟩ = some (.string (xs.getD j ByteArray.empty))) := by
  have h' := h
  rcases h.2 with ⟨hv, hn⟩ | ⟨g, c, cur, hv, hb, hg, h1, h2, h3, h4⟩
  · simp only [Value.slice.injEq] at hv
    obtain ⟨rfl, rfl, rfl⟩ := hv
    have := List.eq_nil_of_length_eq_zero hn
    subst this
    exact ⟨rfl, .inl ⟨rfl, rfl, rfl⟩⟩
  · simp only [Value.slice.injEq] at hv
    obtain ⟨rfl, rfl, rfl⟩ := hv
    refine ⟨rfl, .inr ⟨g, rfl, (Array.getElem?_eq_some_iff.1 hg).1, h1, h2, fun j hj => ?_⟩⟩
    rw [World.ownsRow.cellAt h' j (by omega), vs_get xs j hj]

theorem OwnS.form {w : World} {v : Value} {xs : List ByteArray} (h : OwnS w v xs) : ∃ ao cap, v = .slice ao xs.length cap := by
  rcases h.2 with ⟨rfl, hn⟩ | ⟨g, c, cur, rfl, _⟩
  · rw [hn]; exact ⟨none, 0, rfl⟩
  · exact ⟨_, _, rfl⟩

/-- What is owned stays owned where its block stays. -/
theorem OwnS.kept {w w' : World} {v : Value} {xs : List ByteArray} (h : OwnS w v xs) (hk : ∀ k, v.ownBlock = some k → w'.heap[k]? = w.heap[k]?) : OwnS w' v xs := by
  refine ⟨h.1, ?_⟩
  rcases h.2 with hn | ⟨g, cap, cur, rfl, hbg, hg, r⟩
  · exact .inl hn
  · exact .inr ⟨g, cap, cur, rfl, hbg, by rw [hk g rfl]; exact hg, r⟩

theorem OwnS.lt {w : World} {v : Value} {xs : List ByteArray} (h : OwnS w v xs) (k : Nat) (hk : v.ownBlock = some k) : k < w.heap.size := (World.ownsRow.lt h k hk).2

/-! ### function 9 -/

theorem clone_nil (w : World) : Calls Try.prog 9 #[.slice none 0 0] w fun e w' => e = .returned (.slice none 0 0) ∧ w' = w := by
  have q22 : ∀ (w : World) (a : Option Addr) (n c n' c' : Nat), (binOp .eql 23 (.slice a n c) (.slice none n' c')).run Try.prog w = .ok (.bool a.isNone) w := fun w a n c n' c' => Lib.run_eql_slice_nil w _ _ a n c n' c' Try.underlying23
  go_enter Try.func9, Try.ntmps9
  go_wp2
  go_ret
  exact ⟨rfl, rfl⟩

def part (T : Nat → ByteArray) (len k : Nat) : List Value := (List.range len).map fun j => if j < k then .string (T j) else .string ByteArray.empty

theorem part_zero (T : Nat → ByteArray) (len : Nat) : part T len 0 = List.replicate len (.string ByteArray.empty) := by
  apply List.ext_getElem? ; intro j
  by_cases h : j < len <;> simp [part, h]

theorem part_get (T : Nat → ByteArray) (len k j : Nat) (h : j < len) : (part T len k)[j]? = some (if j < k then .string (T j) else .string ByteArray.empty) := by
  simp [part, h]

theorem part_set (T : Nat → ByteArray) (len k : Nat) : (part T len k).set k (.string (T k)) = part T len (k + 1) := by
  apply List.ext_getElem? ; intro j
  by_cases h : j < len
  · rw [part_get _ _ _ _ h, List.getElem?_set]
    by_cases e : k = j
    · subst e; simp [part, h]
    · rw [if_neg e, part_get _ _ _ _ h]
      by_cases hj : j < k
      · rw [if_pos hj, if_pos (by omega)]
      · rw [if_neg hj, if_neg (by omega)]
  · rw [List.getElem?_eq_none (by simp [part]; omega), List.getElem?_eq_none (by simp [part]; omega)]

theorem part_full (zs : List ByteArray) (len : Nat) (hz : len ≤ zs.length) : part (fun j => zs.getD j ByteArray.empty) len len = vs (zs.take len) := by
  apply List.ext_getElem? ; intro j
  by_cases h : j < len
  · rw [part_get _ _ _ _ h, if_pos h]; simp [vs, h, List.getD, show j < zs.length by omega]
  · rw [List.getElem?_eq_none (by simp [part]; omega), List.getElem?_eq_none (by simp [vs]; omega)]

set_option maxHeartbeats 800000 in
theorem clone_some (b off len cap : Nat) (T : Nat → ByteArray) (w : World) (hlen : len ≤ 1048576) (hb : b < w.heap.size)
    (hc : ∀ j, j < len → w.cell? ⟨b, off + j, none⟩ = some (.string (T j))) :
    Calls Try.prog 9 #[.slice (some ⟨b, off, none⟩) len cap] w fun e w' => ∃ v, e = .returned v ∧ w'.ownsRow w.heap.size 9 1 v len (part T len len) ∧ Below w.heap.size w w' := by
  have q22 : ∀ (w : World) (a : Option Addr) (n c n' c' : Nat), (binOp .eql 23 (.slice a n c) (.slice none n' c')).run Try.prog w = .ok (.bool a.isNone) w := fun w a n c n' c' => Lib.run_eql_slice_nil w _ _ a n c n' c' Try.underlying23
  obtain ⟨i0, hi, hz0, hz1, hz2⟩ := info_parts Try.info9
  go_enter Try.func9, Try.ntmps9
  go_wp2_with (at_make; refine wpList_make_full _ rfl _ _ 23 rfl w.heap.size 9 i0 (.string ByteArray.empty) 1 Try.underlying23 hi hz0 hz1 _ _ _ _ len rfl rfl rfl rfl ?b2 ?b3 (Nat.le_refl _) ?_)
  case b2 => rw [hz2]; omega
  case b3 => unfold maxLen; omega
  intro w0 hown0 hgrow0
  have hown1 : w0.ownsRow w.heap.size 9 1 (.slice (some ⟨w.heap.size, 0, none⟩) len len) len (part T len 0) := by
    rw [part_zero]; simpa [toList_madeCells_one] using hown0
  clear hown0
  go_wp2
  go_loopw [4] (fun i wr => ∃ k : Nat, k ≤ len ∧ i = .int .i64 k ∧ wr.ownsRow w.heap.size 9 1 (.slice (some ⟨w.heap.size, 0, none⟩) len len) len (part T len k) ∧ Below w.heap.size w wr)
    (fun i _ => len - (intOf i).toNat)
  case atStart => exact ⟨0, Nat.zero_le _, rfl, hown1, (Below.refl _ _).grown hgrow0 (Nat.le_refl _) (fun k h => by cases h)⟩
  case round =>
    obtain ⟨k, hk, rfl, hown, hbel⟩ := hrel
    clear hown1 hgrow0
    by_cases hlt : k < len
    · have hcx : wr.cell? ⟨b, off + k, none⟩ = some (.string (T k)) := (hbel.cell (by exact hb)).trans (hc k hlt)
      have hcy : wr.cell? ⟨w.heap.size, k, none⟩ = some (.string ByteArray.empty) := by
        rw [hown.cellAt k (by omega), part_get _ _ _ _ hlt, if_neg (by omega)]
      have hfy := hown.frozenAt k
      have R := hown.stored k (.string (T k))
      rw [part_set] at R
      have hlt' : (k : Int) < (len : Int) := by omega
      go_wp2
      go_roundw
      case rel => exact ⟨k + 1, by omega, by go_num, R.1, hbel.setCell (Nat.le_refl _) _⟩
      case measure => simp [intOf]; omega
    · obtain rfl : k = len := by omega
      go_wp2
      go_ret
      exact ⟨_, rfl, hown, hbel⟩

set_option maxHeartbeats 800000 in
theorem clone_empty (x : Addr) (cap : Nat) (w : World) :
    Calls Try.prog 9 #[.slice (some x) 0 cap] w fun e w' => ∃ v, e = .returned v ∧ w'.ownsRow w.heap.size 9 1 v 0 [] ∧ Below w.heap.size w w' := by
  have q22 : ∀ (w : World) (a : Option Addr) (n c n' c' : Nat), (binOp .eql 23 (.slice a n c) (.slice none n' c')).run Try.prog w = .ok (.bool a.isNone) w := fun w a n c n' c' => Lib.run_eql_slice_nil w _ _ a n c n' c' Try.underlying23
  obtain ⟨i0, hi, hz0, hz1, hz2⟩ := info_parts Try.info9
  go_enter Try.func9, Try.ntmps9
  go_wp2_with (at_make; refine wpList_make_full _ rfl _ _ 23 rfl w.heap.size 9 i0 (.string ByteArray.empty) 1 Try.underlying23 hi hz0 hz1 _ _ _ _ 0 rfl rfl rfl rfl ?b2 ?b3 (Nat.le_refl _) ?_)
  case b2 => rw [hz2]; omega
  case b3 => unfold maxLen; omega
  intro w0 hown0 hgrow0
  have hown1 : w0.ownsRow w.heap.size 9 1 (.slice (some ⟨w.heap.size, 0, none⟩) 0 0) 0 [] := by
    simpa [madeCells] using hown0
  clear hown0
  go_wp2
  refine wp_loop_rounds 1 ?_
  rw [rounds_succ]
  go_wp2
  go_ret
  exact ⟨_, rfl, hown1, (Below.refl _ _).grown hgrow0 (Nat.le_refl _) (fun k h => by cases h)⟩

theorem owns_zero {w : World} {B : Nat} {v : Value} {n : Nat} {xs : List Value} (h : w.ownsRow B 9 1 v n xs) : w.ownsRow 0 9 1 v n xs := by
  refine ⟨h.1, ?_⟩
  rcases h.2 with hn | ⟨g, cap, cur, hv, hb, r⟩
  · exact .inl hn
  · exact .inr ⟨g, cap, cur, hv, Nat.zero_le _, r⟩

/-- Function 9, whatever came in: a copy of the call's own, in a new block. -/
theorem clone_any (a : Option Addr) (len cap : Nat) (zs : List ByteArray) (w : World) (hlen : len ≤ 1048576) (h : Strs w a len cap zs) :
    Calls Try.prog 9 #[.slice a len cap] w fun e w' => ∃ ao c, e = .returned (.slice ao len c) ∧ OwnS w' (.slice ao len c) (zs.take len) ∧ (zs.take len).length = len ∧ Sht (zs.take len) ∧ (∀ k, (Value.slice ao len c).ownBlock = some k → w.heap.size ≤ k) ∧ Below w.heap.size w w' := by
  suffices H : Calls Try.prog 9 #[.slice a len cap] w fun e w' => ∃ v, e = .returned v ∧ w'.ownsRow w.heap.size 9 1 v len (vs (zs.take len)) ∧ (zs.take len).length = len ∧ Sht (zs.take len) ∧ Below w.heap.size w w' by
    refine H.mono ?_
    rintro e w' ⟨v, rfl, ho, hl, hb, hbe⟩
    have hlt := ho.lt
    have ho' : OwnS w' v (zs.take len) := by unfold OwnS; rw [hl]; exact owns_zero ho
    obtain ⟨ao, c, rfl⟩ := ho'.form
    rw [hl] at ho' hlt ⊢
    exact ⟨ao, c, rfl, ho', rfl, hb, fun k hk => (hlt k hk).1, hbe⟩
  rcases h with ⟨rfl, rfl, rfl, rfl⟩ | ⟨x, rfl, hl, hm, hz, hcell, hwz⟩
  · refine (clone_nil w).mono ?_
    rintro e w' ⟨rfl, rfl⟩
    exact ⟨_, rfl, World.ownsRow_nil _ _ _ _, rfl, (by intro x hx; simp at hx), Below.refl _ _⟩
  · have hlen' : (zs.take len).length = len := by simp; omega
    have hbyt : Sht (zs.take len) := fun y hy => hwz y (List.mem_of_mem_take hy)
    by_cases h0 : len = 0
    · subst h0
      refine (clone_empty x cap w).mono ?_
      rintro e w' ⟨v, rfl, ho, hb⟩
      exact ⟨v, rfl, by simpa [vs] using ho, hlen', hbyt, hb⟩
    · obtain ⟨b, off, spot⟩ := x
      have hc0 := hcell 0 (by omega)
      have hspot : spot = none := by simpa [Addr.add] using World.cell?_spot hc0
      subst hspot
      have hb : b < w.heap.size := by have := World.block_lt_of_cell? _ _ hc0; simpa [Addr.add] using this
      refine (clone_some b off len cap (fun j => zs.getD j ByteArray.empty) w hlen hb (fun j hj => by have := hcell j (by omega); rw [Addr.add_lit] at this; exact this)).mono ?_
      rintro e w' ⟨v, rfl, ho, hb⟩
      rw [part_full zs len (by omega)] at ho
      exact ⟨v, rfl, ho, hlen', hbyt, hb⟩

/-! ### function 6 -/

/-- What a slice of strings looks like to a reader: its length, and its cells where there are any. -/
def Rd (w : World) (a : Option Addr) (n : Nat) (T : Nat → ByteArray) : Prop := n = 0 ∨ ∃ b off, a = some ⟨b, off, none⟩ ∧ b < w.heap.size ∧ ∀ j, j < n → w.cell? ⟨b, off + j, none⟩ = some (.string (T j))

theorem Strs.rd {w : World} {a : Option Addr} {len cap : Nat} {zs : List ByteArray} (h : Strs w a len cap zs) : Rd w a len (fun j => zs.getD j ByteArray.empty) := by
  rcases h with ⟨_, h, _⟩ | ⟨x, rfl, hl, hm, hz, hcell, hwz⟩
  · exact .inl h
  · by_cases h0 : len = 0
    · exact .inl h0
    · obtain ⟨b, off, spot⟩ := x
      have hc0 := hcell 0 (by omega)
      have hspot : spot = none := by simpa [Addr.add] using World.cell?_spot hc0
      subst hspot
      have hb : b < w.heap.size := by have := World.block_lt_of_cell? _ _ hc0; simpa [Addr.add] using this
      exact .inr ⟨b, off, rfl, hb, fun j hj => by have := hcell j (by omega); rw [Addr.add_lit] at this; exact this⟩

theorem OwnS.rd {w : World} {ao : Option Addr} {n cap : Nat} {xs : List ByteArray} (h : OwnS w (.slice ao n cap) xs) : Rd w ao n (fun j => xs.getD j ByteArray.empty) := by
  obtain ⟨rfl, ⟨rfl, rfl, rfl⟩ | ⟨g, rfl, hg, _, _, hc⟩⟩ := h.sh
  · exact .inl rfl
  · exact .inr ⟨g, 0, rfl, hg, fun j hj => by rw [Nat.zero_add]; exact hc j hj⟩

set_option maxHeartbeats 800000 in
theorem bytes_any (a : Option Addr) (n cap : Nat) (T : Nat → ByteArray) (w : World) (h : Rd w a n T) (hn : n ≤ 1048576) :
    Calls Try.prog 6 #[.slice a n cap] w fun e w' => (∃ r : Int, e = .returned (.int .i64 r)) ∧ w' = w := by
  rcases h with rfl | ⟨b, off, rfl, _, hc⟩
  · go_enter Try.func6, Try.ntmps6
    go_wp2
    refine wp_loop_rounds 1 ?_
    rw [rounds_succ]
    go_wp2
    go_ret
    exact ⟨⟨_, rfl⟩, rfl⟩
  · go_enter Try.func6, Try.ntmps6
    go_wp2
    go_loop [3, 4] (fun t i => ∃ (k : Nat) (r : Int), k ≤ n ∧ i = .int .i64 k ∧ t = .int .i64 r) (fun _ i => n - (intOf i).toNat)
    case atStart => exact ⟨0, _, Nat.zero_le _, rfl, rfl⟩
    case round =>
      obtain ⟨k, r, hk, rfl, rfl⟩ := hrel
      by_cases hlt : k < n
      · have hcx := hc k hlt
        have hlt' : (k : Int) < (n : Int) := by omega
        go_wp2
        · go_ret
          exact ⟨⟨_, rfl⟩, rfl⟩
        · go_round
          case rel => exact ⟨k + 1, _, by omega, by go_num, rfl⟩
          case measure => simp [intOf]; omega
      · obtain rfl : k = n := by omega
        go_wp2
        go_ret
        exact ⟨⟨_, rfl⟩, rfl⟩

end Go.Proofs.Qxb6601989a
