/-
  Seat b6600932a: shared ground: what a slice of bytes that came in reads as; 'cloneBytesB1' (function 12) walked once.
-/
import Derived.Test.Qxb6600932aRows
import Derived.WalkKit
import Derived.WalkSpells
import Derived.WalkLawsBesides
import Derived.OpenShut
namespace Go.Proofs.Qxb6600932a
open Go.RowKit

theorem Try.info5 : (Try.prog.info? 5).map (fun i => (i.zero, i.size, i.bytes)) = some (some (.int .u8 0), 1, 1) := by kernel_rfl

/-- What the walk is told of a slice of bytes that came in (the shells' own 'IsRow' at u8). -/
def Row (w : World) (a : Option Addr) (len cap : Nat) (zs : List Int) : Prop :=
  (a = none ∧ len = 0 ∧ cap = 0 ∧ zs = []) ∨
  ∃ x, a = some x ∧ len ≤ cap ∧ cap ≤ maxLen ∧ zs.length = cap ∧ (∀ i, i < zs.length → w.cell? (x.add i) = some (.int .u8 (zs.getD i 0))) ∧ ∀ n ∈ zs, (Lit.int .u8 n).wf = true

/-- The bytes of a slice of the call's own. -/
def bs (xs : List Int) : List Value := xs.map (Value.int .u8)

theorem bs_length (xs : List Int) : (bs xs).length = xs.length := by simp [bs]
theorem bs_append (xs ys : List Int) : bs (xs ++ ys) = bs xs ++ bs ys := by simp [bs]
theorem bs_get (xs : List Int) (j : Nat) (h : j < xs.length) : (bs xs)[j]? = some (.int .u8 (xs.getD j 0)) := by
  simp [bs, List.getD, h]

/-- The bytes are bytes. -/
def Byt (xs : List Int) : Prop := ∀ x ∈ xs, 0 ≤ x ∧ x ≤ 255

/-- A slice value v of the call's own (blocks from B on) holds the bytes xs. -/
def Own (B : Nat) (w : World) (v : Value) (xs : List Int) : Prop := w.ownsRow B 5 1 v xs.length (bs xs)

/-- The two shapes of such a value. -/
theorem Own.shape {B : Nat} {w : World} {v : Value} {xs : List Int} (h : Own B w v xs) :
    (v = .slice none 0 0 ∧ xs = []) ∨ ∃ g cap, v = .slice (some ⟨g, 0, none⟩) xs.length cap ∧ B ≤ g ∧ g < w.heap.size ∧ xs.length ≤ cap ∧ cap ≤ maxLen ∧ ∀ j, j < xs.length → w.cell? ⟨g, j, none⟩ = some (.int .u8 (xs.getD j 0)) := by
  have h' := h
  rcases h.2 with ⟨rfl, hn⟩ | ⟨g, cap, cur, rfl, hb, hg, h1, h2, h3, h4⟩
  · exact .inl ⟨rfl, List.eq_nil_of_length_eq_zero hn⟩
  · refine .inr ⟨g, cap, rfl, hb, (Array.getElem?_eq_some_iff.1 hg).1, h1, h2, fun j hj => ?_⟩
    rw [World.ownsRow.cellAt h' j (by omega), bs_get xs j hj]

theorem Own.keep {B B' : Nat} {w w' : World} {v : Value} {xs : List Int} (h : Own B w v xs) (hb : Below B' w w') (hlt : w.heap.size ≤ B') : Own B w' v xs := by
  refine ⟨h.1, ?_⟩
  rcases h.2 with hn | ⟨g, cap, cur, rfl, hbg, hg, r⟩
  · exact .inl hn
  · exact .inr ⟨g, cap, cur, rfl, hbg, by rw [hb.block g (Nat.lt_of_lt_of_le (Array.getElem?_eq_some_iff.1 hg).1 hlt)]; exact hg, r⟩

/-- A slice value that holds the bytes xs, its row below block B: for what is only read while blocks from B on are written. -/
def Lies (B : Nat) (w : World) (v : Value) (xs : List Int) : Prop := Own 0 w v xs ∧ ∀ k, v.ownBlock = some k → k < B

theorem Own.zero {B : Nat} {w : World} {v : Value} {xs : List Int} (h : Own B w v xs) : Own 0 w v xs := by
  refine ⟨h.1, ?_⟩
  rcases h.2 with hn | ⟨g, cap, cur, hv, hb, r⟩
  · exact .inl hn
  · exact .inr ⟨g, cap, cur, hv, Nat.zero_le _, r⟩

theorem Own.lies {B : Nat} {w : World} {v : Value} {xs : List Int} (h : Own B w v xs) : Lies w.heap.size w v xs := ⟨h.zero, fun k hk => (World.ownsRow.lt h k hk).2⟩

theorem Lies.mono {B B' : Nat} {w : World} {v : Value} {xs : List Int} (h : Lies B w v xs) (hB : B ≤ B') : Lies B' w v xs := ⟨h.1, fun k hk => Nat.lt_of_lt_of_le (h.2 k hk) hB⟩

theorem Lies.keep {B : Nat} {w w' : World} {v : Value} {xs : List Int} (h : Lies B w v xs) (hb : Below B w w') : Lies B w' v xs := by
  refine ⟨⟨h.1.1, ?_⟩, h.2⟩
  rcases h.1.2 with hn | ⟨g, cap, cur, hv, hbg, hg, r⟩
  · exact .inl hn
  · exact .inr ⟨g, cap, cur, hv, hbg, by rw [hb.block g (h.2 g (by rw [hv]; rfl))]; exact hg, r⟩

/-- The cell of such a slice, as the walk asks for it. -/
theorem Lies.at {B : Nat} {w : World} {ao : Option Addr} {n cap : Nat} {xs : List Int} (h : Lies B w (.slice ao n cap) xs) (hx : xs ≠ []) :
    ∃ g, ao = some ⟨g, 0, none⟩ ∧ g < B := by
  rcases h.1.2 with ⟨_, hn⟩ | ⟨g, c, cur, hv, _⟩
  · exact absurd (List.eq_nil_of_length_eq_zero hn) hx
  · simp only [Value.slice.injEq] at hv
    obtain ⟨rfl, _, _⟩ := hv
    exact ⟨g, rfl, h.2 g rfl⟩

theorem Lies.cells {B : Nat} {w : World} {g n cap : Nat} {xs : List Int} (h : Lies B w (.slice (some ⟨g, 0, none⟩) n cap) xs) (j : Nat) (hj : j < xs.length) : w.cell? ⟨g, j, none⟩ = some (.int .u8 (xs.getD j 0)) := by
  rcases h.1.shape with ⟨hv, _⟩ | ⟨g', c, hv, _, _, _, _, hc⟩
  · simp at hv
  · simp only [Value.slice.injEq, Option.some.injEq, Addr.mk.injEq, and_true] at hv
    obtain ⟨rfl, _, _⟩ := hv
    exact hc j hj

theorem byt_of_wf {zs : List Int} (h : ∀ n ∈ zs, (Lit.int .u8 n).wf = true) : Byt zs := fun x hx => bounds_u8 (h x hx)

/-- nil: function 12 hands nil back. -/
theorem clone_nil (w : World) : Calls Try.prog 12 #[.slice none 0 0] w fun e w' => e = .returned (.slice none 0 0) ∧ w' = w := by
  have q22 : ∀ (w : World) (a : Option Addr) (n c n' c' : Nat), (binOp .eql 22 (.slice a n c) (.slice none n' c')).run Try.prog w = .ok (.bool a.isNone) w := fun w a n c n' c' => Lib.run_eql_slice_nil w _ _ a n c n' c' Try.underlying22
  go_enter Try.func12, Try.ntmps12
  go_wp2
  go_ret
  exact ⟨rfl, rfl⟩

/-- What the copy holds when k bytes of len are copied. -/
def part (T : Nat → Int) (len k : Nat) : List Value := (List.range len).map fun j => if j < k then .int .u8 (T j) else .int .u8 0

theorem part_zero (T : Nat → Int) (len : Nat) : part T len 0 = List.replicate len (.int .u8 0) := by
  apply List.ext_getElem? ; intro j
  by_cases h : j < len <;> simp [part, h]

theorem part_get (T : Nat → Int) (len k j : Nat) (h : j < len) : (part T len k)[j]? = some (if j < k then .int .u8 (T j) else .int .u8 0) := by
  simp [part, h]

theorem part_set (T : Nat → Int) (len k : Nat) : (part T len k).set k (.int .u8 (T k)) = part T len (k + 1) := by
  apply List.ext_getElem? ; intro j
  by_cases h : j < len
  · rw [part_get _ _ _ _ h, List.getElem?_set]
    by_cases e : k = j
    · subst e; simp [part, h]
    · rw [if_neg e, part_get _ _ _ _ h]
      by_cases hj : j < k
      · rw [if_pos hj, if_pos (by omega)]
      · rw [if_neg hj, if_neg (by omega)]
  · rw [List.getElem?_eq_none (by simp [part]; omega), List.getElem?_eq_none (by simp [part]; omega)]

theorem part_full (zs : List Int) (len : Nat) (hz : len ≤ zs.length) : part (fun j => zs.getD j 0) len len = bs (zs.take len) := by
  apply List.ext_getElem? ; intro j
  by_cases h : j < len
  · rw [part_get _ _ _ _ h, if_pos h]; simp [bs, h, List.getD, show j < zs.length by omega]
  · rw [List.getElem?_eq_none (by simp [part]; omega), List.getElem?_eq_none (by simp [bs]; omega)]

set_option maxHeartbeats 800000 in
theorem clone_some (b off len cap : Nat) (T : Nat → Int) (w : World) (hlen : len ≤ 1048576) (hb : b < w.heap.size)
    (hc : ∀ j, j < len → w.cell? ⟨b, off + j, none⟩ = some (.int .u8 (T j))) :
    Calls Try.prog 12 #[.slice (some ⟨b, off, none⟩) len cap] w fun e w' => ∃ v, e = .returned v ∧ w'.ownsRow w.heap.size 5 1 v len (part T len len) ∧ Below w.heap.size w w' := by
  have q22 : ∀ (w : World) (a : Option Addr) (n c n' c' : Nat), (binOp .eql 22 (.slice a n c) (.slice none n' c')).run Try.prog w = .ok (.bool a.isNone) w := fun w a n c n' c' => Lib.run_eql_slice_nil w _ _ a n c n' c' Try.underlying22
  obtain ⟨i0, hi, hz0, hz1, hz2⟩ := info_parts Try.info5
  go_enter Try.func12, Try.ntmps12
  go_wp2_with (at_make; refine wpList_make_full _ rfl _ _ 22 rfl w.heap.size 5 i0 (.int .u8 0) 1 Try.underlying22 hi hz0 hz1 _ _ _ _ len rfl rfl rfl rfl ?b2 ?b3 (Nat.le_refl _) ?_)
  case b2 => rw [hz2]; omega
  case b3 => unfold maxLen; omega
  intro w0 hown0 hgrow0
  have hown1 : w0.ownsRow w.heap.size 5 1 (.slice (some ⟨w.heap.size, 0, none⟩) len len) len (part T len 0) := by
    rw [part_zero]; simpa [toList_madeCells_one] using hown0
  clear hown0
  go_wp2
  go_loopw [4] (fun i wr => ∃ k : Nat, k ≤ len ∧ i = .int .i64 k ∧ wr.ownsRow w.heap.size 5 1 (.slice (some ⟨w.heap.size, 0, none⟩) len len) len (part T len k) ∧ Below w.heap.size w wr)
    (fun i _ => len - (intOf i).toNat)
  case atStart => exact ⟨0, Nat.zero_le _, rfl, hown1, (Below.refl _ _).grown hgrow0 (Nat.le_refl _) (fun k h => by cases h)⟩
  case round =>
    obtain ⟨k, hk, rfl, hown, hbel⟩ := hrel
    clear hown1 hgrow0
    by_cases hlt : k < len
    · have hcx : wr.cell? ⟨b, off + k, none⟩ = some (.int .u8 (T k)) := (hbel.cell (by exact hb)).trans (hc k hlt)
      have hcy : wr.cell? ⟨w.heap.size, k, none⟩ = some (.int .u8 0) := by
        rw [hown.cellAt k (by omega), part_get _ _ _ _ hlt, if_neg (by omega)]
      have hfy := hown.frozenAt k
      have R := hown.stored k (.int .u8 (T k))
      rw [part_set] at R
      have hlt' : (k : Int) < (len : Int) := by omega
      go_wp2
      go_roundw
      case rel => exact ⟨k + 1, by omega, by go_num, R.1, hbel.setCell (Nat.le_refl _) _⟩
      case measure => simp [intOf]; omega
    · obtain rfl : k = len := by omega
      go_wp2
      go_ret
      exact ⟨_, rfl, hown, hbel⟩

set_option maxHeartbeats 800000 in
theorem clone_empty (x : Addr) (cap : Nat) (w : World) :
    Calls Try.prog 12 #[.slice (some x) 0 cap] w fun e w' => ∃ v, e = .returned v ∧ w'.ownsRow w.heap.size 5 1 v 0 [] ∧ Below w.heap.size w w' := by
  have q22 : ∀ (w : World) (a : Option Addr) (n c n' c' : Nat), (binOp .eql 22 (.slice a n c) (.slice none n' c')).run Try.prog w = .ok (.bool a.isNone) w := fun w a n c n' c' => Lib.run_eql_slice_nil w _ _ a n c n' c' Try.underlying22
  obtain ⟨i0, hi, hz0, hz1, hz2⟩ := info_parts Try.info5
  go_enter Try.func12, Try.ntmps12
  go_wp2_with (at_make; refine wpList_make_full _ rfl _ _ 22 rfl w.heap.size 5 i0 (.int .u8 0) 1 Try.underlying22 hi hz0 hz1 _ _ _ _ 0 rfl rfl rfl rfl ?b2 ?b3 (Nat.le_refl _) ?_)
  case b2 => rw [hz2]; omega
  case b3 => unfold maxLen; omega
  intro w0 hown0 hgrow0
  have hown1 : w0.ownsRow w.heap.size 5 1 (.slice (some ⟨w.heap.size, 0, none⟩) 0 0) 0 [] := by
    simpa [madeCells] using hown0
  clear hown0
  go_wp2
  refine wp_loop_rounds 1 ?_
  rw [rounds_succ]
  go_wp2
  go_ret
  exact ⟨_, rfl, hown1, (Below.refl _ _).grown hgrow0 (Nat.le_refl _) (fun k h => by cases h)⟩

theorem Own.sh {B : Nat} {w : World} {ao : Option Addr} {n cap : Nat} {xs : List Int} (h : Own B w (.slice ao n cap) xs) :
    n = xs.length ∧ ((ao = none ∧ cap = 0 ∧ xs = []) ∨ ∃ g, ao = some ⟨g, 0, none⟩ ∧ B ≤ g ∧ g < w.heap.size ∧ xs.length ≤ cap ∧ cap ≤ maxLen ∧ ∀ j, j < xs.length → w.cell? ⟨g, j, none⟩ = some (.int .u8 (xs.getD j 0))) := by
  rcases h.shape with ⟨hv, hx⟩ | ⟨g, c, hv, r⟩
  · simp only [Value.slice.injEq] at hv
    obtain ⟨rfl, rfl, rfl⟩ := hv
    subst hx
    exact ⟨rfl, .inl ⟨rfl, rfl, rfl⟩⟩
  · simp only [Value.slice.injEq] at hv
    obtain ⟨rfl, rfl, rfl⟩ := hv
    exact ⟨rfl, .inr ⟨g, rfl, r⟩⟩

/-- Such a value is a slice of just so many elements. -/
theorem Own.form {B : Nat} {w : World} {v : Value} {xs : List Int} (h : Own B w v xs) : ∃ ao cap, v = .slice ao xs.length cap := by
  rcases h.shape with ⟨rfl, rfl⟩ | ⟨g, c, rfl, _⟩
  · exact ⟨none, 0, rfl⟩
  · exact ⟨_, _, rfl⟩

theorem Row.keep {w w' : World} {a : Option Addr} {len cap : Nat} {zs : List Int} (h : Row w a len cap zs) (hb : Below w.heap.size w w') : Row w' a len cap zs := by
  rcases h with h | ⟨x, h1, h2, h3, h4, h5, h6⟩
  · exact .inl h
  · exact .inr ⟨x, h1, h2, h3, h4, fun i hi => cell_later hb (h5 i hi), h6⟩

/-- Function 12, whatever came in: a copy of the call's own. -/
theorem clone_any (a : Option Addr) (len cap : Nat) (zs : List Int) (w : World) (hlen : len ≤ 1048576) (h : Row w a len cap zs) :
    Calls Try.prog 12 #[.slice a len cap] w fun e w' => ∃ ao c, e = .returned (.slice ao len c) ∧ Own w.heap.size w' (.slice ao len c) (zs.take len) ∧ (zs.take len).length = len ∧ Byt (zs.take len) ∧ Below w.heap.size w w' := by
  suffices H : Calls Try.prog 12 #[.slice a len cap] w fun e w' => ∃ v, e = .returned v ∧ Own w.heap.size w' v (zs.take len) ∧ (zs.take len).length = len ∧ Byt (zs.take len) ∧ Below w.heap.size w w' by
    refine H.mono ?_
    rintro e w' ⟨v, rfl, ho, hl, hb, hbe⟩
    obtain ⟨ao, c, rfl⟩ := ho.form
    rw [hl] at ho ⊢
    exact ⟨ao, c, rfl, ho, rfl, hb, hbe⟩
  rcases h with ⟨rfl, rfl, rfl, rfl⟩ | ⟨x, rfl, hl, hm, hz, hcell, hwz⟩
  · refine (clone_nil w).mono ?_
    rintro e w' ⟨rfl, rfl⟩
    exact ⟨_, rfl, World.ownsRow_nil _ _ _ _, rfl, (by intro x hx; simp at hx), Below.refl _ _⟩
  · have hlen' : (zs.take len).length = len := by simp; omega
    have hbyt : Byt (zs.take len) := fun y hy => byt_of_wf hwz y (List.mem_of_mem_take hy)
    by_cases h0 : len = 0
    · subst h0
      refine (clone_empty x cap w).mono ?_
      rintro e w' ⟨v, rfl, ho, hb⟩
      exact ⟨v, rfl, by simpa [Own, bs] using ho, hlen', hbyt, hb⟩
    · obtain ⟨b, off, spot⟩ := x
      have hc0 := hcell 0 (by omega)
      have hspot : spot = none := by simpa [Addr.add] using World.cell?_spot hc0
      subst hspot
      have hb : b < w.heap.size := by have := World.block_lt_of_cell? _ _ hc0; simpa [Addr.add] using this
      refine (clone_some b off len cap (fun j => zs.getD j 0) w hlen hb (fun j hj => by have := hcell j (by omega); rw [Addr.add_lit] at this; exact this)).mono ?_
      rintro e w' ⟨v, rfl, ho, hb⟩
      rw [part_full zs len (by omega)] at ho
      exact ⟨v, rfl, by unfold Own; rw [hlen']; exact ho, hlen', hbyt, hb⟩

end Go.Proofs.Qxb6600932a
