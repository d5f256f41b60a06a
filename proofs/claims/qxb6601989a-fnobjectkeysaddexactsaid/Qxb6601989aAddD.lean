/-
  Seat b6601989a: '(*objectKeys).add' (19) whole, and the thin functions over it (12, 13, 14, 15); 'zzIndexHolds' (8).
-/
import Derived.Test.Qxb6601989aAddC
namespace Go.Proofs.Qxb6601989a
open Go.RowKit
set_option linter.unusedVariables false

/-- The index: none while there are at most sixteen keys, else a map of just the keys. -/
def Idx (w : World) (first : Nat) (xs : List ByteArray) (idx : Option Nat) : Prop :=
  (idx = none ∧ (xs.drop first).length ≤ 16) ∨ ∃ bm, idx = some bm ∧ MSet w bm (xs.drop first) ∧ 16 < (xs.drop first).length

theorem first_pos {y : ByteArray} : ∀ {l : List ByteArray}, y ∈ l → ∃ p, p < l.length ∧ l.getD p ByteArray.empty = y ∧ ∀ j, j < p → l.getD j ByteArray.empty ≠ y := by
  intro l
  induction l with
  | nil => intro h; simp at h
  | cons x l ih =>
    intro h
    by_cases e : x = y
    · exact ⟨0, by simp, by simpa using e, fun j hj => by omega⟩
    · have h' : y ∈ l := by
        rcases List.mem_cons.1 h with h | h
        · exact absurd h.symm e
        · exact h
      obtain ⟨p, h1, h2, h3⟩ := ih h'
      refine ⟨p + 1, by simp; omega, by simpa using h2, fun j hj => ?_⟩
      cases j with
      | zero => simpa using e
      | succ j => simpa using h3 j (by omega)

theorem get_mem_drop {xs : List ByteArray} {first j : Nat} (h : first + j < xs.length) : xs.getD (first + j) ByteArray.empty ∈ xs.drop first := by
  rw [← drop_get, List.getD, List.getElem?_eq_getElem (by rw [List.length_drop]; omega), Option.getD_some]
  exact List.getElem_mem _

/-- The key is there already: nothing turns. -/
theorem add_hit (w : World) (bn bo first : Nat) (ao : Option Addr) (n c : Nat) (xs : List ByteArray) (idx : Option Nat) (y : ByteArray) (hy : y.size ≤ maxLen)
    (h : Ob w bn bo first ao n c xs idx) (hi : Idx w first xs idx) (hn : xs.length ≤ 1048576) (hmem : y ∈ xs.drop first) :
    Calls Try.prog 19 #[.pointer (some ⟨bo, 0, none⟩), .pointer (some ⟨bn, 0, none⟩), .string y] w fun e w' => e = .returned (.bool true) ∧ Fr (fun _ => False) w w' := by
  rcases hi with ⟨rfl, hs⟩ | ⟨bm, rfl, hset, hl⟩
  · obtain ⟨p, h1, h2, h3⟩ := first_pos hmem
    rw [List.length_drop] at h1
    refine add_hit_few w bn bo first ao n c xs y h hn p (by omega) (fun j hj => ?_) ?_
    · rw [← drop_get]; exact h3 j hj
    · rw [← drop_get]; exact h2
  · exact add_hit_idx w bn bo first ao n c xs bm y hy h hset (memB_true.2 hmem) hn

/-- The key is new. -/
theorem add_miss (w : World) (bn bo first : Nat) (ao : Option Addr) (n c : Nat) (xs : List ByteArray) (idx : Option Nat) (y : ByteArray) (hy : y.size ≤ maxLen)
    (h : Ob w bn bo first ao n c xs idx) (hi : Idx w first xs idx) (hn : xs.length ≤ 1048576) (hmem : y ∉ xs.drop first) :
    Calls Try.prog 19 #[.pointer (some ⟨bo, 0, none⟩), .pointer (some ⟨bn, 0, none⟩), .string y] w fun e w' => e = .returned (.bool false) ∧ Added w bn bo first ao n c xs idx y w' := by
  rcases hi with ⟨rfl, hs⟩ | ⟨bm, rfl, hset, hl⟩
  · have hb : ∀ j, first + j < xs.length → xs.getD (first + j) ByteArray.empty ≠ y := fun j hj e => hmem (e ▸ get_mem_drop hj)
    by_cases h16 : (xs.drop first).length = 16
    · exact add_miss_grow w bn bo first ao n c xs y hy h h16 hmem hn hb
    · exact add_miss_few w bn bo first ao n c xs y hy h (by omega) hmem hn hb
  · exact add_miss_idx w bn bo first ao n c xs bm y hy h hset hl (memB_false.2 hmem) hn

/-- 13 hands on to 19. -/
theorem zz_hit (w : World) (bn bo first : Nat) (ao : Option Addr) (n c : Nat) (xs : List ByteArray) (idx : Option Nat) (y : ByteArray) (hy : y.size ≤ maxLen)
    (h : Ob w bn bo first ao n c xs idx) (hi : Idx w first xs idx) (hn : xs.length ≤ 1048576) (hmem : y ∈ xs.drop first) :
    Calls Try.prog 13 #[.pointer (some ⟨bo, 0, none⟩), .pointer (some ⟨bn, 0, none⟩), .string y] w fun e w' => e = .returned (.bool true) ∧ Fr (fun _ => False) w w' := by
  have H := add_hit w bn bo first ao n c xs idx y hy h hi hn hmem
  have HC : Hid (Calls Try.prog 19 #[.pointer (some ⟨bo, 0, none⟩), .pointer (some ⟨bn, 0, none⟩), .string y] w fun e w' => e = .returned (.bool true) ∧ Fr (fun _ => False) w w') := H
  clear H h hi hn hmem
  go_enter Try.func13, Try.ntmps13
  go_wp2_with (go_at_call 19; refine HC.out.mono ?_; rintro e w' ⟨rfl, hfr⟩)
  go_ret
  exact ⟨rfl, hfr⟩

theorem zz_miss (w : World) (bn bo first : Nat) (ao : Option Addr) (n c : Nat) (xs : List ByteArray) (idx : Option Nat) (y : ByteArray) (hy : y.size ≤ maxLen)
    (h : Ob w bn bo first ao n c xs idx) (hi : Idx w first xs idx) (hn : xs.length ≤ 1048576) (hmem : y ∉ xs.drop first) :
    Calls Try.prog 13 #[.pointer (some ⟨bo, 0, none⟩), .pointer (some ⟨bn, 0, none⟩), .string y] w fun e w' => e = .returned (.bool false) ∧ Added w bn bo first ao n c xs idx y w' := by
  have H := add_miss w bn bo first ao n c xs idx y hy h hi hn hmem
  have HC : Hid (Calls Try.prog 19 #[.pointer (some ⟨bo, 0, none⟩), .pointer (some ⟨bn, 0, none⟩), .string y] w fun e w' => e = .returned (.bool false) ∧ Added w bn bo first ao n c xs idx y w') := H
  clear H h hi hn hmem
  go_enter Try.func13, Try.ntmps13
  go_wp2_with (go_at_call 19; refine HC.out.mono ?_; rintro e w' ⟨rfl, hfr⟩)
  go_ret
  exact ⟨rfl, hfr⟩

/-- Function 14. -/
theorem first_any (w : World) (bo : Nat) (first : Nat) (idx : Option Nat) (h : w.heap[bo]? = some (.cells #[.int .i64 first, .map idx] 41 (0, 0))) :
    Calls Try.prog 14 #[.pointer (some ⟨bo, 0, none⟩)] w fun e w' => e = .returned (.int .i64 first) ∧ w' = w := by
  obtain ⟨c2, c3⟩ := obj_cells h
  clear h
  go_enter Try.func14, Try.ntmps14
  go_wp2
  go_ret
  exact ⟨rfl, rfl⟩

/-- Function 15. -/
theorem index_any (w : World) (bo : Nat) (first : Nat) (idx : Option Nat) (h : w.heap[bo]? = some (.cells #[.int .i64 first, .map idx] 41 (0, 0))) :
    Calls Try.prog 15 #[.pointer (some ⟨bo, 0, none⟩)] w fun e w' => e = .returned (.map idx) ∧ w' = w := by
  obtain ⟨c2, c3⟩ := obj_cells h
  clear h
  go_enter Try.func15, Try.ntmps15
  go_wp2
  go_ret
  exact ⟨rfl, rfl⟩

/-- Function 12. -/
theorem new_any (w : World) (first : Nat) (idx : Option Nat) :
    Calls Try.prog 12 #[.int .i64 first, .map idx] w fun e w' => e = .returned (.pointer (some ⟨w.heap.size, 0, none⟩)) ∧ w' = w.alloc (.cells #[.int .i64 first, .map idx] 41) := by
  go_enter Try.func12, Try.ntmps12
  go_wp2
  go_ret
  exact ⟨rfl, rfl⟩

set_option maxHeartbeats 1000000 in
/-- Function 8 at a map that holds just those keys. -/
theorem holds_any (w : World) (bm : Nat) (a : Option Addr) (n c : Nat) (xs : List ByteArray) (hx : xs.length = n) (hset : MSet w bm xs) (hrd : Rd w a n (fun j => xs.getD j ByteArray.empty)) (hsh : Sht xs) (hn : n ≤ 1048576) :
    Calls Try.prog 8 #[.map (some bm), .slice a n c] w fun e w' => e = .returned (.bool true) ∧ w' = w := by
  have hlen : ∀ ty, (Builtin.len_ #[22] ty #[.map (some bm)]).run Try.prog w = .ok (.int .i64 n) w := fun ty => by rw [hset.len ty, hx]
  rcases hrd with rfl | ⟨b, off, rfl, hb, hc⟩
  · clear hset hx
    go_enter Try.func8, Try.ntmps8
    go_wp2_with fail
    refine wp_loop_rounds 1 ?_
    rw [rounds_succ]
    go_wp2_with fail
    go_ret
    exact ⟨by simp, rfl⟩
  · have HL : Hid (∀ j, j < n → (Instr.lookup 22 (.map (some bm)) (.string (xs.getD j ByteArray.empty)) false).run Try.prog w = .ok (.bool true) w) := by
      intro j hj
      have hm : xs.getD j ByteArray.empty ∈ xs := by rw [List.getD, List.getElem?_eq_getElem (by omega)]; exact List.getElem_mem _
      have := hset.look (hsh _ hm)
      rw [memB_true.2 hm] at this
      exact this
    have HC : Hid (∀ j, j < n → w.cell? ⟨b, off + j, none⟩ = some (.string (xs.getD j ByteArray.empty))) := hc
    clear hset hx hc
    go_enter Try.func8, Try.ntmps8
    go_wp2_with fail
    go_loop [5] (fun i => ∃ k : Nat, k ≤ n ∧ i = .int .i64 k) (fun i => n - (intOf i).toNat)
    case atStart => exact ⟨0, Nat.zero_le _, rfl⟩
    case round =>
      obtain ⟨k, hk, rfl⟩ := hrel
      by_cases hlt : k < n
      · have hcx := HC.out k hlt
        have hlk := HL.out k hlt
        generalize xs.getD k ByteArray.empty = z at hcx hlk
        have hlt' : (k : Int) < (n : Int) := by omega
        go_wp2_with fail
        go_round
        case rel => exact ⟨k + 1, by omega, by go_num⟩
        case measure => simp [intOf]; omega
      · obtain rfl : k = n := by omega
        go_wp2_with fail
        go_ret
        exact ⟨by simp, rfl⟩

end Go.Proofs.Qxb6601989a
