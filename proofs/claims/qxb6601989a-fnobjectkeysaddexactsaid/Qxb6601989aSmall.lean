/-
  Seat b6601989a: 'zzDistinct' (7), 'zzSetOf' (10), 'zzMember' (11), and 'zzIndexHolds' (8) at a map that came in, walked.
-/
import Derived.Test.Qxb6601989aState
namespace Go.Proofs.Qxb6601989a
open Go.RowKit
set_option linter.unusedVariables false

theorem run_makeMap_hint (w : World) (n : Int) : (Instr.makeMap 22 (some (.int .i64 n))).run Try.prog w = .ok (.map (some w.heap.size)) (w.alloc (.map #[] 0)) := by
  kernel_rfl

theorem get_mem {xs : List ByteArray} {j : Nat} (h : j < xs.length) : xs.getD j ByteArray.empty ∈ xs := by
  rw [List.getD, List.getElem?_eq_getElem h]; exact List.getElem_mem _

/-- The reader's cell in a later world. -/
theorem Rd.later {w w' : World} {a : Option Addr} {n : Nat} {T : Nat → ByteArray} (h : Rd w a n T) (fr : Fr (fun _ => False) w w') : Rd w' a n T := by
  rcases h with h | ⟨b, off, e, hb, hc⟩
  · exact .inl h
  · exact .inr ⟨b, off, e, Nat.lt_of_lt_of_le hb fr.size, fun j hj => (World.cell?_of_block (fr.block b hb (fun f => f))).trans (hc j hj)⟩

theorem nodup_more {xs : List ByteArray} {k : Nat} (hk : k < xs.length) (h : (xs.take k).Nodup) (hn : xs.getD k ByteArray.empty ∉ xs.take k) : (xs.take (k + 1)).Nodup := by
  rw [← take_more hk, List.nodup_append]
  refine ⟨h, by simp, ?_⟩
  intro a ha b hb e
  simp at hb
  subst e; subst hb
  exact hn ha

/-- Some bool came back; where it is true the strings are distinct. -/
def Dst (xs : List ByteArray) (e : Ending) : Prop := ∃ b, e = .returned (.bool b) ∧ (b = true → xs.Nodup)

set_option maxHeartbeats 1000000 in
/-- Function 7. -/
theorem distinct_any (w : World) (a : Option Addr) (n c : Nat) (xs : List ByteArray) (hx : xs.length = n) (hrd : Rd w a n (fun j => xs.getD j ByteArray.empty)) (hsh : Sht xs) (hn : n ≤ 1048576) :
    Calls Try.prog 7 #[.slice a n c] w fun e w' => Dst xs e ∧ Fr (fun _ => False) w w' := by
  have hmm := run_makeMap_hint
  have HX : Hid (xs.length = n) := hx
  have HR : Hid (Rd w a n (fun j => xs.getD j ByteArray.empty)) := hrd
  have HSH : Hid (Sht xs) := hsh
  have fr0 : Fr (fun _ => False) w (w.alloc (.map #[] 0)) := (Fr.refl _ w).alloc _
  have set0 := MSet.made w
  clear hx hrd hsh
  go_enter Try.func7, Try.ntmps7
  go_wp2_with fail
  generalize w.alloc (.map #[] 0) = W at fr0 set0 ⊢
  clear hmm
  go_loopw [4] (fun i wr => ∃ k : Nat, k ≤ n ∧ i = .int .i64 k ∧ MSet wr w.heap.size (xs.take k) ∧ Hid ((xs.take k).Nodup) ∧ Fr (fun _ => False) w wr) (fun i _ => n - (intOf i).toNat)
  case atStart => exact ⟨0, Nat.zero_le _, rfl, set0, List.nodup_nil, fr0⟩
  case round =>
    clear fr0 set0
    obtain ⟨k, hk, rfl, hset, hnd, hfr⟩ := hrel
    by_cases hlt : k < n
    · obtain e | ⟨b, off, rfl, hb, hc⟩ := HR.out.later hfr
      · omega
      · have hcx : wr.cell? ⟨b, off + k, none⟩ = some (.string (xs.getD k ByteArray.empty)) := hc k hlt
        have hy : (xs.getD k ByteArray.empty).size ≤ maxLen := HSH.out _ (get_mem (by have := HX.out; omega))
        have look := hset.look hy
        have HT : Hid (xs.take k ++ [xs.getD k ByteArray.empty] = xs.take (k + 1)) := take_more (by have := HX.out; omega)
        have HLT : Hid ((xs.take k).length ≤ 1099511627776) := by unfold Hid; rw [List.length_take]; omega
        have hlt' : (k : Int) < (n : Int) := by omega
        have HSK : Hid (MSet wr w.heap.size (xs.take k)) := hset
        have HNM : Hid (xs.getD k ByteArray.empty ∉ xs.take k → (xs.take (k + 1)).Nodup) := fun h => nodup_more (by have := HX.out; omega) hnd.out h
        generalize xs.getD k ByteArray.empty = y at hcx hy look HT HNM
        clear hc hset
        by_cases hm : y ∈ xs.take k
        · rw [memB_true.2 hm] at look
          clear hm
          go_wp2_with fail
          go_ret
          exact ⟨⟨_, rfl, fun e => by cases e⟩, hfr⟩
        · rw [memB_false.2 hm] at look
          have HM : Hid (y ∉ xs.take k) := hm
          clear hm
          go_wp2_with (at_mapUpdate; refine put_new _ rfl (.tmp 20) (.tmp 24) _ rfl w.heap.size (xs.take k) y rfl HSK.out HLT.out hy HM.out rfl rfl ?_)
          intro w7 hs7 hg7
          have hs7' : MSet w7 w.heap.size (xs.take (k + 1)) := by rw [← HT.out]; exact hs7
          have fr7 : Fr (fun _ => False) w w7 := hfr.trans (Fr.grown hg7) (fun i hi e => by have := Option.some.inj e; omega)
          clear look hcx hs7 hg7
          go_wp2_with fail
          go_roundw
          case rel => exact ⟨k + 1, by omega, by go_num, hs7', HNM.out HM.out, fr7⟩
          case measure => simp [intOf]; omega
    · obtain rfl : k = n := by omega
      have hnd' : xs.Nodup := by
        have := hnd.out
        rw [List.take_of_length_le (by have := HX.out; omega)] at this
        exact this
      have HND : Hid (xs.Nodup) := hnd'
      clear hnd' hset
      go_wp2_with fail
      go_ret
      exact ⟨⟨_, rfl, fun _ => HND.out⟩, hfr⟩

/-- A new set came back. -/
def SetBack (w : World) (xs : List ByteArray) (e : Ending) (w' : World) : Prop := e = .returned (.map (some w.heap.size)) ∧ MSet w' w.heap.size xs

set_option maxHeartbeats 1000000 in
/-- Function 10 at distinct strings. -/
theorem setOf_any (w : World) (a : Option Addr) (n c : Nat) (xs : List ByteArray) (hx : xs.length = n) (hrd : Rd w a n (fun j => xs.getD j ByteArray.empty)) (hsh : Sht xs) (hn : n ≤ 1048576) (hnd : xs.Nodup) :
    Calls Try.prog 10 #[.slice a n c] w fun e w' => SetBack w xs e w' ∧ Fr (fun _ => False) w w' := by
  have hmm := run_makeMap_hint
  have HX : Hid (xs.length = n) := hx
  have HR : Hid (Rd w a n (fun j => xs.getD j ByteArray.empty)) := hrd
  have HSH : Hid (Sht xs) := hsh
  have HND : Hid (xs.Nodup) := hnd
  have fr0 : Fr (fun _ => False) w (w.alloc (.map #[] 0)) := (Fr.refl _ w).alloc _
  have set0 := MSet.made w
  clear hx hrd hsh hnd
  go_enter Try.func10, Try.ntmps10
  go_wp2_with fail
  generalize w.alloc (.map #[] 0) = W at fr0 set0 ⊢
  clear hmm
  go_loopw [4] (fun i wr => ∃ k : Nat, k ≤ n ∧ i = .int .i64 k ∧ MSet wr w.heap.size (xs.take k) ∧ Fr (fun _ => False) w wr) (fun i _ => n - (intOf i).toNat)
  case atStart => exact ⟨0, Nat.zero_le _, rfl, set0, fr0⟩
  case round =>
    clear fr0 set0
    obtain ⟨k, hk, rfl, hset, hfr⟩ := hrel
    by_cases hlt : k < n
    · obtain e | ⟨b, off, rfl, hb, hc⟩ := HR.out.later hfr
      · omega
      · have hcx : wr.cell? ⟨b, off + k, none⟩ = some (.string (xs.getD k ByteArray.empty)) := hc k hlt
        have hy : (xs.getD k ByteArray.empty).size ≤ maxLen := HSH.out _ (get_mem (by have := HX.out; omega))
        have HT : Hid (xs.take k ++ [xs.getD k ByteArray.empty] = xs.take (k + 1)) := take_more (by have := HX.out; omega)
        have HLT : Hid ((xs.take k).length ≤ 1099511627776) := by unfold Hid; rw [List.length_take]; omega
        have hlt' : (k : Int) < (n : Int) := by omega
        have HSK : Hid (MSet wr w.heap.size (xs.take k)) := hset
        have HM : Hid (xs.getD k ByteArray.empty ∉ xs.take k) := not_before HND.out (by have := HX.out; omega)
        generalize xs.getD k ByteArray.empty = y at hcx hy HT HM
        clear hc hset
        go_wp2_with (at_mapUpdate; refine put_new _ rfl (.tmp 14) (.tmp 18) _ rfl w.heap.size (xs.take k) y rfl HSK.out HLT.out hy HM.out rfl rfl ?_)
        intro w7 hs7 hg7
        have hs7' : MSet w7 w.heap.size (xs.take (k + 1)) := by rw [← HT.out]; exact hs7
        have fr7 : Fr (fun _ => False) w w7 := hfr.trans (Fr.grown hg7) (fun i hi e => by have := Option.some.inj e; omega)
        clear hcx hs7 hg7
        go_wp2_with fail
        go_roundw
        case rel => exact ⟨k + 1, by omega, by go_num, hs7', fr7⟩
        case measure => simp [intOf]; omega
    · obtain rfl : k = n := by omega
      have hset' : MSet wr w.heap.size xs := by
        rw [List.take_of_length_le (by have := HX.out; omega)] at hset
        exact hset
      have HS : Hid (MSet wr w.heap.size xs) := hset'
      clear hset hset'
      go_wp2_with fail
      go_ret
      exact ⟨⟨rfl, HS.out⟩, hfr⟩

set_option maxHeartbeats 1000000 in
/-- Function 11. -/
theorem member_any (w : World) (a : Option Addr) (n c : Nat) (xs : List ByteArray) (y : ByteArray) (hx : xs.length = n) (hrd : Rd w a n (fun j => xs.getD j ByteArray.empty)) (hn : n ≤ 1048576) :
    Calls Try.prog 11 #[.slice a n c, .string y] w fun e w' => e = .returned (.bool (memB xs y)) ∧ w' = w := by
  have HX : Hid (xs.length = n) := hx
  have HR : Hid (Rd w a n (fun j => xs.getD j ByteArray.empty)) := hrd
  clear hx hrd
  by_cases hm : y ∈ xs
  · obtain ⟨p, h1, h2, h3⟩ := first_pos hm
    have HA : Hid (xs.getD p ByteArray.empty = y) := h2
    have HB : Hid (∀ j, j < p → xs.getD j ByteArray.empty ≠ y) := h3
    have hp : p < n := by have := HX.out; omega
    rw [memB_true.2 hm]
    clear h1 h2 h3 hm
    go_enter Try.func11, Try.ntmps11
    go_wp2_with fail
    go_loop [5] (fun i => ∃ k : Nat, k ≤ p ∧ i = .int .i64 k) (fun i => p - (intOf i).toNat)
    case atStart => exact ⟨0, Nat.zero_le _, rfl⟩
    case round =>
      obtain ⟨k, hk, rfl⟩ := hrel
      obtain e | ⟨b, off, rfl, hb, hc⟩ := HR.out
      · omega
      · have hcx : w.cell? ⟨b, off + k, none⟩ = some (.string (xs.getD k ByteArray.empty)) := hc k (by omega)
        clear hc
        have hlt' : (k : Int) < (n : Int) := by omega
        by_cases hkp : k < p
        · have b1 := seq_false (HB.out k hkp)
          generalize xs.getD k ByteArray.empty = z at hcx b1
          go_wp2_with fail
          go_round
          case rel => exact ⟨k + 1, by omega, by go_num⟩
          case measure => simp [intOf]; omega
        · obtain rfl : k = p := by omega
          have b1 := seq_true HA.out
          generalize xs.getD k ByteArray.empty = z at hcx b1
          go_wp2_with fail
          go_ret
          exact ⟨rfl, rfl⟩
  · have HB : Hid (∀ j, j < n → xs.getD j ByteArray.empty ≠ y) := fun j hj e => hm (e ▸ get_mem (by have := HX.out; omega))
    rw [memB_false.2 hm]
    clear hm
    go_enter Try.func11, Try.ntmps11
    go_wp2_with fail
    go_loop [5] (fun i => ∃ k : Nat, k ≤ n ∧ i = .int .i64 k) (fun i => n - (intOf i).toNat)
    case atStart => exact ⟨0, Nat.zero_le _, rfl⟩
    case round =>
      obtain ⟨k, hk, rfl⟩ := hrel
      by_cases hlt : k < n
      · obtain e | ⟨b, off, rfl, hb, hc⟩ := HR.out
        · omega
        · have hcx : w.cell? ⟨b, off + k, none⟩ = some (.string (xs.getD k ByteArray.empty)) := hc k hlt
          clear hc
          have hlt' : (k : Int) < (n : Int) := by omega
          have b1 := seq_false (HB.out k hlt)
          generalize xs.getD k ByteArray.empty = z at hcx b1
          go_wp2_with fail
          go_round
          case rel => exact ⟨k + 1, by omega, by go_num⟩
          case measure => simp [intOf]; omega
      · obtain rfl : k = n := by omega
        go_wp2_with fail
        go_ret
        exact ⟨rfl, rfl⟩

/-- What is asked of the map that came in, in whatever later world: it can be counted and asked. -/
def Askable (w : World) (b : Nat) : Prop := ∃ m : Nat, (∀ ty, (Builtin.len_ #[22] ty #[.map (some b)]).run Try.prog w = .ok (.int .i64 m) w) ∧ ∀ s : ByteArray, s.size ≤ maxLen → ∃ x, (Instr.lookup 22 (.map (some b)) (.string s) false).run Try.prog w = .ok (.bool x) w

set_option maxHeartbeats 1000000 in
/-- Function 8 at the map that came in: some bool. -/
theorem ask_any (w : World) (bm : Nat) (a : Option Addr) (n c : Nat) (xs : List ByteArray) (hx : xs.length = n) (hask : Askable w bm) (hrd : Rd w a n (fun j => xs.getD j ByteArray.empty)) (hsh : Sht xs) (hn : n ≤ 1048576) :
    Calls Try.prog 8 #[.map (some bm), .slice a n c] w fun e w' => IsB e ∧ w' = w := by
  obtain ⟨m, hlen, hlook⟩ := hask
  have HL : Hid (∀ j, j < n → ∃ x, (Instr.lookup 22 (.map (some bm)) (.string (xs.getD j ByteArray.empty)) false).run Try.prog w = .ok (.bool x) w) := fun j hj => hlook _ (hsh _ (get_mem (by omega)))
  have HR : Hid (Rd w a n (fun j => xs.getD j ByteArray.empty)) := hrd
  clear hlook hx hrd hsh
  go_enter Try.func8, Try.ntmps8
  go_wp2_with fail
  go_loop [5] (fun i => ∃ k : Nat, k ≤ n ∧ i = .int .i64 k) (fun i => n - (intOf i).toNat)
  case atStart => exact ⟨0, Nat.zero_le _, rfl⟩
  case round =>
    obtain ⟨k, hk, rfl⟩ := hrel
    by_cases hlt : k < n
    · obtain e | ⟨b, off, rfl, hb, hc⟩ := HR.out
      · omega
      · have hcx : w.cell? ⟨b, off + k, none⟩ = some (.string (xs.getD k ByteArray.empty)) := hc k hlt
        obtain ⟨x, hlk⟩ := HL.out k hlt
        generalize xs.getD k ByteArray.empty = z at hcx hlk
        clear hc
        have hlt' : (k : Int) < (n : Int) := by omega
        cases x
        · go_wp2_with fail
          go_ret
          exact ⟨⟨_, rfl⟩, rfl⟩
        · go_wp2_with fail
          go_round
          case rel => exact ⟨k + 1, by omega, by go_num⟩
          case measure => simp [intOf]; omega
    · obtain rfl : k = n := by omega
      go_wp2_with fail
      go_ret
      exact ⟨⟨_, rfl⟩, rfl⟩

end Go.Proofs.Qxb6601989a
