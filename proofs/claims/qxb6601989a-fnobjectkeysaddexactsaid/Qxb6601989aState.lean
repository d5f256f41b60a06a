/-
  Seat b6601989a: the state of the law 'FnObjectKeysAddScript' between two keys; what each step does to it. No walk but the guard on total length (16).
-/
import Derived.Test.Qxb6601989aAddD
namespace Go.Proofs.Qxb6601989a
open Go.RowKit
set_option linter.unusedVariables false

/-- O: the outer names; S: the keys so far. -/
structure St (B : Nat) (w0 w : World) (bn bo bs first : Nat) (O S : List ByteArray) (ao : Option Addr) (n c : Nat) (idx : Option Nat) (aw : Option Addr) (mw cw : Nat) : Prop where
  ob : Ob w bn bo first ao n c (O ++ S) idx
  ix : Idx w first (O ++ S) idx
  seen : MSet w bs S
  want : OwnS w (.slice aw mw cw) S
  d1 : ¬ Foot bn bo ao n c idx bs
  d2 : ∀ k, (Value.slice aw mw cw).ownBlock = some k → ¬ Foot bn bo ao n c idx k
  lo1 : ∀ k, Foot bn bo ao n c idx k → B ≤ k
  lo2 : B ≤ bs
  lo3 : ∀ k, (Value.slice aw mw cw).ownBlock = some k → B ≤ k
  bel : Below B w0 w
  hO : O.length = first

variable {B : Nat} {w0 w : World} {bn bo bs first : Nat} {O S : List ByteArray} {ao : Option Addr} {n c : Nat} {idx : Option Nat} {aw : Option Addr} {mw cw : Nat}

theorem St.own (h : St B w0 w bn bo bs first O S ao n c idx aw mw cw) : (O ++ S).drop first = S := by
  rw [← h.hO]; simp

theorem Idx.kept {w w' : World} {first : Nat} {xs : List ByteArray} {idx : Option Nat} (h : Idx w first xs idx) (hk : ∀ k, some k = idx → w'.heap[k]? = w.heap[k]?) : Idx w' first xs idx := by
  rcases h with h | ⟨bm, rfl, h1, h2⟩
  · exact .inl h
  · exact .inr ⟨bm, rfl, h1.kept (hk bm rfl), h2⟩

theorem Idx.lt {w : World} {first : Nat} {xs : List ByteArray} {idx : Option Nat} (h : Idx w first xs idx) (k : Nat) (hk : some k = idx) : k < w.heap.size := by
  rcases h with ⟨rfl, _⟩ | ⟨bm, rfl, h1, h2⟩
  · cases hk
  · cases hk; exact h1.lt

/-- Every block of the object lies in the heap. -/
theorem foot_lt (ho : Ob w bn bo first ao n c S idx) (hi : Idx w first S idx) (k : Nat) (hk : Foot bn bo ao n c idx k) : k < w.heap.size := by
  rcases hk with rfl | rfl | hk | hk
  · exact lt_of_block ho.box
  · exact lt_of_block ho.obj
  · exact hi.lt k hk
  · exact ho.row.lt k hk.symm

/-- A row is no map. -/
theorem row_ne_map {w : World} {v : Value} {xs T : List ByteArray} {b : Nat} (h : OwnS w v xs) (hs : MSet w b T) : v.ownBlock ≠ some b := by
  intro e
  obtain ⟨cur, hc⟩ := Ob.rowBlock h e
  exact hs.ne hc rfl

/-- Nothing has turned but draws and new blocks. -/
theorem St.still (h : St B w0 w bn bo bs first O S ao n c idx aw mw cw) {w1 : World} (fr : Fr (fun _ => False) w w1) : St B w0 w1 bn bo bs first O S ao n c idx aw mw cw := by
  have hB : B ≤ w.heap.size := Nat.le_trans h.lo2 (Nat.le_of_lt h.seen.lt)
  refine ⟨h.ob.kept (fun k hk => fr.block k ?_ (fun f => f)), h.ix.kept (fun k hk => fr.block k (h.ix.lt k hk) (fun f => f)), h.seen.kept (fr.block _ h.seen.lt (fun f => f)), h.want.kept (fun k hk => fr.block k (h.want.lt k hk) (fun f => f)),
    h.d1, h.d2, h.lo1, h.lo2, h.lo3, h.bel.trans (fr.below (fun _ f => f.elim) hB), h.hO⟩
  rcases hk with rfl | rfl | hk
  · exact lt_of_block h.ob.box
  · exact lt_of_block h.ob.obj
  · exact h.ob.row.lt k hk.symm

/-- Behind 'add' of a new key: the object has it, the set and the list not yet. -/
structure Mid (B : Nat) (w0 w : World) (bn bo bs first : Nat) (O S : List ByteArray) (y : ByteArray) (ao : Option Addr) (n c : Nat) (idx : Option Nat) (aw : Option Addr) (mw cw : Nat) : Prop where
  ob : Ob w bn bo first ao n c (O ++ (S ++ [y])) idx
  ix : Idx w first (O ++ (S ++ [y])) idx
  seen : MSet w bs S
  want : OwnS w (.slice aw mw cw) S
  d1 : ¬ Foot bn bo ao n c idx bs
  d2 : ∀ k, (Value.slice aw mw cw).ownBlock = some k → ¬ Foot bn bo ao n c idx k
  lo1 : ∀ k, Foot bn bo ao n c idx k → B ≤ k
  lo2 : B ≤ bs
  lo3 : ∀ k, (Value.slice aw mw cw).ownBlock = some k → B ≤ k
  bel : Below B w0 w
  hO : O.length = first

theorem St.added (h : St B w0 w bn bo bs first O S ao n c idx aw mw cw) {w1 : World} {y : ByteArray} (ha : Added w bn bo first ao n c (O ++ S) idx y w1) :
    ∃ ao' n' c' idx', Mid B w0 w1 bn bo bs first O S y ao' n' c' idx' aw mw cw := by
  obtain ⟨ao', n', c', idx', h1, h2, h3, h4⟩ := ha
  have hB : B ≤ w.heap.size := Nat.le_trans h.lo2 (Nat.le_of_lt h.seen.lt)
  rw [List.append_assoc] at h1 h4
  refine ⟨ao', n', c', idx', h1, h4, h.seen.kept (h2.block _ h.seen.lt h.d1), h.want.kept (fun k hk => h2.block k (h.want.lt k hk) (h.d2 k hk)), ?_, ?_, ?_, h.lo2, h.lo3, h.bel.trans (h2.below h.lo1 hB), h.hO⟩
  · intro f
    rcases h3 _ f with e | e
    · exact h.d1 e
    · have := h.seen.lt; omega
  · intro k hk f
    rcases h3 _ f with e | e
    · exact h.d2 k hk e
    · have := h.want.lt k hk; omega
  · intro k f
    rcases h3 _ f with e | e
    · exact h.lo1 k e
    · omega

/-- Behind the store into the set. -/
theorem Mid.stored {y : ByteArray} (h : Mid B w0 w bn bo bs first O S y ao n c idx aw mw cw) {w2 : World} (hg : w.grownBy w2 (some bs)) :
    Ob w2 bn bo first ao n c (O ++ (S ++ [y])) idx ∧ Idx w2 first (O ++ (S ++ [y])) idx ∧ OwnS w2 (.slice aw mw cw) S ∧ Below B w0 w2 := by
  have hB : B ≤ w.heap.size := Nat.le_trans h.lo2 (Nat.le_of_lt h.seen.lt)
  refine ⟨h.ob.kept (fun k hk => hg.block k ?_ ?_), h.ix.kept (fun k hk => hg.block k (h.ix.lt k hk) ?_), h.want.kept (fun k hk => hg.block k (h.want.lt k hk) ?_), h.bel.grown hg hB (fun k e => by have := Option.some.inj e; have := h.lo2; omega)⟩
  · rcases hk with rfl | rfl | hk
    · exact lt_of_block h.ob.box
    · exact lt_of_block h.ob.obj
    · exact h.ob.row.lt k hk.symm
  · rintro e
    obtain rfl := Option.some.inj e
    rcases hk with hk | hk | hk
    · exact h.d1 (.inl hk)
    · exact h.d1 (.inr (.inl hk))
    · exact h.d1 (.inr (.inr (.inr hk)))
  · rintro e
    obtain rfl := Option.some.inj e
    exact h.d1 (.inr (.inr (.inl hk)))
  · rintro e
    exact row_ne_map h.want h.seen (hk.trans e)

/-- Behind the append to the list: the next state. -/
theorem Mid.done {y : ByteArray} (h : Mid B w0 w bn bo bs first O S y ao n c idx aw mw cw) {w2 w3 : World} (hg : w.grownBy w2 (some bs)) (hset : MSet w2 bs (S ++ [y]))
    {aw' : Option Addr} {mw' cw' : Nat} {zs : List ByteArray} (hz : zs = S ++ [y]) (ho : OwnS w3 (.slice aw' mw' cw') zs) (hg3 : w2.grownBy w3 (Value.slice aw mw cw).ownBlock)
    (hblk : ∀ k, (Value.slice aw' mw' cw').ownBlock = some k → (Value.slice aw mw cw).ownBlock = some k ∨ w2.heap.size < k) :
    St B w0 w3 bn bo bs first O zs ao n c idx aw' mw' cw' := by
  subst hz
  obtain ⟨o2, i2, r2, b2⟩ := h.stored hg
  have hB2 : B ≤ w2.heap.size := Nat.le_trans (Nat.le_trans h.lo2 (Nat.le_of_lt h.seen.lt)) hg.size
  have fl := foot_lt o2 i2
  refine ⟨o2.kept (fun k hk => hg3.block k (fl k ?_) (fun e => h.d2 k e.symm ?_)), i2.kept (fun k hk => hg3.block k (i2.lt k hk) (fun e => h.d2 k e.symm (.inr (.inr (.inl hk))))), hset.kept (hg3.block _ hset.lt (fun e => row_ne_map r2 hset e.symm)), ho, h.d1, ?_, h.lo1, h.lo2, ?_, b2.grown hg3 hB2 (fun k e => h.lo3 k e), h.hO⟩
  · rcases hk with hk | hk | hk
    · exact .inl hk
    · exact .inr (.inl hk)
    · exact .inr (.inr (.inr hk))
  · rcases hk with hk | hk | hk
    · exact .inl hk
    · exact .inr (.inl hk)
    · exact .inr (.inr (.inr hk))
  · intro k hk f
    rcases hblk k hk with e | e
    · exact h.d2 k e f
    · have := fl k f; omega
  · intro k hk
    rcases hblk k hk with e | e
    · exact h.lo3 k e
    · omega

/-- What the law asks of the index: it is there just where there are more than sixteen keys. -/
theorem St.index (h : St B w0 w bn bo bs first O S ao n c idx aw mw cw) : (!idx.isNone) = decide (16 < S.length) ∧ mw = S.length := by
  have hx := h.ix
  unfold Idx at hx
  rw [h.own] at hx
  refine ⟨?_, h.want.sh.1⟩
  rcases hx with ⟨rfl, hs⟩ | ⟨bm, rfl, _, hs⟩
  · simp; omega
  · simp; omega

/-- Some bool came back. -/
def IsB (e : Ending) : Prop := ∃ b, e = .returned (.bool b)

set_option maxHeartbeats 1000000 in
/-- Function 16. -/
theorem zz16_any (a0 a1 : Option Addr) (n0 n1 c0 c1 : Nat) (T0 T1 : Nat → ByteArray) (w : World) (h0 : Rd w a0 n0 T0) (h1 : Rd w a1 n1 T1) :
    Calls Try.prog 16 #[.slice a0 n0 c0, .slice a1 n1 c1] w fun e w' => IsB e ∧ w' = w := by
  by_cases hb0 : 1048576 < n0
  · have hb0' : 1048576 < (n0 : Int) := by omega
    go_enter Try.func16, Try.ntmps16
    go_wp2_with fail
    go_ret
    exact ⟨⟨_, rfl⟩, rfl⟩
  · have hb0' : (n0 : Int) ≤ 1048576 := by omega
    have H0 : Hid (Rd w a0 n0 T0) := h0
    have H1 : Hid (Rd w a1 n1 T1) := h1
    clear h0 h1 hb0
    go_enter Try.func16, Try.ntmps16
    go_wp2_with fail
    go_loop [5, 6] (fun t i => ∃ (k : Nat) (r : Int), k ≤ n0 ∧ i = .int .i64 k ∧ t = .int .i64 r) (fun _ i => n0 - (intOf i).toNat)
    case atStart => exact ⟨0, _, Nat.zero_le _, rfl, rfl⟩
    case round =>
      obtain ⟨k, r, hk, rfl, rfl⟩ := hrel
      by_cases hlt : k < n0
      · obtain e | ⟨b, off, rfl, _, hc⟩ := H0.out
        · omega
        · have hcx := hc k hlt
          clear hc
          have hlt' : (k : Int) < (n0 : Int) := by omega
          go_wp2_with fail
          all_goals first
            | (go_ret; exact ⟨⟨_, rfl⟩, rfl⟩)
            | skip
          all_goals
            go_round
            case rel => exact ⟨k + 1, _, by omega, by go_num, rfl⟩
            case measure => simp [intOf]; omega
      · obtain rfl : k = n0 := by omega
        go_wp2_with fail
        all_goals first
          | (go_ret; exact ⟨⟨_, rfl⟩, rfl⟩)
          | skip
        go_loop [5, 7] (fun t i => ∃ (j : Nat) (r : Int), j ≤ n1 ∧ i = .int .i64 j ∧ t = .int .i64 r) (fun _ i => n1 - (intOf i).toNat)
        case atStart => exact ⟨0, _, Nat.zero_le _, rfl, rfl⟩
        case round =>
          obtain ⟨j, r2, hj, rfl, rfl⟩ := hrel
          by_cases hlt2 : j < n1
          · obtain e | ⟨b, off, rfl, _, hc⟩ := H1.out
            · omega
            · have hcx := hc j hlt2
              clear hc
              have hlt2' : (j : Int) < (n1 : Int) := by omega
              go_wp2_with fail
              all_goals first
                | (go_ret; exact ⟨⟨_, rfl⟩, rfl⟩)
                | skip
              all_goals
                go_round
                case rel => exact ⟨j + 1, _, by omega, by go_num, rfl⟩
                case measure => simp [intOf]; omega
          · obtain rfl : j = n1 := by omega
            go_wp2_with fail
            go_ret
            exact ⟨⟨_, rfl⟩, rfl⟩

end Go.Proofs.Qxb6601989a
