/-
  Seat b6601989a: '(*objectKeys).add' (19), walked: the object's state, what a call leaves alone.
-/
import Derived.Test.Qxb6601989aSet
import Derived.RegionTactic
import Derived.ChangeAlike
import Derived.Deep.QuietTactic
import Derived.BigQuiet
namespace Go.Proofs.Qxb6601989a
open Go.RowKit
set_option linter.unusedVariables false

/-! ### what is left alone -/

/-- w' is w with new blocks, and with writes to blocks in F alone. -/
structure Fr (F : Nat → Prop) (w w' : World) : Prop where
  os : w'.os = w.os
  tape : w'.tape = w.tape
  output : w'.output = w.output
  size : w.heap.size ≤ w'.heap.size
  block : ∀ k, k < w.heap.size → ¬ F k → w'.heap[k]? = w.heap[k]?

theorem Fr.refl (F : Nat → Prop) (w : World) : Fr F w w := ⟨rfl, rfl, rfl, Nat.le_refl _, fun _ _ _ => rfl⟩
theorem Fr.trans {F G : Nat → Prop} {a b c : World} (h : Fr F a b) (k : Fr G b c) (hG : ∀ i, i < a.heap.size → G i → F i) : Fr F a c :=
  ⟨k.os.trans h.os, k.tape.trans h.tape, k.output.trans h.output, Nat.le_trans h.size k.size, fun i hi hn => (k.block i (Nat.lt_of_lt_of_le hi h.size) (fun g => hn (hG i hi g))).trans (h.block i hi hn)⟩
theorem Fr.mono {F G : Nat → Prop} {a b : World} (h : Fr F a b) (hG : ∀ i, F i → G i) : Fr G a b := ⟨h.os, h.tape, h.output, h.size, fun i hi hn => h.block i hi (fun f => hn (hG i f))⟩
theorem Fr.grown {w w' : World} {row : Option Nat} (h : w.grownBy w' row) : Fr (fun k => some k = row) w w' := ⟨h.os, h.tape, h.output, h.size, fun k hk hn => h.block k hk hn⟩
theorem Fr.drew {F : Nat → Prop} {a w : World} (h : Fr F a w) : Fr F a w.drew := ⟨h.os, h.tape, h.output, h.size, h.block⟩
theorem Fr.alloc {F : Nat → Prop} {a w : World} (h : Fr F a w) (o : Obj) : Fr F a (w.alloc o) :=
  h.trans (G := fun _ => False) ⟨rfl, rfl, rfl, by simp, fun k hk _ => Below.heap_alloc _ _ _ hk⟩ (fun _ _ f => f.elim)
theorem Fr.setCell {F : Nat → Prop} {a w : World} (h : Fr F a w) {p : Addr} (hp : F p.block ∨ a.heap.size ≤ p.block) (u : Value) : Fr F a (w.setCell p u) :=
  h.trans (G := fun k => k = p.block) ⟨rfl, rfl, rfl, by simp [World.setCell], fun k _ hk => Below.heap_setCell _ _ _ _ hk⟩ (fun i hi e => by subst e; rcases hp with hp | hp; exact hp; omega)
theorem Fr.below {F : Nat → Prop} {B : Nat} {w w' : World} (h : Fr F w w') (hF : ∀ k, F k → B ≤ k) (hB : B ≤ w.heap.size) : Below B w w' :=
  ⟨h.os, h.tape, h.output, h.size, fun k hk => h.block k (by omega) (fun f => by have := hF k f; omega)⟩

/-! ### append of one string -/

theorem grown_alloc {w w' : World} {o : Obj} {row : Option Nat} (h : (w.alloc o).grownBy w' row) : w.grownBy w' row :=
  ⟨h.os, h.tape, h.output, Nat.le_trans (by simp) h.size, fun k hk hn => (h.block k (by simp; omega) hn).trans (Below.heap_alloc _ _ _ hk)⟩

theorem lit_cell (w : World) (s : ByteArray) : ∀ j u, (vs [s])[j]? = some u → (w.alloc (.cells #[.string s] 9)).cell? ((⟨w.heap.size, 0, none⟩ : Addr).add j) = some u := by
  intro j u hu
  rw [Addr.add_lit, cell_of_row (w.alloc (.cells #[.string s] 9)) w.heap.size (0 + j) #[.string s] 9 (0, 0) (heap_alloc_new w _)]
  simpa [vs] using hu

/-- 'append(x, s)': x of the call's own; what comes back lies where x lay, or in a new block. -/
theorem app_str {ops : Array Oper} {rest : List Oper} {o : Oper} {a : Act} {Q : Exit → Act → World → Prop} (w : World)
    (hg : o.guard = none) (s x : Operand) (hop : o.op = Op.call { callee := Callee.builtin Builtin.append, args := #[s, x], argTypes := #[23, 23] })
    (ao : Option Addr) (n c : Nat) (xs : List ByteArray) (hs : a.eval s = .slice ao n c) (hown : OwnS w (.slice ao n c) xs)
    (y : ByteArray) (hx : a.eval x = .slice (some ⟨w.heap.size, 0, none⟩) 1 1) (b1 : xs.length ≤ 1099511627776)
    (hK : ∀ ao' m' c' zs w', Hid (zs = xs ++ [y]) → OwnS w' (.slice ao' m' c') zs → w.grownBy w' (Value.slice ao n c).ownBlock → (∀ k, (Value.slice ao' m' c').ownBlock = some k → (Value.slice ao n c).ownBlock = some k ∨ w.heap.size < k) →
      wpList Try.prog ops Q rest (a.put o.dst (.slice ao' m' c')) w') :
    wpList Try.prog ops Q (o :: rest) a (w.alloc (.cells #[.string y] 9)) := by
  obtain ⟨i0, hi, hz0, hz1, hz2⟩ := info_parts Try.info9
  obtain ⟨rfl, hsh⟩ := hown.sh
  by_cases hroom : xs.length + 1 ≤ c
  · rcases hsh with ⟨rfl, rfl, rfl⟩ | ⟨g, rfl, hgl, h1, h2, hc⟩
    · simp at hroom
    · refine wpList_append_fits _ hg s x 23 hop 0 9 i0 1 Try.underlying23 hi hz1 g xs.length c (vs xs) hs (World.ownsRow.alloc hown _) ⟨w.heap.size, 0, none⟩ 1 1 (vs [y]) hx (by simp [vs]) (lit_cell w y) (vs_one [y]) hroom ?_
      intro w' h1 h2
      exact hK _ _ _ _ w' rfl (by unfold OwnS; rw [vs_append, List.length_append]; exact h1) (grown_alloc h2) (fun k hk => .inl hk)
  · refine wpList_append_grows _ hg s x 23 hop 9 i0 (.string ByteArray.empty) 1 16 Try.underlying23 hi hz0 hz1 hz2 rfl (by decide) ao xs.length c (vs xs) hs ?_ (by simp [vs]) ?_ ⟨w.heap.size, 0, none⟩ 1 1 (vs [y]) hx (by simp [vs]) (lit_cell w y) (vs_one [y]) (by omega) (by unfold maxLen; omega) (by omega) ?_
    · intro h
      rcases hsh with ⟨_, h2, h3⟩ | ⟨g', h1, _⟩
      · subst h3; exact ⟨rfl, h2⟩
      · rw [h] at h1; cases h1
    · intro b hb j u hu
      rcases hsh with ⟨h1, _⟩ | ⟨g', h1, _, _, _, hc⟩
      · rw [hb] at h1; cases h1
      · rw [hb] at h1
        obtain rfl := Option.some.inj h1
        have hj : j < xs.length := by have := (List.getElem?_eq_some_iff.1 hu).1; simpa [vs] using this
        rw [vs_get xs j hj] at hu
        have hcj := hc j hj
        have hlt := World.block_lt_of_cell? _ _ hcj
        rw [Addr.add_lit, Nat.zero_add]
        have : (w.alloc (.cells #[.string y] 9)).cell? ⟨g', j, none⟩ = w.cell? ⟨g', j, none⟩ := World.cell?_of_block (Below.heap_alloc _ _ _ hlt)
        rw [this, hcj]; exact hu
    · intro v' w' h1 h2
      have ho : OwnS w' v' (xs ++ [y]) := by unfold OwnS; rw [vs_append, List.length_append]; exact owns_zero h1
      have hlt := h1.lt
      obtain ⟨ao', c', rfl⟩ := ho.form
      refine hK ao' _ c' _ w' rfl ho ?_ (fun k hk => .inr (by have := (hlt k hk).1; simp at this; omega))
      have h3 := grown_alloc h2
      exact ⟨h3.os, h3.tape, h3.output, h3.size, fun k hk _ => h3.block k hk (by simp)⟩

/-! ### the object -/

structure Ob (w : World) (bn bo first : Nat) (ao : Option Addr) (n c : Nat) (xs : List ByteArray) (idx : Option Nat) : Prop where
  box : w.heap[bn]? = some (.cells #[.slice ao n c] 23 (0, 0))
  row : OwnS w (.slice ao n c) xs
  obj : w.heap[bo]? = some (.cells #[.int .i64 first, .map idx] 41 (0, 0))
  fst : first ≤ xs.length
  sht : Sht xs
  nodup : (xs.drop first).Nodup

/-- The blocks that the object is made of. -/
def Foot (bn bo : Nat) (ao : Option Addr) (n c : Nat) (idx : Option Nat) (k : Nat) : Prop := k = bn ∨ k = bo ∨ some k = idx ∨ some k = (Value.slice ao n c).ownBlock

theorem box_cell {w : World} {b : Nat} {v : Value} {e : TypeId} (h : w.heap[b]? = some (.cells #[v] e (0, 0))) : w.cell? ⟨b, 0, none⟩ = some v := by
  rw [cell_of_row w b 0 #[v] e (0, 0) h]; rfl
theorem obj_cells {w : World} {b : Nat} {u v : Value} {e : TypeId} (h : w.heap[b]? = some (.cells #[u, v] e (0, 0))) : w.cell? ⟨b, 0, none⟩ = some u ∧ w.cell? ⟨b, 1, none⟩ = some v :=
  ⟨by rw [cell_of_row w b 0 #[u, v] e (0, 0) h]; rfl, by rw [cell_of_row w b 1 #[u, v] e (0, 0) h]; rfl⟩
theorem free_of {w : World} {b j : Nat} {cs : Array Value} {e : TypeId} (h : w.heap[b]? = some (.cells cs e (0, 0))) : w.frozen? ⟨b, j, none⟩ = false := frozen_of_row w b j cs e h

theorem fr_drewN (w : World) (q : Nat) : Fr (fun _ => False) w (w.drewN q) := ⟨rfl, rfl, rfl, Nat.le_refl _, fun _ _ _ => rfl⟩

/-- The three shapes of 'names' and 'own' that the walk parts on: nil; the cut at the capacity's end; a cut before it. -/
def Shp (ao : Option Addr) (n c first : Nat) : Prop := (ao = none ∧ n = 0 ∧ c = 0 ∧ first = 0) ∨ ∃ g, ao = some ⟨g, 0, none⟩ ∧ first ≤ n ∧ n ≤ c ∧ (c = first ∨ ¬ c = first)

theorem Ob.shp {w : World} {bn bo first : Nat} {ao : Option Addr} {n c : Nat} {xs : List ByteArray} {idx : Option Nat} (h : Ob w bn bo first ao n c xs idx) : Shp ao n c first ∧ n = xs.length := by
  obtain ⟨rfl, ⟨rfl, rfl, rfl⟩ | ⟨g, rfl, hg, h1, h2, hc⟩⟩ := h.row.sh
  · have := h.fst
    exact ⟨.inl ⟨rfl, rfl, rfl, by simpa using this⟩, rfl⟩
  · exact ⟨.inr ⟨g, rfl, h.fst, h1, by omega⟩, rfl⟩

set_option maxHeartbeats 1000000 in
/-- The object has an index, and it holds the key. -/
theorem add_hit_idx (w : World) (bn bo first : Nat) (ao : Option Addr) (n c : Nat) (xs : List ByteArray) (bm : Nat) (y : ByteArray) (hy : y.size ≤ maxLen)
    (h : Ob w bn bo first ao n c xs (some bm)) (hset : MSet w bm (xs.drop first)) (hmem : memB (xs.drop first) y = true) (hn : xs.length ≤ 1048576) :
    Calls Try.prog 19 #[.pointer (some ⟨bo, 0, none⟩), .pointer (some ⟨bn, 0, none⟩), .string y] w fun e w' => e = .returned (.bool true) ∧ Fr (fun _ => False) w w' := by
  have c1 := box_cell h.box
  obtain ⟨c2, c3⟩ := obj_cells h.obj
  have q22 : ∀ (w : World) (r : Option Nat), (binOp .neq 22 (.map r) (.map none)).run Try.prog w = .ok (.bool (!r.isNone)) w := fun w r => run_neq_map_nil w _ _ _ r Try.underlying22
  have look : ∀ q, (Instr.lookup 22 (.map (some bm)) (.string y) false).run Try.prog (w.drewN q) = .ok (.bool true) (w.drewN q) := fun q => by
    have := (hset.kept (w' := w.drewN q) rfl).look hy
    rw [hmem] at this
    exact this
  obtain ⟨shp, hnx⟩ := h.shp
  have hn' : n ≤ 1048576 := by omega
  clear h hset hmem hnx hn
  rcases shp with ⟨rfl, rfl, rfl, rfl⟩ | ⟨g, rfl, hfn, hnc, hcf | hcf⟩
  · go_enter Try.func19, Try.ntmps19
    go_wp2_with fail
    go_quiet (fail)
    go_wp2
    go_ret
    exact ⟨rfl, fr_drewN _ _⟩
  · subst hcf
    obtain rfl : n = c := by omega
    go_enter Try.func19, Try.ntmps19
    go_wp2_with fail
    go_quiet (fail)
    go_wp2
    go_ret
    exact ⟨rfl, fr_drewN _ _⟩
  · have hfn' : (first : Int) ≤ (n : Int) := by omega
    go_enter Try.func19, Try.ntmps19
    go_wp2_with fail
    go_quiet (fail)
    go_wp2
    go_ret
    exact ⟨rfl, fr_drewN _ _⟩

theorem seq_true {a b : ByteArray} (h : a = b) : (a.toList == b.toList) = true := by subst h; simp
theorem seq_false {a b : ByteArray} (h : a ≠ b) : (a.toList == b.toList) = false := by
  rw [ByteArray.toList_eq, ByteArray.toList_eq]
  simp
  exact fun e => h (data_inj (by simpa using e))

set_option maxHeartbeats 1000000 in
/-- The object has no index, and one of its keys is the key. -/
theorem add_hit_few (w : World) (bn bo first : Nat) (ao : Option Addr) (n c : Nat) (xs : List ByteArray) (y : ByteArray)
    (h : Ob w bn bo first ao n c xs none) (hn : xs.length ≤ 1048576) (p : Nat) (hp : first + p < xs.length) (hbef : ∀ j, j < p → xs.getD (first + j) ByteArray.empty ≠ y) (hat : xs.getD (first + p) ByteArray.empty = y) :
    Calls Try.prog 19 #[.pointer (some ⟨bo, 0, none⟩), .pointer (some ⟨bn, 0, none⟩), .string y] w fun e w' => e = .returned (.bool true) ∧ Fr (fun _ => False) w w' := by
  have c1 := box_cell h.box
  obtain ⟨c2, c3⟩ := obj_cells h.obj
  have q22 : ∀ (w : World) (r : Option Nat), (binOp .neq 22 (.map r) (.map none)).run Try.prog w = .ok (.bool (!r.isNone)) w := fun w r => run_neq_map_nil w _ _ _ r Try.underlying22
  obtain ⟨rfl, ⟨rfl, rfl, rfl⟩ | ⟨g, rfl, hg, h1, h2, hc⟩⟩ := h.row.sh
  · simp at hp
  · have hfn : first ≤ xs.length := h.fst
    have hcf : ¬ c = first := by omega
    have HC : Hid (∀ j, first + j < xs.length → w.cell? ⟨g, first + j, none⟩ = some (.string (xs.getD (first + j) ByteArray.empty))) := fun j hj => hc _ hj
    generalize hL : xs.length = L at *
    have HB : Hid (∀ j, j < p → xs.getD (first + j) ByteArray.empty ≠ y) := hbef
    have HA : Hid (xs.getD (first + p) ByteArray.empty = y) := hat
    have hfn' : (first : Int) ≤ (L : Int) := by omega
    clear h hc hbef hat hL
    go_enter Try.func19, Try.ntmps19
    go_wp2_with fail
    go_quiet (fail)
    go_wp2_with fail
    go_loop [38] (fun i => ∃ k : Nat, k ≤ p ∧ i = .int .i64 k) (fun i => p - (intOf i).toNat)
    case atStart => exact ⟨0, Nat.zero_le _, rfl⟩
    case round =>
      obtain ⟨k, hk, rfl⟩ := hrel
      have hcx := HC.out k (by omega)
      have hkl : k < L - first := by omega
      by_cases hkp : k < p
      · have b1 := seq_false (HB.out k hkp)
        generalize xs.getD (first + k) ByteArray.empty = z at hcx b1
        go_wp2_with fail
        go_round
        case rel => exact ⟨k + 1, by omega, by go_num⟩
        case measure => simp [intOf]; omega
      · obtain rfl : k = p := by omega
        have b1 := seq_true HA.out
        generalize xs.getD (first + k) ByteArray.empty = z at hcx b1
        go_wp2_with fail
        go_ret
        exact ⟨rfl, fr_drewN _ _⟩

/-! ### a key that is new -/

theorem Ob.kept {w w' : World} {bn bo first : Nat} {ao : Option Addr} {n c : Nat} {xs : List ByteArray} {idx : Option Nat} (h : Ob w bn bo first ao n c xs idx)
    (hk : ∀ k, k = bn ∨ k = bo ∨ some k = (Value.slice ao n c).ownBlock → w'.heap[k]? = w.heap[k]?) : Ob w' bn bo first ao n c xs idx :=
  ⟨(hk bn (.inl rfl)).trans h.box, h.row.kept (fun k e => hk k (.inr (.inr e.symm))), (hk bo (.inr (.inl rfl))).trans h.obj, h.fst, h.sht, h.nodup⟩

/-- The row's block is a row of strings. -/
theorem Ob.rowBlock {w : World} {v : Value} {xs : List ByteArray} (h : OwnS w v xs) {k : Nat} (hk : v.ownBlock = some k) : ∃ cur, w.heap[k]? = some (.cells cur 9 (0, 0)) := by
  rcases h.2 with ⟨rfl, _⟩ | ⟨g, cap, cur, rfl, _, hg, _⟩
  · simp [Value.ownBlock] at hk
  · simp [Value.ownBlock] at hk
    subst hk
    exact ⟨cur, hg⟩

theorem Ob.ne_bn_bo {w : World} {bn bo first : Nat} {ao : Option Addr} {n c : Nat} {xs : List ByteArray} {idx : Option Nat} (h : Ob w bn bo first ao n c xs idx) : bo ≠ bn := by
  rintro rfl
  have h1 := h.box
  rw [h.obj] at h1
  simp at h1

theorem Ob.ne_row {w : World} {bn bo first : Nat} {ao : Option Addr} {n c : Nat} {xs : List ByteArray} {idx : Option Nat} (h : Ob w bn bo first ao n c xs idx) : (Value.slice ao n c).ownBlock ≠ some bn ∧ (Value.slice ao n c).ownBlock ≠ some bo := by
  refine ⟨fun e => ?_, fun e => ?_⟩
  · obtain ⟨cur, hc⟩ := Ob.rowBlock h.row e
    rw [h.box] at hc; simp at hc
  · obtain ⟨cur, hc⟩ := Ob.rowBlock h.row e
    rw [h.obj] at hc; simp at hc

theorem Ob.ne_map {w : World} {bn bo first : Nat} {ao : Option Addr} {n c : Nat} {xs : List ByteArray} {idx : Option Nat} (h : Ob w bn bo first ao n c xs idx) {bm : Nat} {S : List ByteArray} (hs : MSet w bm S) :
    bm ≠ bn ∧ bm ≠ bo ∧ (Value.slice ao n c).ownBlock ≠ some bm := by
  refine ⟨hs.ne h.box, hs.ne h.obj, fun e => ?_⟩
  obtain ⟨cur, hc⟩ := Ob.rowBlock h.row e
  exact hs.ne hc rfl

/-- Behind the append and the store into the variable. -/
theorem Ob.appended {w w2 : World} {bn bo first : Nat} {ao : Option Addr} {n c : Nat} {xs : List ByteArray} {idx : Option Nat} (h : Ob w bn bo first ao n c xs idx) {y : ByteArray} (hy : y.size ≤ maxLen) (hnew : y ∉ xs.drop first)
    {ao' : Option Addr} {m' c' : Nat} {zs : List ByteArray} (hz : zs = xs ++ [y]) (ho : OwnS w2 (.slice ao' m' c') zs) (hg : w.grownBy w2 (Value.slice ao n c).ownBlock)
    (hblk : ∀ k, (Value.slice ao' m' c').ownBlock = some k → (Value.slice ao n c).ownBlock = some k ∨ w.heap.size < k) :
    Ob (w2.setCell ⟨bn, 0, none⟩ (.slice ao' m' c')) bn bo first ao' m' c' zs idx ∧ Fr (Foot bn bo ao n c idx) w (w2.setCell ⟨bn, 0, none⟩ (.slice ao' m' c')) ∧
      (∀ k, Foot bn bo ao' m' c' idx k → Foot bn bo ao n c idx k ∨ w.heap.size ≤ k) ∧ zs.drop first = xs.drop first ++ [y] := by
  have hlt : bn < w.heap.size := lt_of_block h.box
  have hlo : bo < w.heap.size := lt_of_block h.obj
  have hne := h.ne_bn_bo
  obtain ⟨r1, r2⟩ := h.ne_row
  have bx : w2.heap[bn]? = some (.cells #[.slice ao n c] 23 (0, 0)) := (hg.block bn hlt (fun e => r1 e.symm)).trans h.box
  have bo2 : w2.heap[bo]? = some (.cells #[.int .i64 first, .map idx] 41 (0, 0)) := (hg.block bo hlo (fun e => r2 e.symm)).trans h.obj
  have hdrop : zs.drop first = xs.drop first ++ [y] := by
    rw [hz, List.drop_append_of_le_length h.fst]
  have hrow : (Value.slice ao' m' c').ownBlock ≠ some bn := by
    intro e
    obtain ⟨cur, hc⟩ := Ob.rowBlock ho e
    rw [bx] at hc; simp at hc
  refine ⟨⟨one_setCell bx, ?_, ?_, ?_, ?_, ?_⟩, ?_, ?_, hdrop⟩
  · exact ho.kept (fun k hk => Below.heap_setCell _ _ _ _ (fun e => hrow (by rw [hk]; exact congrArg some e)))
  · rw [Below.heap_setCell _ _ _ _ (by exact hne)]; exact bo2
  · rw [hz, List.length_append]; have := h.fst; omega
  · intro s hs
    rw [hz] at hs
    rcases List.mem_append.1 hs with hs | hs
    · exact h.sht s hs
    · simp at hs; subst hs; exact hy
  · rw [hdrop]
    rw [List.nodup_append]
    refine ⟨h.nodup, by simp, ?_⟩
    intro a ha b hb e
    simp at hb
    subst e; subst hb
    exact hnew ha
  · exact ((Fr.grown hg).mono (fun i e => .inr (.inr (.inr e)))).setCell (.inl (.inl rfl)) _
  · intro k hk
    rcases hk with hk | hk | hk | hk
    · exact .inl (.inl hk)
    · exact .inl (.inr (.inl hk))
    · exact .inl (.inr (.inr (.inl hk)))
    · rcases hblk k hk.symm with e | e
      · exact .inl (.inr (.inr (.inr e.symm)))
      · exact .inr (by omega)

end Go.Proofs.Qxb6601989a
