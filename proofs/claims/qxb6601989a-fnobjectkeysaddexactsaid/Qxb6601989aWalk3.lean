/-
  Seat b6601989a: 'FnObjectKeysAddExact' (function 3), walked.
-/
import Derived.Test.Qxb6601989aExactParts
namespace Go.Proofs.Qxb6601989a
open Go.RowKit
set_option linter.unusedVariables false

/-- Where 'xs[f:]' lies. -/
def cutA (a : Option Addr) (c f : Nat) : Option Addr := if c = f then a else Option.map (fun x => x.add f) a

theorem run_cut (a : Option Addr) (l c f : Nat) (h : f ≤ l) (w : World) : (Instr.slice 23 (.slice a l c) (some (.int .i64 (f : Int))) none none).run Try.prog w = .ok (.slice (cutA a c f) (l - f) (c - f)) w := by
  rw [run_slice_l w 23 a l c Try.underlying23 .i64 (f : Int) (by omega) (by omega)]
  have : (sizeOf (Try.prog.elem 23)).run Try.prog w = .ok 1 w := by kernel_rfl
  rw [this]
  simp [sliced, cutA, Result.andThen]

theorem run_cutAt (a : Option Addr) (l c f : Nat) (h : f ≤ l) (w : World) : (Instr.sliceAt 23 (.slice a l c) (some (.int .i64 (f : Int))) none none).run Try.prog w = .ok (.slice (cutA a c f) (l - f) (c - f)) w := by
  rw [run_sliceAt_slice w 23 _ _ _ _ Try.underlying23]
  exact run_cut a l c f h w

set_option maxHeartbeats 1000000 in
/-- Too long: the law answers true by itself. -/
theorem walk3_long (first : Int) (r : Option Nat) (a2 : Option Addr) (l2 c2 m : Nat) (y : ByteArray) (w : World) (hm : ∀ ty, (Builtin.len_ #[22] ty #[.map r]).run Try.prog (w.alloc (.cells #[.slice a2 l2 c2] 23)) = .ok (.int .i64 m) (w.alloc (.cells #[.slice a2 l2 c2] 23)))
    (h : 65536 < l2 ∨ 65536 < m ∨ 65536 < y.size) :
    Calls Try.prog 3 #[.int .i64 first, .map r, .slice a2 l2 c2, .string y] w fun e w' => e = .returned (.bool true) ∧ Below w.heap.size w w' := by
  have bel : Below w.heap.size w (w.alloc (.cells #[.slice a2 l2 c2] 23)) := (Below.refl _ _).alloc (Nat.le_refl _) _
  by_cases hl0 : 65536 < l2
  · have b1 : decide (65536 < (l2 : Int)) = true := by simp; omega
    go_enter Try.func3, Try.ntmps3
    go_wp2_with fail
    go_ret
    exact ⟨rfl, bel⟩
  · have b1 : decide (65536 < (l2 : Int)) = false := by simp; omega
    by_cases hl1 : 65536 < m
    · have b2 : decide (65536 < (m : Int)) = true := by simp; omega
      go_enter Try.func3, Try.ntmps3
      go_wp2_with fail
      go_ret
      exact ⟨rfl, bel⟩
    · have b2 : decide (65536 < (m : Int)) = false := by simp; omega
      have b3 : decide (65536 < (y.size : Int)) = true := by simp; omega
      go_enter Try.func3, Try.ntmps3
      go_wp2_with fail
      go_ret
      exact ⟨rfl, bel⟩

set_option maxHeartbeats 1000000 in
/-- 'first' outside the slice: the law answers true by itself. -/
theorem walk3_first (first : Int) (r : Option Nat) (a2 : Option Addr) (l2 c2 m : Nat) (T : Nat → ByteArray) (y : ByteArray) (w : World) (hm : ∀ ty, (Builtin.len_ #[22] ty #[.map r]).run Try.prog (w.alloc (.cells #[.slice a2 l2 c2] 23)) = .ok (.int .i64 m) (w.alloc (.cells #[.slice a2 l2 c2] 23)))
    (hrd : Rd (w.alloc (.cells #[.slice a2 l2 c2] 23)) a2 l2 T) (h1 : l2 ≤ 65536) (h2 : m ≤ 65536) (h3 : y.size ≤ 65536) (h : first < 0 ∨ (l2 : Int) < first) :
    Calls Try.prog 3 #[.int .i64 first, .map r, .slice a2 l2 c2, .string y] w fun e w' => e = .returned (.bool true) ∧ Below w.heap.size w w' := by
  have bel : Below w.heap.size w (w.alloc (.cells #[.slice a2 l2 c2] 23)) := (Below.refl _ _).alloc (Nat.le_refl _) _
  have b1 : decide (65536 < (l2 : Int)) = false := by simp; omega
  have b2 : decide (65536 < (m : Int)) = false := by simp; omega
  have b3 : decide (65536 < (y.size : Int)) = false := by simp; omega
  have HR : Hid (Rd (w.alloc (.cells #[.slice a2 l2 c2] 23)) a2 l2 T) := hrd
  clear hrd
  go_enter Try.func3, Try.ntmps3
  go_wp2_with fail
  refine (bytes_any a2 l2 c2 _ _ HR.out (by omega)).mono ?_
  rintro e w' ⟨⟨r0, rfl⟩, rfl⟩
  cases hb : decide (1048576 < wrap64 (r0 + (y.size : Int)))
  · by_cases hf : first < 0
    · have b4 : decide (first < 0) = true := by simp; omega
      go_wp2_with fail
      go_ret
      exact ⟨rfl, bel⟩
    · have b4 : decide (first < 0) = false := by simp; omega
      have b5 : decide ((l2 : Int) < first) = true := by simp; omega
      go_wp2_with fail
      go_ret
      exact ⟨rfl, bel⟩
  · go_wp2_with fail
    go_ret
    exact ⟨rfl, bel⟩

/-- The object between its making and the end; M: the names before. -/
structure Ex (B : Nat) (w0 w : World) (bn bo f : Nat) (N : List ByteArray) (ao : Option Addr) (n c : Nat) (idx : Option Nat) (ab : Option Addr) (m d : Nat) (M : List ByteArray) : Prop where
  ob : Ob w bn bo f ao n c N idx
  ix : Idx w f N idx
  bef : OwnS w (.slice ab m d) M
  db : ∀ k, (Value.slice ab m d).ownBlock = some k → ¬ Foot bn bo ao n c idx k
  lo : ∀ k, Foot bn bo ao n c idx k → B ≤ k
  sz : B ≤ w.heap.size
  bel : Below B w0 w

theorem Ex.still {B : Nat} {w0 w : World} {bn bo f : Nat} {N : List ByteArray} {ao : Option Addr} {n c : Nat} {idx : Option Nat} {ab : Option Addr} {m d : Nat} {M : List ByteArray} (h : Ex B w0 w bn bo f N ao n c idx ab m d M) {w1 : World} (fr : Fr (fun _ => False) w w1) :
    Ex B w0 w1 bn bo f N ao n c idx ab m d M := by
  have fl := foot_lt h.ob h.ix
  refine ⟨h.ob.kept (fun k hk => fr.block k (fl k ?_) (fun f => f)), h.ix.kept (fun k hk => fr.block k (h.ix.lt k hk) (fun f => f)), h.bef.kept (fun k hk => fr.block k (h.bef.lt k hk) (fun f => f)), h.db, h.lo, Nat.le_trans h.sz fr.size, h.bel.trans (fr.below (fun _ f => f.elim) h.sz)⟩
  rcases hk with hk | hk | hk
  · exact .inl hk
  · exact .inr (.inl hk)
  · exact .inr (.inr (.inr hk))

theorem Ex.added {B : Nat} {w0 w : World} {bn bo f : Nat} {N : List ByteArray} {ao : Option Addr} {n c : Nat} {idx : Option Nat} {ab : Option Addr} {m d : Nat} {M : List ByteArray} (h : Ex B w0 w bn bo f N ao n c idx ab m d M) {w1 : World} {y : ByteArray} (ha : Added w bn bo f ao n c N idx y w1) :
    ∃ ao' n' c' idx', Ex B w0 w1 bn bo f (N ++ [y]) ao' n' c' idx' ab m d M := by
  obtain ⟨ao', n', c', idx', h1, h2, h3, h4⟩ := ha
  refine ⟨ao', n', c', idx', h1, h4, h.bef.kept (fun k hk => h2.block k (h.bef.lt k hk) (h.db k hk)), ?_, ?_, Nat.le_trans h.sz h2.size, h.bel.trans (h2.below h.lo h.sz)⟩
  · intro k hk f
    rcases h3 _ f with e | e
    · exact h.db k hk e
    · have := h.bef.lt k hk; omega
  · intro k f
    rcases h3 _ f with e | e
    · exact h.lo k e
    · have := h.sz; omega

theorem Ex.told {B : Nat} {w0 w : World} {bn bo f : Nat} {N : List ByteArray} {ao : Option Addr} {n c : Nat} {idx : Option Nat} {ab : Option Addr} {m d : Nat} {M : List ByteArray} (h : Ex B w0 w bn bo f N ao n c idx ab m d M) :
    decide (16 < ((n - f : Nat) : Int)) = (!idx.isNone) := by
  have e := h.ob.row.sh.1
  rcases h.ix with ⟨rfl, hs⟩ | ⟨bm, rfl, _, hs⟩
  · rw [List.length_drop] at hs; simp; omega
  · rw [List.length_drop] at hs; simp; omega

/-- The object as the law makes it. -/
theorem Ex.start {B : Nat} {w0 w : World} {bn f : Nat} {N : List ByteArray} {ao : Option Addr} {n c : Nat} {idx : Option Nat} {ab : Option Addr} {m d : Nat} {M : List ByteArray}
    (box : w.heap[bn]? = some (.cells #[.slice ao n c] 23 (0, 0))) (row : OwnS w (.slice ao n c) N) (bef : OwnS w (.slice ab m d) M) (ix : Idx w f N idx) (hf : f ≤ N.length) (sht : Sht N) (nd : (N.drop f).Nodup)
    (d1 : ∀ k, (Value.slice ab m d).ownBlock = some k → k ≠ bn ∧ some k ≠ idx ∧ (Value.slice ao n c).ownBlock ≠ some k)
    (l1 : B ≤ bn) (l2 : ∀ k, some k = idx → B ≤ k) (l3 : ∀ k, (Value.slice ao n c).ownBlock = some k → B ≤ k) (sz : B ≤ w.heap.size) (bel : Below B w0 w) :
    Ex B w0 (w.alloc (.cells #[.int .i64 f, .map idx] 41)) bn w.heap.size f N ao n c idx ab m d M := by
  have al : ∀ k, k < w.heap.size → (w.alloc (.cells #[.int .i64 f, .map idx] 41)).heap[k]? = w.heap[k]? := fun k hk => Below.heap_alloc _ _ _ hk
  refine ⟨⟨(al _ (lt_of_block box)).trans box, row.kept (fun k hk => al k (row.lt k hk)), heap_alloc_new w _, hf, sht, nd⟩, ix.kept (fun k hk => al k (ix.lt k hk)), bef.kept (fun k hk => al k (bef.lt k hk)), ?_, ?_, by simp; omega, bel.alloc sz _⟩
  · rintro k hk (e | e | e | e)
    · exact (d1 k hk).1 e
    · have := bef.lt k hk; omega
    · exact (d1 k hk).2.1 e
    · exact (d1 k hk).2.2 e.symm
  · rintro k (e | e | e | e)
    · omega
    · omega
    · exact l2 k e
    · exact l3 k e.symm

theorem OwnS.capOk {w : World} {ao : Option Addr} {n c : Nat} {xs : List ByteArray} (h : OwnS w (.slice ao n c) xs) : n ≤ c := by
  obtain ⟨rfl, ⟨_, rfl, rfl⟩ | ⟨g, _, _, h1, _⟩⟩ := h.sh
  · exact Nat.le_refl _
  · exact h1

theorem below_le {B C : Nat} {w w' : World} (h : Below B w w') (hC : C ≤ B) : Below C w w' := ⟨h.os, h.tape, h.output, h.size, fun k hk => h.block k (Nat.lt_of_lt_of_le hk hC)⟩

/-- The names of the law's own: in the box, in a row above it. -/
structure Nm (w0 w : World) (N : List ByteArray) (ao : Option Addr) (n c : Nat) : Prop where
  box : w.heap[w0.heap.size]? = some (.cells #[.slice ao n c] 23 (0, 0))
  row : OwnS w (.slice ao n c) N
  lo : ∀ k, (Value.slice ao n c).ownBlock = some k → w0.heap.size < k
  bel : Below w0.heap.size w0 w

theorem Nm.later {w0 w w1 : World} {N : List ByteArray} {ao : Option Addr} {n c : Nat} (h : Nm w0 w N ao n c) (fr : Fr (fun _ => False) w w1) : Nm w0 w1 N ao n c := by
  have hb := lt_of_block h.box
  exact ⟨(fr.block _ hb (fun f => f)).trans h.box, h.row.kept (fun k hk => fr.block k (h.row.lt k hk) (fun f => f)), h.lo, h.bel.trans (fr.below (fun _ f => f.elim) (Nat.le_of_lt hb))⟩

theorem Nm.stored {w0 w1 wa : World} {N : List ByteArray} {ao : Option Addr} {n c : Nat} {v : Value} (hb1 : Below w0.heap.size w0 w1) (hx : w1.heap[w0.heap.size]? = some (.cells #[v] 23 (0, 0))) (row : OwnS wa (.slice ao n c) N)
    (lo : ∀ k, (Value.slice ao n c).ownBlock = some k → w1.heap.size ≤ k) (bel : Below w1.heap.size w1 wa) : Nm w0 (wa.setCell ⟨w0.heap.size, 0, none⟩ (.slice ao n c)) N ao n c := by
  have hb := lt_of_block hx
  have bx : wa.heap[w0.heap.size]? = some (.cells #[v] 23 (0, 0)) := (bel.block _ hb).trans hx
  refine ⟨one_setCell bx, row.kept (fun k hk => Below.heap_setCell _ _ _ _ (fun e => ?_)), fun k hk => Nat.lt_of_lt_of_le hb (lo k hk), ?_⟩
  · have := lo k hk
    have e' : k = w0.heap.size := e
    omega
  · exact (hb1.trans (below_le bel (Nat.le_of_lt hb))).setCell (Nat.le_refl _) _

theorem Nm.nil {w0 w : World} {N : List ByteArray} {ao : Option Addr} {n c : Nat} (h : Nm w0 w N ao n c) : ao = none → n = 0 ∧ c = 0 := by
  intro e
  obtain ⟨e1, ⟨_, h2, h3⟩ | ⟨g, h2, _⟩⟩ := h.row.sh
  · exact ⟨by rw [e1, h3]; rfl, h2⟩
  · rw [e] at h2; cases h2

/-- The copy 'before' and the object beside the names. -/
theorem Nm.start {w0 w wc : World} {N : List ByteArray} {ao : Option Addr} {n c f : Nat} {idx : Option Nat} {ab : Option Addr} {d : Nat} (h : Nm w0 w N ao n c) (ix : Idx w f N idx) (hlo : ∀ k, some k = idx → w0.heap.size ≤ k) (hf : f ≤ N.length) (sht : Sht N) (nd : (N.drop f).Nodup)
    (bef : OwnS wc (.slice ab n d) N) (lob : ∀ k, (Value.slice ab n d).ownBlock = some k → w.heap.size ≤ k) (bel : Below w.heap.size w wc) :
    Ex w0.heap.size w0 (wc.alloc (.cells #[.int .i64 f, .map idx] 41)) w0.heap.size wc.heap.size f N ao n c idx ab n d N := by
  have hb := lt_of_block h.box
  have bl : ∀ k, k < w.heap.size → wc.heap[k]? = w.heap[k]? := fun k hk => bel.block k hk
  refine Ex.start ((bl _ hb).trans h.box) (h.row.kept (fun k hk => bl k (h.row.lt k hk))) bef (ix.kept (fun k hk => bl k (ix.lt k hk))) hf sht nd ?_ (Nat.le_refl _) hlo (fun k hk => Nat.le_of_lt (h.lo k hk)) (Nat.le_trans (Nat.le_of_lt hb) bel.size) (h.bel.trans (below_le bel (Nat.le_of_lt hb)))
  intro k hk
  have hk' := lob k hk
  refine ⟨by omega, fun e => ?_, fun e => ?_⟩
  · have := ix.lt k e; omega
  · have := h.row.lt k e; omega

set_option maxHeartbeats 4000000 in
theorem walk3_main (f : Nat) (r : Option Nat) (a2 : Option Addr) (l2 c2 m : Nat) (z2 : List ByteArray) (y : ByteArray) (w : World) (hr : MapIn w r) (hm : ∀ ty, (Builtin.len_ #[22] ty #[.map r]).run Try.prog (w.alloc (.cells #[.slice a2 l2 c2] 23)) = .ok (.int .i64 m) (w.alloc (.cells #[.slice a2 l2 c2] 23)))
    (hs : Strs w a2 l2 c2 z2) (h1 : l2 ≤ 65536) (h2 : m ≤ 65536) (h3 : y.size ≤ 65536) (hf : f ≤ l2) :
    Calls Try.prog 3 #[.int .i64 f, .map r, .slice a2 l2 c2, .string y] w fun e w' => e = .returned (.bool true) ∧ Below w.heap.size w w' := by
  have bel : Below w.heap.size w (w.alloc (.cells #[.slice a2 l2 c2] 23)) := (Below.refl _ _).alloc (Nat.le_refl _) _
  have b1 : decide (65536 < (l2 : Int)) = false := by simp; omega
  have b2 : decide (65536 < (m : Int)) = false := by simp; omega
  have b3 : decide (65536 < (y.size : Int)) = false := by simp; omega
  have HM : Hid (MapIn w r) := hr
  have HS : Hid (Strs w a2 l2 c2 z2) := hs
  have hlc : l2 ≤ c2 := hs.facts.2.2.1
  have hy : y.size ≤ maxLen := by unfold maxLen; omega
  have box0 := heap_alloc_new w (.cells #[.slice a2 l2 c2] 23)
  have q22 : ∀ (w : World) (r : Option Nat), (binOp .neq 22 (.map r) (.map none)).run Try.prog w = .ok (.bool (!r.isNone)) w := fun w r => run_neq_map_nil w _ _ _ r Try.underlying22
  clear hr hs
  go_enter Try.func3, Try.ntmps3
  go_wp2_with fail
  have szW : w.heap.size < (w.alloc (.cells #[.slice a2 l2 c2] 23)).heap.size := by simp
  have c1 := box_cell box0
  generalize w.alloc (.cells #[.slice a2 l2 c2] 23) = W at bel box0 hm szW c1 ⊢
  have HB : Hid (Below w.heap.size w W) := bel
  have HX : Hid (W.heap[w.heap.size]? = some (.cells #[.slice a2 l2 c2] 23 (0, 0))) := box0
  have HSZ : Hid (w.heap.size < W.heap.size) := szW
  have HSW : Hid (Strs W a2 l2 c2 z2) := HS.out.keep bel
  clear bel box0 hm szW
  refine (bytes_any a2 l2 c2 _ _ HSW.out.rd (by omega)).mono ?_
  rintro e w' ⟨⟨r0, rfl⟩, rfl⟩
  cases hb : decide (1048576 < wrap64 (r0 + (y.size : Int)))
  rotate_left
  · go_wp2_with fail
    go_ret
    exact ⟨rfl, HB.out⟩
  have b4 : decide ((f : Int) < 0) = false := by simp <;> omega
  have b5 : decide ((l2 : Int) < (f : Int)) = false := by simp <;> omega
  have hcut := run_cut a2 l2 c2 f hf
  have hcut2 := run_cutAt a2 l2 c2 f hf
  have b6 : ¬ l2 < f := by omega
  have b7 : decide (l2 < f) = false := by simp <;> omega
  have hfl : (f : Int) ≤ (l2 : Int) := by omega
  have hlci : (l2 : Int) ≤ (c2 : Int) := by omega
  have HFN : Hid ((z2.take l2).length = l2) := HSW.out.facts.1
  have HSH : Hid (Sht (z2.take l2)) := HSW.out.facts.2.1
  have HRD : Hid (Rd w' a2 l2 (fun j => (z2.take l2).getD j ByteArray.empty)) := HSW.out.rdt
  go_wp2_with fail
  clear hb
  have HRC : Hid (Rd w' (cutA a2 c2 f) (l2 - f) (fun j => ((z2.take l2).drop f).getD j ByteArray.empty)) := HRD.out.cut hf hlc
  have HLD : Hid (((z2.take l2).drop f).length = l2 - f) := by unfold Hid; rw [List.length_drop, HFN.out]
  have HSD : Hid (Sht ((z2.take l2).drop f)) := fun s hs => HSH.out s (List.mem_of_mem_drop hs)
  generalize wrap64 (r0 + (y.size : Int)) = rr
  refine (distinct_any w' _ (l2 - f) (c2 - f) _ HLD.out HRC.out HSD.out (by omega)).mono ?_
  rintro e w1 ⟨⟨bd, rfl, hnd⟩, fr1⟩
  have HB1 : Hid (Below w.heap.size w w1) := HB.out.trans (fr1.below (fun _ f => f.elim) (Nat.le_of_lt HSZ.out))
  have HX1 : Hid (w1.heap[w.heap.size]? = some (.cells #[.slice a2 l2 c2] 23 (0, 0))) := (fr1.block _ HSZ.out (fun f => f)).trans HX.out
  have HSZ1 : Hid (w.heap.size < w1.heap.size) := Nat.lt_of_lt_of_le HSZ.out fr1.size
  have HSW1 : Hid (Strs w1 a2 l2 c2 z2) := HSW.out.keep (fr1.below (fun _ f => f.elim) (Nat.le_refl _))
  have HRC1 : Hid (Rd w1 (cutA a2 c2 f) (l2 - f) (fun j => ((z2.take l2).drop f).getD j ByteArray.empty)) := HRC.out.later fr1
  clear c1 fr1 HX HSW HRC HRD HB HSZ HS
  cases bd
  · go_wp2_with fail
    go_ret
    exact ⟨rfl, HB1.out⟩
  have HND : Hid (((z2.take l2).drop f).Nodup) := hnd rfl
  have c1 := box_cell HX1.out
  clear hnd
  cases r with
  | none =>
    cases h16 : decide (16 < (l2 : Int) - (f : Int))
    rotate_left
    · go_wp2_with fail
      go_ret
      exact ⟨rfl, HB1.out⟩
    go_wp2_with fail
    refine (clone_any a2 l2 c2 z2 _ (by omega) HSW1.out).mono ?_
    rintro e wa ⟨ao, d0, rfl, ow, lenO, shO, lo, bela⟩
    have nm := Nm.stored HB1.out HX1.out ow lo bela
    have bxa := (bela.block _ HSZ1.out).trans HX1.out
    have hfz := free_of (j := 0) bxa
    have c1a := box_cell bxa
    have HN : Hid (Nm w (wa.setCell ⟨w.heap.size, 0, none⟩ (.slice ao l2 d0)) (z2.take l2) ao l2 d0) := nm
    have hcutN := run_cut ao l2 d0 f hf
    have hcutN2 := run_cutAt ao l2 d0 f hf
    clear ow lenO shO lo bela bxa nm c1 hcut hcut2
    go_wp2_with fail
    clear hfz c1a
    generalize wa.setCell ⟨w.heap.size, 0, none⟩ (.slice ao l2 d0) = wr at HN ⊢
    have HIX : Hid (Idx wr f (z2.take l2) none) := .inl ⟨rfl, by have := HLD.out; have := of_decide_eq_false h16; omega⟩
    have HLO : Hid (∀ k, some k = (none : Option Nat) → w.heap.size ≤ k) := fun k e => by cases e
    refine (clone_rd ao l2 d0 (z2.take l2) _ (by omega) HFN.out HN.out.row.rd HN.out.nil).mono ?_
    rintro e wc ⟨ab, d, rfl, bef, lob, belc⟩
    have ex0 := HN.out.start HIX.out HLO.out (by rw [HFN.out]; exact hf) HSH.out HND.out bef lob belc
    have HE : Hid (Ex w.heap.size w (wc.alloc (.cells #[.int .i64 f, .map none] 41)) w.heap.size wc.heap.size f (z2.take l2) ao l2 d0 none ab l2 d (z2.take l2)) := ex0
    have HRB : Hid (Rd wc (cutA ab d f) (l2 - f) (fun j => ((z2.take l2).drop f).getD j ByteArray.empty)) := bef.rd.cut hf (bef.capOk)
    have hcutB := run_cut ab l2 d f hf
    have hcutB2 := run_cutAt ab l2 d f hf
    clear bef lob belc ex0 hcutN hcutN2 h16
    go_wp2_with fail
    refine (member_any wc _ (l2 - f) (d - f) _ y HLD.out HRB.out (by omega)).mono ?_
    rintro e x0 ⟨rfl, rfl⟩
    by_cases hm : y ∈ (z2.take l2).drop f
    · rw [memB_true.2 hm]
      have HMM : Hid (y ∈ (z2.take l2).drop f) := hm
      clear hm HRB hcutB hcutB2
      go_wp2_with fail
      refine (new_any x0 f none).mono ?_
      rintro e x1 ⟨rfl, rfl⟩
      go_wp2_with fail
      generalize x0.alloc (.cells #[.int .i64 f, .map none] 41) = x1 at HE ⊢
      generalize x0.heap.size = bo at HE ⊢
      refine (zz_hit x1 w.heap.size bo f ao l2 d0 (z2.take l2) none y hy HE.out.ob HE.out.ix (by rw [HFN.out]; omega) HMM.out).mono ?_
      rintro e x2 ⟨rfl, fr2⟩
      have ex2 := HE.out.still fr2
      have HE2 : Hid (Ex w.heap.size w x2 w.heap.size bo f (z2.take l2) ao l2 d0 none ab l2 d (z2.take l2)) := ex2
      clear HE fr2
      go_wp2_with fail
      refine (first_any x2 bo f none HE2.out.ob.obj).mono ?_
      rintro e x3 ⟨rfl, rfl⟩
      have c1 := box_cell HE2.out.ob.box
      clear ex2
      go_wp2_with fail
      clear c1
      obtain ⟨xx, hxx⟩ : ∃ xx : World, xx = x3 := ⟨_, rfl⟩
      clear hxx
      have HG : Hid (∀ k, k < l2 → (z2.take l2).getD k ByteArray.empty = (z2.take l2).getD k ByteArray.empty) := by
        intro k hk
        first
          | rfl
          | rw [List.getD, List.getElem?_append_left (by rw [HFN.out]; exact hk), List.getD]
      go_loopw [14] (fun i wr => ∃ k : Nat, k ≤ l2 ∧ i = .int .i64 k ∧ Hid (Ex w.heap.size w wr w.heap.size bo f (z2.take l2) ao l2 d0 none ab l2 d (z2.take l2))) (fun i _ => l2 - (intOf i).toNat)
      case atStart => exact ⟨0, Nat.zero_le _, rfl, HE2⟩
      case round =>
        clear HE2
        obtain ⟨k, hk, rfl, HE2⟩ := hrel
        by_cases hkl : k < l2
        · have c1 := box_cell HE2.out.ob.box
          obtain e | ⟨b0, off0, rfl, hb0, hc0⟩ := HE2.out.ob.row.rd
          · omega
          obtain e | ⟨b1, off1, rfl, hb1, hc1⟩ := HE2.out.bef.rd
          · omega
          have hcx : wr.cell? ⟨b0, off0 + k, none⟩ = some (.string ((z2.take l2).getD k ByteArray.empty)) := hc0 k (by omega)
          have hcy : wr.cell? ⟨b1, off1 + k, none⟩ = some (.string ((z2.take l2).getD k ByteArray.empty)) := hc1 k hkl
          rw [HG.out k hkl] at hcx
          generalize (z2.take l2).getD k ByteArray.empty = z at hcx hcy
          have hk1 : (k : Int) < (l2 : Int) := by omega
          have hk2 : k < l2 := by omega
          clear hc0 hc1
          go_wp2_with fail
          go_quiet (fail)
          go_wp2_with fail
          go_roundw
          case rel => exact ⟨k + 1, by omega, by go_num, HE2.out.still (fr_drewN _ _)⟩
          case measure => simp [intOf]; omega
        · obtain rfl : k = l2 := by omega
          have c1 := box_cell HE2.out.ob.box
          have hcutE := run_cut ao k d0 f (by omega)
          have hcutE2 := run_cutAt ao k d0 f (by omega)
          have htold := HE2.out.told
          go_wp2_with fail
          refine (index_any wr bo f none HE2.out.ob.obj).mono ?_
          rintro e x9 ⟨rfl, rfl⟩
          go_wp2_with fail
          go_ret
          exact ⟨rfl, HE2.out.bel⟩
    · rw [memB_false.2 hm]
      have HMM : Hid (y ∉ (z2.take l2).drop f) := hm
      clear hm HRB hcutB hcutB2
      go_wp2_with fail
      refine (new_any x0 f none).mono ?_
      rintro e x1 ⟨rfl, rfl⟩
      go_wp2_with fail
      generalize x0.alloc (.cells #[.int .i64 f, .map none] 41) = x1 at HE ⊢
      generalize x0.heap.size = bo at HE ⊢
      refine (zz_miss x1 w.heap.size bo f ao l2 d0 (z2.take l2) none y hy HE.out.ob HE.out.ix (by rw [HFN.out]; omega) HMM.out).mono ?_
      rintro e x2 ⟨rfl, ha⟩
      obtain ⟨ao', n', c', idx', ex2⟩ := HE.out.added ha
      have HE2 : Hid (Ex w.heap.size w x2 w.heap.size bo f (z2.take l2 ++ [y]) ao' n' c' idx' ab l2 d (z2.take l2)) := ex2
      have hn' : n' = l2 + 1 := by
        have e1 := HE2.out.ob.row.sh.1
        rw [List.length_append, HFN.out] at e1
        simpa using e1
      subst hn'
      clear HE ha
      go_wp2_with fail
      refine (first_any x2 bo f idx' HE2.out.ob.obj).mono ?_
      rintro e x3 ⟨rfl, rfl⟩
      have c1 := box_cell HE2.out.ob.box
      clear ex2
      go_wp2_with fail
      clear c1
      obtain ⟨xx, hxx⟩ : ∃ xx : World, xx = x3 := ⟨_, rfl⟩
      clear hxx
      have HG : Hid (∀ k, k < l2 → (z2.take l2 ++ [y]).getD k ByteArray.empty = (z2.take l2).getD k ByteArray.empty) := by
        intro k hk
        first
          | rfl
          | rw [List.getD, List.getElem?_append_left (by rw [HFN.out]; exact hk), List.getD]
      go_loopw [14] (fun i wr => ∃ k : Nat, k ≤ l2 ∧ i = .int .i64 k ∧ Hid (Ex w.heap.size w wr w.heap.size bo f (z2.take l2 ++ [y]) ao' (l2 + 1) c' idx' ab l2 d (z2.take l2))) (fun i _ => l2 - (intOf i).toNat)
      case atStart => exact ⟨0, Nat.zero_le _, rfl, HE2⟩
      case round =>
        clear HE2
        obtain ⟨k, hk, rfl, HE2⟩ := hrel
        by_cases hkl : k < l2
        · have c1 := box_cell HE2.out.ob.box
          obtain e | ⟨b0, off0, rfl, hb0, hc0⟩ := HE2.out.ob.row.rd
          · omega
          obtain e | ⟨b1, off1, rfl, hb1, hc1⟩ := HE2.out.bef.rd
          · omega
          have hcx : wr.cell? ⟨b0, off0 + k, none⟩ = some (.string ((z2.take l2 ++ [y]).getD k ByteArray.empty)) := hc0 k (by omega)
          have hcy : wr.cell? ⟨b1, off1 + k, none⟩ = some (.string ((z2.take l2).getD k ByteArray.empty)) := hc1 k hkl
          rw [HG.out k hkl] at hcx
          generalize (z2.take l2).getD k ByteArray.empty = z at hcx hcy
          have hk1 : (k : Int) < (l2 : Int) := by omega
          have hk2 : k < (l2 + 1) := by omega
          clear hc0 hc1
          go_wp2_with fail
          go_quiet (fail)
          go_wp2_with fail
          go_roundw
          case rel => exact ⟨k + 1, by omega, by go_num, HE2.out.still (fr_drewN _ _)⟩
          case measure => simp [intOf]; omega
        · obtain rfl : k = l2 := by omega
          obtain e | ⟨b0, off0, rfl, hb0, hc0⟩ := HE2.out.ob.row.rd
          · omega
          have hcz : wr.cell? ⟨b0, off0 + k, none⟩ = some (.string y) := by
            have := hc0 k (by omega)
            rw [this]
            show some (Value.string ((z2.take k ++ [y]).getD k ByteArray.empty)) = _
            rw [List.getD, List.getElem?_append_right (by rw [HFN.out]; exact Nat.le_refl _), HFN.out]
            simp
          have hk2 : k < k + 1 := by omega
          clear hc0
          have c1 := box_cell HE2.out.ob.box
          have hcutE := run_cut (some ⟨b0, off0, Option.none⟩) (k + 1) c' f (by omega)
          have hcutE2 := run_cutAt (some ⟨b0, off0, Option.none⟩) (k + 1) c' f (by omega)
          have htold := HE2.out.told
          go_wp2_with fail
          refine (index_any wr bo f idx' HE2.out.ob.obj).mono ?_
          rintro e x9 ⟨rfl, rfl⟩
          cases idx' with
          | none =>
            go_wp2_with fail
            go_ret
            exact ⟨rfl, HE2.out.bel⟩
          | some bm =>
            have HO : Hid (Ex w.heap.size w x9 w.heap.size bo f (z2.take k ++ [y]) (some ⟨b0, off0, Option.none⟩) (k + 1) c' (some bm) ab k d (z2.take k)) := HE2
            have hset : MSet x9 bm ((z2.take k ++ [y]).drop f) := by
              rcases HO.out.ix with ⟨e, _⟩ | ⟨bm', e, h, _⟩
              · cases e
              · cases e; exact h
            have hlen : ((z2.take k ++ [y]).drop f).length = (k + 1) - f := by rw [List.length_drop, ← HO.out.ob.row.sh.1]
            have hsh : Sht ((z2.take k ++ [y]).drop f) := fun s hs => HO.out.ob.sht s (List.mem_of_mem_drop hs)
            have H8 : Hid (Calls Try.prog 8 #[.map (some bm), .slice (cutA (some ⟨b0, off0, Option.none⟩) c' f) ((k + 1) - f) (c' - f)] x9 fun e w' => e = .returned (.bool true) ∧ w' = x9) := holds_any x9 bm _ ((k + 1) - f) (c' - f) _ hlen hset (HO.out.ob.row.rd.cut (by omega) HO.out.ob.row.capOk) hsh (by omega)
            clear hset hlen hsh
            go_wp2_with (go_at_call 8; refine H8.out.mono ?_; rintro e x10 ⟨rfl, rfl⟩)
            go_ret
            exact ⟨rfl, HO.out.bel⟩
  | some br =>
    cases h16 : decide (16 < (l2 : Int) - (f : Int))
    · go_wp2_with fail
      go_ret
      exact ⟨rfl, HB1.out⟩
    have hask : Askable w1 br := by
      rcases HM.out with e | ⟨b, e, h⟩
      · cases e
      · cases e; exact h w1 HB1.out
    have H8 : Hid (Calls Try.prog 8 #[.map (some br), .slice (cutA a2 c2 f) (l2 - f) (c2 - f)] w1 fun e w' => IsB e ∧ w' = w1) := ask_any w1 br _ (l2 - f) (c2 - f) _ HLD.out hask HRC1.out HSD.out (by omega)
    clear hask
    go_wp2_with (go_at_call 8; refine H8.out.mono ?_; rintro e w1 ⟨⟨b8, rfl⟩, rfl⟩; cases b8)
    · go_ret
      exact ⟨rfl, HB1.out⟩
    clear H8
    refine (clone_any a2 l2 c2 z2 _ (by omega) HSW1.out).mono ?_
    rintro e wa ⟨ao, d0, rfl, ow, lenO, shO, lo, bela⟩
    have nm := Nm.stored HB1.out HX1.out ow lo bela
    have bxa := (bela.block _ HSZ1.out).trans HX1.out
    have hfz := free_of (j := 0) bxa
    have c1a := box_cell bxa
    have HN : Hid (Nm w (wa.setCell ⟨w.heap.size, 0, none⟩ (.slice ao l2 d0)) (z2.take l2) ao l2 d0) := nm
    have hcutN := run_cut ao l2 d0 f hf
    have hcutN2 := run_cutAt ao l2 d0 f hf
    clear ow lenO shO lo bela bxa nm c1 hcut hcut2
    go_wp2_with fail
    clear hfz c1a
    generalize wa.setCell ⟨w.heap.size, 0, none⟩ (.slice ao l2 d0) = wr at HN ⊢
    refine (setOf_any wr _ (l2 - f) (d0 - f) _ HLD.out (HN.out.row.rd.cut hf (by have := HN.out.row.capOk; omega)) HSD.out (by omega) HND.out).mono ?_
    rintro e wr2 ⟨⟨rfl, hset⟩, fr2⟩
    have HN2 : Hid (Nm w wr2 (z2.take l2) ao l2 d0) := HN.out.later fr2
    have HIX : Hid (Idx wr2 f (z2.take l2) (some wr.heap.size)) := .inr ⟨_, rfl, hset, by have := HLD.out; have := of_decide_eq_true h16; omega⟩
    have HLO : Hid (∀ k, some k = some wr.heap.size → w.heap.size ≤ k) := fun k e => by have := Option.some.inj e; have := lt_of_block HN.out.box; omega
    clear HN hset fr2
    generalize wr.heap.size = bi at HIX HLO ⊢
    have c1 := box_cell HN2.out.box
    go_wp2_with fail
    clear c1
    refine (clone_rd ao l2 d0 (z2.take l2) _ (by omega) HFN.out HN2.out.row.rd HN2.out.nil).mono ?_
    rintro e wc ⟨ab, d, rfl, bef, lob, belc⟩
    have ex0 := HN2.out.start HIX.out HLO.out (by rw [HFN.out]; exact hf) HSH.out HND.out bef lob belc
    have HE : Hid (Ex w.heap.size w (wc.alloc (.cells #[.int .i64 f, .map (some bi)] 41)) w.heap.size wc.heap.size f (z2.take l2) ao l2 d0 (some bi) ab l2 d (z2.take l2)) := ex0
    have HRB : Hid (Rd wc (cutA ab d f) (l2 - f) (fun j => ((z2.take l2).drop f).getD j ByteArray.empty)) := bef.rd.cut hf (bef.capOk)
    have hcutB := run_cut ab l2 d f hf
    have hcutB2 := run_cutAt ab l2 d f hf
    clear bef lob belc ex0 hcutN hcutN2 h16
    go_wp2_with fail
    refine (member_any wc _ (l2 - f) (d - f) _ y HLD.out HRB.out (by omega)).mono ?_
    rintro e x0 ⟨rfl, rfl⟩
    by_cases hm : y ∈ (z2.take l2).drop f
    · rw [memB_true.2 hm]
      have HMM : Hid (y ∈ (z2.take l2).drop f) := hm
      clear hm HRB hcutB hcutB2
      go_wp2_with fail
      refine (new_any x0 f (some bi)).mono ?_
      rintro e x1 ⟨rfl, rfl⟩
      go_wp2_with fail
      generalize x0.alloc (.cells #[.int .i64 f, .map (some bi)] 41) = x1 at HE ⊢
      generalize x0.heap.size = bo at HE ⊢
      refine (zz_hit x1 w.heap.size bo f ao l2 d0 (z2.take l2) (some bi) y hy HE.out.ob HE.out.ix (by rw [HFN.out]; omega) HMM.out).mono ?_
      rintro e x2 ⟨rfl, fr2⟩
      have ex2 := HE.out.still fr2
      have HE2 : Hid (Ex w.heap.size w x2 w.heap.size bo f (z2.take l2) ao l2 d0 (some bi) ab l2 d (z2.take l2)) := ex2
      clear HE fr2
      go_wp2_with fail
      refine (first_any x2 bo f (some bi) HE2.out.ob.obj).mono ?_
      rintro e x3 ⟨rfl, rfl⟩
      have c1 := box_cell HE2.out.ob.box
      clear ex2
      go_wp2_with fail
      clear c1
      obtain ⟨xx, hxx⟩ : ∃ xx : World, xx = x3 := ⟨_, rfl⟩
      clear hxx
      have HG : Hid (∀ k, k < l2 → (z2.take l2).getD k ByteArray.empty = (z2.take l2).getD k ByteArray.empty) := by
        intro k hk
        first
          | rfl
          | rw [List.getD, List.getElem?_append_left (by rw [HFN.out]; exact hk), List.getD]
      go_loopw [14] (fun i wr => ∃ k : Nat, k ≤ l2 ∧ i = .int .i64 k ∧ Hid (Ex w.heap.size w wr w.heap.size bo f (z2.take l2) ao l2 d0 (some bi) ab l2 d (z2.take l2))) (fun i _ => l2 - (intOf i).toNat)
      case atStart => exact ⟨0, Nat.zero_le _, rfl, HE2⟩
      case round =>
        clear HE2
        obtain ⟨k, hk, rfl, HE2⟩ := hrel
        by_cases hkl : k < l2
        · have c1 := box_cell HE2.out.ob.box
          obtain e | ⟨b0, off0, rfl, hb0, hc0⟩ := HE2.out.ob.row.rd
          · omega
          obtain e | ⟨b1, off1, rfl, hb1, hc1⟩ := HE2.out.bef.rd
          · omega
          have hcx : wr.cell? ⟨b0, off0 + k, none⟩ = some (.string ((z2.take l2).getD k ByteArray.empty)) := hc0 k (by omega)
          have hcy : wr.cell? ⟨b1, off1 + k, none⟩ = some (.string ((z2.take l2).getD k ByteArray.empty)) := hc1 k hkl
          rw [HG.out k hkl] at hcx
          generalize (z2.take l2).getD k ByteArray.empty = z at hcx hcy
          have hk1 : (k : Int) < (l2 : Int) := by omega
          have hk2 : k < l2 := by omega
          clear hc0 hc1
          go_wp2_with fail
          go_quiet (fail)
          go_wp2_with fail
          go_roundw
          case rel => exact ⟨k + 1, by omega, by go_num, HE2.out.still (fr_drewN _ _)⟩
          case measure => simp [intOf]; omega
        · obtain rfl : k = l2 := by omega
          have c1 := box_cell HE2.out.ob.box
          have hcutE := run_cut ao k d0 f (by omega)
          have hcutE2 := run_cutAt ao k d0 f (by omega)
          have htold := HE2.out.told
          go_wp2_with fail
          refine (index_any wr bo f (some bi) HE2.out.ob.obj).mono ?_
          rintro e x9 ⟨rfl, rfl⟩
          have HO : Hid (Ex w.heap.size w x9 w.heap.size bo f (z2.take k) ao k d0 (some bi) ab k d (z2.take k)) := HE2
          have hset : MSet x9 bi ((z2.take k).drop f) := by
            rcases HO.out.ix with ⟨e, _⟩ | ⟨bm', e, h, _⟩
            · cases e
            · cases e; exact h
          have hlen : ((z2.take k).drop f).length = k - f := by rw [List.length_drop, ← HO.out.ob.row.sh.1]
          have hsh : Sht ((z2.take k).drop f) := fun s hs => HO.out.ob.sht s (List.mem_of_mem_drop hs)
          have H8 : Hid (Calls Try.prog 8 #[.map (some bi), .slice (cutA ao d0 f) (k - f) (d0 - f)] x9 fun e w' => e = .returned (.bool true) ∧ w' = x9) := holds_any x9 bi _ (k - f) (d0 - f) _ hlen hset (HO.out.ob.row.rd.cut (by omega) HO.out.ob.row.capOk) hsh (by omega)
          clear hset hlen hsh
          go_wp2_with (go_at_call 8; refine H8.out.mono ?_; rintro e x10 ⟨rfl, rfl⟩)
          go_ret
          exact ⟨rfl, HO.out.bel⟩
    · rw [memB_false.2 hm]
      have HMM : Hid (y ∉ (z2.take l2).drop f) := hm
      clear hm HRB hcutB hcutB2
      go_wp2_with fail
      refine (new_any x0 f (some bi)).mono ?_
      rintro e x1 ⟨rfl, rfl⟩
      go_wp2_with fail
      generalize x0.alloc (.cells #[.int .i64 f, .map (some bi)] 41) = x1 at HE ⊢
      generalize x0.heap.size = bo at HE ⊢
      refine (zz_miss x1 w.heap.size bo f ao l2 d0 (z2.take l2) (some bi) y hy HE.out.ob HE.out.ix (by rw [HFN.out]; omega) HMM.out).mono ?_
      rintro e x2 ⟨rfl, ha⟩
      obtain ⟨ao', n', c', idx', ex2⟩ := HE.out.added ha
      have HE2 : Hid (Ex w.heap.size w x2 w.heap.size bo f (z2.take l2 ++ [y]) ao' n' c' idx' ab l2 d (z2.take l2)) := ex2
      have hn' : n' = l2 + 1 := by
        have e1 := HE2.out.ob.row.sh.1
        rw [List.length_append, HFN.out] at e1
        simpa using e1
      subst hn'
      clear HE ha
      go_wp2_with fail
      refine (first_any x2 bo f idx' HE2.out.ob.obj).mono ?_
      rintro e x3 ⟨rfl, rfl⟩
      have c1 := box_cell HE2.out.ob.box
      clear ex2
      go_wp2_with fail
      clear c1
      obtain ⟨xx, hxx⟩ : ∃ xx : World, xx = x3 := ⟨_, rfl⟩
      clear hxx
      have HG : Hid (∀ k, k < l2 → (z2.take l2 ++ [y]).getD k ByteArray.empty = (z2.take l2).getD k ByteArray.empty) := by
        intro k hk
        first
          | rfl
          | rw [List.getD, List.getElem?_append_left (by rw [HFN.out]; exact hk), List.getD]
      go_loopw [14] (fun i wr => ∃ k : Nat, k ≤ l2 ∧ i = .int .i64 k ∧ Hid (Ex w.heap.size w wr w.heap.size bo f (z2.take l2 ++ [y]) ao' (l2 + 1) c' idx' ab l2 d (z2.take l2))) (fun i _ => l2 - (intOf i).toNat)
      case atStart => exact ⟨0, Nat.zero_le _, rfl, HE2⟩
      case round =>
        clear HE2
        obtain ⟨k, hk, rfl, HE2⟩ := hrel
        by_cases hkl : k < l2
        · have c1 := box_cell HE2.out.ob.box
          obtain e | ⟨b0, off0, rfl, hb0, hc0⟩ := HE2.out.ob.row.rd
          · omega
          obtain e | ⟨b1, off1, rfl, hb1, hc1⟩ := HE2.out.bef.rd
          · omega
          have hcx : wr.cell? ⟨b0, off0 + k, none⟩ = some (.string ((z2.take l2 ++ [y]).getD k ByteArray.empty)) := hc0 k (by omega)
          have hcy : wr.cell? ⟨b1, off1 + k, none⟩ = some (.string ((z2.take l2).getD k ByteArray.empty)) := hc1 k hkl
          rw [HG.out k hkl] at hcx
          generalize (z2.take l2).getD k ByteArray.empty = z at hcx hcy
          have hk1 : (k : Int) < (l2 : Int) := by omega
          have hk2 : k < (l2 + 1) := by omega
          clear hc0 hc1
          go_wp2_with fail
          go_quiet (fail)
          go_wp2_with fail
          go_roundw
          case rel => exact ⟨k + 1, by omega, by go_num, HE2.out.still (fr_drewN _ _)⟩
          case measure => simp [intOf]; omega
        · obtain rfl : k = l2 := by omega
          obtain e | ⟨b0, off0, rfl, hb0, hc0⟩ := HE2.out.ob.row.rd
          · omega
          have hcz : wr.cell? ⟨b0, off0 + k, none⟩ = some (.string y) := by
            have := hc0 k (by omega)
            rw [this]
            show some (Value.string ((z2.take k ++ [y]).getD k ByteArray.empty)) = _
            rw [List.getD, List.getElem?_append_right (by rw [HFN.out]; exact Nat.le_refl _), HFN.out]
            simp
          have hk2 : k < k + 1 := by omega
          clear hc0
          have c1 := box_cell HE2.out.ob.box
          have hcutE := run_cut (some ⟨b0, off0, Option.none⟩) (k + 1) c' f (by omega)
          have hcutE2 := run_cutAt (some ⟨b0, off0, Option.none⟩) (k + 1) c' f (by omega)
          have htold := HE2.out.told
          go_wp2_with fail
          refine (index_any wr bo f idx' HE2.out.ob.obj).mono ?_
          rintro e x9 ⟨rfl, rfl⟩
          cases idx' with
          | none =>
            go_wp2_with fail
            go_ret
            exact ⟨rfl, HE2.out.bel⟩
          | some bm =>
            have HO : Hid (Ex w.heap.size w x9 w.heap.size bo f (z2.take k ++ [y]) (some ⟨b0, off0, Option.none⟩) (k + 1) c' (some bm) ab k d (z2.take k)) := HE2
            have hset : MSet x9 bm ((z2.take k ++ [y]).drop f) := by
              rcases HO.out.ix with ⟨e, _⟩ | ⟨bm', e, h, _⟩
              · cases e
              · cases e; exact h
            have hlen : ((z2.take k ++ [y]).drop f).length = (k + 1) - f := by rw [List.length_drop, ← HO.out.ob.row.sh.1]
            have hsh : Sht ((z2.take k ++ [y]).drop f) := fun s hs => HO.out.ob.sht s (List.mem_of_mem_drop hs)
            have H8 : Hid (Calls Try.prog 8 #[.map (some bm), .slice (cutA (some ⟨b0, off0, Option.none⟩) c' f) ((k + 1) - f) (c' - f)] x9 fun e w' => e = .returned (.bool true) ∧ w' = x9) := holds_any x9 bm _ ((k + 1) - f) (c' - f) _ hlen hset (HO.out.ob.row.rd.cut (by omega) HO.out.ob.row.capOk) hsh (by omega)
            clear hset hlen hsh
            go_wp2_with (go_at_call 8; refine H8.out.mono ?_; rintro e x10 ⟨rfl, rfl⟩)
            go_ret
            exact ⟨rfl, HO.out.bel⟩

/-- Function 3: for every input. -/
theorem walk3 (first : Int) (r : Option Nat) (a2 : Option Addr) (l2 c2 : Nat) (z2 : List ByteArray) (y : ByteArray) (w : World) (hr : MapIn w r) (hs : Strs w a2 l2 c2 z2) :
    Calls Try.prog 3 #[.int .i64 first, .map r, .slice a2 l2 c2, .string y] w fun e w' => e = .returned (.bool true) ∧ Below w.heap.size w w' := by
  have bel : Below w.heap.size w (w.alloc (.cells #[.slice a2 l2 c2] 23)) := (Below.refl _ _).alloc (Nat.le_refl _) _
  obtain ⟨m, hm⟩ := hr.len bel
  by_cases hl : 65536 < l2 ∨ 65536 < m ∨ 65536 < y.size
  · exact walk3_long first r a2 l2 c2 m y w hm hl
  · by_cases hf : first < 0 ∨ (l2 : Int) < first
    · exact walk3_first first r a2 l2 c2 m _ y w hm (hs.rd.below bel) (by omega) (by omega) (by omega) hf
    · obtain ⟨f, rfl⟩ : ∃ f : Nat, first = f := ⟨first.toNat, by omega⟩
      exact walk3_main f r a2 l2 c2 m z2 y w hr hm hs (by omega) (by omega) (by omega) (by omega)

end Go.Proofs.Qxb6601989a
