/-
  Seat b6601989a: '(*objectKeys).add' (19), walked: a key that is new.
-/
import Derived.Test.Qxb6601989aAdd
namespace Go.Proofs.Qxb6601989a
open Go.RowKit
set_option linter.unusedVariables false

/-- What 'add' leaves where the key is new. -/
def Added (w : World) (bn bo first : Nat) (ao : Option Addr) (n c : Nat) (xs : List ByteArray) (idx : Option Nat) (y : ByteArray) (w' : World) : Prop :=
  ∃ ao' m' c' idx', Ob w' bn bo first ao' m' c' (xs ++ [y]) idx' ∧ Fr (Foot bn bo ao n c idx) w w' ∧ (∀ k, Foot bn bo ao' m' c' idx' k → Foot bn bo ao n c idx k ∨ w.heap.size ≤ k) ∧
    ((idx' = none ∧ ((xs ++ [y]).drop first).length ≤ 16) ∨ ∃ bm, idx' = some bm ∧ MSet w' bm ((xs ++ [y]).drop first) ∧ 16 < ((xs ++ [y]).drop first).length)

theorem Added.mk_idx {w w1 w2 : World} {bn bo first : Nat} {ao : Option Addr} {n c : Nat} {xs zs : List ByteArray} {bm : Nat} {y : ByteArray} {ao' : Option Addr} {m' c' : Nat} (hy : y.size ≤ maxLen) (hnew : y ∉ xs.drop first)
    (fr1 : Fr (Foot bn bo ao n c (some bm)) w w1) (hob1 : Ob w1 bn bo first ao n c xs (some bm)) (hs1 : MSet w1 bm (xs.drop first ++ [y])) (hlong : 16 < (xs.drop first).length)
    (hz : zs = xs ++ [y]) (ho : OwnS w2 (.slice ao' m' c') zs) (hg : w1.grownBy w2 (Value.slice ao n c).ownBlock)
    (hblk : ∀ k, (Value.slice ao' m' c').ownBlock = some k → (Value.slice ao n c).ownBlock = some k ∨ w1.heap.size < k) :
    Added w bn bo first ao n c xs (some bm) y (w2.setCell ⟨bn, 0, none⟩ (.slice ao' m' c')) := by
  obtain ⟨R1, R2, R3, R4⟩ := hob1.appended hy hnew hz ho hg hblk
  obtain ⟨n1, n2, n3⟩ := hob1.ne_map hs1
  rw [hz] at R1 R4
  refine ⟨ao', m', c', some bm, R1, fr1.trans R2 (fun i _ f => f), fun k hk => ?_, .inr ⟨bm, rfl, ?_, ?_⟩⟩
  · rcases R3 k hk with e | e
    · exact .inl e
    · exact .inr (Nat.le_trans fr1.size e)
  · rw [R4]
    refine hs1.kept ?_
    rw [Below.heap_setCell _ _ _ _ (by exact n1)]
    exact hg.block bm hs1.lt (fun e => n3 e.symm)
  · rw [R4, List.length_append]; omega

set_option maxHeartbeats 2000000 in
/-- The object has an index. -/
theorem add_miss_idx (w : World) (bn bo first : Nat) (ao : Option Addr) (n c : Nat) (xs : List ByteArray) (bm : Nat) (y : ByteArray) (hy : y.size ≤ maxLen)
    (h : Ob w bn bo first ao n c xs (some bm)) (hset : MSet w bm (xs.drop first)) (hlong : 16 < (xs.drop first).length) (hmem : memB (xs.drop first) y = false) (hn : xs.length ≤ 1048576) :
    Calls Try.prog 19 #[.pointer (some ⟨bo, 0, none⟩), .pointer (some ⟨bn, 0, none⟩), .string y] w fun e w' => e = .returned (.bool false) ∧ Added w bn bo first ao n c xs (some bm) y w' := by
  have c1 := box_cell h.box
  obtain ⟨c2, c3⟩ := obj_cells h.obj
  have q22 : ∀ (w : World) (r : Option Nat), (binOp .neq 22 (.map r) (.map none)).run Try.prog w = .ok (.bool (!r.isNone)) w := fun w r => run_neq_map_nil w _ _ _ r Try.underlying22
  have q23 : ∀ (w : World) (r : Option Nat), (binOp .eql 22 (.map r) (.map none)).run Try.prog w = .ok (.bool r.isNone) w := fun w r => run_eql_map_nil w _ _ _ r Try.underlying22
  have look : ∀ q, (Instr.lookup 22 (.map (some bm)) (.string y) false).run Try.prog (w.drewN q) = .ok (.bool false) (w.drewN q) := fun q => by
    have := (hset.kept (w' := w.drewN q) rfl).look hy
    rw [hmem] at this
    exact this
  obtain ⟨shp, hnx⟩ := h.shp
  have hn' : n ≤ 1048576 := by omega
  have hnew : y ∉ xs.drop first := memB_false.1 hmem
  have HOB : Hid (Ob w bn bo first ao n c xs (some bm)) := h
  have HSET : Hid (MSet w bm (xs.drop first)) := hset
  have HNEW : Hid (y ∉ xs.drop first) := hnew
  have HLN : Hid ((xs.drop first).length ≤ 1048576) := by unfold Hid; simp; omega
  have HXN : Hid (xs.length ≤ 1048576) := hn
  have HLG : Hid (16 < (xs.drop first).length) := hlong
  have hpos : first < n := by simp at hlong; omega
  clear h hset hmem hnx hn hnew hlong
  rcases shp with ⟨rfl, rfl, rfl, rfl⟩ | ⟨g, rfl, hfn, hnc, hcf | hcf⟩
  rotate_left 2
  · have hfn' : (first : Int) ≤ (n : Int) := by omega
    go_enter Try.func19, Try.ntmps19
    go_wp2_with fail
    go_quiet (fail)
    go_wp2_with (at_mapUpdate; refine put_new _ rfl (.tmp 34) (.tmp 35) _ rfl bm (xs.drop first) y rfl (HSET.out.kept rfl) (by have := HLN.out; omega) hy HNEW.out rfl rfl ?_)
    intro w1 hs1 hg1
    have hob1 : Ob w1 bn bo first (some ⟨g, 0, none⟩) n c xs (some bm) := by
      obtain ⟨n1, n2, n3⟩ := HOB.out.ne_map HSET.out
      refine HOB.out.kept (fun k hk => ?_)
      rcases hk with rfl | rfl | hk
      · exact hg1.block _ (lt_of_block HOB.out.box) (fun e => n1 (Option.some.inj e).symm)
      · exact hg1.block _ (lt_of_block HOB.out.obj) (fun e => n2 (Option.some.inj e).symm)
      · exact hg1.block _ (HOB.out.row.lt k hk.symm) (fun e => n3 (hk.symm.trans e))
    have fr1 : Fr (Foot bn bo (some ⟨g, 0, none⟩) n c (some bm)) w w1 := ((fr_drewN w _).mono (fun _ f => f.elim)).trans ((Fr.grown hg1).mono (G := Foot bn bo (some ⟨g, 0, none⟩) n c (some bm)) (fun i e => .inr (.inr (.inl e)))) (fun i _ f => f)
    have d1 := box_cell hob1.box
    obtain ⟨d2, d3⟩ := obj_cells hob1.obj
    clear c1 c2 c3 look hg1
    go_wp2_with (at_builtin; refine app_str _ rfl (.tmp 49) (.tmp 51) rfl _ n c xs rfl hob1.row y rfl (by have := HXN.out; omega) ?_)
    intro ao2 m2 c2' zs w2 hz ho2 hg2 hblk
    have R := hob1.appended hy HNEW.out hz.out ho2 hg2 hblk
    have d1' : w2.cell? ⟨bn, 0, none⟩ = some (.slice (some ⟨g, 0, none⟩) n c) := (World.cell?_of_block (hg2.block bn (lt_of_block hob1.box) (fun e => hob1.ne_row.1 e.symm))).trans d1
    have f1' : w2.frozen? ⟨bn, 0, none⟩ = false := (World.frozen?_of_block (hg2.block bn (lt_of_block hob1.box) (fun e => hob1.ne_row.1 e.symm))).trans (free_of hob1.box)
    have d3' : (w2.setCell ⟨bn, 0, none⟩ (.slice ao2 m2 c2')).cell? ⟨bo, 1, none⟩ = some (.map (some bm)) := (obj_cells R.1.obj).2
    clear d1 d2 d3 R
    go_wp2_with fail
    go_ret
    exact ⟨rfl, Added.mk_idx hy HNEW.out fr1 hob1 hs1 HLG.out hz.out ho2 hg2 hblk⟩
  · omega
  · omega

theorem Added.mk_few {w W w2 : World} {bn bo first : Nat} {ao : Option Addr} {n c : Nat} {xs zs : List ByteArray} {y : ByteArray} {ao' : Option Addr} {m' c' : Nat} (hy : y.size ≤ maxLen) (hnew : y ∉ xs.drop first)
    (fr : Fr (fun _ => False) w W) (hob : Ob W bn bo first ao n c xs none) (hshort : (xs.drop first).length < 16)
    (hz : zs = xs ++ [y]) (ho : OwnS w2 (.slice ao' m' c') zs) (hg : W.grownBy w2 (Value.slice ao n c).ownBlock)
    (hblk : ∀ k, (Value.slice ao' m' c').ownBlock = some k → (Value.slice ao n c).ownBlock = some k ∨ W.heap.size < k) :
    Added w bn bo first ao n c xs none y (w2.setCell ⟨bn, 0, none⟩ (.slice ao' m' c')) := by
  obtain ⟨R1, R2, R3, R4⟩ := hob.appended hy hnew hz ho hg hblk
  rw [hz] at R1 R4
  refine ⟨ao', m', c', none, R1, (fr.mono (fun _ f => f.elim)).trans R2 (fun i _ f => f), fun k hk => ?_, .inl ⟨rfl, by rw [R4, List.length_append]; simp at hshort ⊢; omega⟩⟩
  rcases R3 k hk with e | e
  · exact .inl e
  · exact .inr (Nat.le_trans fr.size e)

theorem Ob.draw {w W : World} {bn bo first : Nat} {ao : Option Addr} {n c : Nat} {xs : List ByteArray} {idx : Option Nat} (h : Ob w bn bo first ao n c xs idx) (q : Nat) (hW : W = w.drewN q) : Ob W bn bo first ao n c xs idx ∧ Fr (fun _ => False) w W := by
  subst hW
  exact ⟨h.kept (fun _ _ => rfl), fr_drewN w q⟩

set_option maxHeartbeats 2000000 in
/-- The object has no index and few keys. -/
theorem add_miss_few (w : World) (bn bo first : Nat) (ao : Option Addr) (n c : Nat) (xs : List ByteArray) (y : ByteArray) (hy : y.size ≤ maxLen)
    (h : Ob w bn bo first ao n c xs none) (hshort : (xs.drop first).length < 16) (hmem : y ∉ xs.drop first) (hn : xs.length ≤ 1048576) (hbef : ∀ j, first + j < xs.length → xs.getD (first + j) ByteArray.empty ≠ y) :
    Calls Try.prog 19 #[.pointer (some ⟨bo, 0, none⟩), .pointer (some ⟨bn, 0, none⟩), .string y] w fun e w' => e = .returned (.bool false) ∧ Added w bn bo first ao n c xs none y w' := by
  have c1 := box_cell h.box
  obtain ⟨c2, c3⟩ := obj_cells h.obj
  have q22 : ∀ (w : World) (r : Option Nat), (binOp .neq 22 (.map r) (.map none)).run Try.prog w = .ok (.bool (!r.isNone)) w := fun w r => run_neq_map_nil w _ _ _ r Try.underlying22
  have q23 : ∀ (w : World) (r : Option Nat), (binOp .eql 22 (.map r) (.map none)).run Try.prog w = .ok (.bool r.isNone) w := fun w r => run_eql_map_nil w _ _ _ r Try.underlying22
  obtain ⟨shp, hnx⟩ := h.shp
  have hn' : n ≤ 1048576 := by omega
  have HOB : Hid (Ob w bn bo first ao n c xs none) := h
  have HNEW : Hid (y ∉ xs.drop first) := hmem
  have HXN : Hid (xs.length ≤ 1048576) := hn
  have HSH : Hid ((xs.drop first).length < 16) := hshort
  have hsh2 : n - first < 16 := by simp at hshort; omega
  have HC : Hid (∀ g, ao = some ⟨g, 0, none⟩ → ∀ j, first + j < n → w.cell? ⟨g, first + j, none⟩ = some (.string (xs.getD (first + j) ByteArray.empty))) := by
    intro g hg j hj
    subst hg
    obtain ⟨_, ⟨e, _⟩ | ⟨g', e, _, _, _, hc⟩⟩ := h.row.sh
    · cases e
    · cases e; exact hc _ (by omega)
  have HB : Hid (∀ j, first + j < n → xs.getD (first + j) ByteArray.empty ≠ y) := fun j hj => hbef j (by omega)
  clear h hmem hnx hn hshort hbef
  rcases shp with ⟨rfl, rfl, rfl, rfl⟩ | ⟨g, rfl, hfn, hnc, hcf | hcf⟩
  · go_enter Try.func19, Try.ntmps19
    go_wp2_with fail
    go_quiet (fail)
    obtain ⟨W, hW⟩ : ∃ W, W = w.drewN nq := ⟨_, rfl⟩
    rw [← hW]
    obtain ⟨hobW, frW⟩ := HOB.out.draw nq hW
    clear hW c1 c2 c3
    have c1 := box_cell hobW.box
    obtain ⟨c2, c3⟩ := obj_cells hobW.obj
    have HOW : Hid (Ob W bn bo 0 none 0 0 xs none) := hobW
    clear hobW
    go_wp2_with fail
    refine wp_loop_rounds 1 ?_
    rw [rounds_succ]
    go_wp2_with (at_builtin; refine app_str _ rfl (.tmp 49) (.tmp 51) rfl _ 0 0 xs rfl HOW.out.row y rfl (by have := HXN.out; omega) ?_)
    intro ao2 m2 c2' zs w2 hz ho2 hg2 hblk
    have R := HOW.out.appended hy HNEW.out hz.out ho2 hg2 hblk
    have d1' : w2.cell? ⟨bn, 0, none⟩ = some (.slice none 0 0) := (World.cell?_of_block (hg2.block bn (lt_of_block HOW.out.box) (fun e => HOW.out.ne_row.1 e.symm))).trans c1
    have f1' : w2.frozen? ⟨bn, 0, none⟩ = false := (World.frozen?_of_block (hg2.block bn (lt_of_block HOW.out.box) (fun e => HOW.out.ne_row.1 e.symm))).trans (free_of HOW.out.box)
    have d3' : (w2.setCell ⟨bn, 0, none⟩ (.slice ao2 m2 c2')).cell? ⟨bo, 1, none⟩ = some (.map none) := (obj_cells R.1.obj).2
    clear c1 c2 c3 R
    go_wp2_with fail
    go_ret
    exact ⟨rfl, Added.mk_few hy HNEW.out frW HOW.out HSH.out hz.out ho2 hg2 hblk⟩
  · subst hcf
    obtain rfl : n = c := by omega
    go_enter Try.func19, Try.ntmps19
    go_wp2_with fail
    go_quiet (fail)
    obtain ⟨W, hW⟩ : ∃ W, W = w.drewN nq := ⟨_, rfl⟩
    rw [← hW]
    obtain ⟨hobW, frW⟩ := HOB.out.draw nq hW
    clear hW c1 c2 c3
    have c1 := box_cell hobW.box
    obtain ⟨c2, c3⟩ := obj_cells hobW.obj
    have HOW : Hid (Ob W bn bo n (some ⟨g, 0, none⟩) n n xs none) := hobW
    clear hobW
    go_wp2_with fail
    refine wp_loop_rounds 1 ?_
    rw [rounds_succ]
    go_wp2_with (at_builtin; refine app_str _ rfl (.tmp 49) (.tmp 51) rfl _ n n xs rfl HOW.out.row y rfl (by have := HXN.out; omega) ?_)
    intro ao2 m2 c2' zs w2 hz ho2 hg2 hblk
    have R := HOW.out.appended hy HNEW.out hz.out ho2 hg2 hblk
    have d1' : w2.cell? ⟨bn, 0, none⟩ = some (.slice (some ⟨g, 0, none⟩) n n) := (World.cell?_of_block (hg2.block bn (lt_of_block HOW.out.box) (fun e => HOW.out.ne_row.1 e.symm))).trans c1
    have f1' : w2.frozen? ⟨bn, 0, none⟩ = false := (World.frozen?_of_block (hg2.block bn (lt_of_block HOW.out.box) (fun e => HOW.out.ne_row.1 e.symm))).trans (free_of HOW.out.box)
    have d3' : (w2.setCell ⟨bn, 0, none⟩ (.slice ao2 m2 c2')).cell? ⟨bo, 1, none⟩ = some (.map none) := (obj_cells R.1.obj).2
    clear c1 c2 c3 R
    go_wp2_with fail
    go_ret
    exact ⟨rfl, Added.mk_few hy HNEW.out frW HOW.out HSH.out hz.out ho2 hg2 hblk⟩
  · have hfn' : (first : Int) ≤ (n : Int) := by omega
    have b16 : (((n - first : Nat) : Int) == 16) = false := by simp; omega
    go_enter Try.func19, Try.ntmps19
    go_wp2_with fail
    go_quiet (fail)
    obtain ⟨W, hW⟩ : ∃ W, W = w.drewN nq := ⟨_, rfl⟩
    rw [← hW]
    obtain ⟨hobW, frW⟩ := HOB.out.draw nq hW
    clear hW c1 c2 c3
    have c1 := box_cell hobW.box
    obtain ⟨c2, c3⟩ := obj_cells hobW.obj
    have HOW : Hid (Ob W bn bo first (some ⟨g, 0, none⟩) n c xs none) := hobW
    clear hobW
    go_wp2_with fail
    go_loop [38] (fun i => ∃ k : Nat, k ≤ n - first ∧ i = .int .i64 k) (fun i => n - first - (intOf i).toNat)
    case atStart => exact ⟨0, Nat.zero_le _, rfl⟩
    case round =>
      obtain ⟨k, hk, rfl⟩ := hrel
      by_cases hkp : k < n - first
      · have hcx := (World.cell?_of_block (frW.block g (HOB.out.row.lt g rfl) (fun f => f))).trans (HC.out g rfl k (by omega))
        have b1 := seq_false (HB.out k (by omega))
        generalize xs.getD (first + k) ByteArray.empty = z at hcx b1
        go_wp2_with fail
        go_round
        case rel => exact ⟨k + 1, by omega, by go_num⟩
        case measure => simp [intOf]; omega
      · obtain rfl : k = n - first := by omega
        go_wp2_with (at_builtin; refine app_str _ rfl (.tmp 49) (.tmp 51) rfl _ n c xs rfl HOW.out.row y rfl (by have := HXN.out; omega) ?_)
        intro ao2 m2 c2' zs w2 hz ho2 hg2 hblk
        have R := HOW.out.appended hy HNEW.out hz.out ho2 hg2 hblk
        have d1' : w2.cell? ⟨bn, 0, none⟩ = some (.slice (some ⟨g, 0, none⟩) n c) := (World.cell?_of_block (hg2.block bn (lt_of_block HOW.out.box) (fun e => HOW.out.ne_row.1 e.symm))).trans c1
        have f1' : w2.frozen? ⟨bn, 0, none⟩ = false := (World.frozen?_of_block (hg2.block bn (lt_of_block HOW.out.box) (fun e => HOW.out.ne_row.1 e.symm))).trans (free_of HOW.out.box)
        have d3' : (w2.setCell ⟨bn, 0, none⟩ (.slice ao2 m2 c2')).cell? ⟨bo, 1, none⟩ = some (.map none) := (obj_cells R.1.obj).2
        clear c1 c2 c3 R
        go_wp2_with fail
        go_ret
        exact ⟨rfl, Added.mk_few hy HNEW.out frW HOW.out HSH.out hz.out ho2 hg2 hblk⟩

end Go.Proofs.Qxb6601989a
