/-
  Seat b6601989a: '(*objectKeys).add' (19), walked: the seventeenth key: the index is made.
-/
import Derived.Test.Qxb6601989aAddB
namespace Go.Proofs.Qxb6601989a
open Go.RowKit
set_option linter.unusedVariables false

/-- The new index, stored into the object. -/
theorem Ob.indexed {w : World} {bn bo first : Nat} {ao : Option Addr} {n c : Nat} {xs : List ByteArray} (h : Ob w bn bo first ao n c xs none) :
    Ob ((w.alloc (.map #[] 0)).setCell ⟨bo, 1, none⟩ (.map (some w.heap.size))) bn bo first ao n c xs (some w.heap.size) ∧
    MSet ((w.alloc (.map #[] 0)).setCell ⟨bo, 1, none⟩ (.map (some w.heap.size))) w.heap.size [] ∧
    Fr (fun k => k = bo) w ((w.alloc (.map #[] 0)).setCell ⟨bo, 1, none⟩ (.map (some w.heap.size))) := by
  have hlt : bn < w.heap.size := lt_of_block h.box
  have hlo : bo < w.heap.size := lt_of_block h.obj
  have hne := h.ne_bn_bo
  obtain ⟨r1, r2⟩ := h.ne_row
  have o1 : (w.alloc (.map #[] 0)).heap[bo]? = some (.cells #[.int .i64 first, .map none] 41 (0, 0)) := (Below.heap_alloc _ _ _ hlo).trans h.obj
  refine ⟨⟨?_, ?_, ?_, h.fst, h.sht, h.nodup⟩, ?_, ?_⟩
  · rw [Below.heap_setCell _ _ _ _ (by exact hne.symm)]
    exact (Below.heap_alloc _ _ _ hlt).trans h.box
  · refine h.row.kept (fun k hk => ?_)
    rw [Below.heap_setCell _ _ _ _ (fun e => r2 (by rw [hk]; exact congrArg some e))]
    exact Below.heap_alloc _ _ _ (h.row.lt k hk)
  · rw [heap_setCell_same _ _ _ _ _ _ o1]
    rfl
  · refine (MSet.made w).kept ?_
    exact Below.heap_setCell _ _ _ _ (by show w.heap.size ≠ bo; omega)
  · exact (((Fr.refl (fun k => k = bo) w).alloc _).setCell (.inl rfl) _)

theorem take_more {l : List ByteArray} {k : Nat} (h : k < l.length) : l.take k ++ [l.getD k ByteArray.empty] = l.take (k + 1) := by
  rw [List.take_succ_eq_append_getElem h]
  simp [List.getD, h]

theorem not_before {l : List ByteArray} (h : l.Nodup) {k : Nat} (hk : k < l.length) : l.getD k ByteArray.empty ∉ l.take k := by
  intro hm
  have e : l.take k ++ l.drop k = l := List.take_append_drop k l
  rw [← e, List.nodup_append] at h
  have hd : l.getD k ByteArray.empty ∈ l.drop k := by
    rw [List.getD, List.getElem?_eq_getElem hk, Option.getD_some, List.drop_eq_getElem_cons hk]
    exact List.mem_cons_self
  exact h.2.2 _ hm _ hd rfl

theorem drop_get (l : List ByteArray) (i j : Nat) : (l.drop i).getD j ByteArray.empty = l.getD (i + j) ByteArray.empty := by
  simp [List.getD]

theorem Added.mk_grow {w W w3 w5 W6 wr : World} {bn bo first : Nat} {ao : Option Addr} {n c : Nat} {xs zs : List ByteArray} {y : ByteArray} {ao' : Option Addr} {m' c' bm : Nat}
    (frW : Fr (fun _ => False) w W) (fr3 : Fr (Foot bn bo ao n c none) W w3) (ft3 : ∀ k, Foot bn bo ao' m' c' none k → Foot bn bo ao n c none k ∨ W.heap.size ≤ k)
    (fr5 : Fr (fun k => k = bo) w3 w5) (fr6 : Fr (fun _ => False) w5 W6) (frr : Fr (fun k => k = bm) W6 wr) (hge : W.heap.size ≤ bm) (hob : Ob wr bn bo first ao' m' c' zs (some bm)) (hset : MSet wr bm (zs.drop first)) (hz : zs = xs ++ [y]) (hlen : 16 < (zs.drop first).length) :
    Added w bn bo first ao n c xs none y wr := by
  subst hz
  refine ⟨ao', m', c', some bm, hob, ?_, ?_, .inr ⟨bm, rfl, hset, hlen⟩⟩
  · have a1 : Fr (Foot bn bo ao n c none) w w3 := (frW.mono (fun _ f => f.elim)).trans fr3 (fun i _ f => f)
    have a2 : Fr (Foot bn bo ao n c none) w w5 := a1.trans fr5 (fun i _ e => .inr (.inl e))
    have a3 : Fr (Foot bn bo ao n c none) w W6 := a2.trans fr6 (fun i _ f => f.elim)
    exact a3.trans frr (fun i hi e => by have := frW.size; omega)
  · intro k hk
    rcases hk with hk | hk | hk | hk
    · exact .inl (.inl hk)
    · exact .inl (.inr (.inl hk))
    · exact .inr (by have := Option.some.inj hk; have := frW.size; omega)
    · rcases ft3 k (.inr (.inr (.inr hk))) with e | e
      · exact .inl e
      · exact .inr (Nat.le_trans frW.size e)

set_option maxHeartbeats 4000000 in
theorem add_miss_grow (w : World) (bn bo first : Nat) (ao : Option Addr) (n c : Nat) (xs : List ByteArray) (y : ByteArray) (hy : y.size ≤ maxLen)
    (h : Ob w bn bo first ao n c xs none) (hsix : (xs.drop first).length = 16) (hmem : y ∉ xs.drop first) (hn : xs.length ≤ 1048576) (hbef : ∀ j, first + j < xs.length → xs.getD (first + j) ByteArray.empty ≠ y) :
    Calls Try.prog 19 #[.pointer (some ⟨bo, 0, none⟩), .pointer (some ⟨bn, 0, none⟩), .string y] w fun e w' => e = .returned (.bool false) ∧ Added w bn bo first ao n c xs none y w' := by
  have c1 := box_cell h.box
  obtain ⟨c2, c3⟩ := obj_cells h.obj
  have q22 : ∀ (w : World) (r : Option Nat), (binOp .neq 22 (.map r) (.map none)).run Try.prog w = .ok (.bool (!r.isNone)) w := fun w r => run_neq_map_nil w _ _ _ r Try.underlying22
  have q23 : ∀ (w : World) (r : Option Nat), (binOp .eql 22 (.map r) (.map none)).run Try.prog w = .ok (.bool r.isNone) w := fun w r => run_eql_map_nil w _ _ _ r Try.underlying22
  obtain ⟨shp, hnx⟩ := h.shp
  have hn' : n ≤ 1048576 := by omega
  have HOB : Hid (Ob w bn bo first ao n c xs none) := h
  have HNEW : Hid (y ∉ xs.drop first) := hmem
  have HXN : Hid (xs.length ≤ 1048576) := hn
  have hsix2 : n - first ≤ 16 ∧ 16 ≤ n - first := by simp at hsix; omega
  have HLX : Hid (n = xs.length) := hnx
  have HC : Hid (∀ g, ao = some ⟨g, 0, none⟩ → ∀ j, first + j < n → w.cell? ⟨g, first + j, none⟩ = some (.string (xs.getD (first + j) ByteArray.empty))) := by
    intro g hg j hj
    subst hg
    obtain ⟨_, ⟨e, _⟩ | ⟨g', e, _, _, _, hc⟩⟩ := h.row.sh
    · cases e
    · cases e; exact hc _ (by omega)
  have HB : Hid (∀ j, first + j < n → xs.getD (first + j) ByteArray.empty ≠ y) := fun j hj => hbef j (by omega)
  clear h hmem hnx hn hsix hbef
  obtain ⟨s1, s2⟩ := hsix2
  rcases shp with ⟨rfl, rfl, rfl, rfl⟩ | ⟨g, rfl, hfn, hnc, hcf | hcf⟩
  · omega
  · omega
  · have hfn' : (first : Int) ≤ (n : Int) := by omega
    have b16 : (((n - first : Nat) : Int) == 16) = true := by simp; omega
    go_enter Try.func19, Try.ntmps19
    go_wp2_with fail
    go_quiet (fail)
    obtain ⟨W, hW⟩ : ∃ W, W = w.drewN nq := ⟨_, rfl⟩
    rw [← hW]
    obtain ⟨hobW, frW⟩ := HOB.out.draw nq hW
    clear hW c1 c2 c3
    have c1 := box_cell hobW.box
    obtain ⟨c2, c3⟩ := obj_cells hobW.obj
    have HOW : Hid (Ob W bn bo first (some ⟨g, 0, none⟩) n c xs none) := hobW
    clear hobW
    go_wp2_with fail
    go_loop [38] (fun i => ∃ k : Nat, k ≤ n - first ∧ i = .int .i64 k) (fun i => n - first - (intOf i).toNat)
    case atStart => exact ⟨0, Nat.zero_le _, rfl⟩
    case round =>
      obtain ⟨k, hk, rfl⟩ := hrel
      by_cases hkp : k < n - first
      · have hcx := (World.cell?_of_block (frW.block g (HOB.out.row.lt g rfl) (fun f => f))).trans (HC.out g rfl k (by omega))
        have b1 := seq_false (HB.out k (by omega))
        generalize xs.getD (first + k) ByteArray.empty = z at hcx b1
        go_wp2_with fail
        go_round
        case rel => exact ⟨k + 1, by omega, by go_num⟩
        case measure => simp [intOf]; omega
      · obtain rfl : k = n - first := by omega
        go_wp2_with (at_builtin; refine app_str _ rfl (.tmp 49) (.tmp 51) rfl _ n c xs rfl HOW.out.row y rfl (by have := HXN.out; omega) ?_)
        intro ao2 m2 c2' zs w2 hz ho2 hg2 hblk
        have R := HOW.out.appended hy HNEW.out hz.out ho2 hg2 hblk
        have d1' : w2.cell? ⟨bn, 0, none⟩ = some (.slice (some ⟨g, 0, none⟩) n c) := (World.cell?_of_block (hg2.block bn (lt_of_block HOW.out.box) (fun e => HOW.out.ne_row.1 e.symm))).trans c1
        have f1' : w2.frozen? ⟨bn, 0, none⟩ = false := (World.frozen?_of_block (hg2.block bn (lt_of_block HOW.out.box) (fun e => HOW.out.ne_row.1 e.symm))).trans (free_of HOW.out.box)
        have d3' : (w2.setCell ⟨bn, 0, none⟩ (.slice ao2 m2 c2')).cell? ⟨bo, 1, none⟩ = some (.map none) := (obj_cells R.1.obj).2
        have HR : Hid (Ob (w2.setCell ⟨bn, 0, none⟩ (.slice ao2 m2 c2')) bn bo first ao2 m2 c2' zs none ∧ Fr (Foot bn bo (some ⟨g, 0, none⟩) n c none) W (w2.setCell ⟨bn, 0, none⟩ (.slice ao2 m2 c2')) ∧
          (∀ k, Foot bn bo ao2 m2 c2' none k → Foot bn bo (some ⟨g, 0, none⟩) n c none k ∨ W.heap.size ≤ k) ∧ zs.drop first = xs.drop first ++ [y]) := R
        clear c1 c2 c3 R
        have hmm := @run_makeMap Try.prog
        have e3 : ((w2.setCell ⟨bn, 0, none⟩ (.slice ao2 m2 c2')).alloc (.map #[] 0)).cell? ⟨bo, 1, none⟩ = some (.map none) := (World.cell?_of_block (Below.heap_alloc _ _ _ (lt_of_block HR.out.1.obj))).trans d3'
        have ef : ((w2.setCell ⟨bn, 0, none⟩ (.slice ao2 m2 c2')).alloc (.map #[] 0)).frozen? ⟨bo, 1, none⟩ = false := (World.frozen?_of_block (Below.heap_alloc _ _ _ (lt_of_block HR.out.1.obj))).trans (free_of HR.out.1.obj)
        go_wp2_with fail
        have hsz : (w2.setCell ⟨bn, 0, none⟩ (.slice ao2 m2 c2')).heap.size = w2.heap.size := by simp [World.setCell]
        have I := HR.out.1.indexed
        rw [hsz] at I
        have hge : W.heap.size ≤ w2.heap.size := hg2.size
        have HZ : Hid (zs = xs ++ [y]) := hz
        clear e3 ef d1' f1' d3' hmm hz ho2 hg2 hblk
        generalize ((w2.setCell ⟨bn, 0, none⟩ (.slice ao2 m2 c2')).alloc (.map #[] 0)).setCell ⟨bo, 1, none⟩ (.map (some w2.heap.size)) = w5 at I ⊢
        generalize w2.heap.size = bm at *
        obtain ⟨ob5, set5, fr5⟩ := I
        generalize w2.setCell ⟨bn, 0, none⟩ (.slice ao2 m2 c2') = w3 at HR fr5 hsz
        have hzl : zs.length = n + 1 := by rw [HZ.out, List.length_append, ← HLX.out]; rfl
        obtain ⟨em, ⟨_, _, ez⟩ | ⟨g2, rfl, _, hm2, _, _⟩⟩ := ob5.row.sh
        · rw [ez] at hzl; simp at hzl
        · obtain rfl : m2 = n + 1 := by omega
          have hcf2 : ¬ c2' = first := by omega
          have hfn2 : (first : Int) ≤ ((n + 1 : Nat) : Int) := by omega
          have HZL : Hid (zs.length = n + 1) := hzl
          have HO5 : Hid (Ob w5 bn bo first (some ⟨g2, 0, none⟩) (n + 1) c2' zs (some bm)) := ob5
          have c1 := box_cell ob5.box
          obtain ⟨c2, c3⟩ := obj_cells ob5.obj
          have HS5 : Hid (MSet w5 bm []) := set5
          clear ob5 set5 em hm2 hzl
          go_quiet (fail)
          obtain ⟨W6, hW6⟩ : ∃ W6, W6 = w5.drewN nq := ⟨_, rfl⟩
          rw [← hW6]
          obtain ⟨ob6, fr6⟩ := HO5.out.draw nq hW6
          have set6 : MSet W6 bm [] := HS5.out.kept (by rw [hW6]; rfl)
          have HO6 : Hid (Ob W6 bn bo first (some ⟨g2, 0, none⟩) (n + 1) c2' zs (some bm)) := ob6
          clear hW6 c1 c2 c3 HS5 ob6
          go_wp2_with fail
          go_loopw [77] (fun i wr => ∃ k : Nat, k ≤ n + 1 - first ∧ i = .int .i64 k ∧ MSet wr bm ((zs.drop first).take k) ∧ Ob wr bn bo first (some ⟨g2, 0, none⟩) (n + 1) c2' zs (some bm) ∧ Fr (fun k => k = bm) W6 wr)
            (fun i _ => n + 1 - first - (intOf i).toNat)
          case atStart => exact ⟨0, Nat.zero_le _, rfl, set6, HO6.out, Fr.refl _ _⟩
          case round =>
            clear set6
            obtain ⟨k, hk, rfl, hset, hob, hfr⟩ := hrel
            by_cases hkl : k < n + 1 - first
            · obtain ⟨e0, ⟨e, _⟩ | ⟨g3, e, _, _, _, hc⟩⟩ := hob.row.sh
              · cases e
              · cases e
                have hcx := hc (first + k) (by have := HZL.out; omega)
                have hdl : k < (zs.drop first).length := by rw [List.length_drop, HZL.out]; exact hkl
                have HN : Hid ((zs.drop first).getD k ByteArray.empty ∉ (zs.drop first).take k) := not_before hob.nodup hdl
                have HT : Hid ((zs.drop first).take k ++ [(zs.drop first).getD k ByteArray.empty] = (zs.drop first).take (k + 1)) := take_more hdl
                have hsz' : (zs.getD (first + k) ByteArray.empty).size ≤ maxLen := hob.sht _ (by rw [List.getD, List.getElem?_eq_getElem (by have := HZL.out; omega)]; exact List.getElem_mem _)
                rw [drop_get] at HN HT
                have c3 := (obj_cells hob.obj).2
                have HLT : Hid (((zs.drop first).take k).length ≤ 1099511627776) := by unfold Hid; rw [List.length_take]; omega
                generalize zs.getD (first + k) ByteArray.empty = z at hcx HN HT hsz'
                have HOK : Hid (Ob wr bn bo first (some ⟨g2, 0, none⟩) (n + 1) c2' zs (some bm)) := hob
                have HSK : Hid (MSet wr bm ((zs.drop first).take k)) := hset
                clear hc hob hset e0
                go_wp2_with (at_mapUpdate; refine put_new _ rfl (.tmp 84) (.tmp 85) _ rfl bm ((zs.drop first).take k) z rfl HSK.out HLT.out hsz' HN.out rfl rfl ?_)
                intro w7 hs7 hg7
                have hs7' : MSet w7 bm ((zs.drop first).take (k + 1)) := by rw [← HT.out]; exact hs7
                have hob7 : Ob w7 bn bo first (some ⟨g2, 0, none⟩) (n + 1) c2' zs (some bm) := by
                  obtain ⟨n1, n2, n3⟩ := HOK.out.ne_map HSK.out
                  refine HOK.out.kept (fun k hk => ?_)
                  rcases hk with rfl | rfl | hk
                  · exact hg7.block _ (lt_of_block HOK.out.box) (fun e => n1 (Option.some.inj e).symm)
                  · exact hg7.block _ (lt_of_block HOK.out.obj) (fun e => n2 (Option.some.inj e).symm)
                  · exact hg7.block _ (HOK.out.row.lt k hk.symm) (fun e => n3 (hk.symm.trans e))
                have hfr7 : Fr (fun k => k = bm) W6 w7 := hfr.trans ((Fr.grown hg7).mono (G := fun k => k = bm) (fun i e => Option.some.inj e)) (fun i _ f => f)
                clear hs7 hg7 hcx c3
                go_wp2_with fail
                go_roundw
                case rel => exact ⟨k + 1, by omega, by go_num, hs7', hob7, hfr7⟩
                case measure => simp [intOf]; omega
            · obtain rfl : k = n + 1 - first := by omega
              have hset' : MSet wr bm (zs.drop first) := by
                rw [List.take_of_length_le (by rw [List.length_drop, HZL.out]; exact Nat.le_refl _)] at hset
                exact hset
              go_wp2_with fail
              go_ret
              exact ⟨rfl, Added.mk_grow frW HR.out.2.1 HR.out.2.2.1 fr5 fr6 hfr hge hob hset' HZ.out (by rw [List.length_drop, HZL.out]; omega)⟩

end Go.Proofs.Qxb6601989a
