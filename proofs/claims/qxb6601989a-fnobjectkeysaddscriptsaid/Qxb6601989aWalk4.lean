/-
  Seat b6601989a: 'FnObjectKeysAddScript' (function 4), walked.
-/
import Derived.Test.Qxb6601989aState
namespace Go.Proofs.Qxb6601989a
open Go.RowKit
set_option linter.unusedVariables false

set_option maxHeartbeats 1000000 in
/-- A slice too long: the law answers true by itself. -/
theorem walk4_long (a0 a1 : Option Addr) (l0 l1 c0 c1 : Nat) (T0 T1 : Nat → ByteArray) (w : World) (h0 : Rd w a0 l0 T0) (h1 : Rd w a1 l1 T1) (h : 65536 < l0 ∨ 65536 < l1) :
    Calls Try.prog 4 #[.slice a0 l0 c0, .slice a1 l1 c1] w fun e w' => e = .returned (.bool true) ∧ Below w.heap.size w w' := by
  have H := zz16_any a0 a1 l0 l1 c0 c1 T0 T1 w h0 h1
  have HZ : Hid (Calls Try.prog 16 #[.slice a0 l0 c0, .slice a1 l1 c1] w fun e w' => IsB e ∧ w' = w) := H
  clear H h0 h1
  by_cases hl0 : 65536 < l0
  · have b1 : decide (65536 < (l0 : Int)) = true := by simp; omega
    go_enter Try.func4, Try.ntmps4
    go_wp2_with fail
    refine HZ.out.mono ?_
    rintro e w' ⟨⟨b, rfl⟩, rfl⟩
    cases b
    all_goals
      go_wp2_with fail
      go_ret
      exact ⟨rfl, Below.refl _ _⟩
  · have b1 : decide (65536 < (l0 : Int)) = false := by simp; omega
    have b2 : decide (65536 < (l1 : Int)) = true := by simp; omega
    go_enter Try.func4, Try.ntmps4
    go_wp2_with fail
    refine HZ.out.mono ?_
    rintro e w' ⟨⟨b, rfl⟩, rfl⟩
    cases b
    all_goals
      go_wp2_with fail
      go_ret
      exact ⟨rfl, Below.refl _ _⟩

theorem St.told {B : Nat} {w0 w : World} {bn bo bs first : Nat} {O S : List ByteArray} {ao : Option Addr} {n c : Nat} {idx : Option Nat} {aw : Option Addr} {mw cw : Nat} (h : St B w0 w bn bo bs first O S ao n c idx aw mw cw) :
    decide (16 < (mw : Int)) = (!idx.isNone) := by
  obtain ⟨ei, em⟩ := h.index
  rw [ei, em]
  exact decide_eq_decide.2 (by omega)

/-- The state ahead of the first key. -/
theorem St.start {w0 wa : World} {O : List ByteArray} {ao : Option Addr} {n c : Nat} (ho : OwnS wa (.slice ao n c) O) (hO : O.length = n) (hs : Sht O) (lo : ∀ k, (Value.slice ao n c).ownBlock = some k → w0.heap.size ≤ k) (bel : Below w0.heap.size w0 wa) :
    St w0.heap.size w0 (((wa.alloc (.cells #[.slice ao n c] 23)).alloc (.cells #[.int .i64 n, .map none] 41)).alloc (.map #[] 0)) wa.heap.size (wa.heap.size + 1) (wa.heap.size + 1 + 1) n O [] ao n c none none 0 0 := by
  have sz := bel.size
  have e1 : (((wa.alloc (.cells #[.slice ao n c] 23)).alloc (.cells #[.int .i64 n, .map none] 41)).alloc (.map #[] 0)).heap[wa.heap.size]? = some (.cells #[.slice ao n c] 23 (0, 0)) := by
    rw [Below.heap_alloc _ _ _ (by simp; omega), Below.heap_alloc _ _ _ (by simp)]
    exact heap_alloc_new wa _
  have e2 : (((wa.alloc (.cells #[.slice ao n c] 23)).alloc (.cells #[.int .i64 n, .map none] 41)).alloc (.map #[] 0)).heap[wa.heap.size + 1]? = some (.cells #[.int .i64 n, .map none] 41 (0, 0)) := by
    rw [Below.heap_alloc _ _ _ (by simp)]
    have := heap_alloc_new (wa.alloc (.cells #[.slice ao n c] 23)) (.cells #[.int .i64 n, .map none] 41)
    simpa using this
  have e3 : MSet (((wa.alloc (.cells #[.slice ao n c] 23)).alloc (.cells #[.int .i64 n, .map none] 41)).alloc (.map #[] 0)) (wa.heap.size + 1 + 1) [] := by
    have := MSet.made ((wa.alloc (.cells #[.slice ao n c] 23)).alloc (.cells #[.int .i64 n, .map none] 41))
    simpa using this
  refine ⟨⟨e1, ?_, e2, ?_, ?_, ?_⟩, .inl ⟨rfl, ?_⟩, e3, World.ownsRow_nil _ _ _ _, ?_, ?_, ?_, by omega, ?_, ?_, hO⟩
  · rw [List.append_nil]
    refine ho.kept (fun k hk => ?_)
    have := ho.lt k hk
    rw [Below.heap_alloc _ _ _ (by simp; omega), Below.heap_alloc _ _ _ (by simp; omega), Below.heap_alloc _ _ _ this]
  · simp [hO]
  · rw [List.append_nil]; exact hs
  · rw [← hO]; simp
  · rw [← hO]; simp
  · rintro (h | h | h | h)
    · omega
    · omega
    · cases h
    · have := ho.lt _ h.symm; omega
  · intro k hk; simp [Value.ownBlock] at hk
  · rintro k (h | h | h | h)
    · omega
    · omega
    · cases h
    · exact lo k h.symm
  · intro k hk; simp [Value.ownBlock] at hk
  · exact ((bel.alloc sz _).alloc (by simp; omega) _).alloc (by simp; omega) _

set_option maxHeartbeats 4000000 in
theorem walk4_main (a0 a1 : Option Addr) (l0 l1 c0 c1 : Nat) (z0 z1 : List ByteArray) (w : World) (w0 : Strs w a0 l0 c0 z0) (w1 : Strs w a1 l1 c1 z1) (h0 : l0 ≤ 65536) (h1 : l1 ≤ 65536) :
    Calls Try.prog 4 #[.slice a0 l0 c0, .slice a1 l1 c1] w fun e w' => e = .returned (.bool true) ∧ Below w.heap.size w w' := by
  have HZ : Hid (Calls Try.prog 16 #[.slice a0 l0 c0, .slice a1 l1 c1] w fun e w' => IsB e ∧ w' = w) := zz16_any a0 a1 l0 l1 c0 c1 _ _ w w0.rd w1.rd
  have H0 : Hid (Strs w a0 l0 c0 z0) := w0
  have H1 : Hid (Strs w a1 l1 c1 z1) := w1
  have b1 : decide (65536 < (l0 : Int)) = false := by simp; omega
  have b2 : decide (65536 < (l1 : Int)) = false := by simp; omega
  clear w0 w1
  go_enter Try.func4, Try.ntmps4
  go_wp2_with fail
  refine HZ.out.mono ?_
  rintro e w' ⟨⟨b, rfl⟩, rfl⟩
  cases b
  · go_wp2_with fail
    go_ret
    exact ⟨rfl, Below.refl _ _⟩
  go_wp2_with fail
  refine (bytes_any a0 l0 c0 _ _ H0.out.rd (by omega)).mono ?_
  rintro e w2 ⟨⟨r0, rfl⟩, rfl⟩
  go_wp2_with fail
  refine (bytes_any a1 l1 c1 _ _ H1.out.rd (by omega)).mono ?_
  rintro e w3 ⟨⟨r1, rfl⟩, rfl⟩
  cases hb : decide (1048576 < wrap64 (r0 + r1))
  rotate_left
  · go_wp2_with fail
    go_ret
    exact ⟨rfl, Below.refl _ _⟩
  go_wp2_with fail
  refine (clone_any a0 l0 c0 z0 _ (by omega) H0.out).mono ?_
  rintro e wa ⟨ao, d0, rfl, ow, lenO, shO, lo, bel⟩
  have HOE : Hid (∀ k, k < l0 → (z0.take l0).getD k ByteArray.empty = z0.getD k ByteArray.empty) := by
    intro k hk
    simp [List.getD, hk]
  generalize z0.take l0 = O at ow lenO shO HOE
  have HO : Hid (O.length = l0) := lenO
  clear lenO
  have hmm := @run_makeMap Try.prog
  go_wp2_with fail
  refine (new_any _ l0 none).mono ?_
  rintro e wb ⟨rfl, rfl⟩
  go_wp2_with fail
  have st := St.start ow HO.out shO lo bel
  have KS : Hid (∀ j, j < l1 → ∃ b off, a1 = some ⟨b, off, none⟩ ∧ b < w3.heap.size ∧ w3.cell? ⟨b, off + j, none⟩ = some (.string (z1.getD j ByteArray.empty)) ∧ (z1.getD j ByteArray.empty).size ≤ maxLen) := by
    intro j hj
    rcases H1.out.rd with e | ⟨b, off, e, hb', hc⟩
    · omega
    · refine ⟨b, off, e, hb', hc j hj, ?_⟩
      rcases H1.out with ⟨_, e, _⟩ | ⟨x, _, hl, _, hz, _, hs⟩
      · omega
      · exact hs _ (by rw [List.getD, List.getElem?_eq_getElem (by omega)]; exact List.getElem_mem _)
  clear ow shO lo bel HZ H1 hmm
  have q22 : ∀ (w : World) (r : Option Nat), (binOp .neq 22 (.map r) (.map none)).run Try.prog w = .ok (.bool (!r.isNone)) w := fun w r => run_neq_map_nil w _ _ _ r Try.underlying22
  generalize ((wa.alloc (.cells #[.slice ao l0 d0] 23)).alloc (.cells #[.int .i64 l0, .map none] 41)).alloc (.map #[] 0) = W at st ⊢
  generalize wa.heap.size + 1 + 1 = bs at st ⊢
  generalize wa.heap.size + 1 = bo at st ⊢
  generalize wa.heap.size = bn at st ⊢
  generalize wrap64 (r0 + r1) = rr at hb ⊢
  clear hb
  go_loopw [9, 10] (fun t i wr => ∃ (j : Nat) (S : List ByteArray) (ao : Option Addr) (n c : Nat) (idx : Option Nat) (aw : Option Addr) (mw cw : Nat), j ≤ l1 ∧ i = .int .i64 j ∧ t = .slice aw mw cw ∧ Hid (S.length ≤ j) ∧
      St w3.heap.size w3 wr bn bo bs l0 O S ao n c idx aw mw cw)
    (fun _ i _ => l1 - (intOf i).toNat)
  case atStart => exact ⟨0, [], ao, l0, d0, none, none, 0, 0, Nat.zero_le _, rfl, rfl, Nat.le_refl _, st⟩
  case round =>
    clear st
    obtain ⟨j, S, ao, n, c, idx, aw, mw, cw, hj, rfl, rfl, hS, st⟩ := hrel
    by_cases hlt : j < l1
    · obtain ⟨b, off, rfl, hbw, hcell, hy⟩ := KS.out j hlt
      have hcx := (st.bel.cell (p := ⟨b, off + j, none⟩) hbw).trans hcell
      generalize z1.getD j ByteArray.empty = y at hcell hcx hy
      have hlt' : (j : Int) < (l1 : Int) := by omega
      have HST : Hid (St w3.heap.size w3 wr bn bo bs l0 O S ao n c idx aw mw cw) := st
      have HN : Hid ((O ++ S).length ≤ 1048576) := by unfold Hid; rw [List.length_append, HO.out]; have := hS.out; omega
      clear hcell st
      by_cases hm : y ∈ S
      · have HM : Hid (y ∈ S) := hm
        clear hm
        go_wp2_with fail
        refine (zz_hit wr bn bo l0 ao n c (O ++ S) idx y hy HST.out.ob HST.out.ix HN.out (by rw [HST.out.own]; exact HM.out)).mono ?_
        rintro e x1 ⟨rfl, fr1⟩
        have st1 := HST.out.still fr1
        have look := st1.seen.look hy
        rw [memB_true.2 HM.out] at look
        clear fr1
        go_wp2_with fail
        refine (index_any x1 bo l0 idx st1.ob.obj).mono ?_
        rintro e x2 ⟨rfl, rfl⟩
        have hi := st1.told
        clear look
        have HS1 : Hid (St w3.heap.size w3 x2 bn bo bs l0 O S ao n c idx aw mw cw) := st1
        clear st1
        go_wp2_with fail
        go_roundw
        case rel => exact ⟨j + 1, S, ao, n, c, idx, aw, mw, cw, by omega, by go_num, rfl, by have := hS.out; unfold Hid; omega, HS1.out⟩
        case measure => simp [intOf]; omega
      · have HM : Hid (y ∉ S) := hm
        clear hm
        go_wp2_with fail
        refine (zz_miss wr bn bo l0 ao n c (O ++ S) idx y hy HST.out.ob HST.out.ix HN.out (by rw [HST.out.own]; exact HM.out)).mono ?_
        rintro e x1 ⟨rfl, ha⟩
        obtain ⟨ao', n', c', idx', mid⟩ := HST.out.added ha
        have look := mid.seen.look hy
        rw [memB_false.2 HM.out] at look
        have HMD : Hid (Mid w3.heap.size w3 x1 bn bo bs l0 O S y ao' n' c' idx' aw mw cw) := mid
        clear ha mid
        go_wp2_with (at_mapUpdate; refine put_new _ rfl (.tmp 63) (.tmp 64) _ rfl bs S y rfl HMD.out.seen (by have := hS.out; omega) hy HM.out rfl rfl ?_)
        intro x2 set2 hg2
        have HS2 : Hid (MSet x2 bs (S ++ [y])) := set2
        have HG2 : Hid (x1.grownBy x2 (some bs)) := hg2
        clear set2 hg2 look
        go_wp2_with (at_builtin; refine app_str _ rfl (.tmp 65) (.tmp 67) rfl aw mw cw S rfl (HMD.out.stored HG2.out).2.2.1 y rfl (by have := hS.out; omega) ?_)
        intro aw' mw' cw' zs x3 hz ho3 hg3 hblk
        have st3 := HMD.out.done HG2.out HS2.out hz.out ho3 hg3 hblk
        have HZL : Hid (zs.length = S.length + 1) := by unfold Hid; rw [hz.out]; simp
        clear hz ho3 hg3 hblk
        go_wp2_with fail
        refine (index_any x3 bo l0 idx' st3.ob.obj).mono ?_
        rintro e x4 ⟨rfl, rfl⟩
        have hi := st3.told
        have HS1 : Hid (St w3.heap.size w3 x4 bn bo bs l0 O zs ao' n' c' idx' aw' mw' cw') := st3
        clear st3
        go_wp2_with fail
        go_roundw
        case rel => exact ⟨j + 1, zs, ao', n', c', idx', aw', mw', cw', by omega, by go_num, rfl, by have := hS.out; have := HZL.out; unfold Hid; omega, HS1.out⟩
        case measure => simp [intOf]; omega
    · obtain rfl : j = l1 := by omega
      clear KS
      have HST : Hid (St w3.heap.size w3 wr bn bo bs l0 O S ao n c idx aw mw cw) := st
      clear st
      go_wp2_with fail
      refine (first_any wr bo l0 idx HST.out.ob.obj).mono ?_
      rintro e x1 ⟨rfl, rfl⟩
      have c1 := box_cell HST.out.ob.box
      have en : (n : Int) = (l0 : Int) + (mw : Int) := by
        have h1 := HST.out.ob.row.sh.1
        have h2 := HST.out.want.sh.1
        rw [List.length_append, HO.out] at h1
        omega
      have hmw : mw ≤ 65536 := by have := HST.out.want.sh.1; have := hS.out; omega
      have hn2 : n ≤ 131072 := by omega
      have HEN : Hid ((n : Int) = (l0 : Int) + (mw : Int)) := en
      have bt : ((n : Int) != (l0 : Int) + (mw : Int)) = false := by simp; omega
      clear en
      go_wp2_with fail
      clear c1
      obtain ⟨x0, hx0⟩ : ∃ x0 : World, x0 = x1 := ⟨_, rfl⟩
      clear hx0
      go_loopw [13] (fun i wr => ∃ k : Nat, k ≤ l0 ∧ i = .int .i64 k ∧ Hid (St w3.heap.size w3 wr bn bo bs l0 O S ao n c idx aw mw cw)) (fun i _ => l0 - (intOf i).toNat)
      case atStart => exact ⟨0, Nat.zero_le _, rfl, HST⟩
      case round =>
        clear HST
        obtain ⟨k, hk, rfl, HST⟩ := hrel
        by_cases hk0 : k < l0
        · obtain ⟨b, off, rfl, hbw, hcell⟩ : ∃ b off, a0 = some ⟨b, off, none⟩ ∧ b < w3.heap.size ∧ w3.cell? ⟨b, off + k, none⟩ = some (.string (z0.getD k ByteArray.empty)) := by
            rcases H0.out.rd with e | ⟨b, off, e, hb', hc⟩
            · omega
            · exact ⟨b, off, e, hb', hc k hk0⟩
          have hcx := (HST.out.bel.cell (p := ⟨b, off + k, none⟩) hbw).trans hcell
          have c1 := box_cell HST.out.ob.box
          obtain ⟨e0, ⟨_, _, e⟩ | ⟨g, rfl, _, _, _, hc⟩⟩ := HST.out.ob.row.sh
          · rw [e, List.length_nil] at e0
            have := HEN.out
            omega
          · have hcy := hc k (by have := HEN.out; omega)
            have ey : (O ++ S).getD k ByteArray.empty = z0.getD k ByteArray.empty := by
              rw [← HOE.out k hk0, List.getD, List.getElem?_append_left (by rw [HO.out]; exact hk0), List.getD]
            rw [ey] at hcy
            generalize z0.getD k ByteArray.empty = y at hcell hcx hcy ey
            have hk1 : (k : Int) < (l0 : Int) := by omega
            have hk2 : (k : Int) < (n : Int) := by have := HEN.out; omega
            clear hcell hc ey e0
            go_wp2_with fail
            go_quiet (fail)
            go_wp2_with fail
            go_roundw
            case rel => exact ⟨k + 1, by omega, by go_num, HST.out.still (fr_drewN _ _)⟩
            case measure => simp [intOf]; omega
        · obtain rfl : k = l0 := by omega
          go_wp2_with fail
          obtain ⟨x9, hx9⟩ : ∃ x9 : World, x9 = wr := ⟨_, rfl⟩
          clear hx9
          go_loopw [14] (fun i wr => ∃ m : Nat, m ≤ mw ∧ i = .int .i64 m ∧ Hid (St w3.heap.size w3 wr bn bo bs k O S ao n c idx aw mw cw)) (fun i _ => mw - (intOf i).toNat)
          case atStart => exact ⟨0, Nat.zero_le _, rfl, HST⟩
          case round =>
            clear HST
            obtain ⟨m, hm, rfl, HST⟩ := hrel
            by_cases hm0 : m < mw
            · have c1 := box_cell HST.out.ob.box
              obtain ⟨e0, ⟨_, _, e⟩ | ⟨g, rfl, _, _, _, hc⟩⟩ := HST.out.ob.row.sh
              · rw [e, List.length_nil] at e0
                have := HEN.out
                omega
              · obtain ⟨e1, ⟨_, _, e⟩ | ⟨gw, rfl, _, _, _, hc2⟩⟩ := HST.out.want.sh
                · rw [e, List.length_nil] at e1
                  omega
                · have hcy := hc (k + m) (by have := HEN.out; omega)
                  have hcx := hc2 m (by omega)
                  have ey : (O ++ S).getD (k + m) ByteArray.empty = S.getD m ByteArray.empty := by
                    rw [List.getD, List.getElem?_append_right (by rw [HO.out]; omega), HO.out, Nat.add_sub_cancel_left, List.getD]
                  rw [ey] at hcy
                  generalize S.getD m ByteArray.empty = y at hcx hcy ey
                  have hk1 : (m : Int) < (mw : Int) := by omega
                  have hk2 : (k : Int) + (m : Int) < (n : Int) := by have := HEN.out; omega
                  clear hc hc2 ey e0 e1
                  go_wp2_with fail
                  go_quiet (fail)
                  go_wp2_with fail
                  go_roundw
                  case rel => exact ⟨m + 1, by omega, by go_num, HST.out.still (fr_drewN _ _)⟩
                  case measure => simp [intOf]; omega
            · obtain rfl : m = mw := by omega
              go_wp2_with fail
              refine (index_any wr bo k idx HST.out.ob.obj).mono ?_
              rintro e x9 ⟨rfl, rfl⟩
              cases idx with
              | none =>
                go_wp2_with fail
                go_ret
                exact ⟨rfl, HST.out.bel⟩
              | some bm =>
                have hset : MSet x9 bm S := by
                  have hx := HST.out.ix
                  unfold Idx at hx
                  rw [HST.out.own] at hx
                  rcases hx with ⟨e, _⟩ | ⟨bm', e, h, _⟩
                  · cases e
                  · cases e; exact h
                have hsh : Sht S := fun s hs => HST.out.ob.sht s (List.mem_append.2 (.inr hs))
                have H8 : Hid (Calls Try.prog 8 #[.map (some bm), .slice aw m cw] x9 fun e w' => e = .returned (.bool true) ∧ w' = x9) := holds_any x9 bm aw m cw S HST.out.want.sh.1.symm hset HST.out.want.rd hsh (by omega)
                clear hset hsh
                go_wp2_with (go_at_call 8; refine H8.out.mono ?_; rintro e x10 ⟨rfl, rfl⟩)
                go_ret
                exact ⟨rfl, HST.out.bel⟩

/-- Function 4: for every input. -/
theorem walk4 (a0 a1 : Option Addr) (l0 l1 c0 c1 : Nat) (z0 z1 : List ByteArray) (w : World) (w0 : Strs w a0 l0 c0 z0) (w1 : Strs w a1 l1 c1 z1) :
    Calls Try.prog 4 #[.slice a0 l0 c0, .slice a1 l1 c1] w fun e w' => e = .returned (.bool true) ∧ Below w.heap.size w w' := by
  by_cases h : l0 ≤ 65536 ∧ l1 ≤ 65536
  · exact walk4_main a0 a1 l0 l1 c0 c1 z0 z1 w w0 w1 h.1 h.2
  · exact walk4_long a0 a1 l0 l1 c0 c1 _ _ w w0.rd w1.rd (by omega)

end Go.Proofs.Qxb6601989a
