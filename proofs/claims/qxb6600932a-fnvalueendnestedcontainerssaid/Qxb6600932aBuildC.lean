/-
  Seat b6600932a: 'buildValueB1' (24): objects; then the function whole, by induction on what is left of the seed.
-/
import Derived.Test.Qxb6600932aBuildB
namespace Go.Proofs.Qxb6600932a
open Go.RowKit
set_option linter.unusedVariables false

set_option maxRecDepth 100000 in
set_option maxHeartbeats 8000000 in
theorem build_6a (B g n sc k : Nat) (S : List Int) (pos : Nat) (d y : Int) (v : Value) (xs : List Int) (w : World) (hn : n ≤ 1048576) (hp : pos < n) (hnk : n - pos ≤ k + 1) (ih : Builds B (some ⟨g, 0, none⟩) n sc S k)
    (lie : Lies B w (.slice (some ⟨g, 0, none⟩) n sc) S) (hSl : S.length = n) (hby : Byt S)
    (hcx : w.cell? ⟨g, pos, none⟩ = some (.int .u8 y)) (hy0 : 0 ≤ y) (hy1 : y ≤ 255) (hB : B ≤ w.heap.size) (hown : Own B w v xs) (hl : xs.length + 64 * (n - pos) ≤ 274877906944)
    (hd0 : 0 ≤ d) (hk : decide (24 ≤ d) = false ∧ y % 8 = 6) (hp1 : pos + 1 < n) :
    Calls Try.prog 24 #[.slice (some ⟨g, 0, none⟩) n sc, .int .i64 pos, .int .i64 d, v] w (Left2 B w xs (ValP n pos)) := by
  have hlt : (pos : Int) < (n : Int) := by omega
  obtain ⟨k1, k2⟩ := hk
  have hd : d < 24 := by simpa using k1
  have HS : Hid (S.length = n) := hSl
  have hlt1 : (pos : Int) + 1 < (n : Int) := by omega
  obtain ⟨s1, s2, s3⟩ := seed_at lie hSl hby (pos + 1) hp1
  obtain ⟨cnt, hcnt, hc3⟩ : ∃ cnt : Nat, S.getD (pos + 1) 0 % 4 = (cnt : Int) ∧ cnt ≤ 3 := ⟨(S.getD (pos + 1) 0 % 4).toNat, by omega, by omega⟩
  generalize S.getD (pos + 1) 0 = y2 at s1 s2 s3 hcnt
  clear hSl
  go_enter Try.func24, Try.ntmps24
  go_wp2_with (at_builtin; refine app_more _ rfl (.tmp 159) (.tmp 160) rfl B hB v xs rfl hown [123] rfl (by simp; omega) ?_)
  intro ao m c zs w1 hz ho hb hB1
  have inn := Inn.start hz
  replace lie := lie.keep hb
  clear hz hown hcx s1
  go_wp2_with fail
  clear hlt1 s2 s3 hcnt
  go_loopw [1, 3, 15] (fun p o i wr => ∃ (j q m c : Nat) (ao : Option Addr) (zs : List Int), j ≤ cnt ∧ pos + 1 ≤ q ∧ q ≤ n ∧ p = .int .i64 q ∧ o = .slice ao m c ∧ i = .int .i64 j ∧
      Own B wr (.slice ao m c) zs ∧ Inn 123 xs zs (1 + 10 * j + 64 * (q - (pos + 1))) ∧ Lies B wr (.slice (some ⟨g, 0, none⟩) n sc) S ∧ Below B w wr ∧ B ≤ wr.heap.size)
    (fun _ _ i _ => cnt - (intOf i).toNat)
  case atStart => exact ⟨0, pos + 2, m, c, ao, zs, Nat.zero_le _, by omega, by omega, by go_num, rfl, rfl, ho, inn.mono (by omega), lie, hb, hB1⟩
  case round =>
    clear ho inn lie hb hB1
    obtain ⟨j, q, m1, c1, ao1, zs, hj, hq1, hq2, rfl, rfl, rfl, hor, inn, lier, belr, hBr⟩ := hrel
    by_cases hjc : j < cnt
    · have hjc' : (j : Int) < (cnt : Int) := by omega
      have il := inn.len
      rcases Nat.eq_zero_or_pos j with rfl | hj0
      · go_wp2_with fail
        refine (str_any B _ n sc S q (.slice ao1 m1 c1) zs _ hn (by omega) lier HS.out hby hBr hor (by omega)).mono ?_
        intro e w4 h
        obtain ⟨ao4, m4, c4, ys4, zs4, q4, rfl, ho4, hz4, ⟨t1, t2, t3, t4⟩, hb4⟩ := h.out
        have inn4 := inn.more hz4 t1.tr _ t4
        have il4 := inn4.len
        have lie4 := lier.keep hb4
        have hB4 := Nat.le_trans hBr hb4.size
        have bel4 := belr.trans hb4
        clear t1 t4 inn il hz4 hor lier belr hb4
        by_cases b16 : (y / 16 % 2 == 1) = true
        · go_wp2_with (at_builtin; refine app_more _ rfl (.tmp 183) (.tmp 184) rfl B hB4 (.slice ao4 m4 c4) zs4 rfl ho4 [32, 58, 32] rfl (by simp; omega) ?_)
          intro ao5 m5 c5 zs5 w5 hz5 ho5 hb5 hB5
          have inn5 := inn4.more hz5 (tr_of (by decide)) 3 (by simp)
          have il5 := inn5.len
          have lie5 := lie4.keep hb5
          have bel5 := bel4.trans hb5
          clear hz5 hb5
          go_wp2_with fail
          refine (ih q4 (d + 1) (.slice ao5 m5 c5) zs5 _ (by omega) (by omega) (by omega) (by omega) lie5 hB5 ho5 (by omega)).mono ?_
          intro e w6 h
          obtain ⟨ao', m', c', ys', zs', q', rfl, ho', hz', ⟨p1, p2, p3, p4⟩, hb'⟩ := h.out
          go_wp2_with fail
          go_roundw
          case rel => exact ⟨0 + 1, q', m', c', ao', zs', by omega, by omega, by omega, by go_num, rfl, by go_num, ho', (inn5.more hz' p1.tr _ p4).mono (by omega), lie5.keep hb', bel5.trans hb', Nat.le_trans hB5 hb'.size⟩
          case measure => simp [intOf]; omega
        · have b16' : (y / 16 % 2 == 1) = false := by simpa using b16
          clear b16
          go_wp2_with (at_builtin; refine app_more _ rfl (.tmp 186) (.tmp 187) rfl B hB4 (.slice ao4 m4 c4) zs4 rfl ho4 [58] rfl (by simp; omega) ?_)
          intro ao5 m5 c5 zs5 w5 hz5 ho5 hb5 hB5
          have inn5 := inn4.more hz5 (tr_of (by decide)) 3 (by simp)
          have il5 := inn5.len
          have lie5 := lie4.keep hb5
          have bel5 := bel4.trans hb5
          clear hz5 hb5
          go_wp2_with fail
          refine (ih q4 (d + 1) (.slice ao5 m5 c5) zs5 _ (by omega) (by omega) (by omega) (by omega) lie5 hB5 ho5 (by omega)).mono ?_
          intro e w6 h
          obtain ⟨ao', m', c', ys', zs', q', rfl, ho', hz', ⟨p1, p2, p3, p4⟩, hb'⟩ := h.out
          go_wp2_with fail
          go_roundw
          case rel => exact ⟨0 + 1, q', m', c', ao', zs', by omega, by omega, by omega, by go_num, rfl, by go_num, ho', (inn5.more hz' p1.tr _ p4).mono (by omega), lie5.keep hb', bel5.trans hb', Nat.le_trans hB5 hb'.size⟩
          case measure => simp [intOf]; omega
      · have hj0' : (0 : Int) < (j : Int) := by omega
        go_wp2_with fail
        refine (sep_any B (.slice ao1 m1 c1) zs y _ hBr hor hy0 hy1 (by omega)).mono ?_
        intro e w2 h
        obtain ⟨ao2, m2, c2, ys, zs2, rfl, ho2, hz2, ⟨p1, p2⟩, hb2⟩ := h.out
        have inn2 := inn.more hz2 p1 _ p2
        have il2 := inn2.len
        have lie2 := lier.keep hb2
        have hB2 := Nat.le_trans hBr hb2.size
        have bel2 := belr.trans hb2
        clear p1 p2 inn il hz2 hor lier belr hb2
        go_wp2_with fail
        refine (str_any B _ n sc S q (.slice ao2 m2 c2) zs2 _ hn (by omega) lie2 HS.out hby hB2 ho2 (by omega)).mono ?_
        intro e w4 h
        obtain ⟨ao4, m4, c4, ys4, zs4, q4, rfl, ho4, hz4, ⟨t1, t2, t3, t4⟩, hb4⟩ := h.out
        have inn4 := inn2.more hz4 t1.tr _ t4
        have il4 := inn4.len
        have lie4 := lie2.keep hb4
        have hB4 := Nat.le_trans hB2 hb4.size
        have bel4 := bel2.trans hb4
        clear t1 t4 inn2 il2 hz4 ho2 lie2 bel2 hb4
        by_cases b16 : (y / 16 % 2 == 1) = true
        · go_wp2_with (at_builtin; refine app_more _ rfl (.tmp 183) (.tmp 184) rfl B hB4 (.slice ao4 m4 c4) zs4 rfl ho4 [32, 58, 32] rfl (by simp; omega) ?_)
          intro ao5 m5 c5 zs5 w5 hz5 ho5 hb5 hB5
          have inn5 := inn4.more hz5 (tr_of (by decide)) 3 (by simp)
          have il5 := inn5.len
          have lie5 := lie4.keep hb5
          have bel5 := bel4.trans hb5
          clear hz5 hb5
          go_wp2_with fail
          refine (ih q4 (d + 1) (.slice ao5 m5 c5) zs5 _ (by omega) (by omega) (by omega) (by omega) lie5 hB5 ho5 (by omega)).mono ?_
          intro e w6 h
          obtain ⟨ao', m', c', ys', zs', q', rfl, ho', hz', ⟨p1, p2, p3, p4⟩, hb'⟩ := h.out
          go_wp2_with fail
          go_roundw
          case rel => exact ⟨j + 1, q', m', c', ao', zs', by omega, by omega, by omega, by go_num, rfl, by go_num, ho', (inn5.more hz' p1.tr _ p4).mono (by omega), lie5.keep hb', bel5.trans hb', Nat.le_trans hB5 hb'.size⟩
          case measure => simp [intOf]; omega
        · have b16' : (y / 16 % 2 == 1) = false := by simpa using b16
          clear b16
          go_wp2_with (at_builtin; refine app_more _ rfl (.tmp 186) (.tmp 187) rfl B hB4 (.slice ao4 m4 c4) zs4 rfl ho4 [58] rfl (by simp; omega) ?_)
          intro ao5 m5 c5 zs5 w5 hz5 ho5 hb5 hB5
          have inn5 := inn4.more hz5 (tr_of (by decide)) 3 (by simp)
          have il5 := inn5.len
          have lie5 := lie4.keep hb5
          have bel5 := bel4.trans hb5
          clear hz5 hb5
          go_wp2_with fail
          refine (ih q4 (d + 1) (.slice ao5 m5 c5) zs5 _ (by omega) (by omega) (by omega) (by omega) lie5 hB5 ho5 (by omega)).mono ?_
          intro e w6 h
          obtain ⟨ao', m', c', ys', zs', q', rfl, ho', hz', ⟨p1, p2, p3, p4⟩, hb'⟩ := h.out
          go_wp2_with fail
          go_roundw
          case rel => exact ⟨j + 1, q', m', c', ao', zs', by omega, by omega, by omega, by go_num, rfl, by go_num, ho', (inn5.more hz' p1.tr _ p4).mono (by omega), lie5.keep hb', bel5.trans hb', Nat.le_trans hB5 hb'.size⟩
          case measure => simp [intOf]; omega
    · obtain rfl : j = cnt := by omega
      have il := inn.len
      by_cases b32 : (y / 32 % 2 == 1) = true
      · go_wp2_with (at_builtin; refine app_more _ rfl (.tmp 202) (.tmp 203) rfl B hBr (.slice ao1 m1 c1) zs rfl hor [10] rfl (by simp; omega) ?_)
        intro ao2 m2 c2 zs2 w2 hz2 ho2 hb2 hB2
        replace inn := inn.more hz2 (tr_of (by decide)) 1 (by simp)
        have il2 := inn.len
        go_wp2_with (at_builtin; refine app_more _ rfl (.tmp 205) (.tmp 206) rfl B hB2 (.slice ao2 m2 c2) zs2 rfl ho2 [125] rfl (by simp; omega) ?_)
        intro ao3 m3 c3 zs3 w3 hz3 ho3 hb3 hB3
        obtain ⟨ys, e1, e2, e3⟩ := inn.close hz3 (.inl rfl) (.inl rfl)
        go_wp2_with fail
        go_ret2
        exact Left2.mk e1 ho3 rfl ⟨e2, by omega, by omega, by omega⟩ ((belr.trans hb2).trans hb3)
      · have b32' : (y / 32 % 2 == 1) = false := by simpa using b32
        clear b32
        go_wp2_with (at_builtin; refine app_more _ rfl (.tmp 205) (.tmp 206) rfl B hBr (.slice ao1 m1 c1) zs rfl hor [125] rfl (by simp; omega) ?_)
        intro ao3 m3 c3 zs3 w3 hz3 ho3 hb3 hB3
        obtain ⟨ys, e1, e2, e3⟩ := inn.close hz3 (.inl rfl) (.inl rfl)
        go_wp2_with fail
        go_ret2
        exact Left2.mk e1 ho3 rfl ⟨e2, by omega, by omega, by omega⟩ (belr.trans hb3)

set_option maxRecDepth 100000 in
set_option maxHeartbeats 8000000 in
theorem build_6b (B g n sc k : Nat) (S : List Int) (pos : Nat) (d y : Int) (v : Value) (xs : List Int) (w : World) (hn : n ≤ 1048576) (hp : pos < n) (hnk : n - pos ≤ k + 1) (ih : Builds B (some ⟨g, 0, none⟩) n sc S k)
    (lie : Lies B w (.slice (some ⟨g, 0, none⟩) n sc) S) (hSl : S.length = n) (hby : Byt S)
    (hcx : w.cell? ⟨g, pos, none⟩ = some (.int .u8 y)) (hy0 : 0 ≤ y) (hy1 : y ≤ 255) (hB : B ≤ w.heap.size) (hown : Own B w v xs) (hl : xs.length + 64 * (n - pos) ≤ 274877906944)
    (hd0 : 0 ≤ d) (hk : decide (24 ≤ d) = false ∧ y % 8 = 6) (hp1 : pos + 1 = n) :
    Calls Try.prog 24 #[.slice (some ⟨g, 0, none⟩) n sc, .int .i64 pos, .int .i64 d, v] w (Left2 B w xs (ValP n pos)) := by
  have hlt : (pos : Int) < (n : Int) := by omega
  obtain ⟨k1, k2⟩ := hk
  have hd : d < 24 := by simpa using k1
  have HS : Hid (S.length = n) := hSl
  have hlt1 : ¬ ((pos : Int) + 1 < (n : Int)) := by omega
  have HP1 : Hid (pos + 1 = n) := hp1
  clear hp1 hSl
  go_enter Try.func24, Try.ntmps24
  go_wp2_with (at_builtin; refine app_more _ rfl (.tmp 159) (.tmp 160) rfl B hB v xs rfl hown [123] rfl (by simp; omega) ?_)
  intro ao m c zs w1 hz ho hb hB1
  have inn := Inn.start hz
  replace lie := lie.keep hb
  clear hz hown hcx
  go_wp2_with fail
  clear hlt1
  go_loopw [1, 3, 15] (fun p o i wr => ∃ (j q m c : Nat) (ao : Option Addr) (zs : List Int), j ≤ 0 ∧ pos + 1 ≤ q ∧ q ≤ n ∧ p = .int .i64 q ∧ o = .slice ao m c ∧ i = .int .i64 j ∧
      Own B wr (.slice ao m c) zs ∧ Inn 123 xs zs (1 + 10 * j + 64 * (q - (pos + 1))) ∧ Lies B wr (.slice (some ⟨g, 0, none⟩) n sc) S ∧ Below B w wr ∧ B ≤ wr.heap.size)
    (fun _ _ i _ => 0 - (intOf i).toNat)
  case atStart => exact ⟨0, pos + 1, m, c, ao, zs, Nat.zero_le _, by omega, by have := HP1.out; omega, by go_num, rfl, rfl, ho, inn.mono (by omega), lie, hb, hB1⟩
  case round =>
    clear ho inn lie hb hB1
    obtain ⟨j, q, m1, c1, ao1, zs, hj, hq1, hq2, rfl, rfl, rfl, hor, inn, lier, belr, hBr⟩ := hrel
    · obtain rfl : j = 0 := by omega
      have il := inn.len
      by_cases b32 : (y / 32 % 2 == 1) = true
      · go_wp2_with (at_builtin; refine app_more _ rfl (.tmp 202) (.tmp 203) rfl B hBr (.slice ao1 m1 c1) zs rfl hor [10] rfl (by simp; omega) ?_)
        intro ao2 m2 c2 zs2 w2 hz2 ho2 hb2 hB2
        replace inn := inn.more hz2 (tr_of (by decide)) 1 (by simp)
        have il2 := inn.len
        go_wp2_with (at_builtin; refine app_more _ rfl (.tmp 205) (.tmp 206) rfl B hB2 (.slice ao2 m2 c2) zs2 rfl ho2 [125] rfl (by simp; omega) ?_)
        intro ao3 m3 c3 zs3 w3 hz3 ho3 hb3 hB3
        obtain ⟨ys, e1, e2, e3⟩ := inn.close hz3 (.inl rfl) (.inl rfl)
        go_wp2_with fail
        go_ret2
        exact Left2.mk e1 ho3 rfl ⟨e2, by omega, by omega, by omega⟩ ((belr.trans hb2).trans hb3)
      · have b32' : (y / 32 % 2 == 1) = false := by simpa using b32
        clear b32
        go_wp2_with (at_builtin; refine app_more _ rfl (.tmp 205) (.tmp 206) rfl B hBr (.slice ao1 m1 c1) zs rfl hor [125] rfl (by simp; omega) ?_)
        intro ao3 m3 c3 zs3 w3 hz3 ho3 hb3 hB3
        obtain ⟨ys, e1, e2, e3⟩ := inn.close hz3 (.inl rfl) (.inl rfl)
        go_wp2_with fail
        go_ret2
        exact Left2.mk e1 ho3 rfl ⟨e2, by omega, by omega, by omega⟩ (belr.trans hb3)

/-- FUNCTION 24, WHATEVER THE SEED: behind what was there it writes one value. -/
theorem builds (B : Nat) (so : Option Addr) (n sc : Nat) (S : List Int) (hn : n ≤ 1048576) (hSl : S.length = n) (hby : Byt S) : ∀ k, Builds B so n sc S k := by
  intro k
  induction k with
  | zero =>
    intro pos d v xs w h1 h2 _ _ _ hB hown hl
    obtain rfl : pos = n := by omega
    exact build_end B so pos sc d v xs w hB hown (by omega)
  | succ k ih =>
    intro pos d v xs w h1 h2 hd0 hd lie hB hown hl
    by_cases hp : pos < n
    · obtain ⟨g, rfl, _⟩ := lie.at (by intro e; subst e; simp at hSl; omega)
      obtain ⟨hcx, hy0, hy1⟩ := seed_at lie hSl hby pos hp
      generalize S.getD pos 0 = y at hcx hy0 hy1
      rcases kd_some y d with hk | hk | hk | hk | hk | hk | hk | hk
      · exact build_0 B g n sc pos d y v xs w hn hp hcx hy0 hy1 hB hown (by omega) hk
      · exact build_1 B g n sc pos d y v xs w hn hp hcx hy0 hy1 hB hown (by omega) hk
      · exact build_2 B g n sc pos d y v xs w hn hp hcx hy0 hy1 hB hown (by omega) hk
      · exact build_3 B g n sc pos d y v xs w hn hp hcx hy0 hy1 hB hown (by omega) hk
      · exact build_4 B g n sc S pos d y v xs w hn hp lie hSl hby hcx hy0 hy1 hB hown (by omega) hk
      · cases b8 : (y / 8 % 2 == 1) with
        | true =>
          by_cases hp1 : pos + 1 < n
          · exact build_5a B g n sc k S pos d y v xs w hn hp h1 ih lie hSl hby hcx hy0 hy1 hB hown hl hd0 hk hp1 b8
          · exact build_5c B g n sc k S pos d y v xs w hn hp h1 ih lie hcx hy0 hy1 hB hown hl hd0 hk (by omega) b8
        | false =>
          by_cases hp1 : pos + 1 < n
          · exact build_5b B g n sc k S pos d y v xs w hn hp h1 ih lie hSl hby hcx hy0 hy1 hB hown hl hd0 hk hp1 b8
          · exact build_5d B g n sc k S pos d y v xs w hn hp h1 ih lie hcx hy0 hy1 hB hown hl hd0 hk (by omega) b8
      · by_cases hp1 : pos + 1 < n
        · exact build_6a B g n sc k S pos d y v xs w hn hp h1 ih lie hSl hby hcx hy0 hy1 hB hown hl hd0 hk hp1
        · exact build_6b B g n sc k S pos d y v xs w hn hp h1 ih lie hSl hby hcx hy0 hy1 hB hown hl hd0 hk (by omega)
      · exact build_7 B g n sc pos d y v xs w hn hp hcx hy0 hy1 hB hown (by omega) hk
    · obtain rfl : pos = n := by omega
      exact build_end B so pos sc d v xs w hB hown (by omega)

end Go.Proofs.Qxb6600932a
