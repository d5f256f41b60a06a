/-
  Seat b6600932a: 'buildValueB1' (24): arrays.
-/
import Derived.Test.Qxb6600932aBuildA
namespace Go.Proofs.Qxb6600932a
open Go.RowKit
set_option linter.unusedVariables false

/-- Behind xs a container's opening byte and a run of at most L bytes that is passed over whole. -/
def Inn (o : Int) (xs zs : List Int) (L : Nat) : Prop := ∃ b, zs = xs ++ (o :: b) ∧ Tr b ∧ b.length ≤ L

theorem Inn.start {o : Int} {xs zs : List Int} (h : Hid (zs = xs ++ [o])) : Inn o xs zs 0 := ⟨[], by rw [h.out], Tr.nil, by simp⟩
theorem Inn.more {o : Int} {xs zs zs' cs : List Int} {L : Nat} (h : Inn o xs zs L) (hz : Hid (zs' = zs ++ cs)) (hc : Tr cs) (k : Nat) (hk : cs.length ≤ k) : Inn o xs zs' (L + k) := by
  obtain ⟨b, rfl, hb, hbl⟩ := h
  exact ⟨b ++ cs, by rw [hz.out]; simp, hb.append hc, by rw [List.length_append]; omega⟩
theorem Inn.mono {o : Int} {xs zs : List Int} {L L' : Nat} (h : Inn o xs zs L) (hL : L ≤ L') : Inn o xs zs L' := by
  obtain ⟨b, h1, h2, h3⟩ := h
  exact ⟨b, h1, h2, by omega⟩
theorem Inn.len {o : Int} {xs zs : List Int} {L : Nat} (h : Inn o xs zs L) : zs.length ≤ xs.length + 1 + L := by
  obtain ⟨b, rfl, hb, hbl⟩ := h
  simp; omega
theorem Inn.close {o c : Int} {xs zs zs' : List Int} {L : Nat} (h : Inn o xs zs L) (hz : Hid (zs' = zs ++ [c])) (ho : o = 123 ∨ o = 91) (hc : c = 125 ∨ c = 93) : ∃ ys, Hid (zs' = xs ++ ys) ∧ IsVal ys ∧ ys.length ≤ L + 2 := by
  obtain ⟨b, rfl, hb, hbl⟩ := h
  exact ⟨o :: (b ++ [c]), by unfold Hid; rw [hz.out]; simp, .inr (.inr ⟨o, b, c, rfl, ho, hc, hb⟩), by simp; omega⟩

/-- What 24 does at every shorter rest of the seed. -/
def Builds (B : Nat) (so : Option Addr) (n sc : Nat) (S : List Int) (k : Nat) : Prop :=
  ∀ (pos : Nat) (d : Int) (v : Value) (xs : List Int) (w : World), n - pos ≤ k → pos ≤ n → 0 ≤ d → d ≤ 24 → Lies B w (.slice so n sc) S → B ≤ w.heap.size → Own B w v xs → xs.length + 64 * (n - pos) ≤ 274877906944 →
    Calls Try.prog 24 #[.slice so n sc, .int .i64 pos, .int .i64 d, v] w (Left2 B w xs (ValP n pos))

set_option maxRecDepth 100000 in
set_option maxHeartbeats 8000000 in
theorem build_5a (B g n sc k : Nat) (S : List Int) (pos : Nat) (d y : Int) (v : Value) (xs : List Int) (w : World) (hn : n ≤ 1048576) (hp : pos < n) (hnk : n - pos ≤ k + 1) (ih : Builds B (some ⟨g, 0, none⟩) n sc S k)
    (lie : Lies B w (.slice (some ⟨g, 0, none⟩) n sc) S) (hSl : S.length = n) (hby : Byt S) 
    (hcx : w.cell? ⟨g, pos, none⟩ = some (.int .u8 y)) (hy0 : 0 ≤ y) (hy1 : y ≤ 255) (hB : B ≤ w.heap.size) (hown : Own B w v xs) (hl : xs.length + 64 * (n - pos) ≤ 274877906944)
    (hd0 : 0 ≤ d) (hk : decide (24 ≤ d) = false ∧ y % 8 = 5) (hp1 : pos + 1 < n) (b8 : (y / 8 % 2 == 1) = true) :
    Calls Try.prog 24 #[.slice (some ⟨g, 0, none⟩) n sc, .int .i64 pos, .int .i64 d, v] w (Left2 B w xs (ValP n pos)) := by
  have hlt : (pos : Int) < (n : Int) := by omega
  obtain ⟨k1, k2⟩ := hk
  have hd : d < 24 := by simpa using k1
  have hlt1 : (pos : Int) + 1 < (n : Int) := by omega
  obtain ⟨s1, s2, s3⟩ := seed_at lie hSl hby (pos + 1) hp1
  obtain ⟨cnt, hcnt, hc3⟩ : ∃ cnt : Nat, S.getD (pos + 1) 0 % 4 = (cnt : Int) ∧ cnt ≤ 3 := ⟨(S.getD (pos + 1) 0 % 4).toNat, by omega, by omega⟩
  generalize S.getD (pos + 1) 0 = y2 at s1 s2 s3 hcnt
  clear hby hSl
  go_enter Try.func24, Try.ntmps24
  go_wp2_with (at_builtin; refine app_more _ rfl (.tmp 106) (.tmp 107) rfl B hB v xs rfl hown [91] rfl (by simp; omega) ?_)
  intro ao m c zs w1 hz ho hb hB1
  have inn := Inn.start hz
  replace lie := lie.keep hb
  clear hz hown hcx s1
  go_wp2_with (at_builtin; refine app_more _ rfl (.tmp 113) (.tmp 114) rfl B hB1 (.slice ao m c) zs rfl ho [32] rfl (by have := inn.len; simp; omega) ?_)
  intro ao2 m2 c2 zs2 w2 hz2 ho2 hb2 hB2
  replace inn := inn.more hz2 (tr_of (by decide)) 1 (by simp)
  replace lie := lie.keep hb2
  replace hb := hb.trans hb2
  clear hz2 ho hB1 hb2
  go_wp2_with fail
  clear hlt1 s2 s3 hcnt
  go_loopw [1, 3, 13] (fun p o i wr => ∃ (j q m c : Nat) (ao : Option Addr) (zs : List Int), j ≤ cnt ∧ pos + 1 ≤ q ∧ q ≤ n ∧ p = .int .i64 q ∧ o = .slice ao m c ∧ i = .int .i64 j ∧
      Own B wr (.slice ao m c) zs ∧ Inn 91 xs zs (1 + 10 * j + 64 * (q - (pos + 1))) ∧ Lies B wr (.slice (some ⟨g, 0, none⟩) n sc) S ∧ Below B w wr ∧ B ≤ wr.heap.size)
    (fun _ _ i _ => cnt - (intOf i).toNat)
  case atStart => exact ⟨0, pos + 2, m2, c2, ao2, zs2, Nat.zero_le _, by omega, by omega, by go_num, rfl, rfl, ho2, inn.mono (by omega), lie, hb, hB2⟩
  case round =>
    clear ho2 inn lie hb hB2
    obtain ⟨j, q, m1, c1, ao1, zs, hj, hq1, hq2, rfl, rfl, rfl, hor, inn, lier, belr, hBr⟩ := hrel
    by_cases hjc : j < cnt
    · have hjc' : (j : Int) < (cnt : Int) := by omega
      have il := inn.len
      rcases Nat.eq_zero_or_pos j with rfl | hj0
      · go_wp2_with fail
        refine (ih q (d + 1) (.slice ao1 m1 c1) zs _ (by omega) (by omega) (by omega) (by omega) lier hBr hor (by omega)).mono ?_
        intro e w2 h
        obtain ⟨ao', m', c', ys, zs', q', rfl, ho', hz', ⟨p1, p2, p3, p4⟩, hb'⟩ := h.out
        go_wp2_with fail
        go_roundw
        case rel => exact ⟨0 + 1, q', m', c', ao', zs', by omega, by omega, by omega, by go_num, rfl, by go_num, ho', (inn.more hz' p1.tr _ p4).mono (by omega), lier.keep hb', belr.trans hb', Nat.le_trans hBr hb'.size⟩
        case measure => simp [intOf]; omega
      · have hj0' : (0 : Int) < (j : Int) := by omega
        go_wp2_with fail
        refine (sep_any B (.slice ao1 m1 c1) zs y _ hBr hor hy0 hy1 (by omega)).mono ?_
        intro e w2 h
        obtain ⟨ao2, m2, c2, ys, zs2, rfl, ho2, hz2, ⟨p1, p2⟩, hb2⟩ := h.out
        have inn2 := inn.more hz2 p1 _ p2
        have il2 := inn2.len
        have lie2 := lier.keep hb2
        have hB2 := Nat.le_trans hBr hb2.size
        have bel2 := belr.trans hb2
        clear p1 p2 inn il hz2 hor lier belr hb2
        go_wp2_with fail
        refine (ih q (d + 1) (.slice ao2 m2 c2) zs2 _ (by omega) (by omega) (by omega) (by omega) lie2 hB2 ho2 (by omega)).mono ?_
        intro e w3 h
        obtain ⟨ao', m', c', ys', zs', q', rfl, ho', hz', ⟨p1, p2, p3, p4⟩, hb'⟩ := h.out
        go_wp2_with fail
        go_roundw
        case rel => exact ⟨j + 1, q', m', c', ao', zs', by omega, by omega, by omega, by go_num, rfl, by go_num, ho', (inn2.more hz' p1.tr _ p4).mono (by omega), lie2.keep hb', bel2.trans hb', Nat.le_trans hB2 hb'.size⟩
        case measure => simp [intOf]; omega
    · obtain rfl : j = cnt := by omega
      have il := inn.len
      by_cases b32 : (y / 32 % 2 == 1) = true
      · go_wp2_with (at_builtin; refine app_more _ rfl (.tmp 139) (.tmp 140) rfl B hBr (.slice ao1 m1 c1) zs rfl hor [32] rfl (by simp; omega) ?_)
        intro ao2 m2 c2 zs2 w2 hz2 ho2 hb2 hB2
        replace inn := inn.more hz2 (tr_of (by decide)) 1 (by simp)
        have il2 := inn.len
        go_wp2_with (at_builtin; refine app_more _ rfl (.tmp 142) (.tmp 143) rfl B hB2 (.slice ao2 m2 c2) zs2 rfl ho2 [93] rfl (by simp; omega) ?_)
        intro ao3 m3 c3 zs3 w3 hz3 ho3 hb3 hB3
        obtain ⟨ys, e1, e2, e3⟩ := inn.close hz3 (.inr rfl) (.inr rfl)
        go_wp2_with fail
        go_ret2
        exact Left2.mk e1 ho3 rfl ⟨e2, by omega, by omega, by omega⟩ ((belr.trans hb2).trans hb3)
      · have b32' : (y / 32 % 2 == 1) = false := by simpa using b32
        clear b32
        go_wp2_with (at_builtin; refine app_more _ rfl (.tmp 142) (.tmp 143) rfl B hBr (.slice ao1 m1 c1) zs rfl hor [93] rfl (by simp; omega) ?_)
        intro ao3 m3 c3 zs3 w3 hz3 ho3 hb3 hB3
        obtain ⟨ys, e1, e2, e3⟩ := inn.close hz3 (.inr rfl) (.inr rfl)
        go_wp2_with fail
        go_ret2
        exact Left2.mk e1 ho3 rfl ⟨e2, by omega, by omega, by omega⟩ (belr.trans hb3)

set_option maxRecDepth 100000 in
set_option maxHeartbeats 8000000 in
theorem build_5b (B g n sc k : Nat) (S : List Int) (pos : Nat) (d y : Int) (v : Value) (xs : List Int) (w : World) (hn : n ≤ 1048576) (hp : pos < n) (hnk : n - pos ≤ k + 1) (ih : Builds B (some ⟨g, 0, none⟩) n sc S k)
    (lie : Lies B w (.slice (some ⟨g, 0, none⟩) n sc) S) (hSl : S.length = n) (hby : Byt S) 
    (hcx : w.cell? ⟨g, pos, none⟩ = some (.int .u8 y)) (hy0 : 0 ≤ y) (hy1 : y ≤ 255) (hB : B ≤ w.heap.size) (hown : Own B w v xs) (hl : xs.length + 64 * (n - pos) ≤ 274877906944)
    (hd0 : 0 ≤ d) (hk : decide (24 ≤ d) = false ∧ y % 8 = 5) (hp1 : pos + 1 < n) (b8 : (y / 8 % 2 == 1) = false) :
    Calls Try.prog 24 #[.slice (some ⟨g, 0, none⟩) n sc, .int .i64 pos, .int .i64 d, v] w (Left2 B w xs (ValP n pos)) := by
  have hlt : (pos : Int) < (n : Int) := by omega
  obtain ⟨k1, k2⟩ := hk
  have hd : d < 24 := by simpa using k1
  have hlt1 : (pos : Int) + 1 < (n : Int) := by omega
  obtain ⟨s1, s2, s3⟩ := seed_at lie hSl hby (pos + 1) hp1
  obtain ⟨cnt, hcnt, hc3⟩ : ∃ cnt : Nat, S.getD (pos + 1) 0 % 4 = (cnt : Int) ∧ cnt ≤ 3 := ⟨(S.getD (pos + 1) 0 % 4).toNat, by omega, by omega⟩
  generalize S.getD (pos + 1) 0 = y2 at s1 s2 s3 hcnt
  clear hby hSl
  go_enter Try.func24, Try.ntmps24
  go_wp2_with (at_builtin; refine app_more _ rfl (.tmp 106) (.tmp 107) rfl B hB v xs rfl hown [91] rfl (by simp; omega) ?_)
  intro ao m c zs w1 hz ho hb hB1
  have inn := Inn.start hz
  replace lie := lie.keep hb
  clear hz hown hcx s1
  go_wp2_with fail
  clear hlt1 s2 s3 hcnt
  go_loopw [1, 3, 13] (fun p o i wr => ∃ (j q m c : Nat) (ao : Option Addr) (zs : List Int), j ≤ cnt ∧ pos + 1 ≤ q ∧ q ≤ n ∧ p = .int .i64 q ∧ o = .slice ao m c ∧ i = .int .i64 j ∧
      Own B wr (.slice ao m c) zs ∧ Inn 91 xs zs (1 + 10 * j + 64 * (q - (pos + 1))) ∧ Lies B wr (.slice (some ⟨g, 0, none⟩) n sc) S ∧ Below B w wr ∧ B ≤ wr.heap.size)
    (fun _ _ i _ => cnt - (intOf i).toNat)
  case atStart => exact ⟨0, pos + 2, m, c, ao, zs, Nat.zero_le _, by omega, by omega, by go_num, rfl, rfl, ho, inn.mono (by omega), lie, hb, hB1⟩
  case round =>
    clear ho inn lie hb hB1
    obtain ⟨j, q, m1, c1, ao1, zs, hj, hq1, hq2, rfl, rfl, rfl, hor, inn, lier, belr, hBr⟩ := hrel
    by_cases hjc : j < cnt
    · have hjc' : (j : Int) < (cnt : Int) := by omega
      have il := inn.len
      rcases Nat.eq_zero_or_pos j with rfl | hj0
      · go_wp2_with fail
        refine (ih q (d + 1) (.slice ao1 m1 c1) zs _ (by omega) (by omega) (by omega) (by omega) lier hBr hor (by omega)).mono ?_
        intro e w2 h
        obtain ⟨ao', m', c', ys, zs', q', rfl, ho', hz', ⟨p1, p2, p3, p4⟩, hb'⟩ := h.out
        go_wp2_with fail
        go_roundw
        case rel => exact ⟨0 + 1, q', m', c', ao', zs', by omega, by omega, by omega, by go_num, rfl, by go_num, ho', (inn.more hz' p1.tr _ p4).mono (by omega), lier.keep hb', belr.trans hb', Nat.le_trans hBr hb'.size⟩
        case measure => simp [intOf]; omega
      · have hj0' : (0 : Int) < (j : Int) := by omega
        go_wp2_with fail
        refine (sep_any B (.slice ao1 m1 c1) zs y _ hBr hor hy0 hy1 (by omega)).mono ?_
        intro e w2 h
        obtain ⟨ao2, m2, c2, ys, zs2, rfl, ho2, hz2, ⟨p1, p2⟩, hb2⟩ := h.out
        have inn2 := inn.more hz2 p1 _ p2
        have il2 := inn2.len
        have lie2 := lier.keep hb2
        have hB2 := Nat.le_trans hBr hb2.size
        have bel2 := belr.trans hb2
        clear p1 p2 inn il hz2 hor lier belr hb2
        go_wp2_with fail
        refine (ih q (d + 1) (.slice ao2 m2 c2) zs2 _ (by omega) (by omega) (by omega) (by omega) lie2 hB2 ho2 (by omega)).mono ?_
        intro e w3 h
        obtain ⟨ao', m', c', ys', zs', q', rfl, ho', hz', ⟨p1, p2, p3, p4⟩, hb'⟩ := h.out
        go_wp2_with fail
        go_roundw
        case rel => exact ⟨j + 1, q', m', c', ao', zs', by omega, by omega, by omega, by go_num, rfl, by go_num, ho', (inn2.more hz' p1.tr _ p4).mono (by omega), lie2.keep hb', bel2.trans hb', Nat.le_trans hB2 hb'.size⟩
        case measure => simp [intOf]; omega
    · obtain rfl : j = cnt := by omega
      have il := inn.len
      by_cases b32 : (y / 32 % 2 == 1) = true
      · go_wp2_with (at_builtin; refine app_more _ rfl (.tmp 139) (.tmp 140) rfl B hBr (.slice ao1 m1 c1) zs rfl hor [32] rfl (by simp; omega) ?_)
        intro ao2 m2 c2 zs2 w2 hz2 ho2 hb2 hB2
        replace inn := inn.more hz2 (tr_of (by decide)) 1 (by simp)
        have il2 := inn.len
        go_wp2_with (at_builtin; refine app_more _ rfl (.tmp 142) (.tmp 143) rfl B hB2 (.slice ao2 m2 c2) zs2 rfl ho2 [93] rfl (by simp; omega) ?_)
        intro ao3 m3 c3 zs3 w3 hz3 ho3 hb3 hB3
        obtain ⟨ys, e1, e2, e3⟩ := inn.close hz3 (.inr rfl) (.inr rfl)
        go_wp2_with fail
        go_ret2
        exact Left2.mk e1 ho3 rfl ⟨e2, by omega, by omega, by omega⟩ ((belr.trans hb2).trans hb3)
      · have b32' : (y / 32 % 2 == 1) = false := by simpa using b32
        clear b32
        go_wp2_with (at_builtin; refine app_more _ rfl (.tmp 142) (.tmp 143) rfl B hBr (.slice ao1 m1 c1) zs rfl hor [93] rfl (by simp; omega) ?_)
        intro ao3 m3 c3 zs3 w3 hz3 ho3 hb3 hB3
        obtain ⟨ys, e1, e2, e3⟩ := inn.close hz3 (.inr rfl) (.inr rfl)
        go_wp2_with fail
        go_ret2
        exact Left2.mk e1 ho3 rfl ⟨e2, by omega, by omega, by omega⟩ (belr.trans hb3)

set_option maxRecDepth 100000 in
set_option maxHeartbeats 8000000 in
theorem build_5c (B g n sc k : Nat) (S : List Int) (pos : Nat) (d y : Int) (v : Value) (xs : List Int) (w : World) (hn : n ≤ 1048576) (hp : pos < n) (hnk : n - pos ≤ k + 1) (ih : Builds B (some ⟨g, 0, none⟩) n sc S k)
    (lie : Lies B w (.slice (some ⟨g, 0, none⟩) n sc) S) 
    (hcx : w.cell? ⟨g, pos, none⟩ = some (.int .u8 y)) (hy0 : 0 ≤ y) (hy1 : y ≤ 255) (hB : B ≤ w.heap.size) (hown : Own B w v xs) (hl : xs.length + 64 * (n - pos) ≤ 274877906944)
    (hd0 : 0 ≤ d) (hk : decide (24 ≤ d) = false ∧ y % 8 = 5) (hp1 : pos + 1 = n) (b8 : (y / 8 % 2 == 1) = true) :
    Calls Try.prog 24 #[.slice (some ⟨g, 0, none⟩) n sc, .int .i64 pos, .int .i64 d, v] w (Left2 B w xs (ValP n pos)) := by
  have hlt : (pos : Int) < (n : Int) := by omega
  obtain ⟨k1, k2⟩ := hk
  have hd : d < 24 := by simpa using k1
  have hlt1 : ¬ ((pos : Int) + 1 < (n : Int)) := by omega
  have HP1 : Hid (pos + 1 = n) := hp1
  clear hp1
  go_enter Try.func24, Try.ntmps24
  go_wp2_with (at_builtin; refine app_more _ rfl (.tmp 106) (.tmp 107) rfl B hB v xs rfl hown [91] rfl (by simp; omega) ?_)
  intro ao m c zs w1 hz ho hb hB1
  have inn := Inn.start hz
  replace lie := lie.keep hb
  clear hz hown hcx
  go_wp2_with (at_builtin; refine app_more _ rfl (.tmp 113) (.tmp 114) rfl B hB1 (.slice ao m c) zs rfl ho [32] rfl (by have := inn.len; simp; omega) ?_)
  intro ao2 m2 c2 zs2 w2 hz2 ho2 hb2 hB2
  replace inn := inn.more hz2 (tr_of (by decide)) 1 (by simp)
  replace lie := lie.keep hb2
  replace hb := hb.trans hb2
  clear hz2 ho hB1 hb2
  go_wp2_with fail
  clear hlt1
  go_loopw [1, 3, 13] (fun p o i wr => ∃ (j q m c : Nat) (ao : Option Addr) (zs : List Int), j ≤ 0 ∧ pos + 1 ≤ q ∧ q ≤ n ∧ p = .int .i64 q ∧ o = .slice ao m c ∧ i = .int .i64 j ∧
      Own B wr (.slice ao m c) zs ∧ Inn 91 xs zs (1 + 10 * j + 64 * (q - (pos + 1))) ∧ Lies B wr (.slice (some ⟨g, 0, none⟩) n sc) S ∧ Below B w wr ∧ B ≤ wr.heap.size)
    (fun _ _ i _ => 0 - (intOf i).toNat)
  case atStart => exact ⟨0, pos + 1, m2, c2, ao2, zs2, Nat.zero_le _, by omega, by have := HP1.out; omega, by go_num, rfl, rfl, ho2, inn.mono (by omega), lie, hb, hB2⟩
  case round =>
    clear ho2 inn lie hb hB2
    obtain ⟨j, q, m1, c1, ao1, zs, hj, hq1, hq2, rfl, rfl, rfl, hor, inn, lier, belr, hBr⟩ := hrel
    · obtain rfl : j = 0 := by omega
      have il := inn.len
      by_cases b32 : (y / 32 % 2 == 1) = true
      · go_wp2_with (at_builtin; refine app_more _ rfl (.tmp 139) (.tmp 140) rfl B hBr (.slice ao1 m1 c1) zs rfl hor [32] rfl (by simp; omega) ?_)
        intro ao2 m2 c2 zs2 w2 hz2 ho2 hb2 hB2
        replace inn := inn.more hz2 (tr_of (by decide)) 1 (by simp)
        have il2 := inn.len
        go_wp2_with (at_builtin; refine app_more _ rfl (.tmp 142) (.tmp 143) rfl B hB2 (.slice ao2 m2 c2) zs2 rfl ho2 [93] rfl (by simp; omega) ?_)
        intro ao3 m3 c3 zs3 w3 hz3 ho3 hb3 hB3
        obtain ⟨ys, e1, e2, e3⟩ := inn.close hz3 (.inr rfl) (.inr rfl)
        go_wp2_with fail
        go_ret2
        exact Left2.mk e1 ho3 rfl ⟨e2, by omega, by omega, by omega⟩ ((belr.trans hb2).trans hb3)
      · have b32' : (y / 32 % 2 == 1) = false := by simpa using b32
        clear b32
        go_wp2_with (at_builtin; refine app_more _ rfl (.tmp 142) (.tmp 143) rfl B hBr (.slice ao1 m1 c1) zs rfl hor [93] rfl (by simp; omega) ?_)
        intro ao3 m3 c3 zs3 w3 hz3 ho3 hb3 hB3
        obtain ⟨ys, e1, e2, e3⟩ := inn.close hz3 (.inr rfl) (.inr rfl)
        go_wp2_with fail
        go_ret2
        exact Left2.mk e1 ho3 rfl ⟨e2, by omega, by omega, by omega⟩ (belr.trans hb3)

set_option maxRecDepth 100000 in
set_option maxHeartbeats 8000000 in
theorem build_5d (B g n sc k : Nat) (S : List Int) (pos : Nat) (d y : Int) (v : Value) (xs : List Int) (w : World) (hn : n ≤ 1048576) (hp : pos < n) (hnk : n - pos ≤ k + 1) (ih : Builds B (some ⟨g, 0, none⟩) n sc S k)
    (lie : Lies B w (.slice (some ⟨g, 0, none⟩) n sc) S) 
    (hcx : w.cell? ⟨g, pos, none⟩ = some (.int .u8 y)) (hy0 : 0 ≤ y) (hy1 : y ≤ 255) (hB : B ≤ w.heap.size) (hown : Own B w v xs) (hl : xs.length + 64 * (n - pos) ≤ 274877906944)
    (hd0 : 0 ≤ d) (hk : decide (24 ≤ d) = false ∧ y % 8 = 5) (hp1 : pos + 1 = n) (b8 : (y / 8 % 2 == 1) = false) :
    Calls Try.prog 24 #[.slice (some ⟨g, 0, none⟩) n sc, .int .i64 pos, .int .i64 d, v] w (Left2 B w xs (ValP n pos)) := by
  have hlt : (pos : Int) < (n : Int) := by omega
  obtain ⟨k1, k2⟩ := hk
  have hd : d < 24 := by simpa using k1
  have hlt1 : ¬ ((pos : Int) + 1 < (n : Int)) := by omega
  have HP1 : Hid (pos + 1 = n) := hp1
  clear hp1
  go_enter Try.func24, Try.ntmps24
  go_wp2_with (at_builtin; refine app_more _ rfl (.tmp 106) (.tmp 107) rfl B hB v xs rfl hown [91] rfl (by simp; omega) ?_)
  intro ao m c zs w1 hz ho hb hB1
  have inn := Inn.start hz
  replace lie := lie.keep hb
  clear hz hown hcx
  go_wp2_with fail
  clear hlt1
  go_loopw [1, 3, 13] (fun p o i wr => ∃ (j q m c : Nat) (ao : Option Addr) (zs : List Int), j ≤ 0 ∧ pos + 1 ≤ q ∧ q ≤ n ∧ p = .int .i64 q ∧ o = .slice ao m c ∧ i = .int .i64 j ∧
      Own B wr (.slice ao m c) zs ∧ Inn 91 xs zs (1 + 10 * j + 64 * (q - (pos + 1))) ∧ Lies B wr (.slice (some ⟨g, 0, none⟩) n sc) S ∧ Below B w wr ∧ B ≤ wr.heap.size)
    (fun _ _ i _ => 0 - (intOf i).toNat)
  case atStart => exact ⟨0, pos + 1, m, c, ao, zs, Nat.zero_le _, by omega, by have := HP1.out; omega, by go_num, rfl, rfl, ho, inn.mono (by omega), lie, hb, hB1⟩
  case round =>
    clear ho inn lie hb hB1
    obtain ⟨j, q, m1, c1, ao1, zs, hj, hq1, hq2, rfl, rfl, rfl, hor, inn, lier, belr, hBr⟩ := hrel
    · obtain rfl : j = 0 := by omega
      have il := inn.len
      by_cases b32 : (y / 32 % 2 == 1) = true
      · go_wp2_with (at_builtin; refine app_more _ rfl (.tmp 139) (.tmp 140) rfl B hBr (.slice ao1 m1 c1) zs rfl hor [32] rfl (by simp; omega) ?_)
        intro ao2 m2 c2 zs2 w2 hz2 ho2 hb2 hB2
        replace inn := inn.more hz2 (tr_of (by decide)) 1 (by simp)
        have il2 := inn.len
        go_wp2_with (at_builtin; refine app_more _ rfl (.tmp 142) (.tmp 143) rfl B hB2 (.slice ao2 m2 c2) zs2 rfl ho2 [93] rfl (by simp; omega) ?_)
        intro ao3 m3 c3 zs3 w3 hz3 ho3 hb3 hB3
        obtain ⟨ys, e1, e2, e3⟩ := inn.close hz3 (.inr rfl) (.inr rfl)
        go_wp2_with fail
        go_ret2
        exact Left2.mk e1 ho3 rfl ⟨e2, by omega, by omega, by omega⟩ ((belr.trans hb2).trans hb3)
      · have b32' : (y / 32 % 2 == 1) = false := by simpa using b32
        clear b32
        go_wp2_with (at_builtin; refine app_more _ rfl (.tmp 142) (.tmp 143) rfl B hBr (.slice ao1 m1 c1) zs rfl hor [93] rfl (by simp; omega) ?_)
        intro ao3 m3 c3 zs3 w3 hz3 ho3 hb3 hB3
        obtain ⟨ys, e1, e2, e3⟩ := inn.close hz3 (.inr rfl) (.inr rfl)
        go_wp2_with fail
        go_ret2
        exact Left2.mk e1 ho3 rfl ⟨e2, by omega, by omega, by omega⟩ (belr.trans hb3)

end Go.Proofs.Qxb6600932a
