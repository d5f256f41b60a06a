/-
  Seat b6600932a: 'appendStringB1' (31), walked.
-/
import Derived.Test.Qxb6600932aGrow
namespace Go.Proofs.Qxb6600932a
open Go.RowKit

/-- What a builder with two results leaves: behind xs stands ys; the seed is read as far as pos'. -/
def Left2 (B : Nat) (w : World) (xs : List Int) (P : List Int → Nat → Prop) (e : Ending) (w' : World) : Prop :=
  ∃ ao m c ys pos', e = .returned (.tuple #[.slice ao m c, .int .i64 ((pos' : Nat) : Int)]) ∧ Own B w' (.slice ao m c) (xs ++ ys) ∧ P ys pos' ∧ Below B w w'

theorem Left2.mk {B : Nat} {w w' : World} {xs zs ys : List Int} {P : List Int → Nat → Prop} {ao : Option Addr} {m c pos' : Nat} {q : Int} (hz : Hid (zs = xs ++ ys)) (ho : Own B w' (.slice ao m c) zs) (hq : q = (pos' : Int)) (hP : P ys pos') (hb : Below B w w') :
    Left2 B w xs P (.returned (.tuple #[.slice ao m c, .int .i64 q])) w' := by
  subst hq
  exact ⟨ao, m, c, ys, pos', rfl, by rw [← hz.out]; exact ho, hP, hb⟩

def StrP (n pos : Nat) (ys : List Int) (pos' : Nat) : Prop := IsStr ys ∧ pos ≤ pos' ∧ pos' ≤ n ∧ ys.length ≤ 2 + 42 * (pos' - pos)

/-- The loop's state: behind xs a quote and a body. -/
def Bod (xs zs : List Int) (j : Nat) : Prop := ∃ b, zs = xs ++ (34 :: b) ∧ StrB b ∧ b.length ≤ 6 * j

theorem Bod.zero {xs zs : List Int} (h : Hid (zs = xs ++ [34])) : Bod xs zs 0 := ⟨[], by rw [h.out], StrB.nil, by simp⟩
theorem Bod.more {xs zs zs' cs : List Int} {j : Nat} (h : Bod xs zs j) (hz : Hid (zs' = zs ++ cs)) (hc : StrB cs) (hl : cs.length ≤ 6) : Bod xs zs' (j + 1) := by
  obtain ⟨b, rfl, hb, hbl⟩ := h
  exact ⟨b ++ cs, by rw [hz.out]; simp, hb.append hc, by rw [List.length_append]; omega⟩
theorem Bod.len {xs zs : List Int} {j : Nat} (h : Bod xs zs j) : zs.length ≤ xs.length + 1 + 6 * j := by
  obtain ⟨b, rfl, hb, hbl⟩ := h
  simp; omega
theorem Bod.str {xs zs zs' : List Int} {j : Nat} (h : Bod xs zs j) (hz : Hid (zs' = zs ++ [34])) : ∃ ys, Hid (zs' = xs ++ ys) ∧ IsStr ys ∧ ys.length ≤ 2 + 6 * j := by
  obtain ⟨b, rfl, hb, hbl⟩ := h
  exact ⟨34 :: (b ++ [34]), by unfold Hid; rw [hz.out]; simp, ⟨b, rfl, hb⟩, by simp; omega⟩

theorem esc_u : StrB [92, 117, 48, 48, 101, 57] :=
  StrB.append (a := [92, 117]) (b := [48, 48, 101, 57]) (StrB.esc 117) (StrB.chars (by decide))

theorem str_end (B : Nat) (so : Option Addr) (n sc : Nat) (v : Value) (xs : List Int) (w : World) (_hn : n ≤ 1048576)
    (hB : B ≤ w.heap.size) (hown : Own B w v xs) (hl : xs.length ≤ 549755813888) :
    Calls Try.prog 31 #[.slice so n sc, .int .i64 n, v] w (Left2 B w xs (StrP n n)) := by
  go_enter Try.func31, Try.ntmps31
  go_wp2_with (at_builtin; refine app_more _ rfl (.tmp 12) (.tmp 13) rfl B hB v xs rfl hown [34] rfl (by simp; omega) ?_)
  intro ao m c zs w1 hz ho hb hB1
  have bod := Bod.zero hz
  clear hz hown
  go_wp2_with fail
  refine wp_loop_rounds 1 ?_
  rw [rounds_succ]
  go_wp2_with (at_builtin; refine app_more _ rfl (.tmp 105) (.tmp 106) rfl B hB1 (.slice ao m c) zs rfl ho [34] rfl (by have := bod.len; simp; omega) ?_)
  intro ao' m' c' zs' w2 hz' ho' hb' hB'
  obtain ⟨ys, e1, e2, e3⟩ := bod.str hz'
  go_wp2
  go_ret2
  exact Left2.mk e1 ho' rfl ⟨e2, Nat.le_refl _, Nat.le_refl _, by omega⟩ (hb.trans hb')

set_option maxRecDepth 100000 in
set_option maxHeartbeats 4000000 in
/-- Function 31, something left of the seed. -/
theorem str_run (B g : Nat) (n sc : Nat) (S : List Int) (pos : Nat) (v : Value) (xs : List Int) (w : World) (hn : n ≤ 1048576) (hp : pos < n)
    (lie : Lies B w (.slice (some ⟨g, 0, none⟩) n sc) S) (hSl : S.length = n) (hby : Byt S) (hB : B ≤ w.heap.size) (hown : Own B w v xs) (hl : xs.length ≤ 549755813888) :
    Calls Try.prog 31 #[.slice (some ⟨g, 0, none⟩) n sc, .int .i64 pos, v] w (Left2 B w xs (StrP n pos)) := by
  have HSL : Hid (S.length = n) := hSl
  have hget : ∀ j, j < n → 0 ≤ S.getD j 0 ∧ S.getD j 0 ≤ 255 := fun j hj => hby _ (by rw [List.getD, List.getElem?_eq_getElem (by omega)]; exact List.getElem_mem _)
  have HG : Hid (∀ j, j < n → 0 ≤ S.getD j 0 ∧ S.getD j 0 ≤ 255) := hget
  have hx0 := hget pos hp
  obtain ⟨cnt, hcnt, hc7⟩ : ∃ cnt : Nat, S.getD pos 0 % 8 = (cnt : Int) ∧ cnt ≤ 7 := ⟨(S.getD pos 0 % 8).toNat, by omega, by omega⟩
  clear hSl hby hget
  go_enter Try.func31, Try.ntmps31
  go_wp2_with (at_builtin; refine app_more _ rfl (.tmp 12) (.tmp 13) rfl B hB v xs rfl hown [34] rfl (by simp; omega) ?_)
  intro ao m c zs w1 hz ho hb hB1
  have lie1 := lie.keep hb
  have bod := Bod.zero hz
  clear hz hown lie
  have hcx := lie1.cells pos (by have := HSL.out; omega)
  generalize S.getD pos 0 = y0 at hcx hcnt hx0
  have hlt : (pos : Int) < (n : Int) := by omega
  go_wp2_with fail
  clear hcx hx0 hcnt hlt
  go_loopw [1, 2, 9] (fun p o i wr => ∃ (j q m c : Nat) (ao : Option Addr) (zs : List Int), j ≤ cnt ∧ pos + 1 ≤ q ∧ q ≤ n ∧ p = .int .i64 q ∧ o = .slice ao m c ∧ i = .int .i64 j ∧
      Own B wr (.slice ao m c) zs ∧ Bod xs zs j ∧ Lies B wr (.slice (some ⟨g, 0, none⟩) n sc) S ∧ Below B w wr ∧ B ≤ wr.heap.size)
    (fun _ _ i _ => cnt - (intOf i).toNat)
  case atStart => exact ⟨0, pos + 1, m, c, ao, zs, Nat.zero_le _, Nat.le_refl _, by omega, by go_num, rfl, rfl, ho, bod, lie1, hb, hB1⟩
  case round =>
    clear ho bod lie1 hb hB1
    obtain ⟨j, q, m1, c1, ao1, zs, hj, hq1, hq2, rfl, rfl, rfl, hor, bod, lier, belr, hBr⟩ := hrel
    by_cases hjc : j < cnt
    · have hjc' : (j : Int) < (cnt : Int) := by omega
      by_cases hqn : q < n
      · have hcx := lier.cells q (by have := HSL.out; omega)
        have hy := HG.out q hqn
        generalize S.getD q 0 = y at hcx hy
        have hlt : (q : Int) < (n : Int) := by omega
        obtain ⟨y1, y2⟩ := hy
        rcases (show y % 8 = 0 ∨ y % 8 = 1 ∨ y % 8 = 2 ∨ y % 8 = 3 ∨ y % 8 = 4 ∨ y % 8 = 5 ∨ (y % 8 = 6 ∨ y % 8 = 7) from by omega) with e | e | e | e | e | e | e
        · go_wp2_with (at_builtin; refine app_more _ rfl _ _ rfl B hBr (.slice ao1 m1 c1) zs rfl hor [92, 34] rfl (by have := bod.len; simp; omega) ?_)
          intro ao' m' c' zs' w2 hz' ho' hb' hB'
          go_wp2
          go_roundw
          case rel => exact ⟨j + 1, q + 1, m', c', ao', zs', by omega, by omega, by omega, by go_num, rfl, by go_num, ho', bod.more hz' (StrB.esc 34) (by simp), lier.keep hb', belr.trans hb', hB'⟩
          case measure => simp [intOf]; omega
        · go_wp2_with (at_builtin; refine app_more _ rfl _ _ rfl B hBr (.slice ao1 m1 c1) zs rfl hor [92, 92] rfl (by have := bod.len; simp; omega) ?_)
          intro ao' m' c' zs' w2 hz' ho' hb' hB'
          go_wp2
          go_roundw
          case rel => exact ⟨j + 1, q + 1, m', c', ao', zs', by omega, by omega, by omega, by go_num, rfl, by go_num, ho', bod.more hz' (StrB.esc 92) (by simp), lier.keep hb', belr.trans hb', hB'⟩
          case measure => simp [intOf]; omega
        · go_wp2_with (at_builtin; refine app_more _ rfl _ _ rfl B hBr (.slice ao1 m1 c1) zs rfl hor [92, 117, 48, 48, 101, 57] rfl (by have := bod.len; simp; omega) ?_)
          intro ao' m' c' zs' w2 hz' ho' hb' hB'
          go_wp2
          go_roundw
          case rel => exact ⟨j + 1, q + 1, m', c', ao', zs', by omega, by omega, by omega, by go_num, rfl, by go_num, ho', bod.more hz' (esc_u) (by simp), lier.keep hb', belr.trans hb', hB'⟩
          case measure => simp [intOf]; omega
        · go_wp2_with (at_builtin; refine app_more _ rfl _ _ rfl B hBr (.slice ao1 m1 c1) zs rfl hor [195, 169] rfl (by have := bod.len; simp; omega) ?_)
          intro ao' m' c' zs' w2 hz' ho' hb' hB'
          go_wp2
          go_roundw
          case rel => exact ⟨j + 1, q + 1, m', c', ao', zs', by omega, by omega, by omega, by go_num, rfl, by go_num, ho', bod.more hz' (StrB.chars (by decide)) (by simp), lier.keep hb', belr.trans hb', hB'⟩
          case measure => simp [intOf]; omega
        · go_wp2_with (at_builtin; refine app_more _ rfl _ _ rfl B hBr (.slice ao1 m1 c1) zs rfl hor [92, 110] rfl (by have := bod.len; simp; omega) ?_)
          intro ao' m' c' zs' w2 hz' ho' hb' hB'
          go_wp2
          go_roundw
          case rel => exact ⟨j + 1, q + 1, m', c', ao', zs', by omega, by omega, by omega, by go_num, rfl, by go_num, ho', bod.more hz' (StrB.esc 110) (by simp), lier.keep hb', belr.trans hb', hB'⟩
          case measure => simp [intOf]; omega
        · rcases (show y / 8 % 4 = 0 ∨ y / 8 % 4 = 1 ∨ y / 8 % 4 = 2 ∨ y / 8 % 4 = 3 from by omega) with e2 | e2 | e2 | e2
          · go_wp2_with (at_builtin; refine app_more _ rfl _ _ rfl B hBr (.slice ao1 m1 c1) zs rfl hor [91] rfl (by have := bod.len; simp; omega) ?_)
            intro ao' m' c' zs' w2 hz' ho' hb' hB'
            go_wp2
            go_roundw
            case rel => exact ⟨j + 1, q + 1, m', c', ao', zs', by omega, by omega, by omega, by go_num, rfl, by go_num, ho', bod.more hz' (StrB.char (by decide) (by decide)) (by simp), lier.keep hb', belr.trans hb', hB'⟩
            case measure => simp [intOf]; omega
          · go_wp2_with (at_builtin; refine app_more _ rfl _ _ rfl B hBr (.slice ao1 m1 c1) zs rfl hor [123] rfl (by have := bod.len; simp; omega) ?_)
            intro ao' m' c' zs' w2 hz' ho' hb' hB'
            go_wp2
            go_roundw
            case rel => exact ⟨j + 1, q + 1, m', c', ao', zs', by omega, by omega, by omega, by go_num, rfl, by go_num, ho', bod.more hz' (StrB.char (by decide) (by decide)) (by simp), lier.keep hb', belr.trans hb', hB'⟩
            case measure => simp [intOf]; omega
          · go_wp2_with (at_builtin; refine app_more _ rfl _ _ rfl B hBr (.slice ao1 m1 c1) zs rfl hor [93] rfl (by have := bod.len; simp; omega) ?_)
            intro ao' m' c' zs' w2 hz' ho' hb' hB'
            go_wp2
            go_roundw
            case rel => exact ⟨j + 1, q + 1, m', c', ao', zs', by omega, by omega, by omega, by go_num, rfl, by go_num, ho', bod.more hz' (StrB.char (by decide) (by decide)) (by simp), lier.keep hb', belr.trans hb', hB'⟩
            case measure => simp [intOf]; omega
          · go_wp2_with (at_builtin; refine app_more _ rfl _ _ rfl B hBr (.slice ao1 m1 c1) zs rfl hor [125] rfl (by have := bod.len; simp; omega) ?_)
            intro ao' m' c' zs' w2 hz' ho' hb' hB'
            go_wp2
            go_roundw
            case rel => exact ⟨j + 1, q + 1, m', c', ao', zs', by omega, by omega, by omega, by go_num, rfl, by go_num, ho', bod.more hz' (StrB.char (by decide) (by decide)) (by simp), lier.keep hb', belr.trans hb', hB'⟩
            case measure => simp [intOf]; omega
        · have e0 : (y % 8 == 0) = false := by simp; omega
          have e1 : (y % 8 == 1) = false := by simp; omega
          have e2 : (y % 8 == 2) = false := by simp; omega
          have e3 : (y % 8 == 3) = false := by simp; omega
          have e4 : (y % 8 == 4) = false := by simp; omega
          have e5 : (y % 8 == 5) = false := by simp; omega
          clear e
          by_cases h34 : 32 + y % 95 = 34
          · have b1 : (32 + y % 95 == 34) = true := by simpa using h34
            clear h34
            go_wp2_with (at_builtin; refine app_more _ rfl _ _ rfl B hBr (.slice ao1 m1 c1) zs rfl hor [125] rfl (by have := bod.len; simp; omega) ?_)
            intro ao' m' c' zs' w2 hz' ho' hb' hB'
            go_wp2
            go_roundw
            case rel => exact ⟨j + 1, q + 1, m', c', ao', zs', by omega, by omega, by omega, by go_num, rfl, by go_num, ho', bod.more hz' (StrB.char (by decide) (by decide)) (by simp), lier.keep hb', belr.trans hb', hB'⟩
            case measure => simp [intOf]; omega
          · have b1 : (32 + y % 95 == 34) = false := by simpa using h34
            by_cases h92 : 32 + y % 95 = 92
            · have b2 : (32 + y % 95 == 92) = true := by simpa using h92
              clear h34 h92
              go_wp2_with (at_builtin; refine app_more _ rfl _ _ rfl B hBr (.slice ao1 m1 c1) zs rfl hor [125] rfl (by have := bod.len; simp; omega) ?_)
              intro ao' m' c' zs' w2 hz' ho' hb' hB'
              go_wp2
              go_roundw
              case rel => exact ⟨j + 1, q + 1, m', c', ao', zs', by omega, by omega, by omega, by go_num, rfl, by go_num, ho', bod.more hz' (StrB.char (by decide) (by decide)) (by simp), lier.keep hb', belr.trans hb', hB'⟩
              case measure => simp [intOf]; omega
            · have b2 : (32 + y % 95 == 92) = false := by simpa using h92
              have HS : Hid (StrB [32 + y % 95]) := StrB.char h34 h92
              clear h34 h92
              go_wp2_with (at_builtin; refine app_more _ rfl _ _ rfl B hBr (.slice ao1 m1 c1) zs rfl hor [32 + y % 95] rfl (by have := bod.len; simp; omega) ?_)
              intro ao' m' c' zs' w2 hz' ho' hb' hB'
              go_wp2
              go_roundw
              case rel => exact ⟨j + 1, q + 1, m', c', ao', zs', by omega, by omega, by omega, by go_num, rfl, by go_num, ho', bod.more hz' (HS.out) (by simp), lier.keep hb', belr.trans hb', hB'⟩
              case measure => simp [intOf]; omega
      · obtain rfl : q = n := by omega
        go_wp2_with (at_builtin; refine app_more _ rfl _ _ rfl B hBr (.slice ao1 m1 c1) zs rfl hor [92, 34] rfl (by have := bod.len; simp; omega) ?_)
        intro ao' m' c' zs' w2 hz' ho' hb' hB'
        go_wp2
        go_roundw
        case rel => exact ⟨j + 1, q, m', c', ao', zs', by omega, by omega, by omega, by go_num, rfl, by go_num, ho', bod.more hz' (StrB.esc 34) (by simp), lier.keep hb', belr.trans hb', hB'⟩
        case measure => simp [intOf]; omega
    · obtain rfl : j = cnt := by omega
      go_wp2_with (at_builtin; refine app_more _ rfl (.tmp 105) (.tmp 106) rfl B hBr (.slice ao1 m1 c1) zs rfl hor [34] rfl (by have := bod.len; simp; omega) ?_)
      intro ao' m' c' zs' w2 hz' ho' hb' hB'
      obtain ⟨ys, e1, e2, e3⟩ := bod.str hz'
      go_wp2
      go_ret2
      exact Left2.mk e1 ho' rfl ⟨e2, by omega, by omega, by omega⟩ (belr.trans hb')

/-- Function 31, for every seed. -/
theorem str_any (B : Nat) (so : Option Addr) (n sc : Nat) (S : List Int) (pos : Nat) (v : Value) (xs : List Int) (w : World) (hn : n ≤ 1048576) (hp : pos ≤ n)
    (lie : Lies B w (.slice so n sc) S) (hSl : S.length = n) (hby : Byt S) (hB : B ≤ w.heap.size) (hown : Own B w v xs) (hl : xs.length ≤ 549755813888) :
    Calls Try.prog 31 #[.slice so n sc, .int .i64 pos, v] w (Left2 B w xs (StrP n pos)) := by
  by_cases h : pos < n
  · obtain ⟨g, rfl, _⟩ := lie.at (by intro e; subst e; simp at hSl; omega)
    exact str_run B g n sc S pos v xs w hn h lie hSl hby hB hown hl
  · obtain rfl : pos = n := by omega
    exact str_end B so pos sc v xs w hn hB hown hl

end Go.Proofs.Qxb6600932a
