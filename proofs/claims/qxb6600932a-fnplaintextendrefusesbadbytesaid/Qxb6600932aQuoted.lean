/-
  Seat b6600932a: 'plainByteB1' (function 21), the guards on total length (20, 22), and the plain law that a quoted plain text ends where it ends.
-/
import Derived.Test.Qxb6600932aApp
import Derived.Test.Qxb6600932aPlainEnd
namespace Go.Proofs.Qxb6600932a
open Go.RowKit

def pb (c : Int) : Int := if 32 + c % 95 = 34 ∨ 32 + c % 95 = 92 then 97 else 32 + c % 95

theorem pb_plain (c : Int) : Plain (pb c) := by
  unfold pb Plain
  split <;> omega

/-- Function 21. -/
theorem plainByte_any (c : Int) (w : World) (h0 : 0 ≤ c) (h1 : c ≤ 255) :
    Calls Try.prog 21 #[.int .u8 c] w fun e w' => e = .returned (.int .u8 (pb c)) ∧ w' = w := by
  by_cases h34 : 32 + c % 95 = 34
  · have b1 : (32 + c % 95 == 34) = true := by simpa using h34
    have HP : Hid (pb c = 97) := by unfold pb; exact if_pos (.inl h34)
    clear h34
    go_enter Try.func21, Try.ntmps21
    go_wp2
    go_ret
    exact ⟨by rw [HP.out]; rfl, rfl⟩
  · have b1 : (32 + c % 95 == 34) = false := by simpa using h34
    by_cases h92 : 32 + c % 95 = 92
    · have b2 : (32 + c % 95 == 92) = true := by simpa using h92
      have HP : Hid (pb c = 97) := by unfold pb; exact if_pos (.inr h92)
      clear h34 h92
      go_enter Try.func21, Try.ntmps21
      go_wp2
      go_ret
      exact ⟨by rw [HP.out]; rfl, rfl⟩
    · have b2 : (32 + c % 95 == 92) = false := by simpa using h92
      have HP : Hid (pb c = 32 + c % 95) := by unfold pb; exact if_neg (by omega)
      clear h34 h92
      go_enter Try.func21, Try.ntmps21
      go_wp2
      go_ret
      exact ⟨by rw [HP.out]; rfl, rfl⟩

theorem zz20_any (a0 a1 a2 : Option Addr) (l0 l1 l2 c0 c1 c2 : Nat) (w : World) :
    Calls Try.prog 20 #[.slice a0 l0 c0, .slice a1 l1 c1, .slice a2 l2 c2] w fun e w' => ∃ b, e = .returned (.bool b) ∧ w' = w := by
  go_enter Try.func20, Try.ntmps20
  go_wp2
  all_goals
    go_ret
    exact ⟨_, rfl, rfl⟩

theorem zz20_true (a0 a1 a2 : Option Addr) (l0 l1 l2 c0 c1 c2 : Nat) (w : World) (h0 : l0 ≤ 262144) (h1 : l1 ≤ 262144) (h2 : l2 ≤ 262144) :
    Calls Try.prog 20 #[.slice a0 l0 c0, .slice a1 l1 c1, .slice a2 l2 c2] w fun e w' => e = .returned (.bool true) ∧ w' = w := by
  go_enter Try.func20, Try.ntmps20
  go_wp2
  go_ret
  exact ⟨rfl, rfl⟩

theorem zz22_any (a0 a1 : Option Addr) (l0 l1 c0 c1 : Nat) (x y : Int) (w : World) :
    Calls Try.prog 22 #[.slice a0 l0 c0, .slice a1 l1 c1, .int .i64 x, .int .u8 y] w fun e w' => ∃ b, e = .returned (.bool b) ∧ w' = w := by
  go_enter Try.func22, Try.ntmps22
  go_wp2
  all_goals
    go_ret
    exact ⟨_, rfl, rfl⟩

theorem zz22_true (a0 a1 : Option Addr) (l0 l1 c0 c1 : Nat) (x y : Int) (w : World) (h0 : l0 ≤ 262144) (h1 : l1 ≤ 262144) :
    Calls Try.prog 22 #[.slice a0 l0 c0, .slice a1 l1 c1, .int .i64 x, .int .u8 y] w fun e w' => e = .returned (.bool true) ∧ w' = w := by
  go_enter Try.func22, Try.ntmps22
  go_wp2
  go_ret
  exact ⟨rfl, rfl⟩

/-- What the text holds when k bytes of S have been written behind the quote. -/
def qd (P S : List Int) (k : Nat) : List Int := P ++ ([34] ++ (S.take k).map pb)
theorem qd_zero (P S : List Int) : qd P S 0 = P ++ [34] := by simp [qd]
theorem qd_succ (P S : List Int) (k : Nat) (h : k < S.length) : qd P S k ++ [pb (S.getD k 0)] = qd P S (k + 1) := by
  unfold qd
  rw [List.take_succ_eq_append_getElem h, List.map_append, List.append_assoc, List.append_assoc]
  simp only [List.getD, List.getElem?_eq_getElem h, Option.getD_some, List.map_cons, List.map_nil]
theorem qd_full (P S : List Int) : qd P S S.length = P ++ (34 :: S.map pb) := by simp [qd]

/-- 18 at a text of the call's own that reads 'pre " body q ..': body plain, q a quote or a bad byte or nothing. -/
theorem zz_quoted {B n cap : Nat} {ao : Option Addr} {w : World} (pre body rest : List Int) (h : Own B w (.slice ao n cap) (pre ++ (34 :: (body ++ rest)))) (hn : n ≤ 1099511627776)
    (hb : ∀ x ∈ body, Plain x) (r : Int)
    (hr : (∃ t, rest = 34 :: t ∧ r = (pre.length : Int) + body.length + 2) ∨ (r = -1 ∧ (rest = [] ∨ ∃ c t, rest = c :: t ∧ c ≠ 34 ∧ (c < 32 ∨ 126 < c ∨ c = 92)))) :
    Calls Try.prog 18 #[.slice ao n cap, .int .i64 (pre.length : Int)] w fun e w' => e = .returned (.int .i64 r) ∧ w' = w := by
  obtain ⟨hlen, ⟨_, _, hx⟩ | ⟨g, rfl, _, _, _, _, hc⟩⟩ := h.sh
  · simp at hx
  · have hl : (pre ++ (34 :: (body ++ rest))).length = pre.length + 1 + body.length + rest.length := by simp; omega
    have g0 : (pre ++ (34 :: (body ++ rest))).getD pre.length 0 = 34 := by simp [List.getD]
    have gq : ∀ j, pre.length < j → j < pre.length + 1 + body.length → Plain ((pre ++ (34 :: (body ++ rest))).getD j 0) := by
      intro j h1 h2
      obtain ⟨d, rfl⟩ : ∃ d, j = pre.length + (d + 1) := ⟨j - pre.length - 1, by omega⟩
      have hd : d < body.length := by omega
      have : (pre ++ (34 :: (body ++ rest))).getD (pre.length + (d + 1)) 0 = body[d] := by
        rw [List.getD, List.getElem?_append_right (by omega)]
        rw [Nat.add_sub_cancel_left, List.getElem?_cons_succ, List.getElem?_append_left hd]
        simp [hd]
      rw [this]
      exact hb _ (List.getElem_mem hd)
    have ge : ∀ c t, rest = c :: t → (pre ++ (34 :: (body ++ rest))).getD (pre.length + 1 + body.length) 0 = c := by
      rintro c t rfl
      rw [List.getD, List.getElem?_append_right (by omega)]
      rw [show pre.length + 1 + body.length - pre.length = body.length + 1 from by omega, List.getElem?_cons_succ, List.getElem?_append_right (by omega)]
      simp
    refine zzpte (pte_run g n cap (fun j => (pre ++ (34 :: (body ++ rest))).getD j 0) pre.length (pre.length + 1 + body.length) r w hn (by omega) g0 (fun j hj => hc j (by omega)) (by omega) (by omega) gq ?_)
    rcases hr with ⟨t, rfl, rfl⟩ | ⟨rfl, rfl | ⟨c, t, rfl, h1, h2⟩⟩
    · left
      refine ⟨by rw [hlen, hl]; simp, ge _ _ rfl, by omega⟩
    · right; left
      exact ⟨by rw [hlen, hl]; simp, rfl⟩
    · right; right
      have := ge _ _ rfl
      refine ⟨by rw [hlen, hl]; simp, ?_, ?_, rfl⟩ <;> simp only [this]
      · exact h1
      · exact h2

end Go.Proofs.Qxb6600932a
