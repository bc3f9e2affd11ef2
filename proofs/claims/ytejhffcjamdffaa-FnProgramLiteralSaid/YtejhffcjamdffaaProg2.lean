/-
  The contracts of Here, place, ValidRune and lengthy. No conditions beside those typed.
-/
import Derived.Test.YtejhffcjamdffaaPlain
import Derived.Test.YtejhffcjamdffaaRunes
namespace Go.Proofs.Ytejhffcjamdffaa
open Go.RowKit

set_option maxRecDepth 100000 in
set_option maxHeartbeats 4000000 in
theorem here_any (v : Value) (ts : List Int) (p : Nat) (w : World) (h : Runes w v ts) (hp : p ≤ ts.length) (hl : ts.length ≤ 1000000) :
    Calls Try.prog 29 #[v, .int .i64 p] w fun e w' => e = .returned (.int .i64 (hereN ts p)) ∧ Below w.heap.size w w' := by
  have HH : Hid ((ctxN (before ts p) (behind ts p)) = (hereN ts p : Int)) := by
    have h1 : 0 ≤ ctxN (before ts p) (behind ts p) := (ctx_bd _ _).1
    show _ = _
    unfold hereN
    omega
  obtain ⟨ao, cap, rfl, hz⟩ := h.open
  have HZ := Lib.hid hz
  clear h hz
  have H1 : Hid (before ts p = if p = 0 then -1 else ts.getD (p - 1) 0) := rfl
  have H2 : Hid (behind ts p = ts.getD p (-1)) := rfl
  generalize before ts p = x at *
  generalize behind ts p = y at *
  generalize hN : ts.length = n at *
  have HN := Lib.hid hN
  clear hN
  by_cases h0 : p = 0
  · subst h0
    have hx : x = -1 := by have := H1.out; simpa using this
    subst hx
    by_cases hpn : 0 < n
    · obtain ⟨z, hk⟩ : ∃ z, ts[0]? = some z := ⟨ts[0]'(by rw [HN.out]; exact hpn), List.getElem?_eq_getElem _⟩
      have hy : y = z := by have := H2.out; rw [List.getD, hk] at this; simpa using this
      subst hy
      rcases HZ.out with hz | ⟨b, off, rfl, hc⟩
      · rw [hz] at hk; simp at hk
      have c0 := hc 0 y hk
      simp only [Nat.add_zero] at c0
      clear hc hk
      go_enter Try.func29, Try.ntmps29
      go_wp2_with (go_at_call 17; refine (spec_context _ _ _).mono ?_; rintro e w1 ⟨rfl, hb1⟩)
      go_ret
      exact ⟨ret_int HH.out, hb1⟩
    · have hy : y = -1 := by have := H2.out; rw [List.getD, List.getElem?_eq_none (by rw [HN.out]; omega)] at this; simpa using this
      subst hy
      go_enter Try.func29, Try.ntmps29
      go_wp2_with (go_at_call 17; refine (spec_context _ _ _).mono ?_; rintro e w1 ⟨rfl, hb1⟩)
      go_ret
      exact ⟨ret_int HH.out, hb1⟩
  · obtain ⟨q, rfl⟩ : ∃ q, p = q + 1 := ⟨p - 1, by omega⟩
    obtain ⟨z0, hk0⟩ : ∃ z, ts[q]? = some z := ⟨ts[q]'(by rw [HN.out]; omega), List.getElem?_eq_getElem _⟩
    have hx : x = z0 := by have := H1.out; rw [if_neg (by omega), Nat.add_sub_cancel, List.getD, hk0] at this; simpa using this
    subst hx
    rcases HZ.out with hz | ⟨b, off, rfl, hc⟩
    · rw [hz] at hk0; simp at hk0
    have c0 := hc q x hk0
    by_cases hpn : q + 1 < n
    · obtain ⟨z, hk⟩ : ∃ z, ts[q + 1]? = some z := ⟨ts[q + 1]'(by rw [HN.out]; exact hpn), List.getElem?_eq_getElem _⟩
      have hy : y = z := by have := H2.out; rw [List.getD, hk] at this; simpa using this
      subst hy
      have c1 := hc (q + 1) y hk
      clear hc hk hk0
      go_enter Try.func29, Try.ntmps29
      go_wp2_with (go_at_call 17; refine (spec_context _ _ _).mono ?_; rintro e w1 ⟨rfl, hb1⟩)
      go_ret
      exact ⟨ret_int HH.out, hb1⟩
    · have hy : y = -1 := by have := H2.out; rw [List.getD, List.getElem?_eq_none (by rw [HN.out]; omega)] at this; simpa using this
      subst hy
      clear hc hk0
      go_enter Try.func29, Try.ntmps29
      go_wp2_with (go_at_call 17; refine (spec_context _ _ _).mono ?_; rintro e w1 ⟨rfl, hb1⟩)
      go_ret
      exact ⟨ret_int HH.out, hb1⟩

/-- A place of a text of n runes. -/
def PlaceAt (n : Nat) (w : World) (e : Ending) (w' : World) : Prop := (∃ p : Nat, e = .returned (.int .i64 p) ∧ p ≤ n) ∧ w = w'

theorem place_mod (z : Int) (n : Nat) : ∃ p : Nat, Value.int .i64 (z % ((n : Int) + 1)) = .int .i64 (p : Int) ∧ p ≤ n := by
  have h1 := Int.emod_nonneg z (show (n : Int) + 1 ≠ 0 by omega)
  have h2 := Int.emod_lt_of_pos z (show 0 < (n : Int) + 1 by omega)
  exact ⟨(z % ((n : Int) + 1)).toNat, by rw [Int.toNat_of_nonneg h1], by omega⟩

set_option maxHeartbeats 1000000 in
theorem place_any (ao : Option Addr) (n c : Nat) (z : Int) (w : World) (h0 : 0 ≤ z) (h1 : z < 256) (hn : n ≤ 1000000) :
    Calls Try.prog 27 #[.slice ao n c, .int .u8 z] w (PlaceAt n w) := by
  go_enter Try.func27, Try.ntmps27
  go_wp2
  go_ret
  obtain ⟨p, hp, hle⟩ := place_mod z n
  exact ⟨⟨p, congrArg Ending.returned hp, hle⟩, rfl⟩

def validB (r : Int) : Bool := (decide (0 ≤ r) && decide (r < 55296)) || (decide (57343 < r) && decide (r ≤ 1114111))

theorem valid_any (r : Int) (w : World) : Calls Try.prog 38 #[.int .i32 r] w fun e w' => e = .returned (.bool (validB r)) ∧ w = w' := by
  have a0 : decide (0 ≤ r) = true ∨ decide (0 ≤ r) = false := by cases decide (0 ≤ r) <;> simp
  have a1 : decide (r < 55296) = true ∨ decide (r < 55296) = false := by cases decide (r < 55296) <;> simp
  have a2 : decide (57343 < r) = true ∨ decide (57343 < r) = false := by cases decide (57343 < r) <;> simp
  have a3 : decide (r ≤ 1114111) = true ∨ decide (r ≤ 1114111) = false := by cases decide (r ≤ 1114111) <;> simp
  rcases a0 with a0 | a0 <;> rcases a1 with a1 | a1 <;> rcases a2 with a2 | a2 <;> rcases a3 with a3 | a3
  all_goals
    go_enter Try.func38, Try.ntmps38
    go_wp2
    go_ret
    exact ⟨ret_bool (by simp [validB, a0, a1, a2, a3]), rfl⟩

def oddB (r : Int) : Bool := !validB r

theorem odd_any (r : Int) (w : World) : Calls Try.prog 60 #[.int .i32 r] w fun e w' => e = .returned (.bool (oddB r)) ∧ w = w' := by
  have HO : Hid (oddB r = !validB r) := rfl
  generalize oddB r = x at *
  go_enter Try.func60, Try.ntmps60
  go_wp2_with (go_at_call 38; refine (valid_any _ _).mono ?_; rintro e w' ⟨rfl, rfl⟩)
  go_ret
  exact ⟨ret_bool HO.out.symm, rfl⟩

set_option maxRecDepth 100000 in
set_option maxHeartbeats 4000000 in
theorem index_odd (v : Value) (zs : List Int) (w : World) (h : Runes w v zs) (hl : zs.length ≤ 9223372036854775807) :
    Calls Try.prog 69 #[v, .func (.func 60) #[] #[]] w (IdxPost oddB zs w) := by
  obtain ⟨ao, cap, rfl, hz⟩ := h.open
  have HZ := Lib.hid hz
  clear h hz
  generalize hN : zs.length = n at *
  have HN := Lib.hid hN
  clear hN
  go_enter Try.func69, Try.ntmps69
  go_wp2
  go_loop [8] (fun i => ∃ k : Nat, k ≤ n ∧ i = .int .i64 k ∧ Hid ((zs.take k).any oddB = false)) (fun i => n - (intOf i).toNat)
  case atStart => exact ⟨0, Nat.zero_le _, rfl, rfl⟩
  case round =>
    obtain ⟨k, hk, rfl, HA⟩ := hrel
    by_cases hkn : k < n
    · obtain ⟨z, hks⟩ : ∃ z, zs[k]? = some z := ⟨zs[k]'(by rw [HN.out]; exact hkn), List.getElem?_eq_getElem _⟩
      rcases HZ.out with h0 | ⟨b, off, rfl, hc⟩
      · rw [h0] at hks; simp at hks
      · have c0 := hc k z hks
        have HK := Lib.hid hks
        clear hc hks
        have hz : oddB z = true ∨ oddB z = false := by cases oddB z <;> simp
        rcases hz with hz | hz
        · go_wp2_with (go_at_call 60; refine (odd_any _ _).mono ?_; rintro e w' ⟨rfl, rfl⟩)
          go_ret
          exact ⟨_, rfl, by rw [any_of_get _ _ _ _ HK.out hz]; simp, rfl⟩
        · go_wp2_with (go_at_call 60; refine (odd_any _ _).mono ?_; rintro e w' ⟨rfl, rfl⟩)
          go_round
          case rel => exact ⟨k + 1, by omega, by go_num, any_take_succ _ _ _ _ HK.out HA.out hz⟩
          case measure => simp [intOf]; omega
    · have hkn' : k = n := by omega
      go_wp2
      go_ret
      refine ⟨_, rfl, ?_, rfl⟩
      have hA := HA.out
      rw [List.take_of_length_le (by rw [HN.out, hkn']; exact Nat.le_refl _)] at hA
      rw [hA]; rfl

theorem contains_odd (v : Value) (zs : List Int) (w : World) (h : Runes w v zs) (hl : zs.length ≤ 9223372036854775807) :
    Calls Try.prog 36 #[v, .func (.func 60) #[] #[]] w fun e w' => e = .returned (.bool (zs.any oddB)) ∧ w = w' := by
  have H := Lib.hid h
  clear h
  go_enter Try.func36, Try.ntmps36
  go_wp2_with (go_at_call 69; refine (index_odd _ zs _ H.out hl).mono ?_; rintro e w' ⟨i, rfl, hi, rfl⟩; have HI := Lib.hid hi; clear hi)
  go_ret
  exact ⟨ret_bool HI.out, rfl⟩

/-- A text of which is spoken has at most 24 runes, all of them right. -/
def LenPost (zs : List Int) (w : World) (e : Ending) (w' : World) : Prop := (∃ b : Bool, e = .returned (.bool b) ∧ (b = false → zs.length ≤ 24 ∧ zs.any oddB = false)) ∧ w = w'

theorem lengthy_any (v : Value) (zs : List Int) (w : World) (h : Runes w v zs) (hl : zs.length ≤ 9223372036854775807) :
    Calls Try.prog 26 #[v] w (LenPost zs w) := by
  obtain ⟨ao, cap, rfl, _⟩ := h.open
  have H := Lib.hid h
  clear h
  have HA : Hid (zs.any oddB = zs.any oddB) := rfl
  by_cases h24 : 24 < zs.length
  · generalize zs.length = n at *
    go_enter Try.func26, Try.ntmps26
    go_wp2_with fail
    go_ret
    exact ⟨⟨_, rfl, fun h => by cases h⟩, rfl⟩
  · have HL : Hid (zs.length ≤ 24) := Nat.le_of_not_lt h24
    have HC : Hid (∀ w, Runes w (.slice ao zs.length cap) zs → Calls Try.prog 36 #[.slice ao zs.length cap, .func (.func 60) #[] #[]] w fun e w' => e = .returned (.bool (zs.any oddB)) ∧ w = w') := fun w h => contains_odd _ zs w h hl
    have HC2 := Lib.hid (HC.out w H.out)
    clear HC HA
    go_enter Try.func26, Try.ntmps26
    go_wp2_with (go_at_call 36; refine HC2.out.mono ?_; rintro e w' ⟨rfl, rfl⟩)
    go_ret
    exact ⟨⟨_, rfl, fun h => ⟨HL.out, (Bool.or_eq_false_iff.1 h).2⟩⟩, rfl⟩
end Go.Proofs.Ytejhffcjamdffaa
