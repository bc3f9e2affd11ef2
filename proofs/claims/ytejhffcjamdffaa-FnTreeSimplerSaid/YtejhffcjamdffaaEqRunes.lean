/-
  slices.Equal at rows of runes: whether they hold the same. Condition: fewer than 2^63 runes.
-/
import Derived.Test.YtejhffcjamdffaaRunes
import Derived.RegionTactic
namespace Go.Proofs.Ytejhffcjamdffaa
open Go.RowKit

theorem take_same {α : Type} {l1 l2 : List α} {k : Nat} {x y : α} (h : l1.take k = l2.take k) (h1 : l1[k]? = some x) (h2 : l2[k]? = some y) (e : x = y) : l1.take (k + 1) = l2.take (k + 1) := by
  rw [List.take_add_one, List.take_add_one, h1, h2, h, e]

set_option maxRecDepth 100000 in
set_option maxHeartbeats 4000000 in
theorem equal_runes (v1 v2 : Value) (l1 l2 : List Int) (w : World) (h1 : Runes w v1 l1) (h2 : Runes w v2 l2) (hn1 : l1.length ≤ 9223372036854775807) (hn2 : l2.length ≤ 9223372036854775807) :
    Calls Try.prog 67 #[v1, v2] w fun e w' => e = .returned (.bool (decide (l1 = l2))) ∧ Below w.heap.size w w' := by
  obtain ⟨a1, k1, rfl, hx1⟩ := h1.open
  obtain ⟨a2, k2, rfl, hx2⟩ := h2.open
  have HX1 := Lib.hid hx1
  have HX2 := Lib.hid hx2
  clear h1 h2 hx1 hx2
  by_cases hlen : l1.length = l2.length
  · rw [← hlen]
    clear hn2
    generalize hN : l1.length = n at *
    have HN := Lib.hid hN
    have HM : Hid (l2.length = n) := hlen.symm
    clear hN hlen
    go_enter Try.func67, Try.ntmps67
    go_wp2
    go_loopw [13] (fun i wr => ∃ k : Nat, k ≤ n ∧ i = .int .i64 k ∧ Below w.heap.size w wr ∧ (∀ a, wr.cell? a = w.cell? a) ∧ l1.take k = l2.take k) (fun i _ => n - (intOf i).toNat)
    case atStart => exact ⟨0, Nat.zero_le _, rfl, Below.refl _ _, fun _ => rfl, rfl⟩
    case round =>
      obtain ⟨k, hk, rfl, hbel, hcell, htk⟩ := hrel
      have HCl := Lib.hid hcell
      have HTk := Lib.hid htk
      have HBel := Lib.hid hbel
      clear hcell htk hbel
      by_cases hkn : k < n
      · obtain ⟨z1, hk1⟩ : ∃ z, l1[k]? = some z := ⟨l1[k]'(by rw [HN.out]; exact hkn), List.getElem?_eq_getElem _⟩
        obtain ⟨z2, hk2⟩ : ∃ z, l2[k]? = some z := ⟨l2[k]'(by rw [HM.out]; exact hkn), List.getElem?_eq_getElem _⟩
        rcases HX1.out with h0 | ⟨b1, o1, rfl, g1⟩
        · rw [h0] at hk1; simp at hk1
        · rcases HX2.out with h0 | ⟨b2, o2, rfl, g2⟩
          · rw [h0] at hk2; simp at hk2
          · have d1 : wr.cell? ⟨b1, o1 + k, none⟩ = some (.int .i32 z1) := by rw [HCl.out]; exact g1 k z1 hk1
            have d2 : wr.cell? ⟨b2, o2 + k, none⟩ = some (.int .i32 z2) := by rw [HCl.out]; exact g2 k z2 hk2
            have H1 := Lib.hid hk1
            have H2 := Lib.hid hk2
            clear g1 g2 hk1 hk2
            by_cases hz : z1 = z2
            · have HS := Lib.hid (take_same HTk.out H1.out H2.out hz)
              subst hz
              go_wp2_with fail
              go_region
              go_wp2
              go_roundw
              case rel => exact ⟨k + 1, by omega, by go_num, HBel.out.drew, HCl.out, HS.out⟩
              case measure => simp [intOf]; omega
            · have hzb : (z1 != z2) = true := by simpa using hz
              have HNe : Hid (decide (l1 = l2) = false) := by
                show _ = _
                apply decide_eq_false
                rintro rfl
                rw [H1.out] at H2
                exact hz (Option.some.inj H2.out)
              go_wp2_with fail
              go_region
              go_wp2
              go_ret
              exact ⟨ret_bool HNe.out.symm, HBel.out.drew⟩
      · have hkn' : k = n := by omega
        subst hkn'
        have HE : Hid (decide (l1 = l2) = true) := by
          show _ = _
          apply decide_eq_true
          have h := HTk.out
          rwa [List.take_of_length_le (by rw [HN.out]; exact Nat.le_refl _), List.take_of_length_le (by rw [HM.out]; exact Nat.le_refl _)] at h
        go_wp2
        go_ret
        exact ⟨ret_bool HE.out.symm, HBel.out⟩
  · have HNe : Hid (decide (l1 = l2) = false) := by
      show _ = _
      apply decide_eq_false
      rintro rfl
      exact hlen rfl
    have hlb : ((l1.length : Int) != (l2.length : Int)) = true := by simp; omega
    generalize l1.length = n1 at *
    generalize l2.length = n2 at *
    go_enter Try.func67, Try.ntmps67
    go_wp2
    go_ret
    exact ⟨ret_bool HNe.out.symm, Below.refl _ _⟩
end Go.Proofs.Ytejhffcjamdffaa
