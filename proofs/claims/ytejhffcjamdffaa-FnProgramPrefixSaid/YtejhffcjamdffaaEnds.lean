/-
  The contract of the specification's ends. Conditions: right instructions, at most sixty.
-/
import Derived.Test.YtejhffcjamdffaaPlain
namespace Go.Proofs.Ytejhffcjamdffaa
open Go.RowKit

theorem ends_step {is : List I} {f k : Nat} {i : I} (hk : is[k]? = some i) : endsF is (f + 1) k = if stopB i = true then true else endsF is f i.out.toNat := by
  rw [endsF, hk]
theorem ends_last {is : List I} {k : Nat} {i : I} (hk : is[k]? = some i) : endsF is 0 k = stopB i := by
  rw [endsF, hk]

theorem stop_classes (o : Int) : (o = 0 ∨ o = 4 ∨ o = 5) ∨ ((o == 0) = false ∧ (o == 4) = false ∧ (o == 5) = false) := by
  simp only [beq_eq_false_iff_ne, ne_eq]
  omega

set_option maxRecDepth 100000 in
set_option maxHeartbeats 4000000 in
theorem ends_any (is : List I) (v : Value) (B k : Nat) (w : World) (h : Insts w B v is) (hok : ∀ i, i ∈ is → InstP is.length i) (hl : is.length ≤ 60) (hk : k < is.length) :
    Calls Try.prog 59 #[v, .int .i64 k] w fun e w' => e = .returned (.bool (endsF is is.length k)) ∧ w = w' := by
  obtain ⟨ao, cap, rfl, hx⟩ := h
  have hne : is ≠ [] := by rintro rfl; simp at hk
  obtain ⟨b, off, rfl, hlt, hc⟩ := hx hne
  have HC := Lib.hid hc
  have HOk := Lib.hid hok
  clear hx hne hc hok
  obtain ⟨r, hr⟩ : ∃ r, endsF is is.length k = r := ⟨_, rfl⟩
  rw [hr]
  generalize hN : is.length = n at *
  have HN := Lib.hid hN
  have HR := Lib.hid hr
  clear hN hr
  go_enter Try.func59, Try.ntmps59
  go_wp2
  go_loop [1, 7] (fun q t => ∃ j q' : Nat, j ≤ n ∧ q' < n ∧ q = .int .i64 q' ∧ t = .int .i64 j ∧ Hid (endsF is (n - j) q' = r)) (fun _ t => n - (intOf t).toNat)
  case atStart => exact ⟨0, k, Nat.zero_le _, hk, rfl, rfl, HR.out⟩
  case round =>
    obtain ⟨j, q, hj, hq, rfl, rfl, HE⟩ := hrel
    obtain ⟨i, hik⟩ : ∃ i, is[q]? = some i := ⟨is[q]'(by rw [HN.out]; exact hq), List.getElem?_eq_getElem _⟩
    obtain ⟨rv, c0, c1, c2, c3, _⟩ := HC.out q i hik
    have hi := HOk.out i (List.mem_of_getElem? hik)
    clear c2 c3
    by_cases hjn : j < n
    · have HE2 : Hid ((if stopB i = true then true else endsF is (n - (j + 1)) i.out.toNat) = r) := by
        have h1 := HE.out
        rw [show n - j = (n - (j + 1)) + 1 from by omega, ends_step hik] at h1
        exact h1
      rcases stop_classes i.op with ho | ⟨h0, h4, h5⟩
      · have HT : Hid (r = true) := by
          have h1 := HE2.out
          rw [if_pos (by simp only [stopB, Bool.or_eq_true, decide_eq_true_eq]; omega)] at h1
          exact h1.symm
        clear hik hi
        rcases ho with ho | ho | ho
        all_goals
          rw [ho] at c0
          clear ho
          go_wp2
          go_ret
          exact ⟨ret_bool HT.out.symm, rfl⟩
      · have hn4 : i.op ≠ 4 := by simpa using h4
        have hn5 : i.op ≠ 5 := by simpa using h5
        have hn0 : i.op ≠ 0 := by simpa using h0
        have hout := hi.out hn4 hn5
        obtain ⟨q2, hq2⟩ : ∃ q2 : Nat, i.out = (q2 : Int) := ⟨i.out.toNat, by omega⟩
        have HNx : Hid (endsF is (n - (j + 1)) q2 = r) := by
          have h1 := HE2.out
          rw [if_neg (by simp only [stopB, Bool.or_eq_true, decide_eq_true_eq]; omega), hq2, Int.toNat_natCast] at h1
          exact h1
        rw [hq2] at c1
        have hlt2 : q2 < n := by have := hout.2; omega
        generalize i.op = o at *
        clear hik hi hout hq2 HE2 hn0 hn4 hn5
        go_wp2
        go_round
        case rel => exact ⟨j + 1, q2, by omega, hlt2, rfl, by go_num, HNx.out⟩
        case measure => simp [intOf]; omega
    · have hjn' : j = n := by omega
      subst hjn'
      have HE2 : Hid (stopB i = r) := by
        have h1 := HE.out
        rw [Nat.sub_self, ends_last hik] at h1
        exact h1
      rcases stop_classes i.op with ho | ⟨h0, h4, h5⟩
      · have HT : Hid (r = true) := by
          have h1 := HE2.out
          rw [← h1]
          simp only [stopB, Bool.or_eq_true, decide_eq_true_eq]
          show _ ∨ _
          omega
        clear hik hi HE2
        rcases ho with ho | ho | ho
        all_goals
          rw [ho] at c0
          clear ho
          go_wp2
          go_ret
          exact ⟨ret_bool HT.out.symm, rfl⟩
      · have HF : Hid (r = false) := by
          have h1 := HE2.out
          have hn4 : i.op ≠ 4 := by simpa using h4
          have hn5 : i.op ≠ 5 := by simpa using h5
          have hn0 : i.op ≠ 0 := by simpa using h0
          rw [← h1]
          simp [stopB, hn0, hn4, hn5, Hid]
        generalize i.op = o at *
        clear hik hi HE2
        go_wp2
        go_ret
        exact ⟨ret_bool HF.out.symm, rfl⟩
end Go.Proofs.Ytejhffcjamdffaa
