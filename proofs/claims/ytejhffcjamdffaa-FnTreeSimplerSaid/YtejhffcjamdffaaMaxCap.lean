/-
  The contract of (*Regexp).MaxCap at a right tree. No conditions beside those typed.
-/
import Derived.Test.YtejhffcjamdffaaTree
import Derived.Test.YtejhffcjamdffaaGroups
namespace Go.Proofs.Ytejhffcjamdffaa
open Go.RowKit

/-- The eleven cells of a node of the package. -/
theorem rg_cells {w : World} {g : Nat} {nd : Nd} {v rv : Value} (h : w.heap[g]? = some (.cells (rgCells nd v rv) 113 (0, 0))) :
    w.cell? ⟨g, 0, none⟩ = some (.int .u8 (nd.op % 256)) ∧ w.cell? ⟨g, 1, none⟩ = some (.int .u16 (flagsF nd)) ∧ w.cell? ⟨g, 2, none⟩ = some v ∧ w.cell? ⟨g, 3, none⟩ = some (.pointer none) ∧ w.cell? ⟨g, 4, none⟩ = some rv ∧ w.cell? ⟨g, 5, none⟩ = some (.int .i32 0) ∧ w.cell? ⟨g, 6, none⟩ = some (.int .i32 0) ∧
    w.cell? ⟨g, 7, none⟩ = some (.int .i64 nd.mn) ∧ w.cell? ⟨g, 8, none⟩ = some (.int .i64 nd.mx) ∧ w.cell? ⟨g, 9, none⟩ = some (.int .i64 nd.cap) ∧ w.cell? ⟨g, 10, none⟩ = some (.string nd.name) := by
  refine ⟨?_, ?_, ?_, ?_, ?_, ?_, ?_, ?_, ?_, ?_, ?_⟩ <;> rw [cell_at h] <;> rfl

set_option maxRecDepth 100000 in
set_option maxHeartbeats 4000000 in
theorem maxcap_any (S : Nat → Prop) (d : Nat) : ∀ (nd : Nd) (g : Nat) (w : World), Rg w S d nd g → OkF d nd →
    Calls Try.prog 56 #[.pointer (some ⟨g, 0, none⟩)] w fun e w' => e = .returned (.int .i64 (groupsF d nd)) ∧ w = w' := by
  induction d with
  | zero => intro nd g w h; cases h
  | succ d ih =>
    intro nd g w h hok
    obtain ⟨ro, so, rc, sc, hg, hobj, hfit, hr, hrb, hs⟩ := h.open
    have hn := hfit.1
    obtain ⟨c0, c1, c2, c3, c4, c5, c6, c7, c8, c9, c10⟩ := rg_cells hobj
    have IH := Lib.hid ih
    have HSub := Lib.hid hs
    have HOk := Lib.hid hok.2
    have hrange := hok.1.range
    have hcap := hok.1.top.group
    clear ih h hr hrb hs hfit hobj hg hok
    rw [groupsF]
    generalize hG : nd.subs.map (groupsF d) = gs
    have HG := Lib.hid hG
    generalize hN : nd.subs.length = n at *
    have HN := Lib.hid hN
    have HL : Hid (gs.length = n) := by rw [← hG, List.length_map]; exact hN
    clear hN hG
    have hop : nd.op % 256 = nd.op := by omega
    rw [hop] at c0
    have hcase : (nd.op = 13 ∧ True) ∨ ((nd.op == 13) = false ∧ nd.cap = 0) := by
      by_cases h : nd.op = 13
      · exact .inl ⟨h, trivial⟩
      · exact .inr ⟨by simp; exact h, (hcap h).1⟩
    clear hcap hop hrange
    rcases hcase with ⟨h13, _⟩ | ⟨h13, hc0⟩
    · rw [h13] at c0
      go_enter Try.func56, Try.ntmps56
      go_wp2
      go_loop [3, 21] (fun m i => ∃ k : Nat, k ≤ n ∧ i = .int .i64 k ∧ m = .int .i64 (maxs nd.cap (gs.take k))) (fun _ i => n - (intOf i).toNat)
      case atStart => exact ⟨0, Nat.zero_le _, rfl, rfl⟩
      case round =>
        obtain ⟨k, hk, rfl, rfl⟩ := hrel
        by_cases hkn : k < n
        · obtain ⟨s, hks⟩ := get_of_lt HN.out hkn
          rcases HSub.out with h0 | ⟨b, off, rfl, hb, hsub⟩
          · rw [h0] at hks; simp at hks
          · obtain ⟨g', hc, hrg⟩ := hsub k s hks
            have HRg := Lib.hid hrg
            have HOkS := Lib.hid (HOk.out s (List.mem_of_getElem? hks))
            have HMx := Lib.hid (maxs_take nd.cap (groupsF d s) gs k (map_get HG.out hks))
            clear hsub hrg hks
            go_wp2_with (go_at_call 56; refine (IH.out s g' _ HRg.out HOkS.out).mono ?_; rintro e w' ⟨rfl, rfl⟩)
            all_goals
              go_round
              case rel =>
                refine ⟨k + 1, by omega, by go_num, ?_⟩
                rw [HMx.out]
                split <;> first | rfl | omega
              case measure => simp [intOf]; omega
        · have hkn' : k = n := by omega
          go_wp2
          go_ret
          refine ⟨ret_int ?_, rfl⟩
          subst hkn'
          rw [List.take_of_length_le (by rw [HL.out]; exact Nat.le_refl _)]
    · go_enter Try.func56, Try.ntmps56
      rw [hc0]
      go_wp2
      go_loop [3, 21] (fun m i => ∃ k : Nat, k ≤ n ∧ i = .int .i64 k ∧ m = .int .i64 (maxs 0 (gs.take k))) (fun _ i => n - (intOf i).toNat)
      case atStart => exact ⟨0, Nat.zero_le _, rfl, rfl⟩
      case round =>
        obtain ⟨k, hk, rfl, rfl⟩ := hrel
        by_cases hkn : k < n
        · obtain ⟨s, hks⟩ := get_of_lt HN.out hkn
          rcases HSub.out with h0 | ⟨b, off, rfl, hb, hsub⟩
          · rw [h0] at hks; simp at hks
          · obtain ⟨g', hc, hrg⟩ := hsub k s hks
            have HRg := Lib.hid hrg
            have HOkS := Lib.hid (HOk.out s (List.mem_of_getElem? hks))
            have HMx := Lib.hid (maxs_take 0 (groupsF d s) gs k (map_get HG.out hks))
            clear hsub hrg hks
            go_wp2_with (go_at_call 56; refine (IH.out s g' _ HRg.out HOkS.out).mono ?_; rintro e w' ⟨rfl, rfl⟩)
            all_goals
              go_round
              case rel =>
                refine ⟨k + 1, by omega, by go_num, ?_⟩
                rw [HMx.out]
                split <;> first | rfl | omega
              case measure => simp [intOf]; omega
        · have hkn' : k = n := by omega
          go_wp2
          go_ret
          refine ⟨ret_int ?_, rfl⟩
          subst hkn'
          rw [List.take_of_length_le (by rw [HL.out]; exact Nat.le_refl _)]
end Go.Proofs.Ytejhffcjamdffaa
