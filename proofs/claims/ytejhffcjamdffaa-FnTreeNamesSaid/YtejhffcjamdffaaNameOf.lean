/-
  The contract of the specification's 'name': it writes the names of a tree's groups, till a number is met again. No conditions beside those typed.
-/
import Derived.Test.YtejhffcjamdffaaStrs
namespace Go.Proofs.Ytejhffcjamdffaa
open Go.RowKit

/-- A row of Booleans, all of it. -/
def BoolsAt (w : World) (b : Nat) (m : List Bool) : Prop := w.heap[b]? = some (.cells (m.map Value.bool).toArray 4 (0, 0))
theorem BoolsAt.cell {w : World} {b : Nat} {l : List Bool} (h : BoolsAt w b l) {c : Nat} {s : Bool} (hc : l[c]? = some s) : w.cell? ⟨b, c, none⟩ = some (.bool s) := by
  rw [cell_at h, List.getElem?_toArray, List.getElem?_map, hc]; rfl
theorem BoolsAt.set {w : World} {b : Nat} {l : List Bool} (h : BoolsAt w b l) (c : Nat) (s : Bool) : BoolsAt (w.setCell ⟨b, c, none⟩ (.bool s)) b (l.set c s) := by
  unfold BoolsAt
  rw [heap_setCell_at h, List.map_set]
  simp

/-- What stands in the two rows. -/
structure NameAt (w : World) (b1 b2 n : Nat) (l : List ByteArray) (m : List Bool) : Prop where
  strs : StrsAt w b1 l
  bools : BoolsAt w b2 m
  ln : l.length = n
  mn : m.length = n

theorem NameAt.below {w w' : World} {b1 b2 n : Nat} {l : List ByteArray} {m : List Bool} (h : NameAt w b1 b2 n l m) (hb : Below w.heap.size w w') : NameAt w' b1 b2 n l m :=
  ⟨(hb.block b1 (Array.getElem?_eq_some_iff.1 h.strs).1).trans h.strs, (hb.block b2 (Array.getElem?_eq_some_iff.1 h.bools).1).trans h.bools, h.ln, h.mn⟩

theorem NameAt.set {w : World} {b1 b2 n : Nat} {l : List ByteArray} {m : List Bool} (h : NameAt w b1 b2 n l m) (h12 : b1 ≠ b2) (c : Nat) (s : ByteArray) (t : Bool) : NameAt ((w.setCell ⟨b1, c, none⟩ (.string s)).setCell ⟨b2, c, none⟩ (.bool t)) b1 b2 n (l.set c s) (m.set c t) := by
  refine ⟨?_, ?_, by rw [List.length_set]; exact h.ln, by rw [List.length_set]; exact h.mn⟩
  · have h1 := h.strs.set c s
    unfold StrsAt at h1 ⊢
    rw [heap_setCell_ne (by simp; omega)]
    exact h1
  · refine BoolsAt.set ?_ c t
    unfold BoolsAt
    rw [heap_setCell_ne (by simp; omega)]
    exact h.bools

def NamePost (B b1 b2 n : Nat) (want : List ByteArray) (w : World) (e : Ending) (w' : World) : Prop := (∃ r l' m', e = .returned (.bool r) ∧ NameAt w' b1 b2 n l' m' ∧ (r = true → l' = want)) ∧ Below B w w'

set_option maxRecDepth 100000 in
set_option maxHeartbeats 8000000 in
theorem name_any (S : Nat → Prop) (B b1 b2 n : Nat) (hS : ∀ k, S k → k < B) (hB1 : B ≤ b1) (hB2 : B ≤ b2) (h12 : b1 ≠ b2) (d : Nat) : ∀ (nd : Nd) (cs : List Value) (l : List ByteArray) (m : List Bool) (w : World), Rep w S d nd cs → OkF d nd → NameAt w b1 b2 n l m → groupsF d nd < (n : Int) →
    Calls Try.prog 62 #[.agg cs.toArray, .slice (some ⟨b1, 0, none⟩) n n, .slice (some ⟨b2, 0, none⟩) n n] w (NamePost B b1 b2 n (namesF d nd l) w) := by
  induction d with
  | zero => intro nd cs l m w h; cases h
  | succ d ih =>
    intro nd cs l m w h hok hat hlt
    obtain ⟨ro, rc, so, sc, rfl, hfit, hr, hrb, hs⟩ := h.open
    have hsn := hfit.1
    have hrange := hok.1.range
    have hcap := hok.1.cap
    have IH := Lib.hid ih
    have HSub := Lib.hid hs
    have HOk := Lib.hid hok.2
    have HAt := Lib.hid hat
    rw [groupsF] at hlt
    have HLt : Hid (∀ s, s ∈ nd.subs → groupsF d s < (n : Int)) := fun s hs => by
      have := (maxs_le nd.cap (nd.subs.map (groupsF d))).2 (groupsF d s) (List.mem_map.2 ⟨s, hs, rfl⟩)
      omega
    have hcl : nd.cap < (n : Int) := by have := (maxs_le nd.cap (nd.subs.map (groupsF d))).1; omega
    have HSb := Lib.hid hS
    have hw1 : b1 < w.heap.size := (Array.getElem?_eq_some_iff.1 hat.strs).1
    have hw2 : b2 < w.heap.size := (Array.getElem?_eq_some_iff.1 hat.bools).1
    clear ih h hr hrb hs hfit hok hat hlt
    rw [namesF]
    generalize hN : nd.subs.length = q at *
    have HN := Lib.hid hN
    clear hN
    by_cases h13 : nd.op = 13
    · have hc13 := hcap h13
      obtain ⟨c, hc⟩ : ∃ c : Nat, nd.cap = (c : Int) := ⟨nd.cap.toNat, by omega⟩
      rw [hc] at hcl hc13
      have hcn : c < n := by omega
      obtain ⟨s0, hs0⟩ : ∃ s0, l[c]? = some s0 := ⟨l[c]'(by rw [HAt.out.ln]; exact hcn), List.getElem?_eq_getElem _⟩
      obtain ⟨t0, ht0⟩ : ∃ t0, m[c]? = some t0 := ⟨m[c]'(by rw [HAt.out.mn]; exact hcn), List.getElem?_eq_getElem _⟩
      have d1 := HAt.out.strs.cell hs0
      have d2 := HAt.out.bools.cell ht0
      have f1 : w.frozen? ⟨b1, c, none⟩ = false := frozen_at HAt.out.strs c
      have f2 : w.frozen? ⟨b2, c, none⟩ = false := frozen_at HAt.out.bools c
      rw [if_pos h13, hc, Int.toNat_natCast]
      rw [h13]
      clear hcap hrange hs0 ht0
      cases t0
      · go_enter Try.func62, Try.ntmps62
        go_wp2_with fail
        go_region
        go_wp2
        go_loopw [30] (fun i wr => ∃ (k : Nat) (m' : List Bool), k ≤ q ∧ i = .int .i64 k ∧ NameAt wr b1 b2 n ((nd.subs.take k).foldl (fun l s => namesF d s l) (l.set c nd.name)) m' ∧ Below B w wr) (fun i _ => q - (intOf i).toNat)
        case atStart => exact ⟨0, _, Nat.zero_le _, rfl, (NameAt.set HAt.out h12 c nd.name true).below (below1 _ _).drew, by first | exact ((((Below.refl B w).setCell (p := ⟨b1, c, none⟩) hB1 _).setCell (p := ⟨b2, c, none⟩) hB2 _).alloc (by simp; omega) _).drew | exact (((Below.refl B w).setCell (p := ⟨b1, c, none⟩) hB1 _).setCell (p := ⟨b2, c, none⟩) hB2 _).alloc (by simp; omega) _⟩
        case round =>
          obtain ⟨k, m', hk, rfl, hat, hbel⟩ := hrel
          have HAr := Lib.hid hat
          have HBel := Lib.hid hbel
          have hKeep := Keeps.of_below hbel HSb.out
          have hwr1 : b1 < wr.heap.size := (Array.getElem?_eq_some_iff.1 hat.strs).1
          by_cases hkn : k < q
          · obtain ⟨s, hks⟩ := get_of_lt HN.out hkn
            rcases HSub.out with h0 | ⟨b, off, rfl, hb, hsub⟩
            · rw [h0] at hks; simp at hks
            · obtain ⟨cs', hcells, hrep⟩ := hsub k s hks
              obtain ⟨ro', rc', so', sc', rfl, c0, c1, c2, c3, c4, c5, c6, c7, c8⟩ := (Rep.keeps hKeep _ _ _ hrep).cells (hcells.keeps hKeep hb)
              have hcall := fun o : Obj => IH.out s _ _ m' (wr.alloc o) (Rep.keeps (Keeps.of_below (below1 wr o) (fun k hk => Nat.lt_of_lt_of_le (HSb.out k hk) (by omega))) _ _ _ (Rep.keeps hKeep _ _ _ hrep)) (HOk.out s (List.mem_of_getElem? hks)) (HAr.out.below (below1 wr o)) (HLt.out s (List.mem_of_getElem? hks))
              have HCall := Lib.hid hcall
              have HTk := Lib.hid (names_take d nd.subs (l.set c nd.name) k s hks)
              clear hsub hrep hks hcells hat hbel hKeep hcall
              go_wp2_with (go_at_call 62; refine (HCall.out _).mono ?_; rintro e w1 ⟨⟨r, l1, m1, rfl, hat1, hr1⟩, hb1'⟩)
              all_goals
                have hbel2 := HBel.out.trans (((below1 wr _).mono (by omega)).trans hb1')
              · go_ret
                exact ⟨⟨false, l1, m1, rfl, hat1, fun h => by cases h⟩, hbel2⟩
              · rw [hr1 (by simp_all), ← HTk.out] at hat1
                go_roundw
                case rel => exact ⟨k + 1, _, by omega, by go_num, hat1, hbel2⟩
                case measure => simp [intOf]; omega
          · have hkn' : k = q := by omega
            subst hkn'
            rw [List.take_of_length_le (by rw [HN.out]; exact Nat.le_refl _)] at hat
            clear hKeep
            go_wp2
            go_ret
            exact ⟨⟨true, _, m', rfl, hat, fun _ => rfl⟩, hbel⟩
      · go_enter Try.func62, Try.ntmps62
        go_wp2
        go_ret
        exact ⟨⟨false, l, m, rfl, HAt.out.below (below1 w _), fun h => by cases h⟩, (below1 w _).mono (by omega)⟩
    · rw [if_neg h13]
      have h13' : (nd.op == 13) = false := by simp; exact h13
      clear hcap hrange h13
      · go_enter Try.func62, Try.ntmps62
        go_wp2
        go_loopw [30] (fun i wr => ∃ (k : Nat) (m' : List Bool), k ≤ q ∧ i = .int .i64 k ∧ NameAt wr b1 b2 n ((nd.subs.take k).foldl (fun l s => namesF d s l) l) m' ∧ Below B w wr) (fun i _ => q - (intOf i).toNat)
        case atStart => exact ⟨0, _, Nat.zero_le _, rfl, HAt.out.below (below1 w _), (below1 w _).mono (by omega)⟩
        case round =>
          obtain ⟨k, m', hk, rfl, hat, hbel⟩ := hrel
          have HAr := Lib.hid hat
          have HBel := Lib.hid hbel
          have hKeep := Keeps.of_below hbel HSb.out
          have hwr1 : b1 < wr.heap.size := (Array.getElem?_eq_some_iff.1 hat.strs).1
          by_cases hkn : k < q
          · obtain ⟨s, hks⟩ := get_of_lt HN.out hkn
            rcases HSub.out with h0 | ⟨b, off, rfl, hb, hsub⟩
            · rw [h0] at hks; simp at hks
            · obtain ⟨cs', hcells, hrep⟩ := hsub k s hks
              obtain ⟨ro', rc', so', sc', rfl, c0, c1, c2, c3, c4, c5, c6, c7, c8⟩ := (Rep.keeps hKeep _ _ _ hrep).cells (hcells.keeps hKeep hb)
              have hcall := fun o : Obj => IH.out s _ _ m' (wr.alloc o) (Rep.keeps (Keeps.of_below (below1 wr o) (fun k hk => Nat.lt_of_lt_of_le (HSb.out k hk) (by omega))) _ _ _ (Rep.keeps hKeep _ _ _ hrep)) (HOk.out s (List.mem_of_getElem? hks)) (HAr.out.below (below1 wr o)) (HLt.out s (List.mem_of_getElem? hks))
              have HCall := Lib.hid hcall
              have HTk := Lib.hid (names_take d nd.subs l k s hks)
              clear hsub hrep hks hcells hat hbel hKeep hcall
              go_wp2_with (go_at_call 62; refine (HCall.out _).mono ?_; rintro e w1 ⟨⟨r, l1, m1, rfl, hat1, hr1⟩, hb1'⟩)
              all_goals
                have hbel2 := HBel.out.trans (((below1 wr _).mono (by omega)).trans hb1')
              · go_ret
                exact ⟨⟨false, l1, m1, rfl, hat1, fun h => by cases h⟩, hbel2⟩
              · rw [hr1 (by simp_all), ← HTk.out] at hat1
                go_roundw
                case rel => exact ⟨k + 1, _, by omega, by go_num, hat1, hbel2⟩
                case measure => simp [intOf]; omega
          · have hkn' : k = q := by omega
            subst hkn'
            rw [List.take_of_length_le (by rw [HN.out]; exact Nat.le_refl _)] at hat
            clear hKeep
            go_wp2
            go_ret
            exact ⟨⟨true, _, m', rfl, hat, fun _ => rfl⟩, hbel⟩
end Go.Proofs.Ytejhffcjamdffaa
