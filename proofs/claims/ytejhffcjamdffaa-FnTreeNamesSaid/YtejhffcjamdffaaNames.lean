/-
  The names of a tree's groups, as plain data ('namesF'); the contract of (*Regexp).capNames, which writes them into a row. No conditions beside those typed.
-/
import Derived.Test.YtejhffcjamdffaaMaxCap
import Derived.RegionTactic
namespace Go.Proofs.Ytejhffcjamdffaa
open Go.RowKit

/-- The names of a tree's groups, written over a list. -/
def namesF : Nat → Nd → List ByteArray → List ByteArray
  | 0, _, l => l
  | d + 1, nd, l => nd.subs.foldl (fun l s => namesF d s l) (if nd.op = 13 then l.set nd.cap.toNat nd.name else l)

theorem namesF_length (d : Nat) : ∀ (nd : Nd) (l : List ByteArray), (namesF d nd l).length = l.length := by
  induction d with
  | zero => intro nd l; rfl
  | succ d ih =>
    intro nd l
    rw [namesF]
    have h : ∀ (ss : List Nd) (l : List ByteArray), (ss.foldl (fun l s => namesF d s l) l).length = l.length := by
      intro ss
      induction ss with
      | nil => intro l; rfl
      | cons s ss ihs => intro l; rw [List.foldl_cons, ihs, ih]
    rw [h]
    split
    · exact List.length_set
    · rfl

theorem names_take (d : Nat) (ss : List Nd) (l : List ByteArray) (k : Nat) (s : Nd) (h : ss[k]? = some s) :
    (ss.take (k + 1)).foldl (fun l s => namesF d s l) l = namesF d s ((ss.take k).foldl (fun l s => namesF d s l) l) := by
  rw [List.take_add_one, h, List.foldl_append]; rfl
theorem names_fold_length (d : Nat) (ss : List Nd) : ∀ (l : List ByteArray), (ss.foldl (fun l s => namesF d s l) l).length = l.length := by
  induction ss with
  | nil => intro l; rfl
  | cons s ss ih => intro l; rw [List.foldl_cons, ih, namesF_length]

/-- The greatest number bounds those of the parts, and a group's own. -/
theorem maxs_le (m : Int) (xs : List Int) : m ≤ maxs m xs ∧ ∀ x, x ∈ xs → x ≤ maxs m xs := by
  induction xs generalizing m with
  | nil => exact ⟨Int.le_refl _, fun x h => by cases h⟩
  | cons y ys ih =>
    rw [maxs]
    by_cases hlt : m < y
    · rw [if_pos hlt]
      have h := ih y
      refine ⟨by have := h.1; omega, fun x hx => ?_⟩
      rcases List.mem_cons.1 hx with rfl | hx
      · exact h.1
      · exact h.2 x hx
    · rw [if_neg hlt]
      have h := ih m
      refine ⟨h.1, fun x hx => ?_⟩
      rcases List.mem_cons.1 hx with rfl | hx
      · have := h.1; omega
      · exact h.2 x hx

/-- A row of strings, all of it. -/
def StrsAt (w : World) (b : Nat) (l : List ByteArray) : Prop := w.heap[b]? = some (.cells (l.map Value.string).toArray 9 (0, 0))

theorem StrsAt.cell {w : World} {b : Nat} {l : List ByteArray} (h : StrsAt w b l) {c : Nat} {s : ByteArray} (hc : l[c]? = some s) : w.cell? ⟨b, c, none⟩ = some (.string s) := by
  rw [cell_at h, List.getElem?_toArray, List.getElem?_map, hc]; rfl
theorem StrsAt.set {w : World} {b : Nat} {l : List ByteArray} (h : StrsAt w b l) (c : Nat) (s : ByteArray) : StrsAt (w.setCell ⟨b, c, none⟩ (.string s)) b (l.set c s) := by
  unfold StrsAt
  rw [heap_setCell_at h, List.map_set]
  simp

set_option maxRecDepth 100000 in
set_option maxHeartbeats 4000000 in
theorem capnames_any (S : Nat → Prop) (b : Nat) (hS : ∀ k, S k → k < b) (d : Nat) : ∀ (nd : Nd) (g : Nat) (l : List ByteArray) (w : World), Rg w S d nd g → OkF d nd → StrsAt w b l → groupsF d nd < (l.length : Int) → l.length ≤ 1000 →
    Calls Try.prog 80 #[.pointer (some ⟨g, 0, none⟩), .slice (some ⟨b, 0, none⟩) l.length l.length] w fun e w' => e = .returned (.tuple #[]) ∧ StrsAt w' b (namesF d nd l) ∧ Below b w w' := by
  induction d with
  | zero => intro nd g l w h; cases h
  | succ d ih =>
    intro nd g l w h hok hl hlt hsm
    obtain ⟨ro, so, rc, sc, hg, hobj, hfit, hr, hrb, hs⟩ := h.open
    have hn := hfit.1
    obtain ⟨c0, c1, c2, c3, c4, c5, c6, c7, c8, c9, c10⟩ := rg_cells hobj
    have hrange := hok.1.range
    have hcap := hok.1.cap
    have IH := Lib.hid ih
    have HSub := Lib.hid hs
    have HOk := Lib.hid hok.2
    have HL := Lib.hid hl
    rw [groupsF] at hlt
    have HLt : Hid (∀ s, s ∈ nd.subs → groupsF d s < (l.length : Int)) := fun s hs => by
      have := (maxs_le nd.cap (nd.subs.map (groupsF d))).2 (groupsF d s) (List.mem_map.2 ⟨s, hs, rfl⟩)
      omega
    have hcl : nd.cap < (l.length : Int) := by have := (maxs_le nd.cap (nd.subs.map (groupsF d))).1; omega
    have HSb := Lib.hid hS
    have hgb : g < b := hS g hg
    clear ih h hr hrb hs hfit hobj hg hok hl hlt
    rw [namesF]
    generalize hN : nd.subs.length = n at *
    have HN := Lib.hid hN
    clear hN
    have hop : nd.op % 256 = nd.op := by omega
    rw [hop] at c0
    by_cases h13 : nd.op = 13
    · have hc13 := hcap h13
      obtain ⟨c, hc⟩ : ∃ c : Nat, nd.cap = (c : Int) := ⟨nd.cap.toNat, by omega⟩
      rw [hc] at hcl hc13 c9
      have hcn : c < l.length := by omega
      obtain ⟨s0, hs0⟩ : ∃ s0, l[c]? = some s0 := ⟨l[c]'hcn, List.getElem?_eq_getElem _⟩
      have d0 := HL.out.cell hs0
      have f0 : w.frozen? ⟨b, c, none⟩ = false := frozen_at HL.out c
      rw [h13] at c0
      rw [if_pos h13, hc, Int.toNat_natCast]
      generalize hLn : l.length = m at *
      have HLn := Lib.hid hLn
      clear hcap hrange hop hLn hs0
      go_enter Try.func80, Try.ntmps80
      go_wp2_with fail
      go_region
      go_wp2
      go_loopw [26] (fun i wr => ∃ k : Nat, k ≤ n ∧ i = .int .i64 k ∧ StrsAt wr b ((nd.subs.take k).foldl (fun l s => namesF d s l) (l.set c nd.name)) ∧ Below b w wr) (fun i _ => n - (intOf i).toNat)
      case atStart => exact ⟨0, Nat.zero_le _, rfl, HL.out.set c nd.name, ((Below.refl b w).setCell (p := ⟨b, c, none⟩) (Nat.le_refl _) _).drew⟩
      case round =>
        obtain ⟨k, hk, rfl, hst, hbel⟩ := hrel
        have HSt := Lib.hid hst
        have HBel := Lib.hid hbel
        have hKeep := Keeps.of_below hbel HSb.out
        by_cases hkn : k < n
        · obtain ⟨s, hks⟩ := get_of_lt HN.out hkn
          rcases HSub.out with h0 | ⟨b1, off, rfl, hb1, hsub⟩
          · rw [h0] at hks; simp at hks
          · obtain ⟨g', hc', hrg⟩ := hsub k s hks
            have hcell : wr.cell? ⟨b1, off + k, none⟩ = some (.pointer (some ⟨g', 0, none⟩)) := (hKeep.cell (a := ⟨b1, off + k, none⟩) hb1).trans hc'
            have HRg := Lib.hid (Rg.keeps hKeep _ _ _ hrg)
            have HOkS := Lib.hid (HOk.out s (List.mem_of_getElem? hks))
            have HLtS := Lib.hid (HLt.out s (List.mem_of_getElem? hks))
            have HTk := Lib.hid (names_take d nd.subs (l.set c nd.name) k s hks)
            have HLen : Hid (((nd.subs.take k).foldl (fun l s => namesF d s l) (l.set c nd.name)).length = m) := by rw [names_fold_length]; exact by rw [List.length_set]; exact HLn.out
            have hcall := IH.out s g' _ wr HRg.out HOkS.out HSt.out (by rw [HLen.out]; exact HLtS.out) (by rw [HLen.out]; omega)
            rw [HLen.out] at hcall
            have HCall := Lib.hid hcall
            clear hcall
            clear hsub hrg hks hc' hst hbel hKeep
            go_wp2_with (go_at_call 80; refine HCall.out.mono ?_; rintro e w1 ⟨rfl, hst1, hb1'⟩)
            have hbel2 := HBel.out.trans hb1'
            rw [← HTk.out] at hst1
            go_roundw
            case rel => exact ⟨k + 1, by omega, by go_num, hst1, hbel2⟩
            case measure => simp [intOf]; omega
        · have hkn' : k = n := by omega
          subst hkn'
          rw [List.take_of_length_le (by rw [HN.out]; exact Nat.le_refl _)] at hst
          clear hKeep
          go_wp2
          go_end0
          exact ⟨rfl, hst, hbel⟩
    · rw [if_neg h13]
      have h13' : (nd.op == 13) = false := by simp; exact h13
      generalize hLn : l.length = m at *
      have HLn := Lib.hid hLn
      clear hcap hrange hop hLn h13
      go_enter Try.func80, Try.ntmps80
      go_wp2
      go_loopw [26] (fun i wr => ∃ k : Nat, k ≤ n ∧ i = .int .i64 k ∧ StrsAt wr b ((nd.subs.take k).foldl (fun l s => namesF d s l) l) ∧ Below b w wr) (fun i _ => n - (intOf i).toNat)
      case atStart => exact ⟨0, Nat.zero_le _, rfl, HL.out, Below.refl b w⟩
      case round =>
        obtain ⟨k, hk, rfl, hst, hbel⟩ := hrel
        have HSt := Lib.hid hst
        have HBel := Lib.hid hbel
        have hKeep := Keeps.of_below hbel HSb.out
        by_cases hkn : k < n
        · obtain ⟨s, hks⟩ := get_of_lt HN.out hkn
          rcases HSub.out with h0 | ⟨b1, off, rfl, hb1, hsub⟩
          · rw [h0] at hks; simp at hks
          · obtain ⟨g', hc', hrg⟩ := hsub k s hks
            have hcell : wr.cell? ⟨b1, off + k, none⟩ = some (.pointer (some ⟨g', 0, none⟩)) := (hKeep.cell (a := ⟨b1, off + k, none⟩) hb1).trans hc'
            have HRg := Lib.hid (Rg.keeps hKeep _ _ _ hrg)
            have HOkS := Lib.hid (HOk.out s (List.mem_of_getElem? hks))
            have HLtS := Lib.hid (HLt.out s (List.mem_of_getElem? hks))
            have HTk := Lib.hid (names_take d nd.subs l k s hks)
            have HLen : Hid (((nd.subs.take k).foldl (fun l s => namesF d s l) l).length = m) := by rw [names_fold_length]; exact HLn.out
            have hcall := IH.out s g' _ wr HRg.out HOkS.out HSt.out (by rw [HLen.out]; exact HLtS.out) (by rw [HLen.out]; omega)
            rw [HLen.out] at hcall
            have HCall := Lib.hid hcall
            clear hcall
            clear hsub hrg hks hc' hst hbel hKeep
            go_wp2_with (go_at_call 80; refine HCall.out.mono ?_; rintro e w1 ⟨rfl, hst1, hb1'⟩)
            have hbel2 := HBel.out.trans hb1'
            rw [← HTk.out] at hst1
            go_roundw
            case rel => exact ⟨k + 1, by omega, by go_num, hst1, hbel2⟩
            case measure => simp [intOf]; omega
        · have hkn' : k = n := by omega
          subst hkn'
          rw [List.take_of_length_le (by rw [HN.out]; exact Nat.le_refl _)] at hst
          clear hKeep
          go_wp2
          go_end0
          exact ⟨rfl, hst, hbel⟩
end Go.Proofs.Ytejhffcjamdffaa
