/-
  The contract of the specification's NamesOf. No conditions beside those typed.
-/
import Derived.Test.YtejhffcjamdffaaNameOf
import Derived.Test.YtejhffcjamdffaaGroupsLaw
namespace Go.Proofs.Ytejhffcjamdffaa
open Go.RowKit

theorem Try.info4 : (Try.prog.info? 4).map (fun i => (i.zero, i.size, i.bytes)) = some (some (.bool false), 1, 1) := by kernel_rfl

theorem bools_made {w : World} {base b n : Nat} (h : w.ownsRow base 4 1 (.slice (some ⟨b, 0, none⟩) n n) n (madeCells (Value.bool false).cells (n * 1)).toList) : BoolsAt w b (List.replicate n false) ∧ base ≤ b ∧ b < w.heap.size := by
  have hlt := h.lt b rfl
  refine ⟨?_, hlt.1, hlt.2⟩
  rcases h.2 with ⟨h0, _⟩ | ⟨g, cap, cur, heq, _, hheap, _, _, hcs, htake⟩
  · cases h0
  · injection heq with e1 e2 e3
    injection e1 with e1
    injection e1 with e1 _ _
    subst e1
    subst e3
    have hc : cur = (List.map Value.bool (List.replicate n false)).toArray := by
      apply Array.ext'
      rw [List.take_of_length_le (by simp [hcs])] at htake
      rw [htake]
      rw [show (Value.bool false).cells = #[.bool false] from rfl, toList_madeCells_one, List.map_replicate, Nat.mul_one]
    unfold BoolsAt
    rw [hheap, hc]

def NamesPost (n : Nat) (want : List ByteArray) (w : World) (e : Ending) (w' : World) : Prop := (∃ r b l', e = .returned (.tuple #[.slice (some ⟨b, 0, none⟩) n n, .bool r]) ∧ w.heap.size ≤ b ∧ StrsAt w' b l' ∧ l'.length = n ∧ (r = true → l' = want)) ∧ Below w.heap.size w w'

set_option maxRecDepth 100000 in
set_option maxHeartbeats 4000000 in
theorem namesof_any (S : Nat → Prop) (d : Nat) (nd : Nd) (cs : List Value) (w : World) (h : Rep w S d nd cs) (hok : OkF d nd) (hS : ∀ b, S b → b < w.heap.size) (n : Nat) (hn : groupsF d nd + 1 = (n : Int)) :
    Calls Try.prog 30 #[.agg cs.toArray] w (NamesPost n (namesF d nd (List.replicate n ByteArray.empty)) w) := by
  obtain ⟨i0, hi, hz0, hz1, hz2⟩ := info_parts Try.info9
  obtain ⟨j0, hj, hy0, hy1, hy2⟩ := info_parts Try.info4
  have hbd := groups_bd d nd hok
  obtain ⟨ro, rc, so, sc, rfl⟩ := rep_form h
  have HRep := Lib.hid h
  have HS := Lib.hid hS
  have HOk := Lib.hid hok
  have hgn : groupsF d nd < (n : Int) := by omega
  clear h hS hok
  have HG : Hid (groupsF d nd = groupsF d nd) := rfl
  generalize hG : groupsF d nd = gmax at *
  clear HG
  have HG := Lib.hid hG
  clear hG
  go_enter Try.func30, Try.ntmps30
  go_wp2_with (first
    | (go_at_call 62
       refine (name_any S w.heap.size w1.heap.size w3.heap.size n HS.out HB1.out.size (by have := HB3.out.size; omega) (by omega) d nd _ (List.replicate n ByteArray.empty) (List.replicate n false) _ (Rep.keeps (Keeps.of_below HB4.out HS.out) _ _ _ HRep.out) HOk.out ⟨HSt4.out, HBo4.out, by simp, by simp⟩ (by rw [HG.out]; omega)).mono ?_
       rintro e w5 ⟨⟨r, l', m', rfl, hat5, hr5⟩, hb5⟩)
    | (at_make
       refine wpList_make_full _ rfl _ _ 69 rfl w.heap.size 4 j0 (.bool false) 1 Try.underlying69 hj hy0 hy1 .i64 .i64 _ _ n rfl rfl (by go_num) (by go_num) (by rw [hy2]; omega) (by unfold maxLen; omega) HB3.out.size ?_
       intro w4 hown4 hgrow4
       have hx4 := (hgrow4.block w.heap.size (Array.getElem?_eq_some_iff.1 HX3.out).1 (fun e => by cases e)).trans HX3.out
       clear c0 c1 c2 c3 c4 c5 c6 c7 c8
       obtain ⟨c0, c1, c2, c3, c4, c5, c6, c7, c8⟩ := box9 hx4
       have HB4 := Lib.hid (HB3.out.grown hgrow4 HB3.out.size (fun j hj => by cases hj))
       have HSt4 : Hid (StrsAt w4 w1.heap.size (List.replicate n ByteArray.empty)) := (hgrow4.block w1.heap.size (Array.getElem?_eq_some_iff.1 HSt3.out).1 (fun e => by cases e)).trans HSt3.out
       have HBo4 := Lib.hid (bools_made hown4).1
       clear hx4 hown4 hgrow4)
    | (go_at_call 23
       refine (groups_any S d nd _ _ (Rep.keeps (Keeps.of_below HB2.out HS.out) _ _ _ HRep.out) (lt_below HS.out HB2.out.size)).mono ?_
       rintro e w3 ⟨rfl, hb3⟩
       rw [HG.out]
       have hx3 := (hb3.block w.heap.size (Array.getElem?_eq_some_iff.1 HX2.out).1).trans HX2.out
       clear c0 c1 c2 c3 c4 c5 c6 c7 c8
       obtain ⟨c0, c1, c2, c3, c4, c5, c6, c7, c8⟩ := box9 hx3
       have HX3 := Lib.hid hx3
       have h13 : w1.heap.size < w3.heap.size := by have := (Array.getElem?_eq_some_iff.1 HSt2.out).1; have := hb3.size; omega
       have HB3 := Lib.hid (HB2.out.trans (hb3.mono HB2.out.size))
       have HSt3 : Hid (StrsAt w3 w1.heap.size (List.replicate n ByteArray.empty)) := (hb3.block w1.heap.size (Array.getElem?_eq_some_iff.1 HSt2.out).1).trans HSt2.out
       clear hx3 hb3)
    | (at_make
       refine wpList_make_full _ rfl _ _ 47 rfl w.heap.size 9 i0 (.string ByteArray.empty) 1 Try.underlying47 hi hz0 hz1 .i64 .i64 _ _ n rfl rfl (by go_num) (by go_num) (by rw [hz2]; omega) (by unfold maxLen; omega) HB1.out.size ?_
       intro w2 hown2 hgrow2
       have hx2 := (hgrow2.block w.heap.size (Array.getElem?_eq_some_iff.1 HX1.out).1 (fun e => by cases e)).trans HX1.out
       clear c0 c1 c2 c3 c4 c5 c6 c7 c8
       obtain ⟨c0, c1, c2, c3, c4, c5, c6, c7, c8⟩ := box9 hx2
       have HX2 := Lib.hid hx2
       have HB2 := Lib.hid (HB1.out.grown hgrow2 HB1.out.size (fun j hj => by cases hj))
       have HSt2 := Lib.hid (strs_made hown2).1
       clear hx2 hown2 hgrow2)
    | (go_at_call 23
       refine (groups_any S d nd _ _ (HRep.out.alloc HS.out _) (lt_below HS.out (by simp))).mono ?_
       rintro e w1 ⟨rfl, hb1⟩
       rw [HG.out]
       have hx1 := (hb1.block w.heap.size (by simp)).trans (heap_alloc_new w _)
       obtain ⟨c0, c1, c2, c3, c4, c5, c6, c7, c8⟩ := box9 hx1
       have HX1 := Lib.hid hx1
       have HB1 := Lib.hid ((below1 w _).trans (hb1.mono (by simp)))
       clear hx1 hb1))
  go_ret2
  exact ⟨⟨r, w1.heap.size, l', rfl, HB1.out.size, hat5.strs, hat5.ln, hr5⟩, HB4.out.trans hb5⟩
end Go.Proofs.Ytejhffcjamdffaa
