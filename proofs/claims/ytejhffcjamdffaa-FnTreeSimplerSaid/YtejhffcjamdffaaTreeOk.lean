/-
  The contract of TreeOk. No conditions beside those typed.
-/
import Derived.Test.YtejhffcjamdffaaOf
import Derived.Test.YtejhffcjamdffaaNodeOk
import Derived.Test.YtejhffcjamdffaaExtent
namespace Go.Proofs.Ytejhffcjamdffaa
open Go.RowKit

def TreePost (d : Nat) (nd : Nd) (B : Nat) (w : World) (e : Ending) (w' : World) : Prop := (∃ r : Bool, e = .returned (.bool r) ∧ (r = true → OkF d nd ∧ largeF (d + 1) (ofF d nd) ≤ 500)) ∧ Below B w w'

/-- The nine cells of a node's box. -/
theorem box9 {w : World} {b : Nat} {v0 v1 v2 v3 v4 v5 v6 v7 v8 : Value} {t : TypeId} {fr : Nat × Nat} (h : w.heap[b]? = some (.cells #[v0, v1, v2, v3, v4, v5, v6, v7, v8] t fr)) :
    w.cell? ⟨b, 0, none⟩ = some v0 ∧ w.cell? ⟨b, 1, none⟩ = some v1 ∧ w.cell? ⟨b, 2, none⟩ = some v2 ∧ w.cell? ⟨b, 3, none⟩ = some v3 ∧ w.cell? ⟨b, 4, none⟩ = some v4 ∧ w.cell? ⟨b, 5, none⟩ = some v5 ∧ w.cell? ⟨b, 6, none⟩ = some v6 ∧ w.cell? ⟨b, 7, none⟩ = some v7 ∧ w.cell? ⟨b, 8, none⟩ = some v8 := by
  refine ⟨?_, ?_, ?_, ?_, ?_, ?_, ?_, ?_, ?_⟩ <;> rw [cell_at h] <;> rfl

set_option maxRecDepth 100000 in
set_option maxHeartbeats 4000000 in
theorem treeok_any (S : Nat → Prop) (d : Nat) (nd : Nd) (cs : List Value) (w : World) (h : Rep w S d nd cs) (hS : ∀ b, S b → b < w.heap.size) :
    Calls Try.prog 21 #[.agg cs.toArray] w (TreePost d nd w.heap.size w) := by
  have hcs : ∃ (ro : Option Addr) (rc : Nat) (so : Option Addr) (sc : Nat), cs = [.int .i64 nd.op, .bool nd.fold, .bool nd.lazy, .int .i64 nd.mn, .int .i64 nd.mx, .int .i64 nd.cap, .string nd.name, .slice ro nd.runes.length rc, .slice so nd.subs.length sc] := by
    cases d with
    | zero => cases h
    | succ d => obtain ⟨ro, rc, so, sc, e, _⟩ := h.open; exact ⟨ro, rc, so, sc, e⟩
  obtain ⟨ro, rc, so, sc, rfl⟩ := hcs
  have HRep := Lib.hid h
  have HS := Lib.hid hS
  clear h hS
  go_enter Try.func21, Try.ntmps21
  go_wp2_with (first
    | (go_at_call 52
       refine (extent_any S d nd _ _ (HRep.out.alloc HS.out _) (lt_below HS.out (by simp))).mono ?_
       rintro e w1 ⟨⟨x, y, rfl⟩, hb1⟩
       have hx1 := (hb1.block w.heap.size (by simp)).trans (heap_alloc_new w _)
       obtain ⟨c0, c1, c2, c3, c4, c5, c6, c7, c8⟩ := box9 hx1
       have HX1 := Lib.hid hx1
       have HB1 := Lib.hid ((below1 w _).trans (hb1.mono (by simp)))
       clear hx1 hb1)
    | (go_at_call 53
       refine (nodeok_any S d nd _ _ (Rep.keeps (Keeps.of_below HB1.out HS.out) _ _ _ HRep.out) (lt_below HS.out HB1.out.size)).mono ?_
       rintro e w2 ⟨⟨r, rfl, hr⟩, hb2⟩
       have hx2 := (hb2.block w.heap.size (Array.getElem?_eq_some_iff.1 HX1.out).1).trans HX1.out
       clear c0 c1 c2 c3 c4 c5 c6 c7 c8
       obtain ⟨c0, c1, c2, c3, c4, c5, c6, c7, c8⟩ := box9 hx2
       have HX2 := Lib.hid hx2
       have HB2 := Lib.hid (HB1.out.trans (hb2.mono HB1.out.size))
       have HR := Lib.hid hr
       clear hx2 hb2 hr)
    | (go_at_call 42
       have hok := HR.out (by assumption)
       refine (of_any S d nd _ _ (Rep.keeps (Keeps.of_below HB2.out HS.out) _ _ _ HRep.out) hok (lt_below HS.out HB2.out.size)).mono ?_
       rintro e w3 ⟨⟨cs3, rfl, hrep3⟩, hb3⟩
       obtain ⟨eo, en, ec, neg, lz, cp, what, nm, ao, c, rfl⟩ := hrep3.form
       have HOk := Lib.hid hok
       have HRep3 := Lib.hid hrep3
       have HB3 := Lib.hid (HB2.out.trans (hb3.mono HB2.out.size))
       clear hok hrep3 hb3 c0 c1 c2 c3 c4 c5 c6 c7 c8)
    | (go_at_call 54
       refine (large_any _ (d + 1) (ofF d nd) _ _ HRep3.out (rxb_of d nd HOk.out) (fun b hb => hb.2)).mono ?_
       rintro e w4 ⟨rfl, hb4⟩
       have HB4 := Lib.hid (HB3.out.trans (hb4.mono HB3.out.size))
       clear hb4))
  · go_ret
    exact ⟨⟨_, rfl, fun h => ⟨HOk.out, by simpa using h⟩⟩, HB4.out⟩
  · go_ret
    exact ⟨⟨_, rfl, fun h => by simp at h⟩, HB2.out⟩
  · go_ret
    exact ⟨⟨_, rfl, fun h => by simp at h⟩, HB1.out⟩
  · go_ret
    exact ⟨⟨_, rfl, fun h => by simp at h⟩, HB1.out⟩
end Go.Proofs.Ytejhffcjamdffaa
