/-
  The contract of the thin package's TreeSimple at a tree that Simplify leaves: the very tree. No conditions beside those typed.
-/
import Derived.Test.YtejhffcjamdffaaNodeOf2
import Derived.Test.YtejhffcjamdffaaSimp1
import Derived.Test.YtejhffcjamdffaaGroupsLaw
namespace Go.Proofs.Ytejhffcjamdffaa
open Go.RowKit

theorem below_drawN {B : Nat} {a w : World} (h : Below B a w) (m : Nat) : Below B a (w.drewN m) := ⟨h.os, h.tape, h.output, h.size, h.block⟩

set_option maxRecDepth 100000 in
set_option maxHeartbeats 4000000 in
theorem treesimple_any (S : Nat → Prop) (d : Nat) (nd : Nd) (cs : List Value) (w : World) (h : Rep w S d nd cs) (hok : OkF d nd) (hsm : SmF d nd) (hS : ∀ b, S b → b < w.heap.size) :
    Calls Try.prog 45 #[.agg cs.toArray] w (NodeOfPost d nd w) := by
  obtain ⟨ro, rc, so, sc, rfl⟩ := rep_form h
  have HRep := Lib.hid h
  have HS := Lib.hid hS
  have HOk := Lib.hid hok
  have HSm := Lib.hid hsm
  clear h hS hok hsm
  go_enter Try.func45, Try.ntmps45
  go_wp2_with (first
    | (go_at_call 55
       refine (treeof_any S d nd _ _ (Rep.keeps (Keeps.of_below (below2 w _ _) HS.out) _ _ _ HRep.out) (lt_below HS.out (by simp; omega))).mono ?_
       rintro e w1 ⟨⟨g, rfl, hrg⟩, hb1⟩
       have hx1 := (hb1.block (w.heap.size + 1) (by simp)).trans (alloc_at (by simp))
       have HX1 := Lib.hid hx1
       have HRg := Lib.hid hrg
       have HB1 := Lib.hid ((below2 w _ _).trans (hb1.mono (by simp; omega)))
       clear hx1 hrg hb1)
    | (go_at_call 75
       refine (simp_any _ d nd g _ HRg.out HOk.out HSm.out).mono ?_
       rintro e w2 ⟨rfl, m, rfl⟩)
    | (go_at_call 74
       refine (nodeof_any _ d nd g _ (Rg.keeps (keeps_draw _ w1 m) _ _ _ HRg.out) HOk.out (fun b hb => hb.2)).mono ?_
       rintro e w3 ⟨⟨cs3, rfl, hrep3⟩, hb3⟩
       obtain ⟨ro3, rc3, so3, sc3, rfl⟩ := hrep3.form
       have hlt1 : w.heap.size + 1 < w1.heap.size := (Array.getElem?_eq_some_iff.1 HX1.out).1
       have hx3 := (hb3.block (w.heap.size + 1) hlt1).trans (((keeps_draw (fun _ => True) w1 m) (w.heap.size + 1) trivial).trans HX1.out)
       obtain ⟨m0, m1, m2, m3, m4, m5, m6, m7, m8⟩ := box9 hx3
       have z0 := frozen_at hx3 0
       have z1 := frozen_at hx3 1
       have z2 := frozen_at hx3 2
       have z3 := frozen_at hx3 3
       have z4 := frozen_at hx3 4
       have z5 := frozen_at hx3 5
       have z6 := frozen_at hx3 6
       have z7 := frozen_at hx3 7
       have z8 := frozen_at hx3 8
       have HRep3 := Lib.hid hrep3
       have HB3 := Lib.hid ((below_drawN HB1.out m).trans (hb3.mono (below_drawN HB1.out m).size))
       have HLt := Lib.hid hlt1
       clear hrep3 hb3 hx3 hlt1))
  refine bodyPost_ret (v := .agg #[.int .i64 nd.op, .bool nd.fold, .bool nd.lazy, .int .i64 nd.mn, .int .i64 nd.mx, .int .i64 nd.cap, .string nd.name, .slice ro3 nd.runes.length rc3, .slice so3 nd.subs.length sc3]) (by simp [results, Try.results45, go_sem, m0, m1, m2, m3, m4, m5, m6, m7, m8]) rfl ⟨⟨_, rfl, ?_⟩, ?_⟩
  · have hsz := HLt.out
    refine Rep.mono (S := fun b => (w1.drewN m).heap.size ≤ b ∧ b < w3.heap.size) (fun b hb => ⟨Nat.le_trans (below_drawN HB1.out m).size hb.1, by simpa [World.setCell] using hb.2⟩) _ _ _ (Rep.keeps ?_ _ _ _ HRep3.out)
    have hlt : ∀ b, (w1.drewN m).heap.size ≤ b ∧ b < w3.heap.size → w.heap.size + 1 ≠ b := fun b hb => by
      have h1 : w.heap.size + 1 < (w1.drewN m).heap.size := hsz
      have := hb.1
      omega
    repeat (refine Keeps.setCell ?_ hlt _)
    exact Keeps.refl _ _
  · repeat (refine Below.setCell ?_ (by simp) _)
    exact HB3.out
end Go.Proofs.Ytejhffcjamdffaa
