/-
  The contract of the thin package's TreeSame at right trees. No conditions beside those typed.
-/
import Derived.Test.YtejhffcjamdffaaEqRg
import Derived.Test.YtejhffcjamdffaaGroupsLaw
import Derived.Deep.RegionHeld3
namespace Go.Proofs.Ytejhffcjamdffaa
open Go.RowKit

set_option maxRecDepth 100000 in
set_option maxHeartbeats 4000000 in
theorem treesame_any (S : Nat → Prop) (d : Nat) (a b : Nd) (ca cb : List Value) (w : World) (h1 : Rep w S d a ca) (h2 : Rep w S d b cb) (k1 : OkF d a) (k2 : OkF d b) (hS : ∀ b, S b → b < w.heap.size) :
    Calls Try.prog 33 #[.agg ca.toArray, .agg cb.toArray] w fun e w' => e = .returned (.bool (eqF d a b)) ∧ Below w.heap.size w w' := by
  obtain ⟨ro, rc, so, sc, rfl⟩ := rep_form h1
  obtain ⟨qo, qc, tt, tc, rfl⟩ := rep_form h2
  have H1 := Lib.hid h1
  have H2 := Lib.hid h2
  have HS := Lib.hid hS
  have K1 := Lib.hid k1
  have K2 := Lib.hid k2
  clear h1 h2 hS k1 k2
  have tok : True := trivial
  go_enter Try.func33, Try.ntmps33
  go_wp2_with fail
  go_region_held3 (fun w' => (w'.cell? ⟨w.heap.size, 0, none⟩ = some (.int .i64 a.op) ∧ w'.cell? ⟨w.heap.size, 1, none⟩ = some (.bool a.fold) ∧ w'.cell? ⟨w.heap.size, 2, none⟩ = some (.bool a.lazy) ∧ w'.cell? ⟨w.heap.size, 3, none⟩ = some (.int .i64 a.mn) ∧ w'.cell? ⟨w.heap.size, 4, none⟩ = some (.int .i64 a.mx) ∧ w'.cell? ⟨w.heap.size, 5, none⟩ = some (.int .i64 a.cap) ∧ w'.cell? ⟨w.heap.size, 6, none⟩ = some (.string a.name) ∧ w'.cell? ⟨w.heap.size, 7, none⟩ = some (.slice ro a.runes.length rc) ∧ w'.cell? ⟨w.heap.size, 8, none⟩ = some (.slice so a.subs.length sc)) ∧
      (w'.cell? ⟨w.heap.size + 1, 0, none⟩ = some (.int .i64 b.op) ∧ w'.cell? ⟨w.heap.size + 1, 1, none⟩ = some (.bool b.fold) ∧ w'.cell? ⟨w.heap.size + 1, 2, none⟩ = some (.bool b.lazy) ∧ w'.cell? ⟨w.heap.size + 1, 3, none⟩ = some (.int .i64 b.mn) ∧ w'.cell? ⟨w.heap.size + 1, 4, none⟩ = some (.int .i64 b.mx) ∧ w'.cell? ⟨w.heap.size + 1, 5, none⟩ = some (.int .i64 b.cap) ∧ w'.cell? ⟨w.heap.size + 1, 6, none⟩ = some (.string b.name) ∧ w'.cell? ⟨w.heap.size + 1, 7, none⟩ = some (.slice qo b.runes.length qc) ∧ w'.cell? ⟨w.heap.size + 1, 8, none⟩ = some (.slice tt b.subs.length tc)))
    (go_keep)
    (first
      | (go_at_call 65
         refine (equal_any (fun b => b < w2.heap.size) d a b g1 g2 _ (Rg.mono (fun b hb => Nat.lt_of_lt_of_le hb.2 HB2.out.size) _ _ _ (Rg.keeps (Keeps.of_below HB2.out (fun b hb => hb.2)) _ _ _ HR1.out)) (Rg.mono (fun b hb => hb.2) _ _ _ HR2.out) K1.out K2.out).mono ?_
         rintro e w3 ⟨rfl, m, rfl⟩)
      | (go_at_call 55
         have _t := tok
         clear _t tok
         refine (treeof_any S d a _ _ (Rep.keeps (Keeps.of_below (below2 w _ _).drew HS.out) _ _ _ H1.out) (lt_below HS.out (by simp <;> omega))).mono ?_
         rintro e w1 ⟨⟨g1, rfl, hr1⟩, hb1⟩
         have hx1 := (hb1.block w.heap.size (by simp <;> omega)).trans (((below1 (w.alloc _) _).block w.heap.size (by simp)).trans (heap_alloc_new w _))
         have hy1 := (hb1.block (w.heap.size + 1) (by simp)).trans (alloc_at (w := w.alloc _) (by simp))
         obtain ⟨c0, c1, c2, c3, c4, c5, c6, c7, c8⟩ := box9 hx1
         obtain ⟨d0, d1, d2, d3, d4, d5, d6, d7, d8⟩ := box9 hy1
         have HX1 := Lib.hid hx1
         have HY1 := Lib.hid hy1
         have HR1 := Lib.hid hr1
         have HB1 : Hid (Below w.heap.size w w1) := (below2 w _ _).drew.trans (hb1.mono (by simp <;> omega))
         clear hx1 hy1 hr1 hb1)
      | (go_at_call 55
         refine (treeof_any S d b _ _ (Rep.keeps (Keeps.of_below HB1.out HS.out) _ _ _ H2.out) (lt_below HS.out HB1.out.size)).mono ?_
         rintro e w2 ⟨⟨g2, rfl, hr2⟩, hb2⟩
         have hx2 := (hb2.block w.heap.size (Array.getElem?_eq_some_iff.1 HX1.out).1).trans HX1.out
         have hy2 := (hb2.block (w.heap.size + 1) (Array.getElem?_eq_some_iff.1 HY1.out).1).trans HY1.out
         clear c0 c1 c2 c3 c4 c5 c6 c7 c8 d0 d1 d2 d3 d4 d5 d6 d7 d8
         obtain ⟨c0, c1, c2, c3, c4, c5, c6, c7, c8⟩ := box9 hx2
         obtain ⟨d0, d1, d2, d3, d4, d5, d6, d7, d8⟩ := box9 hy2
         have HR2 := Lib.hid hr2
         have HB2 := Lib.hid hb2
         clear hx2 hy2 hr2 hb2))
  all_goals
    go_wp2
    go_ret
    exact ⟨rfl, below_drewN (HB1.out.trans (HB2.out.mono HB1.out.size)) _⟩
end Go.Proofs.Ytejhffcjamdffaa
