/-
  The walk of the law FnTreeSame. No conditions beside those typed.
-/
import Derived.Test.YtejhffcjamdffaaTreeSame
import Derived.Deep.RegionLaw
import Derived.Deep.RegionHeld3
namespace Go.Proofs.Ytejhffcjamdffaa
open Go.RowKit

set_option maxRecDepth 100000 in
set_option maxHeartbeats 8000000 in
theorem law_same (d : Nat) (a b : Nd) (ca cb : List Value) (w : World) (h1 : Rep w (fun b => b < w.heap.size) d a ca) (h2 : Rep w (fun b => b < w.heap.size) d b cb) :
    Calls Try.prog 10 #[.agg ca.toArray, .agg cb.toArray] w fun e w' => e = .returned (.bool true) ∧ Below w.heap.size w w' := by
  obtain ⟨ro, rc, so, sc, rfl⟩ := rep_form h1
  obtain ⟨qo, qc, tt, tc, rfl⟩ := rep_form h2
  have H1 := Lib.hid h1
  have H2 := Lib.hid h2
  clear h1 h2
  have tok1 : True := trivial
  have tok2 : True := trivial
  have tok3 : True := trivial
  go_enter Try.func10, Try.ntmps10
  go_wp2_with (first
    | (go_at_call 20
       have _t := tok1
       clear _t tok1
       refine (fits1_any _ d a _ _ (Rep.keeps (Keeps.of_below (below2 w _ _) (fun _ h => h)) _ _ _ H1.out)).mono ?_
       rintro e w1 ⟨⟨b1, rfl⟩, hb1⟩
       have hx' := (hb1.block w.heap.size (by simp <;> omega)).trans (((below1 (w.alloc _) _).block w.heap.size (by simp)).trans (heap_alloc_new w _))
       have hy' := (hb1.block (w.heap.size + 1) (by simp)).trans (alloc_at (w := w.alloc _) (by simp))
       have hB' : Below w.heap.size w w1 := (below2 w _ _).trans (hb1.mono (by simp <;> omega))
       obtain ⟨c0, c1, c2, c3, c4, c5, c6, c7, c8⟩ := box9 hx'
       obtain ⟨d0, d1, d2, d3, d4, d5, d6, d7, d8⟩ := box9 hy'
       have HX := Lib.hid hx'
       have HY := Lib.hid hy'
       have HB := Lib.hid hB'
       clear hx' hy' hB' hb1)
    | (go_at_call 20
       refine (fits1_any _ d b _ _ (Rep.keeps (Keeps.of_below HB.out (fun _ h => h)) _ _ _ H2.out)).mono ?_
       rintro e w2 ⟨⟨b2, rfl⟩, hb2⟩
       have hx' := (hb2.block w.heap.size (Array.getElem?_eq_some_iff.1 HX.out).1).trans HX.out
       have hy' := (hb2.block (w.heap.size + 1) (Array.getElem?_eq_some_iff.1 HY.out).1).trans HY.out
       have hB' := HB.out.trans (hb2.mono HB.out.size)
       clear c0 c1 c2 c3 c4 c5 c6 c7 c8 d0 d1 d2 d3 d4 d5 d6 d7 d8 HX HY HB
       obtain ⟨c0, c1, c2, c3, c4, c5, c6, c7, c8⟩ := box9 hx'
       obtain ⟨d0, d1, d2, d3, d4, d5, d6, d7, d8⟩ := box9 hy'
       have HX := Lib.hid hx'
       have HY := Lib.hid hy'
       have HB := Lib.hid hB'
       clear hx' hy' hB' hb2)
    | (go_at_call 21
       have _t := tok2
       clear _t tok2
       refine (treeok_any _ d a _ _ (Rep.keeps (Keeps.of_below HB.out (fun _ h => h)) _ _ _ H1.out) (lt_below (fun _ h => h) HB.out.size)).mono ?_
       rintro e w3 ⟨⟨r1, rfl, hr1⟩, hb3⟩
       have HR1 := Lib.hid hr1
       clear hr1
       have hx' := (hb3.block w.heap.size (Array.getElem?_eq_some_iff.1 HX.out).1).trans HX.out
       have hy' := (hb3.block (w.heap.size + 1) (Array.getElem?_eq_some_iff.1 HY.out).1).trans HY.out
       have hB' := HB.out.trans (hb3.mono HB.out.size)
       clear c0 c1 c2 c3 c4 c5 c6 c7 c8 d0 d1 d2 d3 d4 d5 d6 d7 d8 HX HY HB
       obtain ⟨c0, c1, c2, c3, c4, c5, c6, c7, c8⟩ := box9 hx'
       obtain ⟨d0, d1, d2, d3, d4, d5, d6, d7, d8⟩ := box9 hy'
       have HX := Lib.hid hx'
       have HY := Lib.hid hy'
       have HB := Lib.hid hB'
       clear hx' hy' hB' hb3)
    | (go_at_call 21
       refine (treeok_any _ d b _ _ (Rep.keeps (Keeps.of_below HB.out (fun _ h => h)) _ _ _ H2.out) (lt_below (fun _ h => h) HB.out.size)).mono ?_
       rintro e w4 ⟨⟨r2, rfl, hr2⟩, hb4⟩
       have HR2 := Lib.hid hr2
       clear hr2
       have hx' := (hb4.block w.heap.size (Array.getElem?_eq_some_iff.1 HX.out).1).trans HX.out
       have hy' := (hb4.block (w.heap.size + 1) (Array.getElem?_eq_some_iff.1 HY.out).1).trans HY.out
       have hB' := HB.out.trans (hb4.mono HB.out.size)
       clear c0 c1 c2 c3 c4 c5 c6 c7 c8 d0 d1 d2 d3 d4 d5 d6 d7 d8 HX HY HB
       obtain ⟨c0, c1, c2, c3, c4, c5, c6, c7, c8⟩ := box9 hx'
       obtain ⟨d0, d1, d2, d3, d4, d5, d6, d7, d8⟩ := box9 hy'
       have HX := Lib.hid hx'
       have HY := Lib.hid hy'
       have HB := Lib.hid hB'
       clear hx' hy' hB' hb4)
    | (go_at_call 33
       have _t := tok3
       clear _t tok3
       have k1 : OkF d a := (HR1.out (by simp_all)).1
       have k2 : OkF d b := (HR2.out (by simp_all)).1
       have hc := treesame_any _ d a a _ _ _ (Rep.keeps (Keeps.of_below HB.out (fun _ h => h)) _ _ _ H1.out) (Rep.keeps (Keeps.of_below HB.out (fun _ h => h)) _ _ _ H1.out) k1 k1 (lt_below (fun _ h => h) HB.out.size)
       rw [eq_same d a a k1 k1, same_refl d a k1] at hc
       have K1 := Lib.hid k1
       have K2 := Lib.hid k2
       clear k1 k2
       refine hc.mono ?_
       rintro e w5 ⟨rfl, hb5⟩
       clear hc
       have hx' := (hb5.block w.heap.size (Array.getElem?_eq_some_iff.1 HX.out).1).trans HX.out
       have hy' := (hb5.block (w.heap.size + 1) (Array.getElem?_eq_some_iff.1 HY.out).1).trans HY.out
       have hB' := HB.out.trans (hb5.mono HB.out.size)
       clear c0 c1 c2 c3 c4 c5 c6 c7 c8 d0 d1 d2 d3 d4 d5 d6 d7 d8 HX HY HB
       obtain ⟨c0, c1, c2, c3, c4, c5, c6, c7, c8⟩ := box9 hx'
       obtain ⟨d0, d1, d2, d3, d4, d5, d6, d7, d8⟩ := box9 hy'
       have HX := Lib.hid hx'
       have HY := Lib.hid hy'
       have HB := Lib.hid hB'
       clear hx' hy' hB' hb5)
    | (go_at_call 33
       have hc := treesame_any _ d b b _ _ _ (Rep.keeps (Keeps.of_below HB.out (fun _ h => h)) _ _ _ H2.out) (Rep.keeps (Keeps.of_below HB.out (fun _ h => h)) _ _ _ H2.out) K2.out K2.out (lt_below (fun _ h => h) HB.out.size)
       rw [eq_same d b b K2.out K2.out, same_refl d b K2.out] at hc
       refine hc.mono ?_
       rintro e w6 ⟨rfl, hb6⟩
       clear hc
       have hx' := (hb6.block w.heap.size (Array.getElem?_eq_some_iff.1 HX.out).1).trans HX.out
       have hy' := (hb6.block (w.heap.size + 1) (Array.getElem?_eq_some_iff.1 HY.out).1).trans HY.out
       have hB' := HB.out.trans (hb6.mono HB.out.size)
       clear c0 c1 c2 c3 c4 c5 c6 c7 c8 d0 d1 d2 d3 d4 d5 d6 d7 d8 HX HY HB
       obtain ⟨c0, c1, c2, c3, c4, c5, c6, c7, c8⟩ := box9 hx'
       obtain ⟨d0, d1, d2, d3, d4, d5, d6, d7, d8⟩ := box9 hy'
       have HX := Lib.hid hx'
       have HY := Lib.hid hy'
       have HB := Lib.hid hB'
       clear hx' hy' hB' hb6))
  · go_ret
    exact ⟨rfl, HB.out⟩
  · go_ret
    exact ⟨rfl, HB.out⟩
  · rename_i K0 hK0
    have HK := eq_same d a b K1.out K2.out
    have HEq := Lib.hid HK
    clear HK
    obtain ⟨sm, hs⟩ : ∃ sm, sameF d a b = sm := ⟨_, rfl⟩
    have HG := Lib.hid hs
    have HE : Hid (eqF d a b = sm) := HEq.out.trans HG.out
    clear hs HEq
    have tok4 : True := trivial
    obtain ⟨fa, hfa⟩ : ∃ fa, foldF d a = fa := ⟨_, rfl⟩
    obtain ⟨fb, hfb⟩ : ∃ fb, foldF d b = fb := ⟨_, rfl⟩
    have HFa := Lib.hid hfa
    have HFb := Lib.hid hfb
    clear hfa hfb
    cases fa
    · cases fb
      · as_aux_lemma =>
        go_region_held3 (fun w' => (w'.cell? ⟨w.heap.size, 0, none⟩ = some (.int .i64 a.op) ∧ w'.cell? ⟨w.heap.size, 1, none⟩ = some (.bool a.fold) ∧ w'.cell? ⟨w.heap.size, 2, none⟩ = some (.bool a.lazy) ∧ w'.cell? ⟨w.heap.size, 3, none⟩ = some (.int .i64 a.mn) ∧ w'.cell? ⟨w.heap.size, 4, none⟩ = some (.int .i64 a.mx) ∧ w'.cell? ⟨w.heap.size, 5, none⟩ = some (.int .i64 a.cap) ∧ w'.cell? ⟨w.heap.size, 6, none⟩ = some (.string a.name) ∧ w'.cell? ⟨w.heap.size, 7, none⟩ = some (.slice ro a.runes.length rc) ∧ w'.cell? ⟨w.heap.size, 8, none⟩ = some (.slice so a.subs.length sc)) ∧
          (w'.cell? ⟨w.heap.size + 1, 0, none⟩ = some (.int .i64 b.op) ∧ w'.cell? ⟨w.heap.size + 1, 1, none⟩ = some (.bool b.fold) ∧ w'.cell? ⟨w.heap.size + 1, 2, none⟩ = some (.bool b.lazy) ∧ w'.cell? ⟨w.heap.size + 1, 3, none⟩ = some (.int .i64 b.mn) ∧ w'.cell? ⟨w.heap.size + 1, 4, none⟩ = some (.int .i64 b.mx) ∧ w'.cell? ⟨w.heap.size + 1, 5, none⟩ = some (.int .i64 b.cap) ∧ w'.cell? ⟨w.heap.size + 1, 6, none⟩ = some (.string b.name) ∧ w'.cell? ⟨w.heap.size + 1, 7, none⟩ = some (.slice qo b.runes.length qc) ∧ w'.cell? ⟨w.heap.size + 1, 8, none⟩ = some (.slice tt b.subs.length tc)))
          (go_keep)
          (first
            | (go_at_call 34
               have _t := tok4
               clear _t tok4
               have hc := folding_any _ d a _ _ (Rep.keeps (Keeps.of_below HB.out.drew (fun _ h => h)) _ _ _ H1.out) (lt_below (fun _ h => h) HB.out.drew.size)
               rw [HFa.out] at hc
               refine hc.mono ?_
               rintro e w7 ⟨rfl, hb7⟩
               clear hc
               have hx' := (hb7.block w.heap.size (Array.getElem?_eq_some_iff.1 HX.out).1).trans HX.out
               have hy' := (hb7.block (w.heap.size + 1) (Array.getElem?_eq_some_iff.1 HY.out).1).trans HY.out
               have hB' := HB.out.drew.trans (hb7.mono HB.out.drew.size)
               clear c0 c1 c2 c3 c4 c5 c6 c7 c8 d0 d1 d2 d3 d4 d5 d6 d7 d8 HX HY HB
               obtain ⟨c0, c1, c2, c3, c4, c5, c6, c7, c8⟩ := box9 hx'
               obtain ⟨d0, d1, d2, d3, d4, d5, d6, d7, d8⟩ := box9 hy'
               have HX := Lib.hid hx'
               have HY := Lib.hid hy'
               have HB := Lib.hid hB'
               clear hx' hy' hB' hb7)
            | (go_at_call 34
               have hc := folding_any _ d b _ _ (Rep.keeps (Keeps.of_below HB.out (fun _ h => h)) _ _ _ H2.out) (lt_below (fun _ h => h) HB.out.size)
               rw [HFb.out] at hc
               refine hc.mono ?_
               rintro e w8 ⟨rfl, hb8⟩
               clear hc
               have hx' := (hb8.block w.heap.size (Array.getElem?_eq_some_iff.1 HX.out).1).trans HX.out
               have hy' := (hb8.block (w.heap.size + 1) (Array.getElem?_eq_some_iff.1 HY.out).1).trans HY.out
               have hB' := HB.out.trans (hb8.mono HB.out.size)
               clear c0 c1 c2 c3 c4 c5 c6 c7 c8 d0 d1 d2 d3 d4 d5 d6 d7 d8 HX HY HB
               obtain ⟨c0, c1, c2, c3, c4, c5, c6, c7, c8⟩ := box9 hx'
               obtain ⟨d0, d1, d2, d3, d4, d5, d6, d7, d8⟩ := box9 hy'
               have HX := Lib.hid hx'
               have HY := Lib.hid hy'
               have HB := Lib.hid hB'
               clear hx' hy' hB' hb8)
            | (go_at_call 33
               have hc := treesame_any _ d a b _ _ _ (Rep.keeps (Keeps.of_below HB.out (fun _ h => h)) _ _ _ H1.out) (Rep.keeps (Keeps.of_below HB.out (fun _ h => h)) _ _ _ H2.out) K1.out K2.out (lt_below (fun _ h => h) HB.out.size)
               rw [HE.out] at hc
               refine hc.mono ?_
               rintro e w9 ⟨rfl, hb9⟩
               clear hc
               have hx' := (hb9.block w.heap.size (Array.getElem?_eq_some_iff.1 HX.out).1).trans HX.out
               have hy' := (hb9.block (w.heap.size + 1) (Array.getElem?_eq_some_iff.1 HY.out).1).trans HY.out
               have hB' := HB.out.trans (hb9.mono HB.out.size)
               clear c0 c1 c2 c3 c4 c5 c6 c7 c8 d0 d1 d2 d3 d4 d5 d6 d7 d8 HX HY HB
               obtain ⟨c0, c1, c2, c3, c4, c5, c6, c7, c8⟩ := box9 hx'
               obtain ⟨d0, d1, d2, d3, d4, d5, d6, d7, d8⟩ := box9 hy'
               have HX := Lib.hid hx'
               have HY := Lib.hid hy'
               have HB := Lib.hid hB'
               clear hx' hy' hB' hb9)
            | (go_at_call 35
               have hc := same_any _ d a b _ _ _ (Rep.keeps (Keeps.of_below HB.out (fun _ h => h)) _ _ _ H1.out) (Rep.keeps (Keeps.of_below HB.out (fun _ h => h)) _ _ _ H2.out) (lt_below (fun _ h => h) HB.out.size)
               rw [HG.out] at hc
               refine hc.mono ?_
               rintro e w10 ⟨rfl, hb10⟩
               clear hc
               have hx' := (hb10.block w.heap.size (Array.getElem?_eq_some_iff.1 HX.out).1).trans HX.out
               have hy' := (hb10.block (w.heap.size + 1) (Array.getElem?_eq_some_iff.1 HY.out).1).trans HY.out
               have hB' := HB.out.trans (hb10.mono HB.out.size)
               clear c0 c1 c2 c3 c4 c5 c6 c7 c8 d0 d1 d2 d3 d4 d5 d6 d7 d8 HX HY HB
               obtain ⟨c0, c1, c2, c3, c4, c5, c6, c7, c8⟩ := box9 hx'
               obtain ⟨d0, d1, d2, d3, d4, d5, d6, d7, d8⟩ := box9 hy'
               have HX := Lib.hid hx'
               have HY := Lib.hid hy'
               have HB := Lib.hid hB'
               clear hx' hy' hB' hb10))
        all_goals
          go_wp2
          go_ret
          exact ⟨rfl, HB.out⟩
      · go_region_law (first
            | (go_simp
               go_at_call 34
               have _t := tok4
               clear _t tok4
               have hc := folding_any _ d a _ _ (Rep.keeps (Keeps.of_below HB.out.drew (fun _ h => h)) _ _ _ H1.out) (lt_below (fun _ h => h) HB.out.drew.size)
               rw [HFa.out] at hc
               refine hc.mono ?_
               rintro e w7 ⟨rfl, hb7⟩
               clear hc
               have hx' := (hb7.block w.heap.size (Array.getElem?_eq_some_iff.1 HX.out).1).trans HX.out
               have hy' := (hb7.block (w.heap.size + 1) (Array.getElem?_eq_some_iff.1 HY.out).1).trans HY.out
               have hB' := HB.out.drew.trans (hb7.mono HB.out.drew.size)
               clear c0 c1 c2 c3 c4 c5 c6 c7 c8 d0 d1 d2 d3 d4 d5 d6 d7 d8 HX HY HB
               obtain ⟨c0, c1, c2, c3, c4, c5, c6, c7, c8⟩ := box9 hx'
               obtain ⟨d0, d1, d2, d3, d4, d5, d6, d7, d8⟩ := box9 hy'
               have HX := Lib.hid hx'
               have HY := Lib.hid hy'
               have HB := Lib.hid hB'
               clear hx' hy' hB' hb7)
            | (go_simp
               go_at_call 34
               have hc := folding_any _ d b _ _ (Rep.keeps (Keeps.of_below HB.out (fun _ h => h)) _ _ _ H2.out) (lt_below (fun _ h => h) HB.out.size)
               rw [HFb.out] at hc
               refine hc.mono ?_
               rintro e w8 ⟨rfl, hb8⟩
               clear hc
               have hx' := (hb8.block w.heap.size (Array.getElem?_eq_some_iff.1 HX.out).1).trans HX.out
               have hy' := (hb8.block (w.heap.size + 1) (Array.getElem?_eq_some_iff.1 HY.out).1).trans HY.out
               have hB' := HB.out.trans (hb8.mono HB.out.size)
               clear c0 c1 c2 c3 c4 c5 c6 c7 c8 d0 d1 d2 d3 d4 d5 d6 d7 d8 HX HY HB
               obtain ⟨c0, c1, c2, c3, c4, c5, c6, c7, c8⟩ := box9 hx'
               obtain ⟨d0, d1, d2, d3, d4, d5, d6, d7, d8⟩ := box9 hy'
               have HX := Lib.hid hx'
               have HY := Lib.hid hy'
               have HB := Lib.hid hB'
               clear hx' hy' hB' hb8
               suffices hX : wpAny Try.prog Region.Mode.any #[] (fun _ _ _ => Hid True) 0 #[] ⟨#[], []⟩ w by
                 clear hX
                 go_simp
                 rename_i K hK
                 refine hK _ _ ?_
                 refine wpAny_take (i := 5) (v := .bool true) rfl (by kernel_rfl) (by kernel_rfl) (by kernel_rfl) (fun _ _ _ h => h) (Or.inl ⟨by rfl, ?_⟩) ?_
                 · intro w; go_simp
                 refine wpAny_take (i := 6) (v := .bool true) rfl (by kernel_rfl) (by kernel_rfl) (by kernel_rfl) (fun _ _ _ h => h) (Or.inl ⟨by rfl, ?_⟩) ?_
                 · intro w; go_simp
                 refine wpAny_take (i := 7) (v := undef) rfl (by kernel_rfl) (by kernel_rfl) (by kernel_rfl) (fun _ _ _ h => h) (Or.inr ⟨?_, rfl⟩) ?_
                 · simp [Region.wanted, yielded, Act.put]
                 refine wpAny_take (i := 8) (v := undef) rfl (by kernel_rfl) (by kernel_rfl) (by kernel_rfl) (fun _ _ _ h => h) (Or.inr ⟨?_, rfl⟩) ?_
                 · simp [Region.wanted, yielded, Act.put]
                 refine wpAny_take (i := 9) (v := undef) rfl (by kernel_rfl) (by kernel_rfl) (by kernel_rfl) (fun _ _ _ h => h) (Or.inr ⟨?_, rfl⟩) ?_
                 · simp [Region.wanted, yielded, Act.put]
                 refine wpAny_take (i := 10) (v := undef) rfl (by kernel_rfl) (by kernel_rfl) (by kernel_rfl) (fun _ _ _ h => h) (Or.inr ⟨?_, rfl⟩) ?_
                 · simp [Region.wanted, yielded, Act.put]
                 refine wpAny_take (i := 11) (v := undef) rfl (by kernel_rfl) (by kernel_rfl) (by kernel_rfl) (fun _ _ _ h => h) (Or.inr ⟨?_, rfl⟩) ?_
                 · simp [Region.wanted, yielded, Act.put]
                 refine wpAny_take (i := 12) (v := undef) rfl (by kernel_rfl) (by kernel_rfl) (by kernel_rfl) (fun _ _ _ h => h) (Or.inr ⟨?_, rfl⟩) ?_
                 · simp [Region.wanted, yielded, Act.put]
                 refine wpAny_take (i := 13) (v := undef) rfl (by kernel_rfl) (by kernel_rfl) (by kernel_rfl) (fun _ _ _ h => h) (Or.inr ⟨?_, rfl⟩) ?_
                 · simp [Region.wanted, yielded, Act.put]
                 refine wpAny_take (i := 14) (v := .bool true) rfl (by kernel_rfl) (by kernel_rfl) (by kernel_rfl) (fun _ _ _ h => h) (Or.inl ⟨by rfl, ?_⟩) ?_
                 · intro w; go_simp
                 refine wpAny_take (i := 15) (v := .bool true) rfl (by kernel_rfl) (by kernel_rfl) (by kernel_rfl) (fun _ _ _ h => h) (Or.inl ⟨by rfl, ?_⟩) ?_
                 · intro w; go_simp
                 refine wpAny_done (by kernel_rfl) ?_ _
                 go_simp
                 refine hK0 _ _ ?_
                 go_wp2
                 go_ret
                 exact ⟨rfl, HB.out⟩))
        all_goals exact trivial
    · go_region_law (first
          | (go_simp
             go_at_call 34
             have _t := tok4
             clear _t tok4
             have hc := folding_any _ d a _ _ (Rep.keeps (Keeps.of_below HB.out.drew (fun _ h => h)) _ _ _ H1.out) (lt_below (fun _ h => h) HB.out.drew.size)
             rw [HFa.out] at hc
             refine hc.mono ?_
             rintro e w7 ⟨rfl, hb7⟩
             clear hc
             have hx' := (hb7.block w.heap.size (Array.getElem?_eq_some_iff.1 HX.out).1).trans HX.out
             have hy' := (hb7.block (w.heap.size + 1) (Array.getElem?_eq_some_iff.1 HY.out).1).trans HY.out
             have hB' := HB.out.drew.trans (hb7.mono HB.out.drew.size)
             clear c0 c1 c2 c3 c4 c5 c6 c7 c8 d0 d1 d2 d3 d4 d5 d6 d7 d8 HX HY HB
             obtain ⟨c0, c1, c2, c3, c4, c5, c6, c7, c8⟩ := box9 hx'
             obtain ⟨d0, d1, d2, d3, d4, d5, d6, d7, d8⟩ := box9 hy'
             have HX := Lib.hid hx'
             have HY := Lib.hid hy'
             have HB := Lib.hid hB'
             clear hx' hy' hB' hb7
             suffices hX : wpAny Try.prog Region.Mode.any #[] (fun _ _ _ => Hid True) 0 #[] ⟨#[], []⟩ w by
               clear hX
               go_simp
               rename_i K hK
               refine hK _ _ ?_
               refine wpAny_take (i := 2) (v := .bool true) rfl (by kernel_rfl) (by kernel_rfl) (by kernel_rfl) (fun _ _ _ h => h) (Or.inl ⟨by rfl, ?_⟩) ?_
               · intro w; go_simp
               refine wpAny_take (i := 3) (v := undef) rfl (by kernel_rfl) (by kernel_rfl) (by kernel_rfl) (fun _ _ _ h => h) (Or.inr ⟨?_, rfl⟩) ?_
               · simp [Region.wanted, yielded, Act.put]
               refine wpAny_take (i := 4) (v := undef) rfl (by kernel_rfl) (by kernel_rfl) (by kernel_rfl) (fun _ _ _ h => h) (Or.inr ⟨?_, rfl⟩) ?_
               · simp [Region.wanted, yielded, Act.put]
               refine wpAny_take (i := 5) (v := .bool true) rfl (by kernel_rfl) (by kernel_rfl) (by kernel_rfl) (fun _ _ _ h => h) (Or.inl ⟨by rfl, ?_⟩) ?_
               · intro w; go_simp
               refine wpAny_take (i := 6) (v := .bool true) rfl (by kernel_rfl) (by kernel_rfl) (by kernel_rfl) (fun _ _ _ h => h) (Or.inl ⟨by rfl, ?_⟩) ?_
               · intro w; go_simp
               refine wpAny_take (i := 7) (v := undef) rfl (by kernel_rfl) (by kernel_rfl) (by kernel_rfl) (fun _ _ _ h => h) (Or.inr ⟨?_, rfl⟩) ?_
               · simp [Region.wanted, yielded, Act.put]
               refine wpAny_take (i := 8) (v := undef) rfl (by kernel_rfl) (by kernel_rfl) (by kernel_rfl) (fun _ _ _ h => h) (Or.inr ⟨?_, rfl⟩) ?_
               · simp [Region.wanted, yielded, Act.put]
               refine wpAny_take (i := 9) (v := undef) rfl (by kernel_rfl) (by kernel_rfl) (by kernel_rfl) (fun _ _ _ h => h) (Or.inr ⟨?_, rfl⟩) ?_
               · simp [Region.wanted, yielded, Act.put]
               refine wpAny_take (i := 10) (v := undef) rfl (by kernel_rfl) (by kernel_rfl) (by kernel_rfl) (fun _ _ _ h => h) (Or.inr ⟨?_, rfl⟩) ?_
               · simp [Region.wanted, yielded, Act.put]
               refine wpAny_take (i := 11) (v := undef) rfl (by kernel_rfl) (by kernel_rfl) (by kernel_rfl) (fun _ _ _ h => h) (Or.inr ⟨?_, rfl⟩) ?_
               · simp [Region.wanted, yielded, Act.put]
               refine wpAny_take (i := 12) (v := undef) rfl (by kernel_rfl) (by kernel_rfl) (by kernel_rfl) (fun _ _ _ h => h) (Or.inr ⟨?_, rfl⟩) ?_
               · simp [Region.wanted, yielded, Act.put]
               refine wpAny_take (i := 13) (v := undef) rfl (by kernel_rfl) (by kernel_rfl) (by kernel_rfl) (fun _ _ _ h => h) (Or.inr ⟨?_, rfl⟩) ?_
               · simp [Region.wanted, yielded, Act.put]
               refine wpAny_take (i := 14) (v := .bool true) rfl (by kernel_rfl) (by kernel_rfl) (by kernel_rfl) (fun _ _ _ h => h) (Or.inl ⟨by rfl, ?_⟩) ?_
               · intro w; go_simp
               refine wpAny_take (i := 15) (v := .bool true) rfl (by kernel_rfl) (by kernel_rfl) (by kernel_rfl) (fun _ _ _ h => h) (Or.inl ⟨by rfl, ?_⟩) ?_
               · intro w; go_simp
               refine wpAny_done (by kernel_rfl) ?_ _
               go_simp
               refine hK0 _ _ ?_
               go_wp2
               go_ret
               exact ⟨rfl, HB.out⟩))
      all_goals exact trivial
  · go_ret
    exact ⟨rfl, HB.out⟩
  · go_ret
    exact ⟨rfl, HB.out⟩
end Go.Proofs.Ytejhffcjamdffaa
