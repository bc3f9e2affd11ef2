/-
  The walk of the law FnTreeSimpler. No conditions beside those typed.
-/
import Derived.Test.YtejhffcjamdffaaTreeSimple
import Derived.Test.YtejhffcjamdffaaVoid
import Derived.Test.YtejhffcjamdffaaDeep
import Derived.Test.YtejhffcjamdffaaSameTree2
import Derived.Test.YtejhffcjamdffaaSame
namespace Go.Proofs.Ytejhffcjamdffaa
open Go.RowKit

set_option maxRecDepth 100000 in
set_option maxHeartbeats 8000000 in
theorem law_simpler (d : Nat) (nd : Nd) (cs : List Value) (w : World) (h : Rep w (fun b => b < w.heap.size) d nd cs) :
    Calls Try.prog 13 #[.agg cs.toArray] w fun e w' => e = .returned (.bool true) ∧ Below w.heap.size w w' := by
  obtain ⟨ro, rc, so, sc, rfl⟩ := rep_form h
  have HRep := Lib.hid h
  clear h
  have tok : Hid True := trivial
  go_enter Try.func13, Try.ntmps13
  go_wp2_with (first
    | (go_at_call 20
       refine (fits1_any _ d nd _ _ (HRep.out.alloc (fun b h => h) _)).mono ?_
       rintro e w1 ⟨⟨b0, rfl⟩, hb1⟩
       have hx1 := (hb1.block w.heap.size (by simp)).trans (heap_alloc_new w _)
       obtain ⟨c0, c1, c2, c3, c4, c5, c6, c7, c8⟩ := box9 hx1
       have HX1 := Lib.hid hx1
       have HB1 := Lib.hid ((below1 w _).trans (hb1.mono (by simp)))
       clear hx1 hb1)
    | (go_at_call 21
       refine (treeok_any _ d nd _ _ (Rep.keeps (Keeps.of_below HB1.out (fun _ h => h)) _ _ _ HRep.out) (lt_below (fun _ h => h) HB1.out.size)).mono ?_
       rintro e w2 ⟨⟨r, rfl, hr⟩, hb2⟩
       have hx2 := (hb2.block w.heap.size (Array.getElem?_eq_some_iff.1 HX1.out).1).trans HX1.out
       clear c0 c1 c2 c3 c4 c5 c6 c7 c8
       obtain ⟨c0, c1, c2, c3, c4, c5, c6, c7, c8⟩ := box9 hx2
       have HX2 := Lib.hid hx2
       have HB2 := Lib.hid (HB1.out.trans (hb2.mono HB1.out.size))
       have HR := Lib.hid hr
       clear hx2 hb2 hr)
    | (go_at_call 42
       have _t := tok
       clear _t tok
       have hok := HR.out (by simp_all)
       refine (of_any _ d nd _ _ (Rep.keeps (Keeps.of_below HB2.out (fun _ h => h)) _ _ _ HRep.out) hok.1 (lt_below (fun _ h => h) HB2.out.size)).mono ?_
       rintro e w3 ⟨⟨cs3, rfl, hrep3⟩, hb3⟩
       obtain ⟨eo, en, ec, neg, lz, cp, what, nm, ao, c, rfl⟩ := hrep3.form
       have hx3 := (hb3.block w.heap.size (Array.getElem?_eq_some_iff.1 HX2.out).1).trans HX2.out
       clear c0 c1 c2 c3 c4 c5 c6 c7 c8
       obtain ⟨c0, c1, c2, c3, c4, c5, c6, c7, c8⟩ := box9 hx3
       have HX3 := Lib.hid hx3
       have HB3 := Lib.hid (HB2.out.trans (hb3.mono HB2.out.size))
       have HOk := Lib.hid hok
       have HRep3 := Lib.hid hrep3
       clear hx3 hb3 hok hrep3)
    | (go_at_call 41
       refine (deep_any _ (d + 1) (ofF d nd) _ _ HRep3.out (by have h1 := HOk.out.2; have h2 := deep_large (d + 1) (ofF d nd) (by omega); omega) (fun b hb => hb.2)).mono ?_
       rintro e w4 ⟨rfl, hb4⟩
       have hx4 := (hb4.block w.heap.size (Array.getElem?_eq_some_iff.1 HX3.out).1).trans HX3.out
       clear c0 c1 c2 c3 c4 c5 c6 c7 c8
       obtain ⟨c0, c1, c2, c3, c4, c5, c6, c7, c8⟩ := box9 hx4
       have HX4 := Lib.hid hx4
       have HB4 := Lib.hid (HB3.out.trans (hb4.mono HB3.out.size))
       clear hx4 hb4)
    | (go_at_call 43
       refine (counted_any _ d nd _ _ (Rep.keeps (Keeps.of_below HB4.out (fun _ h => h)) _ _ _ HRep.out) (lt_below (fun _ h => h) HB4.out.size)).mono ?_
       rintro e w5 ⟨rfl, hb5⟩
       have hx5 := (hb5.block w.heap.size (Array.getElem?_eq_some_iff.1 HX4.out).1).trans HX4.out
       clear c0 c1 c2 c3 c4 c5 c6 c7 c8
       obtain ⟨c0, c1, c2, c3, c4, c5, c6, c7, c8⟩ := box9 hx5
       have HX5 := Lib.hid hx5
       have HB5 := Lib.hid (HB4.out.trans (hb5.mono HB4.out.size))
       clear hx5 hb5)
    | (go_at_call 42
       refine (of_any _ d nd _ _ (Rep.keeps (Keeps.of_below HB5.out (fun _ h => h)) _ _ _ HRep.out) HOk.out.1 (lt_below (fun _ h => h) HB5.out.size)).mono ?_
       rintro e w6 ⟨⟨cs6, rfl, hrep6⟩, hb6⟩
       obtain ⟨eo6, en6, ec6, neg6, lz6, cp6, what6, nm6, ao6, k6, rfl⟩ := hrep6.form
       have hx6 := (hb6.block w.heap.size (Array.getElem?_eq_some_iff.1 HX5.out).1).trans HX5.out
       clear c0 c1 c2 c3 c4 c5 c6 c7 c8
       obtain ⟨c0, c1, c2, c3, c4, c5, c6, c7, c8⟩ := box9 hx6
       have HX6 := Lib.hid hx6
       have HB6 := Lib.hid (HB5.out.trans (hb6.mono HB5.out.size))
       have HRep6 := Lib.hid hrep6
       clear hx6 hb6 hrep6)
    | (go_at_call 44
       refine (plain_any _ (d + 1) (ofF d nd) _ _ HRep6.out (one_of_ok d nd HOk.out.1) (fun b hb => hb.2)).mono ?_
       rintro e w7 ⟨rfl, hb7⟩
       have hx7 := (hb7.block w.heap.size (Array.getElem?_eq_some_iff.1 HX6.out).1).trans HX6.out
       clear c0 c1 c2 c3 c4 c5 c6 c7 c8
       obtain ⟨c0, c1, c2, c3, c4, c5, c6, c7, c8⟩ := box9 hx7
       have HX7 := Lib.hid hx7
       have HB7 := Lib.hid (HB6.out.trans (hb7.mono HB6.out.size))
       clear hx7 hb7))
  · go_ret
    exact ⟨rfl, HB1.out⟩
  · go_ret
    exact ⟨rfl, HB5.out⟩
  · go_ret
    exact ⟨rfl, HB7.out⟩
  · rename_i hc hdp K hK
    have hsm : SmF d nd := sm_of d nd HOk.out.1 (by simpa using hc) hdp.1 (plain_of (d + 1) _ (one_of_ok d nd HOk.out.1) (by simpa using hdp.2))
    have HSm := Lib.hid hsm
    have HTrue := Lib.hid (same_refl d nd HOk.out.1)
    clear hsm hc hdp HRep3 HRep6 HR
    go_region_law (first
      | (go_simp
         go_at_call 45
         refine (treesimple_any _ d nd _ _ (Rep.keeps (Keeps.of_below HB7.out.drew (fun _ h => h)) _ _ _ HRep.out) HOk.out.1 HSm.out (lt_below (fun _ h => h) HB7.out.drew.size)).mono ?_
         rintro e w8 ⟨⟨cs8, rfl, hrep8⟩, hb8⟩
         obtain ⟨ro8, rc8, so8, sc8, rfl⟩ := rep_form hrep8
         have hx8 := (hb8.block w.heap.size (Array.getElem?_eq_some_iff.1 HX7.out).1).trans HX7.out
         clear c0 c1 c2 c3 c4 c5 c6 c7 c8
         obtain ⟨c0, c1, c2, c3, c4, c5, c6, c7, c8⟩ := box9 hx8
         have HB8 := Lib.hid (HB7.out.drew.trans (hb8.mono HB7.out.drew.size))
         have HRep8 := Lib.hid hrep8
         clear hx8 hb8 hrep8)
      | (go_simp
         go_at_call 35
         refine (same_any (fun b => b < w8.heap.size) d nd nd _ _ _ (Rep.mono (fun b hb => hb.2) _ _ _ HRep8.out) (Rep.mono (lt_below (fun _ h => h) HB8.out.size) _ _ _ (Rep.keeps (Keeps.of_below HB8.out (fun _ h => h)) _ _ _ HRep.out)) (fun b h => h)).mono ?_
         rintro e w9 ⟨rfl, hb9⟩
         rw [HTrue.out]
         have HB9 := Lib.hid (HB8.out.trans (hb9.mono HB8.out.size))
         clear hb9 HB8))
    all_goals
      go_wp2
      go_ret
      exact ⟨rfl, HB9.out⟩
  · go_ret
    exact ⟨rfl, HB4.out⟩
  · go_ret
    exact ⟨rfl, HB2.out⟩
end Go.Proofs.Ytejhffcjamdffaa
