/-
  The contract of the thin package's TreeNames; the walk of the law FnTreeNames. No conditions beside those typed.
-/
import Derived.Test.YtejhffcjamdffaaNamesOf
namespace Go.Proofs.Ytejhffcjamdffaa
open Go.RowKit

set_option maxRecDepth 100000 in
set_option maxHeartbeats 4000000 in
theorem treenames_any (S : Nat → Prop) (d : Nat) (nd : Nd) (cs : List Value) (w : World) (h : Rep w S d nd cs) (hok : OkF d nd) (hS : ∀ b, S b → b < w.heap.size) (n : Nat) (hn : groupsF d nd + 1 = (n : Int)) :
    Calls Try.prog 32 #[.agg cs.toArray] w fun e w' => (∃ v', e = .returned v' ∧ w'.ownsRow w.heap.size 9 1 v' n ((namesF d nd (List.replicate n ByteArray.empty)).map Value.string)) ∧ Below w.heap.size w w' := by
  obtain ⟨ro, rc, so, sc, rfl⟩ := rep_form h
  have hbd := groups_bd d nd hok
  have HRep := Lib.hid h
  have HS := Lib.hid hS
  have HOk := Lib.hid hok
  have HLen : Hid ((namesF d nd (List.replicate n ByteArray.empty)).length = n) := by rw [namesF_length]; exact List.length_replicate
  clear h hS hok
  go_enter Try.func32, Try.ntmps32
  go_wp2_with (first
    | (go_at_call 55
       refine (treeof_any S d nd _ _ (HRep.out.alloc HS.out _) (lt_below HS.out (by simp))).mono ?_
       rintro e w1 ⟨⟨g, rfl, hrg⟩, hb1⟩
       have HRg := Lib.hid hrg
       have HB1 := Lib.hid ((below1 w _).trans (hb1.mono (by simp)))
       clear hrg hb1)
    | (go_at_call 64
       refine (capnames_call _ d nd _ _ HRg.out HOk.out (fun b hb => hb.2) n hn).mono ?_
       rintro e w2 ⟨⟨b, rfl, hle, hlt, hst⟩, hb2⟩
       have hcall := clone_strs b _ w2 hst (by rw [HLen.out]; omega)
       rw [HLen.out] at hcall
       have HCall := Lib.hid hcall
       have HB2 := Lib.hid (HB1.out.trans (hb2.mono HB1.out.size))
       clear hst hb2 hcall)
    | (go_at_call 63
       refine HCall.out.mono ?_
       rintro e w3 ⟨⟨v', rfl, hown⟩, hb3⟩))
  go_ret
  exact ⟨⟨v', rfl, owns_base hown HB2.out.size⟩, HB2.out.trans (hb3.mono HB2.out.size)⟩

set_option maxRecDepth 100000 in
set_option maxHeartbeats 4000000 in
theorem law_names (d : Nat) (nd : Nd) (cs : List Value) (w : World) (h : Rep w (fun b => b < w.heap.size) d nd cs) :
    Calls Try.prog 9 #[.agg cs.toArray] w fun e w' => e = .returned (.bool true) ∧ Below w.heap.size w w' := by
  obtain ⟨ro, rc, so, sc, rfl⟩ := rep_form h
  have HRep := Lib.hid h
  clear h
  go_enter Try.func9, Try.ntmps9
  go_wp2_with (first
    | (go_at_call 20
       refine (fits1_any _ d nd _ _ (HRep.out.alloc (fun b h => h) _)).mono ?_
       rintro e w1 ⟨⟨b0, rfl⟩, hb1⟩
       have hx1 := (hb1.block w.heap.size (by simp)).trans (heap_alloc_new w _)
       obtain ⟨c0, c1, c2, c3, c4, c5, c6, c7, c8⟩ := box9 hx1
       have HX1 := Lib.hid hx1
       have HB1 := Lib.hid ((below1 w _).trans (hb1.mono (by simp)))
       clear hx1 hb1)
    | (go_at_call 21
       refine (treeok_any _ d nd _ _ (Rep.keeps (Keeps.of_below HB1.out (fun _ h => h)) _ _ _ HRep.out) (lt_below (fun _ h => h) HB1.out.size)).mono ?_
       rintro e w2 ⟨⟨r, rfl, hr⟩, hb2⟩
       have hx2 := (hb2.block w.heap.size (Array.getElem?_eq_some_iff.1 HX1.out).1).trans HX1.out
       clear c0 c1 c2 c3 c4 c5 c6 c7 c8
       obtain ⟨c0, c1, c2, c3, c4, c5, c6, c7, c8⟩ := box9 hx2
       have HX2 := Lib.hid hx2
       have HB2 := Lib.hid (HB1.out.trans (hb2.mono HB1.out.size))
       have HR := Lib.hid hr
       clear hx2 hb2 hr)
    | (go_at_call 30
       have hok := (HR.out (by simp_all)).1
       have hbd := groups_bd d nd hok
       obtain ⟨n, hn⟩ : ∃ n : Nat, groupsF d nd + 1 = (n : Int) := ⟨(groupsF d nd + 1).toNat, by omega⟩
       refine (namesof_any _ d nd _ _ (Rep.keeps (Keeps.of_below HB2.out (fun _ h => h)) _ _ _ HRep.out) hok (lt_below (fun _ h => h) HB2.out.size) n hn).mono ?_
       rintro e w3 ⟨⟨r3, b, l', rfl, hle, hst3, hlen3, hr3⟩, hb3⟩
       have hx3 := (hb3.block w.heap.size (Array.getElem?_eq_some_iff.1 HX2.out).1).trans HX2.out
       clear c0 c1 c2 c3 c4 c5 c6 c7 c8
       obtain ⟨c0, c1, c2, c3, c4, c5, c6, c7, c8⟩ := box9 hx3
       have HX3 := Lib.hid hx3
       have HB3 := Lib.hid (HB2.out.trans (hb3.mono HB2.out.size))
       have HOk := Lib.hid hok
       have HN := Lib.hid hn
       have HBd := Lib.hid hbd
       have HSt3 := Lib.hid hst3
       have HLen3 := Lib.hid hlen3
       have HR3 := Lib.hid hr3
       clear hx3 hb3 hok hn hst3 hlen3 hr3 hbd hle)
    | (go_at_call 32
       refine (treenames_any _ d nd _ _ (Rep.keeps (Keeps.of_below HB3.out (fun _ h => h)) _ _ _ HRep.out) HOk.out (lt_below (fun _ h => h) HB3.out.size) n HN.out).mono ?_
       rintro e w4 ⟨⟨v', rfl, hown4⟩, hb4⟩
       have HOwn4 := Lib.hid hown4
       have HB4 := Lib.hid (HB3.out.trans (hb4.mono HB3.out.size))
       have hst4 : StrsAt w4 b l' := (hb4.block b (Array.getElem?_eq_some_iff.1 HSt3.out).1).trans HSt3.out
       have HSt4 := Lib.hid hst4
       clear hown4 hb4 hst4)
    | (go_at_call 31
       have hwant := HR3.out (by assumption)
       have hn1 : n ≤ 1000 := by have := HN.out; have := HBd.out; omega
       have h1 : RowN w4 1 v' l'.length (l'.map Value.string) := by rw [HLen3.out, hwant]; exact RowN.of_owns HOwn4.out
       have h2 : RowN w4 1 (.slice (some ⟨b, 0, none⟩) n n) l'.length (l'.map Value.string) := by
         refine ⟨by simp, .inr ⟨⟨b, 0, none⟩, n, by rw [HLen3.out], by rw [HLen3.out]; exact Nat.le_refl _, by unfold maxLen; omega, fun j u hu => ?_⟩⟩
         rw [add_at, Nat.zero_add, cell_at HSt4.out, List.getElem?_toArray]
         exact hu
       refine (equal_strs v' _ l' w4 h1 h2 (by rw [HLen3.out]; exact hn1)).mono ?_
       rintro e w5 ⟨rfl, hb5⟩))
  · go_ret
    exact ⟨rfl, HB1.out⟩
  · go_ret
    exact ⟨rfl, HB2.out⟩
  · go_ret
    exact ⟨rfl, HB4.out.trans (hb5.mono HB4.out.size)⟩
  · go_ret
    exact ⟨rfl, HB3.out⟩
end Go.Proofs.Ytejhffcjamdffaa
