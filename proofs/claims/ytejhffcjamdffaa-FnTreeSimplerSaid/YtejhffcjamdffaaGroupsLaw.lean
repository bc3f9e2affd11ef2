/-
  The contract of the thin package's TreeGroups; the walk of the law FnTreeGroups. No conditions beside those typed.
-/
import Derived.Test.YtejhffcjamdffaaTreeOf
import Derived.Test.YtejhffcjamdffaaMaxCap
import Derived.Deep.RegionLaw
namespace Go.Proofs.Ytejhffcjamdffaa
open Go.RowKit

theorem treeof_any (S : Nat → Prop) (d : Nat) : TreeIH S d := by
  induction d with
  | zero => intro nd cs w h; cases h
  | succ d ih => intro nd cs w h hS; exact treeof_step S d (Lib.hid ih) nd cs w h hS

theorem rep_form {w : World} {S : Nat → Prop} {d : Nat} {nd : Nd} {cs : List Value} (h : Rep w S d nd cs) : ∃ (ro : Option Addr) (rc : Nat) (so : Option Addr) (sc : Nat), cs = [.int .i64 nd.op, .bool nd.fold, .bool nd.lazy, .int .i64 nd.mn, .int .i64 nd.mx, .int .i64 nd.cap, .string nd.name, .slice ro nd.runes.length rc, .slice so nd.subs.length sc] := by
  cases d with
  | zero => cases h
  | succ d => obtain ⟨ro, rc, so, sc, e, _⟩ := h.open; exact ⟨ro, rc, so, sc, e⟩

set_option maxRecDepth 100000 in
set_option maxHeartbeats 4000000 in
theorem treegroups_any (S : Nat → Prop) (d : Nat) (nd : Nd) (cs : List Value) (w : World) (h : Rep w S d nd cs) (hok : OkF d nd) (hS : ∀ b, S b → b < w.heap.size) :
    Calls Try.prog 22 #[.agg cs.toArray] w fun e w' => e = .returned (.int .i64 (groupsF d nd)) ∧ Below w.heap.size w w' := by
  obtain ⟨ro, rc, so, sc, rfl⟩ := rep_form h
  have HRep := Lib.hid h
  have HS := Lib.hid hS
  have HOk := Lib.hid hok
  clear h hS hok
  go_enter Try.func22, Try.ntmps22
  go_wp2_with (first
    | (go_at_call 55
       refine (treeof_any S d nd _ _ (HRep.out.alloc HS.out _) (lt_below HS.out (by simp))).mono ?_
       rintro e w1 ⟨⟨g, rfl, hrg⟩, hb1⟩
       have HRg := Lib.hid hrg
       have HB1 := Lib.hid ((below1 w _).trans (hb1.mono (by simp)))
       clear hrg hb1)
    | (go_at_call 56
       refine (maxcap_any _ d nd _ _ HRg.out HOk.out).mono ?_
       rintro e w2 ⟨rfl, rfl⟩))
  go_ret
  exact ⟨rfl, HB1.out⟩

set_option maxRecDepth 100000 in
set_option maxHeartbeats 4000000 in
theorem law_groups (d : Nat) (nd : Nd) (cs : List Value) (w : World) (h : Rep w (fun b => b < w.heap.size) d nd cs) :
    Calls Try.prog 7 #[.agg cs.toArray] w fun e w' => e = .returned (.bool true) ∧ Below w.heap.size w w' := by
  obtain ⟨ro, rc, so, sc, rfl⟩ := rep_form h
  have HRep := Lib.hid h
  clear h
  go_enter Try.func7, Try.ntmps7
  go_wp2_with (go_at_call 20
               refine (fits1_any _ d nd _ _ (HRep.out.alloc (fun b h => h) _)).mono ?_
               rintro e w1 ⟨⟨b0, rfl⟩, hb1⟩
               have hx1 := (hb1.block w.heap.size (by simp)).trans (heap_alloc_new w _)
               obtain ⟨c0, c1, c2, c3, c4, c5, c6, c7, c8⟩ := box9 hx1
               have HX1 := Lib.hid hx1
               have HB1 := Lib.hid ((below1 w _).trans (hb1.mono (by simp)))
               clear hx1 hb1)
  · go_ret
    exact ⟨rfl, HB1.out⟩
  · go_region_law (first
      | (go_simp
         go_at_call 21
         refine (treeok_any _ d nd _ _ (Rep.keeps (Keeps.of_below HB1.out.drew (fun _ h => h)) _ _ _ HRep.out) (lt_below (fun _ h => h) HB1.out.drew.size)).mono ?_
         rintro e w2 ⟨⟨r, rfl, hr⟩, hb2⟩
         have hx2 := (hb2.block w.heap.size (Array.getElem?_eq_some_iff.1 HX1.out).1).trans HX1.out
         clear c0 c1 c2 c3 c4 c5 c6 c7 c8
         obtain ⟨c0, c1, c2, c3, c4, c5, c6, c7, c8⟩ := box9 hx2
         have HX2 := Lib.hid hx2
         have HB2 := Lib.hid (HB1.out.drew.trans (hb2.mono HB1.out.drew.size))
         have HR := Lib.hid hr
         clear hx2 hb2 hr
         cases r
         case false =>
             go_simp
             rename_i K hK
             refine hK _ _ ?_
             refine wpAny_take (i := 2) (v := .bool true) rfl (by kernel_rfl) (by kernel_rfl) (by kernel_rfl) (fun _ _ _ h => h) (Or.inl ⟨by rfl, ?_⟩) ?_
             · intro w; go_simp
             refine wpAny_take (i := 3) (v := .bool true) rfl (by kernel_rfl) (by kernel_rfl) (by kernel_rfl) (fun _ _ _ h => h) (Or.inl ⟨by rfl, ?_⟩) ?_
             · intro w; go_simp
             refine wpAny_take (i := 4) (v := undef) rfl (by kernel_rfl) (by kernel_rfl) (by kernel_rfl) (fun _ _ _ h => h) (Or.inr ⟨?_, rfl⟩) ?_
             · simp [Region.wanted, yielded, Act.put]
             refine wpAny_take (i := 5) (v := undef) rfl (by kernel_rfl) (by kernel_rfl) (by kernel_rfl) (fun _ _ _ h => h) (Or.inr ⟨?_, rfl⟩) ?_
             · simp [Region.wanted, yielded, Act.put]
             refine wpAny_take (i := 6) (v := undef) rfl (by kernel_rfl) (by kernel_rfl) (by kernel_rfl) (fun _ _ _ h => h) (Or.inr ⟨?_, rfl⟩) ?_
             · simp [Region.wanted, yielded, Act.put]
             refine wpAny_take (i := 7) (v := undef) rfl (by kernel_rfl) (by kernel_rfl) (by kernel_rfl) (fun _ _ _ h => h) (Or.inr ⟨?_, rfl⟩) ?_
             · simp [Region.wanted, yielded, Act.put]
             refine wpAny_take (i := 8) (v := undef) rfl (by kernel_rfl) (by kernel_rfl) (by kernel_rfl) (fun _ _ _ h => h) (Or.inr ⟨?_, rfl⟩) ?_
             · simp [Region.wanted, yielded, Act.put]
             refine wpAny_take (i := 9) (v := .bool true) rfl (by kernel_rfl) (by kernel_rfl) (by kernel_rfl) (fun _ _ _ h => h) (Or.inl ⟨by rfl, ?_⟩) ?_
             · intro w; go_simp
             refine wpAny_take (i := 10) (v := .bool true) rfl (by kernel_rfl) (by kernel_rfl) (by kernel_rfl) (fun _ _ _ h => h) (Or.inl ⟨by rfl, ?_⟩) ?_
             · intro w; go_simp
             refine wpAny_done (by kernel_rfl) ?_ _
             go_simp
             go_wp2
             go_ret
             exact ⟨rfl, HB2.out⟩)
      | (go_simp
         go_at_call 22
         refine (treegroups_any _ d nd _ _ (Rep.keeps (Keeps.of_below HB2.out (fun _ h => h)) _ _ _ HRep.out) (HR.out rfl).1 (lt_below (fun _ h => h) HB2.out.size)).mono ?_
         rintro e w3 ⟨rfl, hb3⟩
         have hx3 := (hb3.block w.heap.size (Array.getElem?_eq_some_iff.1 HX2.out).1).trans HX2.out
         clear c0 c1 c2 c3 c4 c5 c6 c7 c8
         obtain ⟨c0, c1, c2, c3, c4, c5, c6, c7, c8⟩ := box9 hx3
         have HX3 := Lib.hid hx3
         have HB3 := Lib.hid (HB2.out.trans (hb3.mono HB2.out.size))
         clear hx3 hb3 HB2 HX2)
      | (go_simp
         go_at_call 23
         refine (groups_any _ d nd _ _ (Rep.keeps (Keeps.of_below HB3.out (fun _ h => h)) _ _ _ HRep.out) (lt_below (fun _ h => h) HB3.out.size)).mono ?_
         rintro e w4 ⟨rfl, hb4⟩
         have HB4 := Lib.hid (HB3.out.trans (hb4.mono HB3.out.size))
         clear hb4 HB3 HX3))
    all_goals
      go_wp2
      go_ret
      exact ⟨rfl, HB4.out⟩
end Go.Proofs.Ytejhffcjamdffaa
