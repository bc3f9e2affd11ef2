/-
  The ways of the specification's walk that choose, match, or end. Conditions: as WalkOn has them.
-/
import Derived.Test.YtejhffcjamdffaaWalkWays
namespace Go.Proofs.Ytejhffcjamdffaa
open Go.RowKit

theorem hits_set {is : List I} {ts : List Int} {k p : Nat} {out : List Bool} (h : Reach is ts k p p) : NewHits is ts k p out (out.set p true) := fun e he => by
  by_cases hep : p = e
  · subst hep; exact .inr h
  · rw [List.getElem?_set_ne hep] at he
    exact .inl he

set_option maxRecDepth 100000 in
set_option maxHeartbeats 4000000 in
/-- An instruction that chooses. -/
theorem walk_alt {is : List I} {ts : List Int} {lv tv : Value} {base g o n gc m k p b bl off lc rc : Nat} {bs : List Nat} {rows : List (List Bool)} {out : List Bool} {w : World} {i : I} {ro : Option Addr}
    (h : Marked is ts lv tv base g o n gc m bs k p rows out w i b bl off lc ro rc) (ho : i.op = 0) :
    Calls Try.prog 61 #[lv, .int .i64 k, tv, .int .i64 p, .slice (some ⟨g, 0, none⟩) n gc, .slice (some ⟨o, 0, none⟩) (ts.length + 1 : Nat) (ts.length + 1 : Nat)] w (WalkPost base g o n (ts.length + 1) bs rows out is ts k p w) := by
  obtain ⟨rows1, hu, hon, hbel, hkept⟩ := h.on _ rfl
  have hi := hon.inn.ok i (List.mem_of_getElem? hon.get)
  have kn := h.kn
  have pT := h.pT
  have cg := h.cg
  have cb := h.cb
  have fb := h.fb
  have lve := h.lve
  have c0 := h.c0
  have c1 := h.c1
  have c2 := h.c2
  have c3 := h.c3
  have ne := h.ne
  have HBel := Lib.hid hbel
  have HU := Lib.hid hu
  have HKp := Lib.hid hkept
  have HOn := Lib.hid hon
  obtain ⟨q, hq, hqn, hqt⟩ := out_of hi (by omega) (by omega)
  obtain ⟨q2, hq2, hqn2, hqt2⟩ : ∃ q2 : Nat, i.arg = (q2 : Int) ∧ q2 < n ∧ i.arg.toNat = q2 := ⟨i.arg.toNat, by have := hi.arg0 ho; omega, by have := hi.arg0 ho; omega, rfl⟩
  have HCall : Hid (∀ ob : Obj, Calls Try.prog 61 #[lv, .int .i64 q, tv, .int .i64 p, .slice (some ⟨g, 0, none⟩) n gc, .slice (some ⟨o, 0, none⟩) (ts.length + 1 : Nat) (ts.length + 1 : Nat)] ((w.setCell ⟨b, p, none⟩ (.bool true)).alloc ob) (WalkPost base g o n (ts.length + 1) bs rows1 out is ts q p ((w.setCell ⟨b, p, none⟩ (.bool true)).alloc ob))) := fun ob =>
    hon.call ((Below.refl base _).alloc hon.size ob) (Nat.le_refl _) (hon.at'.below (below1 _ ob)) q p hqn hon.place
  have HCall2 : Hid (∀ (w' : World) (rows' : List (List Bool)) (out' : List Bool), Below base (w.setCell ⟨b, p, none⟩ (.bool true)) w' → unseen rows' ≤ unseen rows1 → WalkAt w' base g o n (ts.length + 1) bs rows' out' → Calls Try.prog 61 #[lv, .int .i64 q2, tv, .int .i64 p, .slice (some ⟨g, 0, none⟩) n gc, .slice (some ⟨o, 0, none⟩) (ts.length + 1 : Nat) (ts.length + 1 : Nat)] w' (WalkPost base g o n (ts.length + 1) bs rows' out' is ts q2 p w')) := fun w' rows' out' hb hu hat =>
    hon.call hb hu hat q2 p hqn2 hon.place
  have HR1 : Hid (∀ e, Reach is ts q p e → Reach is ts k p e) := fun e he => .alt1 hon.get ho (by rw [hqt]; exact he)
  have HR2 : Hid (∀ e, Reach is ts q2 p e → Reach is ts k p e) := fun e he => .alt2 hon.get ho (by rw [hqt2]; exact he)
  have HSz := Lib.hid hon.size
  rw [hq] at c1
  rw [hq2] at c2
  rw [ho] at c0
  subst lve
  have HFr : Hid (w.heap.size ∉ bs ∧ w.heap.size ≠ o) := hon.at'.fresh (by rw [setCell_size]; exact Nat.le_refl _)
  have tok : True := trivial
  generalize hT : ts.length + 1 = T at *
  clear h hon hi hq hqt hq2 hqt2 hbel hu hT ho hkept
  go_enter Try.func61, Try.ntmps61
  go_wp2_with (first
    | (go_at_call 61
       have _t := tok
       clear _t tok
       refine (HCall.out _).mono ?_
       rintro e w1 ⟨rfl, ⟨rows', out', hat, hle, hhit⟩, hb1, hk1⟩
       have hx1 := (hk1.2 w.heap.size (by simp) (HFr.out.1) (HFr.out.2)).trans (alloc_at (setCell_size _ _ _))
       have d2 : w1.cell? ⟨w.heap.size, 2, none⟩ = some (.int .i64 q2) := by rw [cell_at hx1]; rfl
       have HB1 := Lib.hid (((Below.refl base _).alloc HSz.out _).trans hb1)
       have HC2 := Lib.hid (HCall2.out w1 rows' out' HB1.out hle hat)
       have HH1 := Lib.hid (hits_mono hhit HR1.out)
       have HL1 := Lib.hid hle
       have HK1 := Lib.hid ((Kept.of_below (below1 _ _)).trans hk1)
       clear hb1 hat hhit hle hx1 hk1)
    | (go_at_call 61
       refine HC2.out.mono ?_
       rintro e w2 ⟨rfl, ⟨rows2, out2, hat2, hle2, hhit2⟩, hb2, hk2⟩))
  exact bodyPost_ret (results_none rfl _ _ _) rfl ⟨rfl, ⟨rows2, out2, hat2, by have := HU.out; have := HL1.out; omega, hits_trans HH1.out (hits_mono hhit2 HR2.out)⟩, HBel.out.trans (HB1.out.trans hb2), HKp.out.trans (HK1.out.trans hk2)⟩

set_option maxRecDepth 100000 in
set_option maxHeartbeats 4000000 in
/-- An instruction that fails. -/
theorem walk_fail {is : List I} {ts : List Int} {lv tv : Value} {base g o n gc m k p b bl off lc rc : Nat} {bs : List Nat} {rows : List (List Bool)} {out : List Bool} {w : World} {i : I} {ro : Option Addr}
    (h : Marked is ts lv tv base g o n gc m bs k p rows out w i b bl off lc ro rc) (ho : i.op = 5) :
    Calls Try.prog 61 #[lv, .int .i64 k, tv, .int .i64 p, .slice (some ⟨g, 0, none⟩) n gc, .slice (some ⟨o, 0, none⟩) (ts.length + 1 : Nat) (ts.length + 1 : Nat)] w (WalkPost base g o n (ts.length + 1) bs rows out is ts k p w) := by
  obtain ⟨rows1, hu, hon, hbel, hkept⟩ := h.on _ rfl
  have hi := hon.inn.ok i (List.mem_of_getElem? hon.get)
  have kn := h.kn
  have pT := h.pT
  have cg := h.cg
  have cb := h.cb
  have fb := h.fb
  have lve := h.lve
  have c0 := h.c0
  have c1 := h.c1
  have c2 := h.c2
  have c3 := h.c3
  have ne := h.ne
  have HBel := Lib.hid hbel
  have HU := Lib.hid hu
  have HKp := Lib.hid hkept
  have HOn := Lib.hid hon
  have HSz := Lib.hid hon.size
  have HAt := Lib.hid hon.at'
  rw [ho] at c0
  subst lve
  generalize hT : ts.length + 1 = T at *
  clear h hon hi hbel hu ho hkept HOn
  go_enter Try.func61, Try.ntmps61
  go_wp2
  refine bodyPost_end (results_none rfl _ _ _) rfl ⟨rfl, ⟨rows1, out, HAt.out.below (below1 _ _), by have := HU.out; omega, fun e he => .inl he⟩, HBel.out.trans ((Below.refl base _).alloc HSz.out _), HKp.out.trans (Kept.of_below (below1 _ _))⟩

set_option maxRecDepth 100000 in
set_option maxHeartbeats 4000000 in
/-- An instruction that matches. -/
theorem walk_match {is : List I} {ts : List Int} {lv tv : Value} {base g o n gc m k p b bl off lc rc : Nat} {bs : List Nat} {rows : List (List Bool)} {out : List Bool} {w : World} {i : I} {ro : Option Addr}
    (h : Marked is ts lv tv base g o n gc m bs k p rows out w i b bl off lc ro rc) (ho : i.op = 4) :
    Calls Try.prog 61 #[lv, .int .i64 k, tv, .int .i64 p, .slice (some ⟨g, 0, none⟩) n gc, .slice (some ⟨o, 0, none⟩) (ts.length + 1 : Nat) (ts.length + 1 : Nat)] w (WalkPost base g o n (ts.length + 1) bs rows out is ts k p w) := by
  obtain ⟨rows1, hu, hon, hbel, hkept⟩ := h.on _ rfl
  have hi := hon.inn.ok i (List.mem_of_getElem? hon.get)
  have kn := h.kn
  have pT := h.pT
  have cg := h.cg
  have cb := h.cb
  have fb := h.fb
  have lve := h.lve
  have c0 := h.c0
  have c1 := h.c1
  have c2 := h.c2
  have c3 := h.c3
  have ne := h.ne
  have HBel := Lib.hid hbel
  have HU := Lib.hid hu
  have HKp := Lib.hid hkept
  have HOn := Lib.hid hon
  have HSz := Lib.hid hon.size
  have HHit : Hid (NewHits is ts k p out (out.set p true)) := hits_set (.stop hon.get ho)
  have HAt := Lib.hid hon.at'
  have HBo := Lib.hid hon.at'.og.2.1
  have hat := hon.at'
  have fo : ∀ ob : Obj, ((w.setCell ⟨b, p, none⟩ (.bool true)).alloc ob).frozen? ⟨o, p, none⟩ = false := fun ob => frozen_at (hat.below (below1 _ ob)).outAt p
  have co : ∀ ob : Obj, ∃ s, ((w.setCell ⟨b, p, none⟩ (.bool true)).alloc ob).cell? ⟨o, p, none⟩ = some (.bool s) := fun ob => by
    obtain ⟨s, hs⟩ : ∃ s, out[p]? = some s := ⟨out[p]'(by rw [hat.outLen]; exact pT), List.getElem?_eq_getElem _⟩
    exact ⟨s, (hat.below (below1 _ ob)).outAt.cell hs⟩
  rw [ho] at c0
  subst lve
  generalize hT : ts.length + 1 = T at *
  clear h hon hi hbel hu ho hat hkept HOn
  obtain ⟨s, hs⟩ := co (.cells #[.int .i64 4, .int .i64 i.out, .int .i64 i.arg, .slice ro i.runes.length rc] 28 (0, 0))
  clear co
  go_enter Try.func61, Try.ntmps61
  go_wp2
  refine bodyPost_ret (results_none rfl _ _ _) rfl ⟨rfl, ⟨rows1, _, (HAt.out.below (below1 _ _)).hit p, by have := HU.out; omega, HHit.out⟩, HBel.out.trans (((Below.refl base _).alloc HSz.out _).setCell HBo.out _), HKp.out.trans ((Kept.of_below (below1 _ _)).trans (Kept.hit _ _ _))⟩
end Go.Proofs.Ytejhffcjamdffaa
