/-
  The ways of the specification's walk over conditions and runes. Conditions: as WalkOn has them.
-/
import Derived.Test.YtejhffcjamdffaaWalkWays2
namespace Go.Proofs.Ytejhffcjamdffaa
open Go.RowKit

theorem and_bits {n : Nat} {i : I} (hi : InstP n i) (h3 : i.op = 3) (ts : List Int) (p : Nat) : bits BinOp.and IntKind.i64 (hereN ts p : Int) i.arg = ((hereN ts p &&& i.arg.toNat : Nat) : Int) := by
  have ha := arg_lt hi h3
  have hh := here_lt ts p
  have h1 := and_i64 (hereN ts p) i.arg.toNat (by omega) (by omega)
  rw [← ha.2] at h1
  exact h1

set_option maxRecDepth 100000 in
set_option maxHeartbeats 4000000 in
/-- A condition that holds. -/
theorem walk_cond_yes {is : List I} {ts : List Int} {lv tv : Value} {base g o n gc m k p b bl off lc rc : Nat} {bs : List Nat} {rows : List (List Bool)} {out : List Bool} {w : World} {i : I} {ro : Option Addr}
    (h : Marked is ts lv tv base g o n gc m bs k p rows out w i b bl off lc ro rc) (ho : i.op = 3) (hne : hereN ts p &&& i.arg.toNat ≠ 0) :
    Calls Try.prog 61 #[lv, .int .i64 k, tv, .int .i64 p, .slice (some ⟨g, 0, none⟩) n gc, .slice (some ⟨o, 0, none⟩) (ts.length + 1 : Nat) (ts.length + 1 : Nat)] w (WalkPost base g o n (ts.length + 1) bs rows out is ts k p w) := by
  obtain ⟨rows1, hu, hon, hbel, hkept⟩ := h.on _ rfl
  have hi := hon.inn.ok i (List.mem_of_getElem? hon.get)
  have kn := h.kn
  have pT := h.pT
  have cg := h.cg
  have cb := h.cb
  have fb := h.fb
  have lve := h.lve
  have c0 := h.c0
  have c1 := h.c1
  have c2 := h.c2
  have c3 := h.c3
  have ne := h.ne
  have HBel := Lib.hid hbel
  have HU := Lib.hid hu
  have HKp := Lib.hid hkept
  obtain ⟨q, hq, hqn, hqt⟩ := out_of hi (by omega) (by omega)
  have HSz := Lib.hid hon.size
  have HAt := Lib.hid hon.at'
  have HIn := Lib.hid hon.inn
  have HPl := Lib.hid hon.place
  have HFr : Hid (w.heap.size ∉ bs ∧ w.heap.size ≠ o) := hon.at'.fresh (by rw [setCell_size]; exact Nat.le_refl _)
  have HReach : Hid (∀ e, Reach is ts q p e → Reach is ts k p e) := fun e he => .cond hon.get ho hne (by rw [hqt]; exact he)
  have hbit : (bits BinOp.and IntKind.i64 (hereN ts p : Int) i.arg != 0) = true := by
    rw [and_bits hi ho]
    simp only [bne_iff_ne, ne_eq]
    omega
  have HHere : Hid (∀ w' : World, Below base (w.setCell ⟨b, p, none⟩ (.bool true)) w' → Calls Try.prog 29 #[tv, .int .i64 p] w' fun e w'' => e = .returned (.int .i64 (hereN ts p)) ∧ Below w'.heap.size w' w'') := fun w' hb =>
    here_any tv ts p w' (hon.inn.below hb).run hon.place (by have := hon.inn.short; omega)
  have HCall : Hid (∀ w' : World, Below (w.setCell ⟨b, p, none⟩ (.bool true)).heap.size (w.setCell ⟨b, p, none⟩ (.bool true)) w' → Calls Try.prog 61 #[lv, .int .i64 q, tv, .int .i64 p, .slice (some ⟨g, 0, none⟩) n gc, .slice (some ⟨o, 0, none⟩) (ts.length + 1 : Nat) (ts.length + 1 : Nat)] w' (WalkPost base g o n (ts.length + 1) bs rows1 out is ts q p w')) := fun w' hb =>
    hon.call (hb.mono hon.size) (Nat.le_refl _) (hon.at'.below hb) q p hqn hon.place
  rw [hq] at c1
  rw [ho] at c0
  subst lve
  generalize hereN ts p = hv at *
  generalize hT : ts.length + 1 = T at *
  clear h hon hi hq hqt hbel hu hT ho hkept hne
  have hb0 : (((w.setCell ⟨b, p, none⟩ (.bool true)).alloc (.cells #[.int .i64 3, .int .i64 q, .int .i64 i.arg, .slice ro i.runes.length rc] 28 (0, 0))).drew).heap[w.heap.size]? = some (.cells #[.int .i64 3, .int .i64 q, .int .i64 i.arg, .slice ro i.runes.length rc] 28 (0, 0)) := alloc_at (o := (.cells #[.int .i64 3, .int .i64 q, .int .i64 i.arg, .slice ro i.runes.length rc] 28 (0, 0))) (setCell_size w ⟨b, p, none⟩ (.bool true))
  have HS0 : Hid ((((w.setCell ⟨b, p, none⟩ (.bool true)).alloc (.cells #[.int .i64 3, .int .i64 q, .int .i64 i.arg, .slice ro i.runes.length rc] 28 (0, 0))).drew).cell? ⟨w.heap.size, 1, none⟩ = some (.int .i64 q) ∧ (((w.setCell ⟨b, p, none⟩ (.bool true)).alloc (.cells #[.int .i64 3, .int .i64 q, .int .i64 i.arg, .slice ro i.runes.length rc] 28 (0, 0))).drew).cell? ⟨w.heap.size, 2, none⟩ = some (.int .i64 i.arg)) := ⟨by rw [cell_at hb0]; rfl, by rw [cell_at hb0]; rfl⟩
  clear hb0
  go_enter Try.func61, Try.ntmps61
  go_wp2_with fail
  go_region_held3 (fun w' => w'.cell? ⟨w.heap.size, 1, none⟩ = some (.int .i64 q) ∧ w'.cell? ⟨w.heap.size, 2, none⟩ = some (.int .i64 i.arg))
    (first | exact HS0.out | go_keep)
    (first
      | (go_at_call 29
         refine (HHere.out _ (((Below.refl base _).alloc HSz.out _).drew)).mono ?_
         rintro e w1 ⟨rfl, hb1⟩
         have hx1 := (hb1.block w.heap.size (by simp)).trans (alloc_at (o := .cells #[.int .i64 3, .int .i64 q, .int .i64 i.arg, .slice ro i.runes.length rc] 28 (0, 0)) (setCell_size w ⟨b, p, none⟩ (.bool true)))
         have d1 : w1.cell? ⟨w.heap.size, 1, none⟩ = some (.int .i64 q) := by rw [cell_at hx1]; rfl
         have d2 : w1.cell? ⟨w.heap.size, 2, none⟩ = some (.int .i64 i.arg) := by rw [cell_at hx1]; rfl
         have HB1 : Hid (Below (w.setCell ⟨b, p, none⟩ (.bool true)).heap.size (w.setCell ⟨b, p, none⟩ (.bool true)) w1) := (below1 _ _).drew.trans (hb1.mono (by simp))
         clear hx1 hb1))
  all_goals
    go_wp2_with (go_at_call 61; refine (HCall.out _ HB1.out).mono ?_; rintro e w2 ⟨rfl, ⟨rows2, out2, hat2, hle2, hhit2⟩, hb2, hk2⟩)
    exact bodyPost_ret (results_none rfl _ _ _) rfl ⟨rfl, ⟨rows2, out2, hat2, by have := HU.out; omega, hits_mono hhit2 HReach.out⟩, HBel.out.trans ((HB1.out.mono HSz.out).trans hb2), HKp.out.trans ((Kept.of_below HB1.out).trans hk2)⟩

set_option maxRecDepth 100000 in
set_option maxHeartbeats 4000000 in
/-- A condition that does not hold. -/
theorem walk_cond_no {is : List I} {ts : List Int} {lv tv : Value} {base g o n gc m k p b bl off lc rc : Nat} {bs : List Nat} {rows : List (List Bool)} {out : List Bool} {w : World} {i : I} {ro : Option Addr}
    (h : Marked is ts lv tv base g o n gc m bs k p rows out w i b bl off lc ro rc) (ho : i.op = 3) (hne : hereN ts p &&& i.arg.toNat = 0) :
    Calls Try.prog 61 #[lv, .int .i64 k, tv, .int .i64 p, .slice (some ⟨g, 0, none⟩) n gc, .slice (some ⟨o, 0, none⟩) (ts.length + 1 : Nat) (ts.length + 1 : Nat)] w (WalkPost base g o n (ts.length + 1) bs rows out is ts k p w) := by
  obtain ⟨rows1, hu, hon, hbel, hkept⟩ := h.on _ rfl
  have hi := hon.inn.ok i (List.mem_of_getElem? hon.get)
  have kn := h.kn
  have pT := h.pT
  have cg := h.cg
  have cb := h.cb
  have fb := h.fb
  have lve := h.lve
  have c0 := h.c0
  have c1 := h.c1
  have c2 := h.c2
  have c3 := h.c3
  have ne := h.ne
  have HBel := Lib.hid hbel
  have HU := Lib.hid hu
  have HKp := Lib.hid hkept
  obtain ⟨q, hq, hqn, hqt⟩ := out_of hi (by omega) (by omega)
  have HSz := Lib.hid hon.size
  have HAt := Lib.hid hon.at'
  have HIn := Lib.hid hon.inn
  have HPl := Lib.hid hon.place
  have HFr : Hid (w.heap.size ∉ bs ∧ w.heap.size ≠ o) := hon.at'.fresh (by rw [setCell_size]; exact Nat.le_refl _)
  have hbit : (bits BinOp.and IntKind.i64 (hereN ts p : Int) i.arg != 0) = false := by
    rw [and_bits hi ho, hne]
    rfl
  have HHere : Hid (∀ w' : World, Below base (w.setCell ⟨b, p, none⟩ (.bool true)) w' → Calls Try.prog 29 #[tv, .int .i64 p] w' fun e w'' => e = .returned (.int .i64 (hereN ts p)) ∧ Below w'.heap.size w' w'') := fun w' hb =>
    here_any tv ts p w' (hon.inn.below hb).run hon.place (by have := hon.inn.short; omega)
  rw [hq] at c1
  rw [ho] at c0
  subst lve
  generalize hereN ts p = hv at *
  generalize hT : ts.length + 1 = T at *
  clear h hon hi hq hqt hbel hu hT ho hkept hne
  have hb0 : (((w.setCell ⟨b, p, none⟩ (.bool true)).alloc (.cells #[.int .i64 3, .int .i64 q, .int .i64 i.arg, .slice ro i.runes.length rc] 28 (0, 0))).drew).heap[w.heap.size]? = some (.cells #[.int .i64 3, .int .i64 q, .int .i64 i.arg, .slice ro i.runes.length rc] 28 (0, 0)) := alloc_at (o := (.cells #[.int .i64 3, .int .i64 q, .int .i64 i.arg, .slice ro i.runes.length rc] 28 (0, 0))) (setCell_size w ⟨b, p, none⟩ (.bool true))
  have HS0 : Hid ((((w.setCell ⟨b, p, none⟩ (.bool true)).alloc (.cells #[.int .i64 3, .int .i64 q, .int .i64 i.arg, .slice ro i.runes.length rc] 28 (0, 0))).drew).cell? ⟨w.heap.size, 1, none⟩ = some (.int .i64 q) ∧ (((w.setCell ⟨b, p, none⟩ (.bool true)).alloc (.cells #[.int .i64 3, .int .i64 q, .int .i64 i.arg, .slice ro i.runes.length rc] 28 (0, 0))).drew).cell? ⟨w.heap.size, 2, none⟩ = some (.int .i64 i.arg)) := ⟨by rw [cell_at hb0]; rfl, by rw [cell_at hb0]; rfl⟩
  clear hb0
  go_enter Try.func61, Try.ntmps61
  go_wp2_with fail
  go_region_held3 (fun w' => w'.cell? ⟨w.heap.size, 2, none⟩ = some (.int .i64 i.arg))
    (first | exact HS0.out.2 | go_keep)
    (first
      | (go_at_call 29
         refine (HHere.out _ (((Below.refl base _).alloc HSz.out _).drew)).mono ?_
         rintro e w1 ⟨rfl, hb1⟩
         have hx1 := (hb1.block w.heap.size (by simp)).trans (alloc_at (o := .cells #[.int .i64 3, .int .i64 q, .int .i64 i.arg, .slice ro i.runes.length rc] 28 (0, 0)) (setCell_size w ⟨b, p, none⟩ (.bool true)))
         have d2 : w1.cell? ⟨w.heap.size, 2, none⟩ = some (.int .i64 i.arg) := by rw [cell_at hx1]; rfl
         have HB1 : Hid (Below (w.setCell ⟨b, p, none⟩ (.bool true)).heap.size (w.setCell ⟨b, p, none⟩ (.bool true)) w1) := (below1 _ _).drew.trans (hb1.mono (by simp))
         clear hx1 hb1))
  all_goals
    go_wp2
    refine bodyPost_end (results_none rfl _ _ _) rfl ⟨rfl, ⟨rows1, out, HAt.out.below HB1.out, by have := HU.out; omega, fun e he => .inl he⟩, HBel.out.trans (HB1.out.mono HSz.out), HKp.out.trans (Kept.of_below HB1.out)⟩
end Go.Proofs.Ytejhffcjamdffaa
