/-
  The ways of the specification's walk over instructions that take runes. Conditions: as WalkOn has them.
-/
import Derived.Test.YtejhffcjamdffaaWalkWays3
import Derived.Test.YtejhffcjamdffaaInstOk
namespace Go.Proofs.Ytejhffcjamdffaa
open Go.RowKit

set_option maxRecDepth 100000 in
set_option maxHeartbeats 8000000 in
/-- At the end of the text nothing is taken. -/
theorem walk_rune_end {is : List I} {ts : List Int} {lv tv : Value} {base g o n gc m k p b bl off lc rc : Nat} {bs : List Nat} {rows : List (List Bool)} {out : List Bool} {w : World} {i : I} {ro : Option Addr}
    (h : Marked is ts lv tv base g o n gc m bs k p rows out w i b bl off lc ro rc) (ho : 7 ≤ i.op) (hp : p = ts.length) :
    Calls Try.prog 61 #[lv, .int .i64 k, tv, .int .i64 p, .slice (some ⟨g, 0, none⟩) n gc, .slice (some ⟨o, 0, none⟩) (ts.length + 1 : Nat) (ts.length + 1 : Nat)] w (WalkPost base g o n (ts.length + 1) bs rows out is ts k p w) := by
  obtain ⟨rows1, hu, hon, hbel, hkept⟩ := h.on _ rfl
  have hi := hon.inn.ok i (List.mem_of_getElem? hon.get)
  have kn := h.kn
  have pT := h.pT
  have cg := h.cg
  have cb := h.cb
  have fb := h.fb
  have lve := h.lve
  have c0 := h.c0
  have c1 := h.c1
  have c2 := h.c2
  have c3 := h.c3
  have ne := h.ne
  have HBel := Lib.hid hbel
  have HU := Lib.hid hu
  have HKp := Lib.hid hkept
  obtain ⟨q, hq, hqn, hqt⟩ := out_of hi (by omega) (by omega)
  have HSz := Lib.hid hon.size
  have HAt := Lib.hid hon.at'
  obtain ⟨ao, tc, htv, _⟩ := hon.inn.run.open
  have hc : i.op = 7 ∨ i.op = 8 ∨ i.op = 9 ∨ i.op = 10 := by have := hi.ops; omega
  rw [hq] at c1
  subst lve
  subst htv
  subst hp
  generalize hT : ts.length = T at *
  have hd : decide ((T : Int) < (T : Int)) = false := by simp
  clear h hon hq hqt hbel hu hT hkept ho hi
  rcases hc with ho | ho | ho | ho
  all_goals
    rw [ho] at c0
    clear ho
    go_enter Try.func61, Try.ntmps61
    go_wp2_with fail
    go_quiet (fail)
    go_wp2
    refine bodyPost_end (results_none rfl _ _ _) rfl ⟨rfl, ⟨rows1, out, HAt.out.below (below_dr (below1 _ _) _), by have := HU.out; omega, fun e he => .inl he⟩, HBel.out.trans (below_dr ((Below.refl base _).alloc HSz.out _) _), HKp.out.trans (Kept.of_below (below_dr (below1 _ _) _))⟩

set_option maxRecDepth 100000 in
set_option maxHeartbeats 8000000 in
/-- A rune is taken, or not. -/
theorem walk_rune {is : List I} {ts : List Int} {lv tv : Value} {base g o n gc m k p b bl off lc rc : Nat} {bs : List Nat} {rows : List (List Bool)} {out : List Bool} {w : World} {i : I} {ro : Option Addr}
    (h : Marked is ts lv tv base g o n gc m bs k p rows out w i b bl off lc ro rc) (ho : 7 ≤ i.op) (hp : p < ts.length) :
    Calls Try.prog 61 #[lv, .int .i64 k, tv, .int .i64 p, .slice (some ⟨g, 0, none⟩) n gc, .slice (some ⟨o, 0, none⟩) (ts.length + 1 : Nat) (ts.length + 1 : Nat)] w (WalkPost base g o n (ts.length + 1) bs rows out is ts k p w) := by
  obtain ⟨rows1, hu, hon, hbel, hkept⟩ := h.on _ rfl
  have hi := hon.inn.ok i (List.mem_of_getElem? hon.get)
  have kn := h.kn
  have pT := h.pT
  have cg := h.cg
  have cb := h.cb
  have fb := h.fb
  have lve := h.lve
  have c0 := h.c0
  have c1 := h.c1
  have c2 := h.c2
  have c3 := h.c3
  have ne := h.ne
  have HBel := Lib.hid hbel
  have HU := Lib.hid hu
  have HKp := Lib.hid hkept
  obtain ⟨q, hq, hqn, hqt⟩ := out_of hi (by omega) (by omega)
  have HSz := Lib.hid hon.size
  have HAt := Lib.hid hon.at'
  obtain ⟨z, hz⟩ : ∃ z, ts[p]? = some z := ⟨ts[p], List.getElem?_eq_getElem hp⟩
  have hrun1 := hon.inn.run
  obtain ⟨ao, tc, htv, hcell⟩ := hrun1.open
  obtain ⟨tb, toff, rfl, hcl⟩ : ∃ b' off', ao = some ⟨b', off', none⟩ ∧ ∀ j z, ts[j]? = some z → (w.setCell ⟨b, p, none⟩ (.bool true)).cell? ⟨b', off' + j, none⟩ = some (.int .i32 z) := by
    rcases hcell with h0 | h1
    · rw [h0] at hp; simp at hp
    · exact h1
  have htb : tb < base := by have := hon.inn.bd; rw [htv] at this; exact this.lt (by omega)
  have hct := hcl p z hz
  have HTb : Hid (∀ w' : World, Below base (w.setCell ⟨b, p, none⟩ (.bool true)) w' → w'.cell? ⟨tb, toff + p, none⟩ = some (.int .i32 z)) := fun w' hb => (hb.cell (p := ⟨tb, toff + p, none⟩) htb).trans hct
  have hc : i.op = 7 ∨ i.op = 8 ∨ i.op = 9 ∨ i.op = 10 := by have := hi.ops; omega
  have HTk : Hid (∀ w' : World, Below base (w.setCell ⟨b, p, none⟩ (.bool true)) w' → base ≤ w'.heap.size → Calls Try.prog 79 #[.agg #[.int .i64 i.op, .int .i64 q, .int .i64 i.arg, .slice ro i.runes.length rc], .int .i32 z] w' (TakesPost i z w')) := fun w' hb hs => by
    have h1 := takes_any i n z (.slice ro i.runes.length rc) w' hi ho (RowN.belowW (RowN.belowW h.run hbel h.rbd) hb h.rbd) (h.rbd.mono hs)
    rw [hq] at h1
    exact h1
  have HCall : Hid (∀ w' : World, Below (w.setCell ⟨b, p, none⟩ (.bool true)).heap.size (w.setCell ⟨b, p, none⟩ (.bool true)) w' → Calls Try.prog 61 #[lv, .int .i64 q, tv, .int .i64 (p + 1 : Nat), .slice (some ⟨g, 0, none⟩) n gc, .slice (some ⟨o, 0, none⟩) (ts.length + 1 : Nat) (ts.length + 1 : Nat)] w' (WalkPost base g o n (ts.length + 1) bs rows1 out is ts q (p + 1) w')) := fun w' hb =>
    hon.call (hb.mono hon.size) (Nat.le_refl _) (hon.at'.below hb) q (p + 1) hqn hp
  have HReach : Hid ((i.op = 8 → i.runes = [z]) → ∀ e, Reach is ts q (p + 1) e → Reach is ts k p e) := fun h8 e he => .rune hon.get ho hz h8 (by rw [hqt]; exact he)
  have hts := hon.inn.short
  rw [hq] at c1
  subst lve
  subst htv
  generalize hT : ts.length = T at *
  have hd : decide ((p : Int) < (T : Int)) = true := by simp; omega
  have e2 : IntKind.i64.wrap ((p : Int) + 1) = ((p + 1 : Nat) : Int) := by rw [IntWalk.i64_in _ (by omega)]; omega
  clear h hon hq hqt hbel hu hT hkept ho hi hcl hcell hrun1 hz
  rcases hc with ho | ho | ho | ho
  · rw [ho] at c0
    rw [ho] at HTk
    clear ho
    have hb0 : (((w.setCell ⟨b, p, none⟩ (.bool true)).alloc (.cells #[.int .i64 7, .int .i64 q, .int .i64 i.arg, .slice ro i.runes.length rc] 28 (0, 0))).drew).heap[w.heap.size]? = some (.cells #[.int .i64 7, .int .i64 q, .int .i64 i.arg, .slice ro i.runes.length rc] 28 (0, 0)) := alloc_at (o := (.cells #[.int .i64 7, .int .i64 q, .int .i64 i.arg, .slice ro i.runes.length rc] 28 (0, 0))) (setCell_size w ⟨b, p, none⟩ (.bool true))
    have HS0 : Hid ((((w.setCell ⟨b, p, none⟩ (.bool true)).alloc (.cells #[.int .i64 7, .int .i64 q, .int .i64 i.arg, .slice ro i.runes.length rc] 28 (0, 0))).drew).cell? ⟨w.heap.size, 0, none⟩ = some (.int .i64 7) ∧ (((w.setCell ⟨b, p, none⟩ (.bool true)).alloc (.cells #[.int .i64 7, .int .i64 q, .int .i64 i.arg, .slice ro i.runes.length rc] 28 (0, 0))).drew).cell? ⟨w.heap.size, 1, none⟩ = some (.int .i64 q) ∧ (((w.setCell ⟨b, p, none⟩ (.bool true)).alloc (.cells #[.int .i64 7, .int .i64 q, .int .i64 i.arg, .slice ro i.runes.length rc] 28 (0, 0))).drew).cell? ⟨w.heap.size, 2, none⟩ = some (.int .i64 i.arg) ∧ (((w.setCell ⟨b, p, none⟩ (.bool true)).alloc (.cells #[.int .i64 7, .int .i64 q, .int .i64 i.arg, .slice ro i.runes.length rc] 28 (0, 0))).drew).cell? ⟨w.heap.size, 3, none⟩ = some (.slice ro i.runes.length rc) ∧ (((w.setCell ⟨b, p, none⟩ (.bool true)).alloc (.cells #[.int .i64 7, .int .i64 q, .int .i64 i.arg, .slice ro i.runes.length rc] 28 (0, 0))).drew).cell? ⟨tb, toff + p, none⟩ = some (.int .i32 z)) := ⟨by rw [cell_at hb0]; rfl, by rw [cell_at hb0]; rfl, by rw [cell_at hb0]; rfl, by rw [cell_at hb0]; rfl, HTb.out _ (((Below.refl base _).alloc HSz.out _).drew)⟩
    clear hb0
    go_enter Try.func61, Try.ntmps61
    go_wp2_with fail
    go_region_held3 (fun w' => w'.cell? ⟨w.heap.size, 0, none⟩ = some (.int .i64 7) ∧ w'.cell? ⟨w.heap.size, 1, none⟩ = some (.int .i64 q) ∧ w'.cell? ⟨w.heap.size, 2, none⟩ = some (.int .i64 i.arg) ∧ w'.cell? ⟨w.heap.size, 3, none⟩ = some (.slice ro i.runes.length rc) ∧ w'.cell? ⟨tb, toff + p, none⟩ = some (.int .i32 z))
      (first | exact HS0.out | go_keep)
      (first
        | (go_at_call 79
           refine (HTk.out _ (((Below.refl base _).alloc HSz.out _).drew) (Nat.le_trans HSz.out (by simp))).mono ?_
           rintro e w1 ⟨⟨b1, rfl, hb1⟩, hbw⟩
           have hx1 := (hbw.block w.heap.size (by simp)).trans (alloc_at (o := (.cells #[.int .i64 7, .int .i64 q, .int .i64 i.arg, .slice ro i.runes.length rc] 28 (0, 0))) (setCell_size w ⟨b, p, none⟩ (.bool true)))
           have d0 : w1.cell? ⟨w.heap.size, 0, none⟩ = some (.int .i64 7) := by rw [cell_at hx1]; rfl
           have d1 : w1.cell? ⟨w.heap.size, 1, none⟩ = some (.int .i64 q) := by rw [cell_at hx1]; rfl
           have d2 : w1.cell? ⟨w.heap.size, 2, none⟩ = some (.int .i64 i.arg) := by rw [cell_at hx1]; rfl
           have d3 : w1.cell? ⟨w.heap.size, 3, none⟩ = some (.slice ro i.runes.length rc) := by rw [cell_at hx1]; rfl
           have HB1 : Hid (Below (w.setCell ⟨b, p, none⟩ (.bool true)).heap.size (w.setCell ⟨b, p, none⟩ (.bool true)) w1) := (below1 _ _).drew.trans (hbw.mono (by simp))
           have d4 : w1.cell? ⟨tb, toff + p, none⟩ = some (.int .i32 z) := HTb.out w1 (HB1.out.mono HSz.out)
           have HT1 := Lib.hid hb1
           clear hx1 hbw hb1))
    all_goals
      cases b1
      · go_wp2
        refine bodyPost_end (results_none rfl _ _ _) rfl ⟨rfl, ⟨rows1, out, HAt.out.below HB1.out, by have := HU.out; omega, fun e he => .inl he⟩, HBel.out.trans (HB1.out.mono HSz.out), HKp.out.trans (Kept.of_below HB1.out)⟩
      · have HRe := Lib.hid (HReach.out (HT1.out rfl))
        clear HT1 HReach
        go_wp2_with (go_at_call 61; refine (HCall.out _ HB1.out).mono ?_; rintro e w2 ⟨rfl, ⟨rows2, out2, hat2, hle2, hhit2⟩, hb2, hk2⟩)
        exact bodyPost_ret (results_none rfl _ _ _) rfl ⟨rfl, ⟨rows2, out2, hat2, by have := HU.out; omega, hits_mono hhit2 HRe.out⟩, HBel.out.trans ((HB1.out.mono HSz.out).trans hb2), HKp.out.trans ((Kept.of_below HB1.out).trans hk2)⟩
  · rw [ho] at c0
    rw [ho] at HTk
    clear ho
    have hb0 : (((w.setCell ⟨b, p, none⟩ (.bool true)).alloc (.cells #[.int .i64 8, .int .i64 q, .int .i64 i.arg, .slice ro i.runes.length rc] 28 (0, 0))).drew).heap[w.heap.size]? = some (.cells #[.int .i64 8, .int .i64 q, .int .i64 i.arg, .slice ro i.runes.length rc] 28 (0, 0)) := alloc_at (o := (.cells #[.int .i64 8, .int .i64 q, .int .i64 i.arg, .slice ro i.runes.length rc] 28 (0, 0))) (setCell_size w ⟨b, p, none⟩ (.bool true))
    have HS0 : Hid ((((w.setCell ⟨b, p, none⟩ (.bool true)).alloc (.cells #[.int .i64 8, .int .i64 q, .int .i64 i.arg, .slice ro i.runes.length rc] 28 (0, 0))).drew).cell? ⟨w.heap.size, 0, none⟩ = some (.int .i64 8) ∧ (((w.setCell ⟨b, p, none⟩ (.bool true)).alloc (.cells #[.int .i64 8, .int .i64 q, .int .i64 i.arg, .slice ro i.runes.length rc] 28 (0, 0))).drew).cell? ⟨w.heap.size, 1, none⟩ = some (.int .i64 q) ∧ (((w.setCell ⟨b, p, none⟩ (.bool true)).alloc (.cells #[.int .i64 8, .int .i64 q, .int .i64 i.arg, .slice ro i.runes.length rc] 28 (0, 0))).drew).cell? ⟨w.heap.size, 2, none⟩ = some (.int .i64 i.arg) ∧ (((w.setCell ⟨b, p, none⟩ (.bool true)).alloc (.cells #[.int .i64 8, .int .i64 q, .int .i64 i.arg, .slice ro i.runes.length rc] 28 (0, 0))).drew).cell? ⟨w.heap.size, 3, none⟩ = some (.slice ro i.runes.length rc) ∧ (((w.setCell ⟨b, p, none⟩ (.bool true)).alloc (.cells #[.int .i64 8, .int .i64 q, .int .i64 i.arg, .slice ro i.runes.length rc] 28 (0, 0))).drew).cell? ⟨tb, toff + p, none⟩ = some (.int .i32 z)) := ⟨by rw [cell_at hb0]; rfl, by rw [cell_at hb0]; rfl, by rw [cell_at hb0]; rfl, by rw [cell_at hb0]; rfl, HTb.out _ (((Below.refl base _).alloc HSz.out _).drew)⟩
    clear hb0
    go_enter Try.func61, Try.ntmps61
    go_wp2_with fail
    go_region_held3 (fun w' => w'.cell? ⟨w.heap.size, 0, none⟩ = some (.int .i64 8) ∧ w'.cell? ⟨w.heap.size, 1, none⟩ = some (.int .i64 q) ∧ w'.cell? ⟨w.heap.size, 2, none⟩ = some (.int .i64 i.arg) ∧ w'.cell? ⟨w.heap.size, 3, none⟩ = some (.slice ro i.runes.length rc) ∧ w'.cell? ⟨tb, toff + p, none⟩ = some (.int .i32 z))
      (first | exact HS0.out | go_keep)
      (first
        | (go_at_call 79
           refine (HTk.out _ (((Below.refl base _).alloc HSz.out _).drew) (Nat.le_trans HSz.out (by simp))).mono ?_
           rintro e w1 ⟨⟨b1, rfl, hb1⟩, hbw⟩
           have hx1 := (hbw.block w.heap.size (by simp)).trans (alloc_at (o := (.cells #[.int .i64 8, .int .i64 q, .int .i64 i.arg, .slice ro i.runes.length rc] 28 (0, 0))) (setCell_size w ⟨b, p, none⟩ (.bool true)))
           have d0 : w1.cell? ⟨w.heap.size, 0, none⟩ = some (.int .i64 8) := by rw [cell_at hx1]; rfl
           have d1 : w1.cell? ⟨w.heap.size, 1, none⟩ = some (.int .i64 q) := by rw [cell_at hx1]; rfl
           have d2 : w1.cell? ⟨w.heap.size, 2, none⟩ = some (.int .i64 i.arg) := by rw [cell_at hx1]; rfl
           have d3 : w1.cell? ⟨w.heap.size, 3, none⟩ = some (.slice ro i.runes.length rc) := by rw [cell_at hx1]; rfl
           have HB1 : Hid (Below (w.setCell ⟨b, p, none⟩ (.bool true)).heap.size (w.setCell ⟨b, p, none⟩ (.bool true)) w1) := (below1 _ _).drew.trans (hbw.mono (by simp))
           have d4 : w1.cell? ⟨tb, toff + p, none⟩ = some (.int .i32 z) := HTb.out w1 (HB1.out.mono HSz.out)
           have HT1 := Lib.hid hb1
           clear hx1 hbw hb1))
    all_goals
      cases b1
      · go_wp2
        refine bodyPost_end (results_none rfl _ _ _) rfl ⟨rfl, ⟨rows1, out, HAt.out.below HB1.out, by have := HU.out; omega, fun e he => .inl he⟩, HBel.out.trans (HB1.out.mono HSz.out), HKp.out.trans (Kept.of_below HB1.out)⟩
      · have HRe := Lib.hid (HReach.out (HT1.out rfl))
        clear HT1 HReach
        go_wp2_with (go_at_call 61; refine (HCall.out _ HB1.out).mono ?_; rintro e w2 ⟨rfl, ⟨rows2, out2, hat2, hle2, hhit2⟩, hb2, hk2⟩)
        exact bodyPost_ret (results_none rfl _ _ _) rfl ⟨rfl, ⟨rows2, out2, hat2, by have := HU.out; omega, hits_mono hhit2 HRe.out⟩, HBel.out.trans ((HB1.out.mono HSz.out).trans hb2), HKp.out.trans ((Kept.of_below HB1.out).trans hk2)⟩
  · rw [ho] at c0
    rw [ho] at HTk
    clear ho
    have hb0 : (((w.setCell ⟨b, p, none⟩ (.bool true)).alloc (.cells #[.int .i64 9, .int .i64 q, .int .i64 i.arg, .slice ro i.runes.length rc] 28 (0, 0))).drew).heap[w.heap.size]? = some (.cells #[.int .i64 9, .int .i64 q, .int .i64 i.arg, .slice ro i.runes.length rc] 28 (0, 0)) := alloc_at (o := (.cells #[.int .i64 9, .int .i64 q, .int .i64 i.arg, .slice ro i.runes.length rc] 28 (0, 0))) (setCell_size w ⟨b, p, none⟩ (.bool true))
    have HS0 : Hid ((((w.setCell ⟨b, p, none⟩ (.bool true)).alloc (.cells #[.int .i64 9, .int .i64 q, .int .i64 i.arg, .slice ro i.runes.length rc] 28 (0, 0))).drew).cell? ⟨w.heap.size, 0, none⟩ = some (.int .i64 9) ∧ (((w.setCell ⟨b, p, none⟩ (.bool true)).alloc (.cells #[.int .i64 9, .int .i64 q, .int .i64 i.arg, .slice ro i.runes.length rc] 28 (0, 0))).drew).cell? ⟨w.heap.size, 1, none⟩ = some (.int .i64 q) ∧ (((w.setCell ⟨b, p, none⟩ (.bool true)).alloc (.cells #[.int .i64 9, .int .i64 q, .int .i64 i.arg, .slice ro i.runes.length rc] 28 (0, 0))).drew).cell? ⟨w.heap.size, 2, none⟩ = some (.int .i64 i.arg) ∧ (((w.setCell ⟨b, p, none⟩ (.bool true)).alloc (.cells #[.int .i64 9, .int .i64 q, .int .i64 i.arg, .slice ro i.runes.length rc] 28 (0, 0))).drew).cell? ⟨w.heap.size, 3, none⟩ = some (.slice ro i.runes.length rc) ∧ (((w.setCell ⟨b, p, none⟩ (.bool true)).alloc (.cells #[.int .i64 9, .int .i64 q, .int .i64 i.arg, .slice ro i.runes.length rc] 28 (0, 0))).drew).cell? ⟨tb, toff + p, none⟩ = some (.int .i32 z)) := ⟨by rw [cell_at hb0]; rfl, by rw [cell_at hb0]; rfl, by rw [cell_at hb0]; rfl, by rw [cell_at hb0]; rfl, HTb.out _ (((Below.refl base _).alloc HSz.out _).drew)⟩
    clear hb0
    go_enter Try.func61, Try.ntmps61
    go_wp2_with fail
    go_region_held3 (fun w' => w'.cell? ⟨w.heap.size, 0, none⟩ = some (.int .i64 9) ∧ w'.cell? ⟨w.heap.size, 1, none⟩ = some (.int .i64 q) ∧ w'.cell? ⟨w.heap.size, 2, none⟩ = some (.int .i64 i.arg) ∧ w'.cell? ⟨w.heap.size, 3, none⟩ = some (.slice ro i.runes.length rc) ∧ w'.cell? ⟨tb, toff + p, none⟩ = some (.int .i32 z))
      (first | exact HS0.out | go_keep)
      (first
        | (go_at_call 79
           refine (HTk.out _ (((Below.refl base _).alloc HSz.out _).drew) (Nat.le_trans HSz.out (by simp))).mono ?_
           rintro e w1 ⟨⟨b1, rfl, hb1⟩, hbw⟩
           have hx1 := (hbw.block w.heap.size (by simp)).trans (alloc_at (o := (.cells #[.int .i64 9, .int .i64 q, .int .i64 i.arg, .slice ro i.runes.length rc] 28 (0, 0))) (setCell_size w ⟨b, p, none⟩ (.bool true)))
           have d0 : w1.cell? ⟨w.heap.size, 0, none⟩ = some (.int .i64 9) := by rw [cell_at hx1]; rfl
           have d1 : w1.cell? ⟨w.heap.size, 1, none⟩ = some (.int .i64 q) := by rw [cell_at hx1]; rfl
           have d2 : w1.cell? ⟨w.heap.size, 2, none⟩ = some (.int .i64 i.arg) := by rw [cell_at hx1]; rfl
           have d3 : w1.cell? ⟨w.heap.size, 3, none⟩ = some (.slice ro i.runes.length rc) := by rw [cell_at hx1]; rfl
           have HB1 : Hid (Below (w.setCell ⟨b, p, none⟩ (.bool true)).heap.size (w.setCell ⟨b, p, none⟩ (.bool true)) w1) := (below1 _ _).drew.trans (hbw.mono (by simp))
           have d4 : w1.cell? ⟨tb, toff + p, none⟩ = some (.int .i32 z) := HTb.out w1 (HB1.out.mono HSz.out)
           have HT1 := Lib.hid hb1
           clear hx1 hbw hb1))
    all_goals
      cases b1
      · go_wp2
        refine bodyPost_end (results_none rfl _ _ _) rfl ⟨rfl, ⟨rows1, out, HAt.out.below HB1.out, by have := HU.out; omega, fun e he => .inl he⟩, HBel.out.trans (HB1.out.mono HSz.out), HKp.out.trans (Kept.of_below HB1.out)⟩
      · have HRe := Lib.hid (HReach.out (HT1.out rfl))
        clear HT1 HReach
        go_wp2_with (go_at_call 61; refine (HCall.out _ HB1.out).mono ?_; rintro e w2 ⟨rfl, ⟨rows2, out2, hat2, hle2, hhit2⟩, hb2, hk2⟩)
        exact bodyPost_ret (results_none rfl _ _ _) rfl ⟨rfl, ⟨rows2, out2, hat2, by have := HU.out; omega, hits_mono hhit2 HRe.out⟩, HBel.out.trans ((HB1.out.mono HSz.out).trans hb2), HKp.out.trans ((Kept.of_below HB1.out).trans hk2)⟩
  · rw [ho] at c0
    rw [ho] at HTk
    clear ho
    have hb0 : (((w.setCell ⟨b, p, none⟩ (.bool true)).alloc (.cells #[.int .i64 10, .int .i64 q, .int .i64 i.arg, .slice ro i.runes.length rc] 28 (0, 0))).drew).heap[w.heap.size]? = some (.cells #[.int .i64 10, .int .i64 q, .int .i64 i.arg, .slice ro i.runes.length rc] 28 (0, 0)) := alloc_at (o := (.cells #[.int .i64 10, .int .i64 q, .int .i64 i.arg, .slice ro i.runes.length rc] 28 (0, 0))) (setCell_size w ⟨b, p, none⟩ (.bool true))
    have HS0 : Hid ((((w.setCell ⟨b, p, none⟩ (.bool true)).alloc (.cells #[.int .i64 10, .int .i64 q, .int .i64 i.arg, .slice ro i.runes.length rc] 28 (0, 0))).drew).cell? ⟨w.heap.size, 0, none⟩ = some (.int .i64 10) ∧ (((w.setCell ⟨b, p, none⟩ (.bool true)).alloc (.cells #[.int .i64 10, .int .i64 q, .int .i64 i.arg, .slice ro i.runes.length rc] 28 (0, 0))).drew).cell? ⟨w.heap.size, 1, none⟩ = some (.int .i64 q) ∧ (((w.setCell ⟨b, p, none⟩ (.bool true)).alloc (.cells #[.int .i64 10, .int .i64 q, .int .i64 i.arg, .slice ro i.runes.length rc] 28 (0, 0))).drew).cell? ⟨w.heap.size, 2, none⟩ = some (.int .i64 i.arg) ∧ (((w.setCell ⟨b, p, none⟩ (.bool true)).alloc (.cells #[.int .i64 10, .int .i64 q, .int .i64 i.arg, .slice ro i.runes.length rc] 28 (0, 0))).drew).cell? ⟨w.heap.size, 3, none⟩ = some (.slice ro i.runes.length rc) ∧ (((w.setCell ⟨b, p, none⟩ (.bool true)).alloc (.cells #[.int .i64 10, .int .i64 q, .int .i64 i.arg, .slice ro i.runes.length rc] 28 (0, 0))).drew).cell? ⟨tb, toff + p, none⟩ = some (.int .i32 z)) := ⟨by rw [cell_at hb0]; rfl, by rw [cell_at hb0]; rfl, by rw [cell_at hb0]; rfl, by rw [cell_at hb0]; rfl, HTb.out _ (((Below.refl base _).alloc HSz.out _).drew)⟩
    clear hb0
    go_enter Try.func61, Try.ntmps61
    go_wp2_with fail
    go_region_held3 (fun w' => w'.cell? ⟨w.heap.size, 0, none⟩ = some (.int .i64 10) ∧ w'.cell? ⟨w.heap.size, 1, none⟩ = some (.int .i64 q) ∧ w'.cell? ⟨w.heap.size, 2, none⟩ = some (.int .i64 i.arg) ∧ w'.cell? ⟨w.heap.size, 3, none⟩ = some (.slice ro i.runes.length rc) ∧ w'.cell? ⟨tb, toff + p, none⟩ = some (.int .i32 z))
      (first | exact HS0.out | go_keep)
      (first
        | (go_at_call 79
           refine (HTk.out _ (((Below.refl base _).alloc HSz.out _).drew) (Nat.le_trans HSz.out (by simp))).mono ?_
           rintro e w1 ⟨⟨b1, rfl, hb1⟩, hbw⟩
           have hx1 := (hbw.block w.heap.size (by simp)).trans (alloc_at (o := (.cells #[.int .i64 10, .int .i64 q, .int .i64 i.arg, .slice ro i.runes.length rc] 28 (0, 0))) (setCell_size w ⟨b, p, none⟩ (.bool true)))
           have d0 : w1.cell? ⟨w.heap.size, 0, none⟩ = some (.int .i64 10) := by rw [cell_at hx1]; rfl
           have d1 : w1.cell? ⟨w.heap.size, 1, none⟩ = some (.int .i64 q) := by rw [cell_at hx1]; rfl
           have d2 : w1.cell? ⟨w.heap.size, 2, none⟩ = some (.int .i64 i.arg) := by rw [cell_at hx1]; rfl
           have d3 : w1.cell? ⟨w.heap.size, 3, none⟩ = some (.slice ro i.runes.length rc) := by rw [cell_at hx1]; rfl
           have HB1 : Hid (Below (w.setCell ⟨b, p, none⟩ (.bool true)).heap.size (w.setCell ⟨b, p, none⟩ (.bool true)) w1) := (below1 _ _).drew.trans (hbw.mono (by simp))
           have d4 : w1.cell? ⟨tb, toff + p, none⟩ = some (.int .i32 z) := HTb.out w1 (HB1.out.mono HSz.out)
           have HT1 := Lib.hid hb1
           clear hx1 hbw hb1))
    all_goals
      cases b1
      · go_wp2
        refine bodyPost_end (results_none rfl _ _ _) rfl ⟨rfl, ⟨rows1, out, HAt.out.below HB1.out, by have := HU.out; omega, fun e he => .inl he⟩, HBel.out.trans (HB1.out.mono HSz.out), HKp.out.trans (Kept.of_below HB1.out)⟩
      · have HRe := Lib.hid (HReach.out (HT1.out rfl))
        clear HT1 HReach
        go_wp2_with (go_at_call 61; refine (HCall.out _ HB1.out).mono ?_; rintro e w2 ⟨rfl, ⟨rows2, out2, hat2, hle2, hhit2⟩, hb2, hk2⟩)
        exact bodyPost_ret (results_none rfl _ _ _) rfl ⟨rfl, ⟨rows2, out2, hat2, by have := HU.out; omega, hits_mono hhit2 HRe.out⟩, HBel.out.trans ((HB1.out.mono HSz.out).trans hb2), HKp.out.trans ((Kept.of_below HB1.out).trans hk2)⟩
end Go.Proofs.Ytejhffcjamdffaa
