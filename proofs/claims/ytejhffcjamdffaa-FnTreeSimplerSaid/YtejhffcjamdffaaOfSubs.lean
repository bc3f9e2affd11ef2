/-
  The contract of Of at operators with parts. Condition: the tree is right ('OkF').
-/
import Derived.Test.YtejhffcjamdffaaOfOut
namespace Go.Proofs.Ytejhffcjamdffaa
open Go.RowKit

/-- What Of returns. -/
def OfPost (d : Nat) (rx : Rx) (w : World) (e : Ending) (w' : World) : Prop := (∃ cs', e = .returned (.agg cs'.toArray) ∧ ReRep w' (fun b => w.heap.size ≤ b ∧ b < w'.heap.size) d rx cs') ∧ Below w.heap.size w w'
def OfIH (S : Nat → Prop) (d : Nat) : Prop := ∀ (nd : Nd) (cs : List Value) (w : World), Rep w S d nd cs → OkF d nd → (∀ b, S b → b < w.heap.size) → Calls Try.prog 42 #[.agg cs.toArray] w (OfPost (d + 1) (ofF d nd) w)

set_option maxRecDepth 100000 in
set_option maxHeartbeats 8000000 in
theorem of_subs (S : Nat → Prop) (d : Nat) (IH : Hid (OfIH S d)) (nd : Nd) (cs : List Value) (w : World) (h : Rep w S (d + 1) nd cs) (hok : OkF (d + 1) nd) (hS : ∀ b, S b → b < w.heap.size)
    (hop : nd.op = 1 ∨ nd.op = 13 ∨ nd.op = 14 ∨ nd.op = 15 ∨ nd.op = 16 ∨ nd.op = 17 ∨ nd.op = 18 ∨ nd.op = 19) :
    Calls Try.prog 42 #[.agg cs.toArray] w (OfPost (d + 2) (ofF (d + 1) nd) w) := by
  obtain ⟨i0, z0, hi, hz0, hz1, hz2, hz3⟩ := info_sizes Try.info63
  obtain ⟨ro, rc, so, sc, rfl, hfit, hr, hrb, hs⟩ := h.open
  have hn := hfit.1
  have HS := Lib.hid hS
  have HSub := Lib.hid hs
  have HOk := Lib.hid hok.2
  have HSelf := Lib.hid hok.1
  have HOp := Lib.hid hop
  clear h hr hrb hS hs hfit hok
  have f2 : (nd.op == 2) = false := by simp; omega
  have f3 : (nd.op == 3) = false := by simp; omega
  have f4 : (nd.op == 4) = false := by simp; omega
  have f5 : (nd.op == 5) = false := by simp; omega
  have f6 : (nd.op == 6) = false := by simp; omega
  have f7 : (nd.op == 7) = false := by simp; omega
  have f8 : (nd.op == 8) = false := by simp; omega
  have f9 : (nd.op == 9) = false := by simp; omega
  have f10 : (nd.op == 10) = false := by simp; omega
  have f11 : (nd.op == 11) = false := by simp; omega
  have f12 : (nd.op == 12) = false := by simp; omega
  clear hop
  generalize hN : nd.subs.length = n at *
  have HN := Lib.hid hN
  clear hN
  go_enter Try.func42, Try.ntmps42
  go_wp2
  go_loopw [84] (fun i wr => ∃ (k : Nat) (v : Value) (cs : List Value), k ≤ n ∧ i = .int .i64 k ∧ OutAt wr w.heap.size #[.int .i64 nd.op, .bool nd.fold, .bool nd.lazy, .int .i64 nd.mn, .int .i64 nd.mx, .int .i64 nd.cap, .string nd.name, .slice ro nd.runes.length rc, .slice so n sc] 0 nd.mn nd.mx nd.cap nd.lazy nd.name (d + 1) ((nd.subs.take k).map (ofF d)) v cs ∧ Below w.heap.size w wr) (fun i _ => n - (intOf i).toNat)
  case atStart =>
    refine ⟨0, .slice none 0 0, [], Nat.zero_le _, rfl, ⟨?_, ?_, ?_, ReRow.nil _ _ _⟩, ?_⟩
    · rw [Below.heap_alloc _ _ _ (by simp <;> omega), Below.heap_alloc _ _ _ (by simp)]; exact heap_alloc_new w _
    · exact alloc_at (by simp)
    · exact ⟨_, by rw [Below.heap_alloc _ _ _ (by simp)]; exact alloc_at (by simp), rfl⟩
    · exact below3 w _ _ _
  case round =>
    obtain ⟨k, v, cs, hk, rfl, hO, hbel⟩ := hrel
    by_cases hkn : k < n
    · obtain ⟨s, hks⟩ := get_of_lt HN.out hkn
      rcases HSub.out with h0 | ⟨b, off, rfl, hb, hsub⟩
      · rw [h0] at hks; simp at hks
      · obtain ⟨cs', hcells, hrep⟩ := hsub k s hks
        have hkeep : Keeps S w wr := Keeps.of_below hbel HS.out
        obtain ⟨ro', rc', so', sc', rfl, c0, c1, c2, c3, c4, c5, c6, c7, c8⟩ := (Rep.keeps hkeep _ _ _ hrep).cells (hcells.keeps hkeep hb)
        have HRep := Lib.hid (Rep.keeps hkeep _ _ _ hrep)
        have HOkS := Lib.hid (HOk.out s (List.mem_of_getElem? hks))
        have hsz := hbel.size
        have HLt := Lib.hid (lt_below HS.out hsz)
        have hlk : ((nd.subs.take k).map (ofF d)).length = k := by rw [List.length_map, List.length_take, HN.out]; omega
        obtain ⟨aI, cI, hvI⟩ := owns_slice hO.row.1
        rw [hlk] at hvI
        subst hvI
        have hbs : w.heap.size + 2 < wr.heap.size := (Array.getElem?_eq_some_iff.1 hO.out).1
        have hpc : wr.cell? ⟨w.heap.size + 2, 9, none⟩ = some (.slice aI k cI) := by rw [cell_at hO.out]; rfl
        have HO := Lib.hid hO
        have HLK := Lib.hid hlk
        have HTk : Hid ((nd.subs.take (k + 1)).map (ofF d) = (nd.subs.take k).map (ofF d) ++ [ofF d s]) := by rw [List.take_add_one, hks, List.map_append]; rfl
        have HBel := Lib.hid hbel
        have HVB : Hid (∀ j, (Value.slice aI k cI).ownBlock = some j → j < wr.heap.size) := fun j hj => (hO.row.1.lt j hj).2
        clear hsub hcells hrep hkeep hks hlk hO hbel
        go_wp2_with fail
        go_region_law (first
          | (refine step_append_one _ (by rfl) _ _ _ (by rfl) (w.heap.size + 3) 63 i0 z0 10 120 Try.underlying61 hi hz0 hz1 hz2 hz3 (.slice aI k cI) k cs (by rfl) (HOwn1.out.alloc _) ⟨w1.heap.size, 0, none⟩ 1 [.int .i64 (ofF d s).kind, .slice eo en ec, .bool neg, .int .i64 (ofF d s).mn, .int .i64 (ofF d s).mx, .bool lz, .int .i64 cp, .string nm, .int .i64 what, .slice ao (ofF d s).subs.length c] (by rfl) (by rfl) (World.news_of_block (cs := #[.int .i64 (ofF d s).kind, .slice eo en ec, .bool neg, .int .i64 (ofF d s).mn, .int .i64 (ofF d s).mx, .bool lz, .int .i64 cp, .string nm, .int .i64 what, .slice ao (ofF d s).subs.length c]) (t := 63) (fr := (0, 0)) (heap_alloc_new w1 _)) (by simp [Value.oneCell']) (by unfold maxLen; omega) (next_fits k 120 (by omega) (by omega)) (by simp; omega) (w1.heap.size + 1) (by simp) ?_
             intro gg cap2 w2 hown2 hgrow hat hlt2
             have hg2 : w2.heap[w.heap.size + 2]? = some (.cells #[.int .i64 0, .slice none 0 0, .bool false, .int .i64 nd.mn, .int .i64 nd.mx, .bool nd.lazy, .int .i64 nd.cap, .string nd.name, .int .i64 0, .slice aI k cI] 63 (0, 0)) := by
               rw [hgrow.block (w.heap.size + 2) (by simp; omega) (fun e => by have := (HOwn1.out.lt _ e.symm).1; omega), Below.heap_alloc _ _ _ hs1]
               exact HO1.out.out
             have hc2 : w2.cell? ⟨w.heap.size + 2, 9, none⟩ = some (.slice aI k cI) := by rw [cell_at hg2]; rfl
             have hf2 : w2.frozen? ⟨w.heap.size + 2, 9, none⟩ = false := frozen_at hg2 9
             have HW2 := Lib.hid hown2
             have HGr := Lib.hid hgrow
             have HAt := Lib.hid hat
             clear hg2 hown2 hgrow hat)
          | (go_simp
             go_at_call 42
             refine (IH.out s _ _ (Rep.keeps (Keeps.of_below ((below1 wr _).drew) HLt.out) _ _ _ HRep.out) HOkS.out (lt_below HLt.out (by simp))).mono ?_
             rintro e w1 ⟨⟨cs1, rfl, hrep1⟩, hb1⟩
             obtain ⟨eo, en, ec, neg, lz, cp, what, nm, ao, c, rfl⟩ := hrep1.form
             have hs1 : w.heap.size + 2 < w1.heap.size := by have := hb1.size; simp at this; omega
             have HO1 : Hid (OutAt w1 _ _ _ _ _ _ _ _ _ _ _ _) := HO.out.below (((below1 wr _).drew).trans (hb1.mono (by simp)))
             have hpc1 : w1.cell? ⟨w.heap.size + 2, 9, none⟩ = some (.slice aI k cI) := by rw [cell_at HO1.out.out]; rfl
             have HOwn1 : Hid (w1.ownsRow (w.heap.size + 3) 63 10 (.slice aI k cI) k cs) := by have h1 := HO1.out.row.1; rw [HLK.out] at h1; exact h1
             have HRep1 := Lib.hid hrep1
             have HB1 := Lib.hid hb1
             clear hrep1 hb1))
        all_goals
          have hrel := of_next HO1.out HLK.out (by simp; omega) (fun j hj => by have := HVB.out j hj; simp; omega) HRep1.out rfl HGr.out HW2.out HAt.out
          have hbel2 := of_below (j := 9) (u := .slice (some ⟨gg, 0, none⟩) (k + 1) cap2) HBel.out HB1.out (by omega) HOwn1.out HGr.out
          rw [← HTk.out] at hrel
          clear HO1 HRep1 HGr HW2 HAt HB1 HOwn1 hpc1 hpc hc2 hf2
          go_wp2
          go_roundw
          case rel => exact ⟨k + 1, _, _, by omega, by go_num, hrel, hbel2⟩
          case measure => simp [intOf]; omega
    · have hkn' : k = n := by omega
      subst hkn'
      rw [List.take_of_length_le (by rw [HN.out]; exact Nat.le_refl _)] at hO
      obtain ⟨aI, cI, rfl⟩ := owns_slice hO.row.1
      have hlk : (nd.subs.map (ofF d)).length = k := by rw [List.length_map]; exact HN.out
      rw [hlk] at hO
      have b0 : wr.cell? ⟨w.heap.size, 0, none⟩ = some (.int .i64 nd.op) := by rw [cell_at hO.box]; rfl
      have HO := Lib.hid hO
      have HLK := Lib.hid hlk
      have HBel := Lib.hid hbel
      have p0 : wr.cell? ⟨w.heap.size + 2, 0, none⟩ = some (.int .i64 0) := by rw [cell_at hO.out]; rfl
      have p1 : wr.cell? ⟨w.heap.size + 2, 1, none⟩ = some (.slice none 0 0) := by rw [cell_at hO.out]; rfl
      have p2 : wr.cell? ⟨w.heap.size + 2, 2, none⟩ = some (.bool false) := by rw [cell_at hO.out]; rfl
      have p3 : wr.cell? ⟨w.heap.size + 2, 3, none⟩ = some (.int .i64 nd.mn) := by rw [cell_at hO.out]; rfl
      have p4 : wr.cell? ⟨w.heap.size + 2, 4, none⟩ = some (.int .i64 nd.mx) := by rw [cell_at hO.out]; rfl
      have p5 : wr.cell? ⟨w.heap.size + 2, 5, none⟩ = some (.bool nd.lazy) := by rw [cell_at hO.out]; rfl
      have p6 : wr.cell? ⟨w.heap.size + 2, 6, none⟩ = some (.int .i64 nd.cap) := by rw [cell_at hO.out]; rfl
      have p7 : wr.cell? ⟨w.heap.size + 2, 7, none⟩ = some (.string nd.name) := by rw [cell_at hO.out]; rfl
      have p8 : wr.cell? ⟨w.heap.size + 2, 8, none⟩ = some (.int .i64 0) := by rw [cell_at hO.out]; rfl
      have p9 : wr.cell? ⟨w.heap.size + 2, 9, none⟩ = some (.slice aI k cI) := by rw [cell_at hO.out]; rfl
      have q0 : wr.frozen? ⟨w.heap.size + 2, 0, none⟩ = false := frozen_at hO.out 0
      have q3 : wr.frozen? ⟨w.heap.size + 2, 3, none⟩ = false := frozen_at hO.out 3
      have q4 : wr.frozen? ⟨w.heap.size + 2, 4, none⟩ = false := frozen_at hO.out 4
      have hr1 : ∃ rcells, wr.heap[w.heap.size + 1]? = some (.cells rcells 63 (0, 0)) ∧ rcells.size = 10 := hO.res
      obtain ⟨rcells, hr1, hrz⟩ := hr1
      clear hO hlk hbel
      obtain ⟨r0, r1, r2, r3, r4, r5, r6, r7, r8, r9, rfl⟩ := ten hrz
      have m0 : wr.cell? ⟨w.heap.size + 1, 0, none⟩ = some r0 := by rw [cell_at hr1]; rfl
      have m1 : wr.cell? ⟨w.heap.size + 1, 1, none⟩ = some r1 := by rw [cell_at hr1]; rfl
      have m2 : wr.cell? ⟨w.heap.size + 1, 2, none⟩ = some r2 := by rw [cell_at hr1]; rfl
      have m3 : wr.cell? ⟨w.heap.size + 1, 3, none⟩ = some r3 := by rw [cell_at hr1]; rfl
      have m4 : wr.cell? ⟨w.heap.size + 1, 4, none⟩ = some r4 := by rw [cell_at hr1]; rfl
      have m5 : wr.cell? ⟨w.heap.size + 1, 5, none⟩ = some r5 := by rw [cell_at hr1]; rfl
      have m6 : wr.cell? ⟨w.heap.size + 1, 6, none⟩ = some r6 := by rw [cell_at hr1]; rfl
      have m7 : wr.cell? ⟨w.heap.size + 1, 7, none⟩ = some r7 := by rw [cell_at hr1]; rfl
      have m8 : wr.cell? ⟨w.heap.size + 1, 8, none⟩ = some r8 := by rw [cell_at hr1]; rfl
      have m9 : wr.cell? ⟨w.heap.size + 1, 9, none⟩ = some r9 := by rw [cell_at hr1]; rfl
      have z0' : wr.frozen? ⟨w.heap.size + 1, 0, none⟩ = false := frozen_at hr1 0
      have z1 : wr.frozen? ⟨w.heap.size + 1, 1, none⟩ = false := frozen_at hr1 1
      have z2 : wr.frozen? ⟨w.heap.size + 1, 2, none⟩ = false := frozen_at hr1 2
      have z3 : wr.frozen? ⟨w.heap.size + 1, 3, none⟩ = false := frozen_at hr1 3
      have z4 : wr.frozen? ⟨w.heap.size + 1, 4, none⟩ = false := frozen_at hr1 4
      have z5 : wr.frozen? ⟨w.heap.size + 1, 5, none⟩ = false := frozen_at hr1 5
      have z6 : wr.frozen? ⟨w.heap.size + 1, 6, none⟩ = false := frozen_at hr1 6
      have z7 : wr.frozen? ⟨w.heap.size + 1, 7, none⟩ = false := frozen_at hr1 7
      have z8 : wr.frozen? ⟨w.heap.size + 1, 8, none⟩ = false := frozen_at hr1 8
      have z9 : wr.frozen? ⟨w.heap.size + 1, 9, none⟩ = false := frozen_at hr1 9
      have HR1 := Lib.hid hr1
      clear hr1
      have HOne : Hid (13 ≤ nd.op → nd.op ≤ 17 → k = 1) := fun h1 h2 => HN.out.symm.trans (HSelf.out.one h1 h2)
      have hl : k ≤ 1353264501504 := by omega
      rcases HOp.out with hop | hop | hop | hop | hop | hop | hop | hop
      all_goals rw [hop] at b0
      ·
        clear HOne
        go_wp2
        refine bodyPost_ret (v := .agg #[.int .i64 0, .slice none 0 0, .bool false, .int .i64 nd.mn, .int .i64 nd.mx, .bool nd.lazy, .int .i64 nd.cap, .string nd.name, .int .i64 0, .slice aI k cI]) (by simp [results, Try.results42, go_sem, m0, m1, m2, m3, m4, m5, m6, m7, m8, m9]) rfl ⟨⟨[.int .i64 0, .slice none 0 0, .bool false, .int .i64 nd.mn, .int .i64 nd.mx, .bool nd.lazy, .int .i64 nd.cap, .string nd.name, .int .i64 0, .slice aI k cI], rfl, ?_⟩, ?_⟩
        · rw [show ofF (d + 1) nd = .mk 0 nd.mn nd.mx (nd.subs.map (ofF d)) from by simp [ofF, hop]]
          refine ReRow.rep' (base := w.heap.size + 3) (cs := cs) ?_ HLK.out (by omega) hl
          repeat (refine ReRow.setCell ?_ (by simp) _)
          exact HO.out.row
        · repeat (refine Below.setCell ?_ (by simp <;> omega) _)
          exact HBel.out
      ·
        have hk1 := HOne.out (by omega) (by omega)
        subst hk1
        clear HOne
        go_wp2
        refine bodyPost_ret (v := .agg #[.int .i64 6, .slice none 0 0, .bool false, .int .i64 nd.mn, .int .i64 nd.mx, .bool nd.lazy, .int .i64 nd.cap, .string nd.name, .int .i64 0, .slice aI 1 cI]) (by simp [results, Try.results42, go_sem, m0, m1, m2, m3, m4, m5, m6, m7, m8, m9]) rfl ⟨⟨[.int .i64 6, .slice none 0 0, .bool false, .int .i64 nd.mn, .int .i64 nd.mx, .bool nd.lazy, .int .i64 nd.cap, .string nd.name, .int .i64 0, .slice aI 1 cI], rfl, ?_⟩, ?_⟩
        · rw [show ofF (d + 1) nd = .mk 6 nd.mn nd.mx (nd.subs.map (ofF d)) from by simp [ofF, hop]]
          refine ReRow.rep' (base := w.heap.size + 3) (cs := cs) ?_ HLK.out (by omega) hl
          repeat (refine ReRow.setCell ?_ (by simp) _)
          exact HO.out.row
        · repeat (refine Below.setCell ?_ (by simp <;> omega) _)
          exact HBel.out
      ·
        have hk1 := HOne.out (by omega) (by omega)
        subst hk1
        clear HOne
        go_wp2
        refine bodyPost_ret (v := .agg #[.int .i64 5, .slice none 0 0, .bool false, .int .i64 0, .int .i64 (-1), .bool nd.lazy, .int .i64 nd.cap, .string nd.name, .int .i64 0, .slice aI 1 cI]) (by simp [results, Try.results42, go_sem, m0, m1, m2, m3, m4, m5, m6, m7, m8, m9]) rfl ⟨⟨[.int .i64 5, .slice none 0 0, .bool false, .int .i64 0, .int .i64 (-1), .bool nd.lazy, .int .i64 nd.cap, .string nd.name, .int .i64 0, .slice aI 1 cI], rfl, ?_⟩, ?_⟩
        · rw [show ofF (d + 1) nd = .mk 5 0 (-1) (nd.subs.map (ofF d)) from by simp [ofF, hop]]
          refine ReRow.rep' (base := w.heap.size + 3) (cs := cs) ?_ HLK.out (by omega) hl
          repeat (refine ReRow.setCell ?_ (by simp) _)
          exact HO.out.row
        · repeat (refine Below.setCell ?_ (by simp <;> omega) _)
          exact HBel.out
      ·
        have hk1 := HOne.out (by omega) (by omega)
        subst hk1
        clear HOne
        go_wp2
        refine bodyPost_ret (v := .agg #[.int .i64 5, .slice none 0 0, .bool false, .int .i64 1, .int .i64 (-1), .bool nd.lazy, .int .i64 nd.cap, .string nd.name, .int .i64 0, .slice aI 1 cI]) (by simp [results, Try.results42, go_sem, m0, m1, m2, m3, m4, m5, m6, m7, m8, m9]) rfl ⟨⟨[.int .i64 5, .slice none 0 0, .bool false, .int .i64 1, .int .i64 (-1), .bool nd.lazy, .int .i64 nd.cap, .string nd.name, .int .i64 0, .slice aI 1 cI], rfl, ?_⟩, ?_⟩
        · rw [show ofF (d + 1) nd = .mk 5 1 (-1) (nd.subs.map (ofF d)) from by simp [ofF, hop]]
          refine ReRow.rep' (base := w.heap.size + 3) (cs := cs) ?_ HLK.out (by omega) hl
          repeat (refine ReRow.setCell ?_ (by simp) _)
          exact HO.out.row
        · repeat (refine Below.setCell ?_ (by simp <;> omega) _)
          exact HBel.out
      ·
        have hk1 := HOne.out (by omega) (by omega)
        subst hk1
        clear HOne
        go_wp2
        refine bodyPost_ret (v := .agg #[.int .i64 5, .slice none 0 0, .bool false, .int .i64 0, .int .i64 1, .bool nd.lazy, .int .i64 nd.cap, .string nd.name, .int .i64 0, .slice aI 1 cI]) (by simp [results, Try.results42, go_sem, m0, m1, m2, m3, m4, m5, m6, m7, m8, m9]) rfl ⟨⟨[.int .i64 5, .slice none 0 0, .bool false, .int .i64 0, .int .i64 1, .bool nd.lazy, .int .i64 nd.cap, .string nd.name, .int .i64 0, .slice aI 1 cI], rfl, ?_⟩, ?_⟩
        · rw [show ofF (d + 1) nd = .mk 5 0 1 (nd.subs.map (ofF d)) from by simp [ofF, hop]]
          refine ReRow.rep' (base := w.heap.size + 3) (cs := cs) ?_ HLK.out (by omega) hl
          repeat (refine ReRow.setCell ?_ (by simp) _)
          exact HO.out.row
        · repeat (refine Below.setCell ?_ (by simp <;> omega) _)
          exact HBel.out
      ·
        have hk1 := HOne.out (by omega) (by omega)
        subst hk1
        clear HOne
        go_wp2
        refine bodyPost_ret (v := .agg #[.int .i64 5, .slice none 0 0, .bool false, .int .i64 nd.mn, .int .i64 nd.mx, .bool nd.lazy, .int .i64 nd.cap, .string nd.name, .int .i64 0, .slice aI 1 cI]) (by simp [results, Try.results42, go_sem, m0, m1, m2, m3, m4, m5, m6, m7, m8, m9]) rfl ⟨⟨[.int .i64 5, .slice none 0 0, .bool false, .int .i64 nd.mn, .int .i64 nd.mx, .bool nd.lazy, .int .i64 nd.cap, .string nd.name, .int .i64 0, .slice aI 1 cI], rfl, ?_⟩, ?_⟩
        · rw [show ofF (d + 1) nd = .mk 5 nd.mn nd.mx (nd.subs.map (ofF d)) from by simp [ofF, hop]]
          refine ReRow.rep' (base := w.heap.size + 3) (cs := cs) ?_ HLK.out (by omega) hl
          repeat (refine ReRow.setCell ?_ (by simp) _)
          exact HO.out.row
        · repeat (refine Below.setCell ?_ (by simp <;> omega) _)
          exact HBel.out
      ·
        clear HOne
        go_wp2
        refine bodyPost_ret (v := .agg #[.int .i64 3, .slice none 0 0, .bool false, .int .i64 nd.mn, .int .i64 nd.mx, .bool nd.lazy, .int .i64 nd.cap, .string nd.name, .int .i64 0, .slice aI k cI]) (by simp [results, Try.results42, go_sem, m0, m1, m2, m3, m4, m5, m6, m7, m8, m9]) rfl ⟨⟨[.int .i64 3, .slice none 0 0, .bool false, .int .i64 nd.mn, .int .i64 nd.mx, .bool nd.lazy, .int .i64 nd.cap, .string nd.name, .int .i64 0, .slice aI k cI], rfl, ?_⟩, ?_⟩
        · rw [show ofF (d + 1) nd = .mk 3 nd.mn nd.mx (nd.subs.map (ofF d)) from by simp [ofF, hop]]
          refine ReRow.rep' (base := w.heap.size + 3) (cs := cs) ?_ HLK.out (by omega) hl
          repeat (refine ReRow.setCell ?_ (by simp) _)
          exact HO.out.row
        · repeat (refine Below.setCell ?_ (by simp <;> omega) _)
          exact HBel.out
      ·
        clear HOne
        go_wp2
        refine bodyPost_ret (v := .agg #[.int .i64 4, .slice none 0 0, .bool false, .int .i64 nd.mn, .int .i64 nd.mx, .bool nd.lazy, .int .i64 nd.cap, .string nd.name, .int .i64 0, .slice aI k cI]) (by simp [results, Try.results42, go_sem, m0, m1, m2, m3, m4, m5, m6, m7, m8, m9]) rfl ⟨⟨[.int .i64 4, .slice none 0 0, .bool false, .int .i64 nd.mn, .int .i64 nd.mx, .bool nd.lazy, .int .i64 nd.cap, .string nd.name, .int .i64 0, .slice aI k cI], rfl, ?_⟩, ?_⟩
        · rw [show ofF (d + 1) nd = .mk 4 nd.mn nd.mx (nd.subs.map (ofF d)) from by simp [ofF, hop]]
          refine ReRow.rep' (base := w.heap.size + 3) (cs := cs) ?_ HLK.out (by omega) hl
          repeat (refine ReRow.setCell ?_ (by simp) _)
          exact HO.out.row
        · repeat (refine Below.setCell ?_ (by simp <;> omega) _)
          exact HBel.out
end Go.Proofs.Ytejhffcjamdffaa
