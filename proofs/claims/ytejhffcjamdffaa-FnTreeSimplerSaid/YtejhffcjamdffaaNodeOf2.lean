/-
  The contract of nodeOf at nodes with runes. No conditions beside those typed.
-/
import Derived.Test.YtejhffcjamdffaaNodeOf
namespace Go.Proofs.Ytejhffcjamdffaa
open Go.RowKit

set_option maxRecDepth 100000 in
set_option maxHeartbeats 8000000 in
theorem nodeof_some (S : Nat → Prop) (d : Nat) (IH : Hid (NodeIH S d)) (nd : Nd) (g : Nat) (w : World) (h : Rg w S (d + 1) nd g) (hok : OkF (d + 1) nd) (hS : ∀ b, S b → b < w.heap.size) (hrz : nd.runes.length ≠ 0) :
    Calls Try.prog 74 #[.pointer (some ⟨g, 0, none⟩)] w (NodeOfPost (d + 1) nd w) := by
  obtain ⟨i0, z0, hi, hz0, hz1, hz2, hz3⟩ := info_sizes Try.info36
  obtain ⟨j0, y0, hj, hy0, hy1, hy2, hy3⟩ := info_sizes Try.info21'
  obtain ⟨ro, so, rc, sc, hg, hobj, hfit, hr, hrb, hs⟩ := h.open
  obtain ⟨c0, c1, c2, c3, c4, c5, c6, c7, c8, c9, c10⟩ := rg_cells hobj
  have hrange := hok.1.range
  rw [show nd.op % 256 = nd.op from by omega] at c0
  have hn := hfit.1
  have hrl := hfit.2.1
  have hgl : g < w.heap.size := hS g hg
  have HS := Lib.hid hS
  have HSub := Lib.hid hs
  have HR := Lib.hid hr
  have HRB : Hid (In (fun b => b < w.heap.size) (.slice ro nd.runes.length rc)) := hrb.mono hS
  have HFit := Lib.hid hfit
  have HOk := Lib.hid hok.2
  clear h hr hrb hS hs hfit hok hobj hg
  have hf := fold_bit nd
  have hl := lazy_bit nd
  generalize hfl : flagsF nd = fl at *
  generalize hN : nd.subs.length = n at *
  have HN := Lib.hid hN
  clear hN hfl
  have hne0 : g ≠ w.heap.size := by omega
  have hne1 : g ≠ w.heap.size + 1 := by omega
  have hne2 : g ≠ w.heap.size + 2 := by omega
  have hwr : IntKind.i64.wrap nd.op = nd.op := IntWalk.i64_in nd.op ⟨by omega, by omega⟩
  have HCell : Hid (∃ ra, ro = some ra ∧ ∀ w' : World, Below w.heap.size w w' → ∀ j u, (nd.runes.map (Value.int .i32))[j]? = some u → w'.cell? (ra.add j) = some u) := by
    rcases HR.out.2 with ⟨_, h0⟩ | ⟨ra, cap, e, h3, h4, h5⟩
    · exact absurd h0 hrz
    · injection e with e1 e2 e3
      refine ⟨ra, e1, fun w' hb => ?_⟩
      have hr' := RowN.keeps HR.out (Keeps.of_below hb (fun _ h => h)) HRB.out
      rcases hr'.2 with ⟨_, h0⟩ | ⟨ra', cap', e', k3, k4, k5⟩
      · exact absurd h0 hrz
      · injection e' with e1' e2' e3'
        rw [e1] at e1'
        injection e1' with e1'
        subst e1'
        exact k5
  obtain ⟨ra, rfl, hcell⟩ := HCell.out
  clear HCell
  have HCell := Lib.hid hcell
  clear hcell
  generalize hM : nd.runes.length = m at *
  have HML : Hid ((nd.runes.map (Value.int .i32)).length = m) := by rw [← hM]; exact List.length_map _
  have HM := Lib.hid hM
  clear hM
  have hm0 : 0 < m := by omega
  have hm1 : m ≤ maxLen := by unfold maxLen; omega
  have HKeep : Hid (∀ w' : World, Below w.heap.size w w' → (w'.cell? ⟨g, 0, none⟩ = some (.int .u8 nd.op) ∧ w'.cell? ⟨g, 1, none⟩ = some (.int .u16 fl) ∧ w'.cell? ⟨g, 4, none⟩ = some (.slice (some ra) m rc) ∧ w'.cell? ⟨g, 7, none⟩ = some (.int .i64 nd.mn) ∧ w'.cell? ⟨g, 8, none⟩ = some (.int .i64 nd.mx) ∧ w'.cell? ⟨g, 9, none⟩ = some (.int .i64 nd.cap) ∧ w'.cell? ⟨g, 10, none⟩ = some (.string nd.name))) := fun w' hb => by
    refine ⟨?_, ?_, ?_, ?_, ?_, ?_, ?_⟩ <;> rw [hb.cell (by exact hgl)] <;> assumption
  go_enter Try.func74, Try.ntmps74
  go_wp2_with fail
  go_region_held3 (fun w' => w'.cell? ⟨g, 0, none⟩ = some (.int .u8 nd.op) ∧ w'.cell? ⟨g, 1, none⟩ = some (.int .u16 fl) ∧ w'.cell? ⟨g, 4, none⟩ = some (.slice (some ra) m rc) ∧ w'.cell? ⟨g, 7, none⟩ = some (.int .i64 nd.mn) ∧ w'.cell? ⟨g, 8, none⟩ = some (.int .i64 nd.mx) ∧ w'.cell? ⟨g, 9, none⟩ = some (.int .i64 nd.cap) ∧ w'.cell? ⟨g, 10, none⟩ = some (.string nd.name))
    (exact HKeep.out _ (by repeat (first | exact Below.refl _ _ | with_reducible refine Below.setCell ?_ (by simp <;> omega) _ | with_reducible refine Below.alloc ?_ (by simp <;> omega) _ | with_reducible refine Below.drew ?_)))
    (first
      | (refine step_append_nil (by rfl) _ _ _ (by rfl) 21 j0 y0 4 Try.underlying26 hj hy0 hy1 hy2 (by rfl) ra m rc (nd.runes.map (Value.int .i32)) (by rfl) HML.out (fun j u hu => HCell.out _ (by repeat (first | exact Below.refl _ _ | with_reducible refine Below.alloc ?_ (by simp <;> omega) _ | with_reducible refine Below.drew ?_)) j u hu) hm0 hm1 (by omega) ?_
         intro H cap pad hH hcap hmax
         simp at hH
         subst hH))
  · have c2a : ∀ o1 o2 o3 : Obj, (((w.alloc o1).alloc o2).alloc o3).cell? ⟨g, 2, none⟩ = some (.slice so n sc) := fun o1 o2 o3 => World.cell?_alloc_of _ _ _ (World.cell?_alloc_of _ _ _ (World.cell?_alloc_of _ _ _ c2))
    clear HCell HKeep HR HRB
    go_wp2
    go_loopw [50] (fun i wr => ∃ (k : Nat) (v : Value) (cs : List Value), k ≤ n ∧ i = .int .i64 k ∧ NdAt wr w.heap.size (w.heap.size + 1 + 1) (w.heap.size + 1 + 1 + 1) nd (.slice (some ⟨w.heap.size + 1, 0, none⟩) m cap) d (nd.subs.take k) v cs ∧ Below w.heap.size w wr) (fun i _ => n - (intOf i).toNat)
    case atStart =>
      refine ⟨0, .slice none 0 0, [], Nat.zero_le _, rfl, ⟨⟨by omega, by omega, by simp⟩, ⟨_, (Below.heap_alloc _ _ _ (by simp <;> omega)).trans ((Below.heap_alloc _ _ _ (by simp)).trans (alloc_at rfl)), rfl⟩, alloc_at (by simp), runes_made ((Below.heap_alloc _ _ _ (by simp)).trans (alloc_at (by simp))) HM.out hcap hmax, (fun j hj => by simp [Value.ownBlock] at hj; omega), NdRow.nil _ _ _⟩, (below3 w _ _ _).drew.drew⟩
    case round =>
      obtain ⟨k, v, cs, hk, rfl, hO, hbel⟩ := hrel
      by_cases hkn : k < n
      · obtain ⟨s, hks⟩ := get_of_lt HN.out hkn
        rcases HSub.out with h0 | ⟨b, off, rfl, hb, hsub⟩
        · rw [h0] at hks; simp at hks
        · obtain ⟨gs, hcell, hrg⟩ := hsub k s hks
          have hkeep : Keeps S w wr := Keeps.of_below hbel HS.out
          have hcr : wr.cell? ⟨b, off + k, none⟩ = some (.pointer (some ⟨gs, 0, none⟩)) := (hkeep.cell (a := ⟨b, off + k, none⟩) hb).trans hcell
          have HRg := Lib.hid (Rg.keeps hkeep _ _ _ hrg)
          have HOkS := Lib.hid (HOk.out s (List.mem_of_getElem? hks))
          have hsz := hbel.size
          have HLt := Lib.hid (lt_below HS.out hsz)
          have hlk : (nd.subs.take k).length = k := by rw [List.length_take, HN.out]; omega
          obtain ⟨aI, cI, hvI⟩ := owns_slice hO.row.1
          rw [hlk] at hvI
          subst hvI
          have hbs : w.heap.size + 1 + 1 + 1 ≤ wr.heap.size := hO.le.2.2
          have hpc : wr.cell? ⟨w.heap.size + 1 + 1, 8, none⟩ = some (.slice aI k cI) := by rw [cell_at hO.out]; rfl
          have HO := Lib.hid hO
          have HLK := Lib.hid hlk
          have HTk : Hid (nd.subs.take (k + 1) = nd.subs.take k ++ [s]) := by rw [List.take_add_one, hks]; rfl
          have HBel := Lib.hid hbel
          have HVB : Hid (∀ j, (Value.slice aI k cI).ownBlock = some j → j < wr.heap.size) := fun j hj => (hO.row.1.lt j hj).2
          clear hsub hcell hrg hkeep hks hlk hO hbel c2a c0 c1 c2 c3 c4 c5 c6 c7 c8 c9 c10
          go_wp2_with fail
          go_region_law (first
            | (refine step_append_one _ (by rfl) _ _ _ (by rfl) (w.heap.size + 1 + 1 + 1) 36 i0 z0 9 104 Try.underlying34 hi hz0 hz1 hz2 hz3 (.slice aI k cI) k cs (by rfl) (HOwn2.out.alloc _) ⟨w2.heap.size, 0, none⟩ 1 [.int .i64 s.op, .bool s.fold, .bool s.lazy, .int .i64 s.mn, .int .i64 s.mx, .int .i64 s.cap, .string s.name, .slice ro2 s.runes.length rc2, .slice so2 s.subs.length sc2] (by rfl) (by rfl) (World.news_of_block (cs := #[.int .i64 s.op, .bool s.fold, .bool s.lazy, .int .i64 s.mn, .int .i64 s.mx, .int .i64 s.cap, .string s.name, .slice ro2 s.runes.length rc2, .slice so2 s.subs.length sc2]) (t := 36) (fr := (0, 0)) (heap_alloc_new w2 _)) (by simp [Value.oneCell']) (by unfold maxLen; omega) (next_fits k 104 (by omega) (by omega)) (by simp; omega) (w2.heap.size + 1) (by simp) ?_
               intro gg cap2 w3 hown3 hgrow hat hlt3
               have hg3 : w3.heap[w.heap.size + 1 + 1]? = some (.cells #[.int .i64 nd.op, .bool nd.fold, .bool nd.lazy, .int .i64 nd.mn, .int .i64 nd.mx, .int .i64 nd.cap, .string nd.name, .slice (some ⟨w.heap.size + 1, 0, none⟩) m cap, .slice aI k cI] 36 (0, 0)) := by
                 rw [hgrow.block (w.heap.size + 1 + 1) (by simp; omega) (fun e => by have := (HOwn2.out.lt _ e.symm).1; omega), Below.heap_alloc _ _ _ (by omega)]
                 exact HO2.out.out
               have hc3 : w3.cell? ⟨w.heap.size + 1 + 1, 8, none⟩ = some (.slice aI k cI) := by rw [cell_at hg3]; rfl
               have hf3 : w3.frozen? ⟨w.heap.size + 1 + 1, 8, none⟩ = false := frozen_at hg3 8
               have HW3 := Lib.hid hown3
               have HGr := Lib.hid hgrow
               have HAt := Lib.hid hat
               clear hg3 hown3 hgrow hat)
            | (go_simp
               go_at_call 74
               refine (IH.out s gs _ (Rg.keeps (Keeps.of_below ((Below.refl wr.heap.size wr).drew) HLt.out) _ _ _ HRg.out) HOkS.out (lt_below HLt.out (by simp))).mono ?_
               rintro e w2 ⟨⟨cs2, rfl, hrep2⟩, hb2⟩
               obtain ⟨ro2, rc2, so2, sc2, rfl⟩ := hrep2.form
               have hs2 : w.heap.size + 1 + 1 + 1 ≤ w2.heap.size := by have := hb2.size; simp at this; omega
               have HO2 := Lib.hid (HO.out.below (((Below.refl wr.heap.size wr).drew).trans (hb2.mono (by simp))))
               have hpc2 : w2.cell? ⟨w.heap.size + 1 + 1, 8, none⟩ = some (.slice aI k cI) := by rw [cell_at HO2.out.out]; rfl
               have hpa2 : ∀ o : Obj, (w2.alloc o).cell? ⟨w.heap.size + 1 + 1, 8, none⟩ = some (.slice aI k cI) := fun o => World.cell?_alloc_of _ _ _ hpc2
               have HOwn2 : Hid (w2.ownsRow (w.heap.size + 1 + 1 + 1) 36 9 (.slice aI k cI) k cs) := by have h1 := HO2.out.row.1; rw [HLK.out] at h1; exact h1
               have HRep2 := Lib.hid hrep2
               have HB2 := Lib.hid hb2
               clear hrep2 hb2))
          all_goals
            have hrel := nd_next HO2.out HLK.out (by simp; omega) (fun j hj => by have := HVB.out j hj; simp; omega) HRep2.out rfl HGr.out HW3.out HAt.out
            have hbel2 := nd_below (j := 8) (u := .slice (some ⟨gg, 0, none⟩) (k + 1) cap2) HBel.out HB2.out (X := w.heap.size + 1 + 1) (by omega) HOwn2.out HGr.out
            rw [← HTk.out] at hrel
            clear HO2 HRep2 HGr HW3 HAt HB2 HOwn2 hpc2 hpa2 hpc hc3 hf3
            go_wp2
            go_roundw
            case rel => exact ⟨k + 1, _, _, by omega, by go_num, hrel, hbel2⟩
            case measure => simp [intOf]; omega
      · have hkn' : k = n := by omega
        subst hkn'
        rw [List.take_of_length_le (by rw [HN.out]; exact Nat.le_refl _)] at hO
        obtain ⟨aI, cI, hvI⟩ := owns_slice hO.row.1
        rw [HN.out] at hvI
        subst hvI
        have p0 : wr.cell? ⟨w.heap.size + 1 + 1, 0, none⟩ = some (.int .i64 nd.op) := by rw [cell_at hO.out]; rfl
        have p1 : wr.cell? ⟨w.heap.size + 1 + 1, 1, none⟩ = some (.bool nd.fold) := by rw [cell_at hO.out]; rfl
        have p2 : wr.cell? ⟨w.heap.size + 1 + 1, 2, none⟩ = some (.bool nd.lazy) := by rw [cell_at hO.out]; rfl
        have p3 : wr.cell? ⟨w.heap.size + 1 + 1, 3, none⟩ = some (.int .i64 nd.mn) := by rw [cell_at hO.out]; rfl
        have p4 : wr.cell? ⟨w.heap.size + 1 + 1, 4, none⟩ = some (.int .i64 nd.mx) := by rw [cell_at hO.out]; rfl
        have p5 : wr.cell? ⟨w.heap.size + 1 + 1, 5, none⟩ = some (.int .i64 nd.cap) := by rw [cell_at hO.out]; rfl
        have p6 : wr.cell? ⟨w.heap.size + 1 + 1, 6, none⟩ = some (.string nd.name) := by rw [cell_at hO.out]; rfl
        have p7 : wr.cell? ⟨w.heap.size + 1 + 1, 7, none⟩ = some (.slice (some ⟨w.heap.size + 1, 0, none⟩) m cap) := by rw [cell_at hO.out]; rfl
        have p8 : wr.cell? ⟨w.heap.size + 1 + 1, 8, none⟩ = some (.slice aI k cI) := by rw [cell_at hO.out]; rfl
        obtain ⟨rcells, hr1, hrz1⟩ := hO.res
        obtain ⟨r0, r1, r2, r3, r4, r5, r6, r7, r8, rfl⟩ := nine_cells hrz1
        have m0 : wr.cell? ⟨w.heap.size, 0, none⟩ = some r0 := by rw [cell_at hr1]; rfl
        have z0' : wr.frozen? ⟨w.heap.size, 0, none⟩ = false := frozen_at hr1 0
        have m1 : wr.cell? ⟨w.heap.size, 1, none⟩ = some r1 := by rw [cell_at hr1]; rfl
        have z1 : wr.frozen? ⟨w.heap.size, 1, none⟩ = false := frozen_at hr1 1
        have m2 : wr.cell? ⟨w.heap.size, 2, none⟩ = some r2 := by rw [cell_at hr1]; rfl
        have z2 : wr.frozen? ⟨w.heap.size, 2, none⟩ = false := frozen_at hr1 2
        have m3 : wr.cell? ⟨w.heap.size, 3, none⟩ = some r3 := by rw [cell_at hr1]; rfl
        have z3 : wr.frozen? ⟨w.heap.size, 3, none⟩ = false := frozen_at hr1 3
        have m4 : wr.cell? ⟨w.heap.size, 4, none⟩ = some r4 := by rw [cell_at hr1]; rfl
        have z4 : wr.frozen? ⟨w.heap.size, 4, none⟩ = false := frozen_at hr1 4
        have m5 : wr.cell? ⟨w.heap.size, 5, none⟩ = some r5 := by rw [cell_at hr1]; rfl
        have z5 : wr.frozen? ⟨w.heap.size, 5, none⟩ = false := frozen_at hr1 5
        have m6 : wr.cell? ⟨w.heap.size, 6, none⟩ = some r6 := by rw [cell_at hr1]; rfl
        have z6 : wr.frozen? ⟨w.heap.size, 6, none⟩ = false := frozen_at hr1 6
        have m7 : wr.cell? ⟨w.heap.size, 7, none⟩ = some r7 := by rw [cell_at hr1]; rfl
        have z7 : wr.frozen? ⟨w.heap.size, 7, none⟩ = false := frozen_at hr1 7
        have m8 : wr.cell? ⟨w.heap.size, 8, none⟩ = some r8 := by rw [cell_at hr1]; rfl
        have z8 : wr.frozen? ⟨w.heap.size, 8, none⟩ = false := frozen_at hr1 8
        have HO := Lib.hid hO
        have HBel := Lib.hid hbel
        have hle : w.heap.size ≤ wr.heap.size := hbel.size
        have hXn : w.heap.size ≠ w.heap.size + 1 + 1 := by omega
        clear hO hbel hr1 c2a c0 c1 c2 c3 c4 c5 c6 c7 c8 c9 c10
        go_wp2
        refine bodyPost_ret (v := .agg #[.int .i64 nd.op, .bool nd.fold, .bool nd.lazy, .int .i64 nd.mn, .int .i64 nd.mx, .int .i64 nd.cap, .string nd.name, .slice (some ⟨w.heap.size + 1, 0, none⟩) m cap, .slice aI k cI]) (by simp [results, Try.results74, go_sem, m0, m1, m2, m3, m4, m5, m6, m7, m8]) rfl ⟨⟨[.int .i64 nd.op, .bool nd.fold, .bool nd.lazy, .int .i64 nd.mn, .int .i64 nd.mx, .int .i64 nd.cap, .string nd.name, .slice (some ⟨w.heap.size + 1, 0, none⟩) m cap, .slice aI k cI], rfl, ?_⟩, ?_⟩
        · refine Rep.mono (fun b hb => ⟨Nat.le_of_lt hb.1, by simpa [World.setCell] using hb.2⟩) _ _ _ (Rep.keeps ?_ _ _ _ (HO.out.rep HN.out HFit.out))
          repeat (refine Keeps.setCell ?_ (fun b hb => by have := hb.1; simp; omega) _)
          exact Keeps.refl _ _
        · repeat (refine Below.setCell ?_ (by simp) _)
          exact HBel.out
  · have c2a : ∀ o1 o2 o3 : Obj, (((w.alloc o1).alloc o2).alloc o3).cell? ⟨g, 2, none⟩ = some (.slice so n sc) := fun o1 o2 o3 => World.cell?_alloc_of _ _ _ (World.cell?_alloc_of _ _ _ (World.cell?_alloc_of _ _ _ c2))
    clear HCell HKeep HR HRB
    go_wp2
    go_loopw [50] (fun i wr => ∃ (k : Nat) (v : Value) (cs : List Value), k ≤ n ∧ i = .int .i64 k ∧ NdAt wr w.heap.size (w.heap.size + 1) (w.heap.size + 1 + 1 + 1) nd (.slice (some ⟨w.heap.size + 1 + 1, 0, none⟩) m cap) d (nd.subs.take k) v cs ∧ Below w.heap.size w wr) (fun i _ => n - (intOf i).toNat)
    case atStart =>
      refine ⟨0, .slice none 0 0, [], Nat.zero_le _, rfl, ⟨⟨by omega, by omega, by simp⟩, ⟨_, (Below.heap_alloc _ _ _ (by simp <;> omega)).trans ((Below.heap_alloc _ _ _ (by simp)).trans (alloc_at rfl)), rfl⟩, (Below.heap_alloc _ _ _ (by simp)).trans (alloc_at (by simp)), runes_made (alloc_at (by simp)) HM.out hcap hmax, (fun j hj => by simp [Value.ownBlock] at hj; omega), NdRow.nil _ _ _⟩, (below3 w _ _ _).drew.drew⟩
    case round =>
      obtain ⟨k, v, cs, hk, rfl, hO, hbel⟩ := hrel
      by_cases hkn : k < n
      · obtain ⟨s, hks⟩ := get_of_lt HN.out hkn
        rcases HSub.out with h0 | ⟨b, off, rfl, hb, hsub⟩
        · rw [h0] at hks; simp at hks
        · obtain ⟨gs, hcell, hrg⟩ := hsub k s hks
          have hkeep : Keeps S w wr := Keeps.of_below hbel HS.out
          have hcr : wr.cell? ⟨b, off + k, none⟩ = some (.pointer (some ⟨gs, 0, none⟩)) := (hkeep.cell (a := ⟨b, off + k, none⟩) hb).trans hcell
          have HRg := Lib.hid (Rg.keeps hkeep _ _ _ hrg)
          have HOkS := Lib.hid (HOk.out s (List.mem_of_getElem? hks))
          have hsz := hbel.size
          have HLt := Lib.hid (lt_below HS.out hsz)
          have hlk : (nd.subs.take k).length = k := by rw [List.length_take, HN.out]; omega
          obtain ⟨aI, cI, hvI⟩ := owns_slice hO.row.1
          rw [hlk] at hvI
          subst hvI
          have hbs : w.heap.size + 1 + 1 + 1 ≤ wr.heap.size := hO.le.2.2
          have hpc : wr.cell? ⟨w.heap.size + 1, 8, none⟩ = some (.slice aI k cI) := by rw [cell_at hO.out]; rfl
          have HO := Lib.hid hO
          have HLK := Lib.hid hlk
          have HTk : Hid (nd.subs.take (k + 1) = nd.subs.take k ++ [s]) := by rw [List.take_add_one, hks]; rfl
          have HBel := Lib.hid hbel
          have HVB : Hid (∀ j, (Value.slice aI k cI).ownBlock = some j → j < wr.heap.size) := fun j hj => (hO.row.1.lt j hj).2
          clear hsub hcell hrg hkeep hks hlk hO hbel c2a c0 c1 c2 c3 c4 c5 c6 c7 c8 c9 c10
          go_wp2_with fail
          go_region_law (first
            | (refine step_append_one _ (by rfl) _ _ _ (by rfl) (w.heap.size + 1 + 1 + 1) 36 i0 z0 9 104 Try.underlying34 hi hz0 hz1 hz2 hz3 (.slice aI k cI) k cs (by rfl) (HOwn2.out.alloc _) ⟨w2.heap.size, 0, none⟩ 1 [.int .i64 s.op, .bool s.fold, .bool s.lazy, .int .i64 s.mn, .int .i64 s.mx, .int .i64 s.cap, .string s.name, .slice ro2 s.runes.length rc2, .slice so2 s.subs.length sc2] (by rfl) (by rfl) (World.news_of_block (cs := #[.int .i64 s.op, .bool s.fold, .bool s.lazy, .int .i64 s.mn, .int .i64 s.mx, .int .i64 s.cap, .string s.name, .slice ro2 s.runes.length rc2, .slice so2 s.subs.length sc2]) (t := 36) (fr := (0, 0)) (heap_alloc_new w2 _)) (by simp [Value.oneCell']) (by unfold maxLen; omega) (next_fits k 104 (by omega) (by omega)) (by simp; omega) (w2.heap.size + 1) (by simp) ?_
               intro gg cap2 w3 hown3 hgrow hat hlt3
               have hg3 : w3.heap[w.heap.size + 1]? = some (.cells #[.int .i64 nd.op, .bool nd.fold, .bool nd.lazy, .int .i64 nd.mn, .int .i64 nd.mx, .int .i64 nd.cap, .string nd.name, .slice (some ⟨w.heap.size + 1 + 1, 0, none⟩) m cap, .slice aI k cI] 36 (0, 0)) := by
                 rw [hgrow.block (w.heap.size + 1) (by simp; omega) (fun e => by have := (HOwn2.out.lt _ e.symm).1; omega), Below.heap_alloc _ _ _ (by omega)]
                 exact HO2.out.out
               have hc3 : w3.cell? ⟨w.heap.size + 1, 8, none⟩ = some (.slice aI k cI) := by rw [cell_at hg3]; rfl
               have hf3 : w3.frozen? ⟨w.heap.size + 1, 8, none⟩ = false := frozen_at hg3 8
               have HW3 := Lib.hid hown3
               have HGr := Lib.hid hgrow
               have HAt := Lib.hid hat
               clear hg3 hown3 hgrow hat)
            | (go_simp
               go_at_call 74
               refine (IH.out s gs _ (Rg.keeps (Keeps.of_below ((Below.refl wr.heap.size wr).drew) HLt.out) _ _ _ HRg.out) HOkS.out (lt_below HLt.out (by simp))).mono ?_
               rintro e w2 ⟨⟨cs2, rfl, hrep2⟩, hb2⟩
               obtain ⟨ro2, rc2, so2, sc2, rfl⟩ := hrep2.form
               have hs2 : w.heap.size + 1 + 1 + 1 ≤ w2.heap.size := by have := hb2.size; simp at this; omega
               have HO2 := Lib.hid (HO.out.below (((Below.refl wr.heap.size wr).drew).trans (hb2.mono (by simp))))
               have hpc2 : w2.cell? ⟨w.heap.size + 1, 8, none⟩ = some (.slice aI k cI) := by rw [cell_at HO2.out.out]; rfl
               have hpa2 : ∀ o : Obj, (w2.alloc o).cell? ⟨w.heap.size + 1, 8, none⟩ = some (.slice aI k cI) := fun o => World.cell?_alloc_of _ _ _ hpc2
               have HOwn2 : Hid (w2.ownsRow (w.heap.size + 1 + 1 + 1) 36 9 (.slice aI k cI) k cs) := by have h1 := HO2.out.row.1; rw [HLK.out] at h1; exact h1
               have HRep2 := Lib.hid hrep2
               have HB2 := Lib.hid hb2
               clear hrep2 hb2))
          all_goals
            have hrel := nd_next HO2.out HLK.out (by simp; omega) (fun j hj => by have := HVB.out j hj; simp; omega) HRep2.out rfl HGr.out HW3.out HAt.out
            have hbel2 := nd_below (j := 8) (u := .slice (some ⟨gg, 0, none⟩) (k + 1) cap2) HBel.out HB2.out (X := w.heap.size + 1) (by omega) HOwn2.out HGr.out
            rw [← HTk.out] at hrel
            clear HO2 HRep2 HGr HW3 HAt HB2 HOwn2 hpc2 hpa2 hpc hc3 hf3
            go_wp2
            go_roundw
            case rel => exact ⟨k + 1, _, _, by omega, by go_num, hrel, hbel2⟩
            case measure => simp [intOf]; omega
      · have hkn' : k = n := by omega
        subst hkn'
        rw [List.take_of_length_le (by rw [HN.out]; exact Nat.le_refl _)] at hO
        obtain ⟨aI, cI, hvI⟩ := owns_slice hO.row.1
        rw [HN.out] at hvI
        subst hvI
        have p0 : wr.cell? ⟨w.heap.size + 1, 0, none⟩ = some (.int .i64 nd.op) := by rw [cell_at hO.out]; rfl
        have p1 : wr.cell? ⟨w.heap.size + 1, 1, none⟩ = some (.bool nd.fold) := by rw [cell_at hO.out]; rfl
        have p2 : wr.cell? ⟨w.heap.size + 1, 2, none⟩ = some (.bool nd.lazy) := by rw [cell_at hO.out]; rfl
        have p3 : wr.cell? ⟨w.heap.size + 1, 3, none⟩ = some (.int .i64 nd.mn) := by rw [cell_at hO.out]; rfl
        have p4 : wr.cell? ⟨w.heap.size + 1, 4, none⟩ = some (.int .i64 nd.mx) := by rw [cell_at hO.out]; rfl
        have p5 : wr.cell? ⟨w.heap.size + 1, 5, none⟩ = some (.int .i64 nd.cap) := by rw [cell_at hO.out]; rfl
        have p6 : wr.cell? ⟨w.heap.size + 1, 6, none⟩ = some (.string nd.name) := by rw [cell_at hO.out]; rfl
        have p7 : wr.cell? ⟨w.heap.size + 1, 7, none⟩ = some (.slice (some ⟨w.heap.size + 1 + 1, 0, none⟩) m cap) := by rw [cell_at hO.out]; rfl
        have p8 : wr.cell? ⟨w.heap.size + 1, 8, none⟩ = some (.slice aI k cI) := by rw [cell_at hO.out]; rfl
        obtain ⟨rcells, hr1, hrz1⟩ := hO.res
        obtain ⟨r0, r1, r2, r3, r4, r5, r6, r7, r8, rfl⟩ := nine_cells hrz1
        have m0 : wr.cell? ⟨w.heap.size, 0, none⟩ = some r0 := by rw [cell_at hr1]; rfl
        have z0' : wr.frozen? ⟨w.heap.size, 0, none⟩ = false := frozen_at hr1 0
        have m1 : wr.cell? ⟨w.heap.size, 1, none⟩ = some r1 := by rw [cell_at hr1]; rfl
        have z1 : wr.frozen? ⟨w.heap.size, 1, none⟩ = false := frozen_at hr1 1
        have m2 : wr.cell? ⟨w.heap.size, 2, none⟩ = some r2 := by rw [cell_at hr1]; rfl
        have z2 : wr.frozen? ⟨w.heap.size, 2, none⟩ = false := frozen_at hr1 2
        have m3 : wr.cell? ⟨w.heap.size, 3, none⟩ = some r3 := by rw [cell_at hr1]; rfl
        have z3 : wr.frozen? ⟨w.heap.size, 3, none⟩ = false := frozen_at hr1 3
        have m4 : wr.cell? ⟨w.heap.size, 4, none⟩ = some r4 := by rw [cell_at hr1]; rfl
        have z4 : wr.frozen? ⟨w.heap.size, 4, none⟩ = false := frozen_at hr1 4
        have m5 : wr.cell? ⟨w.heap.size, 5, none⟩ = some r5 := by rw [cell_at hr1]; rfl
        have z5 : wr.frozen? ⟨w.heap.size, 5, none⟩ = false := frozen_at hr1 5
        have m6 : wr.cell? ⟨w.heap.size, 6, none⟩ = some r6 := by rw [cell_at hr1]; rfl
        have z6 : wr.frozen? ⟨w.heap.size, 6, none⟩ = false := frozen_at hr1 6
        have m7 : wr.cell? ⟨w.heap.size, 7, none⟩ = some r7 := by rw [cell_at hr1]; rfl
        have z7 : wr.frozen? ⟨w.heap.size, 7, none⟩ = false := frozen_at hr1 7
        have m8 : wr.cell? ⟨w.heap.size, 8, none⟩ = some r8 := by rw [cell_at hr1]; rfl
        have z8 : wr.frozen? ⟨w.heap.size, 8, none⟩ = false := frozen_at hr1 8
        have HO := Lib.hid hO
        have HBel := Lib.hid hbel
        have hle : w.heap.size ≤ wr.heap.size := hbel.size
        have hXn : w.heap.size ≠ w.heap.size + 1 := by omega
        clear hO hbel hr1 c2a c0 c1 c2 c3 c4 c5 c6 c7 c8 c9 c10
        go_wp2
        refine bodyPost_ret (v := .agg #[.int .i64 nd.op, .bool nd.fold, .bool nd.lazy, .int .i64 nd.mn, .int .i64 nd.mx, .int .i64 nd.cap, .string nd.name, .slice (some ⟨w.heap.size + 1 + 1, 0, none⟩) m cap, .slice aI k cI]) (by simp [results, Try.results74, go_sem, m0, m1, m2, m3, m4, m5, m6, m7, m8]) rfl ⟨⟨[.int .i64 nd.op, .bool nd.fold, .bool nd.lazy, .int .i64 nd.mn, .int .i64 nd.mx, .int .i64 nd.cap, .string nd.name, .slice (some ⟨w.heap.size + 1 + 1, 0, none⟩) m cap, .slice aI k cI], rfl, ?_⟩, ?_⟩
        · refine Rep.mono (fun b hb => ⟨Nat.le_of_lt hb.1, by simpa [World.setCell] using hb.2⟩) _ _ _ (Rep.keeps ?_ _ _ _ (HO.out.rep HN.out HFit.out))
          repeat (refine Keeps.setCell ?_ (fun b hb => by have := hb.1; simp; omega) _)
          exact Keeps.refl _ _
        · repeat (refine Below.setCell ?_ (by simp) _)
          exact HBel.out

theorem nodeof_any (S : Nat → Prop) (d : Nat) : NodeIH S d := by
  induction d with
  | zero => intro nd g w h; cases h
  | succ d ih =>
    intro nd g w h hok hS
    by_cases hrz : nd.runes.length = 0
    · exact nodeof_none S d (Lib.hid ih) nd g w h hok hS hrz
    · exact nodeof_some S d (Lib.hid ih) nd g w h hok hS hrz
end Go.Proofs.Ytejhffcjamdffaa
