/-
  The contract of the thin package's treeOf. No conditions beside those typed.
-/
import Derived.Test.YtejhffcjamdffaaTree
import Derived.Test.YtejhffcjamdffaaTreeOk
import Derived.Test.YtejhffcjamdffaaClone
import Derived.Deep.RegionHeld3
namespace Go.Proofs.Ytejhffcjamdffaa
open Go.RowKit

theorem Try.info80 : (Try.prog.info? 80).map (fun i => (i.zero.map (·.cells.size), i.size, i.bytes)) = some (some 1, 1, 8) := by kernel_rfl

def TreeOfPost (d : Nat) (nd : Nd) (w : World) (e : Ending) (w' : World) : Prop := (∃ g, e = .returned (.pointer (some ⟨g, 0, none⟩)) ∧ Rg w' (fun b => w.heap.size ≤ b ∧ b < w'.heap.size) d nd g) ∧ Below w.heap.size w w'
def TreeIH (S : Nat → Prop) (d : Nat) : Prop := ∀ (nd : Nd) (cs : List Value) (w : World), Rep w S d nd cs → (∀ b, S b → b < w.heap.size) → Calls Try.prog 55 #[.agg cs.toArray] w (TreeOfPost d nd w)

theorem or_u16_1 : bits BinOp.or IntKind.u16 0 1 = 1 := by decide
theorem or_u16_32 : bits BinOp.or IntKind.u16 0 32 = 32 := by decide
theorem or_u16_33 : bits BinOp.or IntKind.u16 1 32 = 33 := by decide
/-- Where the loop begins. -/
theorem TreeAt.start {w1 W : World} {B g d : Nat} {box : Array Value} {nd : Nd} {rv : Value} (hB : B < g) (hg : w1.heap.size = g) (hbox : w1.heap[B]? = some (.cells box 36 (0, 0))) (hown : OwnRunes w1 (B + 1) rv nd.runes) (hobj : W.heap[g]? = some (.cells (rgCells nd (.slice none 0 0) rv) 113 (0, 0))) (hk : ∀ b, b < g → W.heap[b]? = w1.heap[b]?) :
    TreeAt W B g box nd rv d [] (.slice none 0 0) [] := by
  have hl : ∀ j, rv.ownBlock = some j → B < j ∧ j < g := fun j hj => by have := hown.lt j hj; omega
  exact ⟨hB, (hk B hB).trans hbox, hobj, RowN.keeps (S := fun b => b < g) (RowN.of_owns hown) hk (fun k hk => .inr (hl k hk).2), hl, TrRow.nil _ _ _⟩

set_option maxRecDepth 100000 in
set_option maxHeartbeats 8000000 in
theorem treeof_step (S : Nat → Prop) (d : Nat) (IH : Hid (TreeIH S d)) (nd : Nd) (cs : List Value) (w : World) (h : Rep w S (d + 1) nd cs) (hS : ∀ b, S b → b < w.heap.size) :
    Calls Try.prog 55 #[.agg cs.toArray] w (TreeOfPost (d + 1) nd w) := by
  obtain ⟨i0, z0, hi, hz0, hz1, hz2, hz3⟩ := info_sizes Try.info80
  obtain ⟨ro, rc, so, sc, rfl, hfit, hr, hrb, hs⟩ := h.open
  have hn := hfit.1
  have hrl := hfit.2.1
  have HS := Lib.hid hS
  have HSub := Lib.hid hs
  have HR := Lib.hid hr
  have HRB : Hid (In (fun b => b < w.heap.size) (.slice ro nd.runes.length rc)) := hrb.mono hS
  have HFit := Lib.hid hfit
  clear h hr hrb hS hs hfit
  generalize hN : nd.subs.length = n at *
  have HN := Lib.hid hN
  clear hN
  go_enter Try.func55, Try.ntmps55
  go_wp2_with fail
  go_region_held3 (fun w' => w'.cell? ⟨w.heap.size, 0, none⟩ = some (.int .i64 nd.op) ∧ w'.cell? ⟨w.heap.size, 3, none⟩ = some (.int .i64 nd.mn) ∧ w'.cell? ⟨w.heap.size, 4, none⟩ = some (.int .i64 nd.mx) ∧ w'.cell? ⟨w.heap.size, 5, none⟩ = some (.int .i64 nd.cap) ∧ w'.cell? ⟨w.heap.size, 6, none⟩ = some (.string nd.name) ∧ w'.cell? ⟨w.heap.size, 7, none⟩ = some (.slice ro nd.runes.length rc))
    (go_keep)
    (first
      | (go_at_call 76
         refine (clone_fits _ nd.runes _ (RowN.keeps HR.out (Keeps.of_below (below1 w _).drew (fun _ h => h)) HRB.out) hrl).mono ?_
         rintro e w1 ⟨rv, rfl, hown, hb⟩
         obtain ⟨ao, ac, rfl⟩ := owns_slice hown
         have hx1 := (hb.block w.heap.size (by simp)).trans (heap_alloc_new w _)
         obtain ⟨k0, k1, k2, k3, k4, k5, k6, k7, k8⟩ := box9 hx1
         have HX1 := Lib.hid hx1
         have HB1 := Lib.hid ((below1 w _).drew.trans (hb.mono (by simp)))
         have HOwn := Lib.hid hown
         have hsz1 : w.heap.size + 1 ≤ w1.heap.size := by have := hb.size; simp at this; omega
         clear hx1 hb hown))
  have b1 : ∀ o : Obj, (w1.alloc o).cell? ⟨w.heap.size, 1, none⟩ = some (.bool nd.fold) := fun o => World.cell?_alloc_of _ _ _ k1
  have b2 : ∀ o : Obj, (w1.alloc o).cell? ⟨w.heap.size, 2, none⟩ = some (.bool nd.lazy) := fun o => World.cell?_alloc_of _ _ _ k2
  have b8 : ∀ o : Obj, (w1.alloc o).cell? ⟨w.heap.size, 8, none⟩ = some (.slice so n sc) := fun o => World.cell?_alloc_of _ _ _ k8
  have hne : w.heap.size ≠ w1.heap.size := by omega
  have hne' : w1.heap.size ≠ w.heap.size := by omega
  clear k0 k1 k2 k3 k4 k5 k6 k7 k8
  rcases Bool.eq_false_or_eq_true nd.fold with hf | hf <;> rcases Bool.eq_false_or_eq_true nd.lazy with hlz | hlz
  all_goals
    rw [hf] at b1
    rw [hlz] at b2
    have HFl : Hid (flagsF nd = flagsF nd) := rfl
    have HF := Lib.hid hf
    have HL := Lib.hid hlz
    clear hf hlz HFl
  all_goals as_aux_lemma =>
    go_wp2
    go_loopw [43] (fun i wr => ∃ (k : Nat) (v : Value) (cs : List Value), k ≤ n ∧ i = .int .i64 k ∧ TreeAt wr w.heap.size w1.heap.size #[.int .i64 nd.op, .bool nd.fold, .bool nd.lazy, .int .i64 nd.mn, .int .i64 nd.mx, .int .i64 nd.cap, .string nd.name, .slice ro nd.runes.length rc, .slice so n sc] nd (.slice ao nd.runes.length ac) d (nd.subs.take k) v cs ∧ Below w.heap.size w wr) (fun i _ => n - (intOf i).toNat)
    case atStart =>
      refine ⟨0, .slice none 0 0, [], Nat.zero_le _, rfl, TreeAt.start (by omega) rfl HX1.out (owns_base HOwn.out (by simp)) ?_ ?_, ?_⟩
      · first
          | exact (alloc_at rfl).trans (by simp [rgCells, flagsF, HF.out, HL.out, or_u16_1, or_u16_32, or_u16_33])
          | exact (heap_setCell_at (alloc_at rfl)).trans (by simp [rgCells, flagsF, HF.out, HL.out, or_u16_1, or_u16_32, or_u16_33])
          | exact (heap_setCell_at (heap_setCell_at (alloc_at rfl))).trans (by simp [rgCells, flagsF, HF.out, HL.out, or_u16_1, or_u16_32, or_u16_33])
      · intro b hb
        repeat (rw [heap_setCell_ne (by simp; omega)])
        exact Below.heap_alloc _ _ _ hb
      · repeat (refine Below.setCell ?_ (by simp <;> omega) _)
        exact HB1.out.alloc (by omega) _
    case round =>
      obtain ⟨k, v, cs, hk, rfl, hO, hbel⟩ := hrel
      by_cases hkn : k < n
      · obtain ⟨s, hks⟩ := get_of_lt HN.out hkn
        rcases HSub.out with h0 | ⟨b, off, rfl, hb, hsub⟩
        · rw [h0] at hks; simp at hks
        · obtain ⟨cs', hcells, hrep⟩ := hsub k s hks
          have hkeep : Keeps S w wr := Keeps.of_below hbel HS.out
          obtain ⟨ro', rc', so', sc', rfl, c0, c1, c2, c3, c4, c5, c6, c7, c8⟩ := (Rep.keeps hkeep _ _ _ hrep).cells (hcells.keeps hkeep hb)
          have HRep := Lib.hid (Rep.keeps hkeep _ _ _ hrep)
          have hsz := hbel.size
          have HLt := Lib.hid (lt_below HS.out hsz)
          have hlk : (nd.subs.take k).length = k := by rw [List.length_take, HN.out]; omega
          obtain ⟨aI, cI, hvI⟩ := owns_slice hO.row.1
          rw [hlk] at hvI
          subst hvI
          have hbs : w1.heap.size < wr.heap.size := (Array.getElem?_eq_some_iff.1 hO.obj).1
          have hpc : wr.cell? ⟨w1.heap.size, 2, none⟩ = some (.slice aI k cI) := by rw [cell_at hO.obj]; rfl
          have HO := Lib.hid hO
          have HLK := Lib.hid hlk
          have HTk : Hid (nd.subs.take (k + 1) = nd.subs.take k ++ [s]) := by rw [List.take_add_one, hks]; rfl
          have HBel := Lib.hid hbel
          have HVB : Hid (∀ j, (Value.slice aI k cI).ownBlock = some j → j < wr.heap.size) := fun j hj => (hO.row.1.lt j hj).2
          clear hsub hcells hrep hkeep hks hlk hO hbel b1 b2 b8
          go_wp2_with fail
          go_region_law (first
            | (refine step_append_one _ (by rfl) _ _ _ (by rfl) (w1.heap.size + 1) 80 i0 z0 1 8 Try.underlying109 hi hz0 hz1 hz2 hz3 (.slice aI k cI) k cs (by rfl) (HOwn2.out.alloc _) ⟨w2.heap.size, 0, none⟩ 1 [.pointer (some ⟨g1, 0, none⟩)] (by rfl) (by rfl) (World.news_of_block (cs := #[.pointer (some ⟨g1, 0, none⟩)]) (t := 80) (fr := (0, 0)) (heap_alloc_new w2 _)) (by simp [Value.oneCell']) (by unfold maxLen; omega) (next_fits k 8 (by omega) (by omega)) (by simp; omega) (w2.heap.size + 1) (by simp) ?_
               intro gg cap2 w3 hown3 hgrow hat hlt3
               have hg3 : w3.heap[w1.heap.size]? = some (.cells (rgCells nd (.slice aI k cI) (.slice ao nd.runes.length ac)) 113 (0, 0)) := by
                 rw [hgrow.block w1.heap.size (by simp; omega) (fun e => by have := (HOwn2.out.lt _ e.symm).1; omega), Below.heap_alloc _ _ _ hs2]
                 exact HO2.out.obj
               have hc3 : w3.cell? ⟨w1.heap.size, 2, none⟩ = some (.slice aI k cI) := by rw [cell_at hg3]; rfl
               have hf3 : w3.frozen? ⟨w1.heap.size, 2, none⟩ = false := frozen_at hg3 2
               have HW3 := Lib.hid hown3
               have HGr := Lib.hid hgrow
               have HAt := Lib.hid hat
               clear hg3 hown3 hgrow hat)
            | (go_simp
               go_at_call 55
               refine (IH.out s _ _ (Rep.keeps (Keeps.of_below ((below1 wr _).drew) HLt.out) _ _ _ HRep.out) (lt_below HLt.out (by simp))).mono ?_
               rintro e w2 ⟨⟨g1, rfl, hrg1⟩, hb2⟩
               have hs2 : w1.heap.size < w2.heap.size := by have := hb2.size; simp at this; omega
               have HO2 := Lib.hid (HO.out.below (((below1 wr _).drew).trans (hb2.mono (by simp))))
               have hpc2 : w2.cell? ⟨w1.heap.size, 2, none⟩ = some (.slice aI k cI) := by rw [cell_at HO2.out.obj]; rfl
               have HOwn2 : Hid (w2.ownsRow (w1.heap.size + 1) 80 1 (.slice aI k cI) k cs) := by have h1 := HO2.out.row.1; rw [HLK.out] at h1; exact h1
               have HRg1 := Lib.hid hrg1
               have HB2 := Lib.hid hb2
               clear hrg1 hb2))
          all_goals
            have hrel := tree_next HO2.out HLK.out (by simp; omega) (fun j hj => by have := HVB.out j hj; simp; omega) HRg1.out HGr.out HW3.out HAt.out
            have hbel2 := tree_below (j := 2) (u := .slice (some ⟨gg, 0, none⟩) (k + 1) cap2) HBel.out HB2.out hbs (by omega) HOwn2.out HGr.out
            rw [← HTk.out] at hrel
            clear HO2 HRg1 HGr HW3 HAt HB2 HOwn2 hpc2 hpc hc3 hf3
            go_wp2
            go_roundw
            case rel => exact ⟨k + 1, _, _, by omega, by go_num, hrel, hbel2⟩
            case measure => simp [intOf]; omega
      · have hkn' : k = n := by omega
        subst hkn'
        rw [List.take_of_length_le (by rw [HN.out]; exact Nat.le_refl _)] at hO
        have HO := Lib.hid hO
        have HBel := Lib.hid hbel
        clear hO hbel
        go_wp2
        go_ret
        exact ⟨⟨w1.heap.size, rfl, HO.out.rg HFit.out⟩, HBel.out⟩
end Go.Proofs.Ytejhffcjamdffaa
