/-
  The contract of the thin package's progOf. Conditions: at most a thousand instructions, each of at most a million runes.
-/
import Derived.Test.YtejhffcjamdffaaProgMem
import Derived.Deep.RegionLaw
import Derived.Handy
namespace Go.Proofs.Ytejhffcjamdffaa
open Go.RowKit

theorem Try.info73 : (Try.prog.info? 73).map (fun i => (i.zero, i.size, i.bytes)) = some (some (.agg #[.int .u8 0, .int .u32 0, .int .u32 0, .slice none 0 0]), 4, 40) := by kernel_rfl

/-- A program of the package in a block g: its instructions 'is' in a row of the call's own, where it begins. -/
def ProgAt (w : World) (base g : Nat) (start : Int) (is : List I) : Prop :=
  ∃ v cs, w.heap[g]? = some (.cells #[v, .int .i64 start, .int .i64 0] 105 (0, 0)) ∧ InstRow w base v is cs

theorem prog_next {w1 w2 : World} {B B' k gg cap2 : Nat} {start : Int} {is : List I} {i : I} {cs : List Value} {vI rv : Value} {o : Obj} (hik : is[k]? = some i) (hlk : (is.take k).length = k) (hrow : InstRow w1 B vI (is.take k) cs) (hrun : OwnRunes w1 B' rv i.runes) (hB : B ≤ B')
    (hgrow : (w1.alloc o).grownBy w2 vI.ownBlock) (hown : w2.ownsRow B 73 4 (.slice (some ⟨gg, 0, none⟩) (k + 1) cap2) (k + 1) (cs ++ [.int .u8 (IntKind.u8.wrap i.op), .int .u32 (IntKind.u32.wrap i.out), .int .u32 (IntKind.u32.wrap i.arg), rv]))
    (hg2 : w2.heap[B]? = some (.cells #[vI, .int .i64 start, .int .i64 0] 105 (0, 0))) :
    ProgAt (w2.setCell ⟨B, 0, none⟩ (.slice (some ⟨gg, 0, none⟩) (k + 1) cap2)) B B start (is.take (k + 1)) := by
  have h1 : InstRow (w1.alloc o) B vI (is.take k) cs := hrow.below (below1 w1 o)
  have h2 : OwnRunes (w1.alloc o) B rv i.runes := owns_base (World.ownsRow.alloc hrun o) hB
  have h3 := InstRow.snoc h1 h2 hgrow (by rw [hlk]; exact hown)
  have h4 : is.take (k + 1) = is.take k ++ [i] := by rw [List.take_add_one, hik]; rfl
  refine ⟨.slice (some ⟨gg, 0, none⟩) (k + 1) cap2, cs ++ [.int .u8 (IntKind.u8.wrap i.op), .int .u32 (IntKind.u32.wrap i.out), .int .u32 (IntKind.u32.wrap i.arg), rv], ?_, ?_⟩
  · simp [World.setCell, Array.getElem?_modify, hg2]
  · rw [h4]
    exact h3.setCell hg2 (by decide) (by decide) _

theorem prog_below {w wr w1 w2 : World} {o o' : Obj} {B k n : Nat} {cs : List Value} {vI u : Value} (hbel : Below B w wr) (hb1 : Below (wr.alloc o).drew.heap.size (wr.alloc o).drew w1) (hs : B < wr.heap.size) (hown : w1.ownsRow B 73 4 vI n cs)
    (hgrow : (w1.alloc o').grownBy w2 vI.ownBlock) : Below B w (w2.setCell ⟨B, k, none⟩ u) := by
  have h1 : Below B w w1 := hbel.trans (((Below.refl B wr).alloc (by omega) o).drew.trans (hb1.mono (by simp; omega)))
  have hz := hb1.size
  simp at hz
  exact ((h1.alloc (by omega) o').grown hgrow (by simp; omega) (fun j hj => (hown.lt j hj).1)).setCell (Nat.le_refl _) _

set_option maxRecDepth 100000 in
set_option maxHeartbeats 4000000 in
theorem prog_of (is : List I) (start : Int) (v : Value) (w : World) (h : Insts w w.heap.size v is) (hl : is.length ≤ 1000) (hr : ∀ i ∈ is, i.runes.length ≤ 1000000) :
    Calls Try.prog 50 #[v, .int .i64 start] w fun e w' => e = .returned (.pointer (some ⟨w.heap.size, 0, none⟩)) ∧ ProgAt w' w.heap.size w.heap.size start is ∧ Below w.heap.size w w' := by
  obtain ⟨i0, hi, hz0, hz1, hz2⟩ := info_parts Try.info73
  have hpos : is = [] ∨ ∃ b off cap, v = .slice (some ⟨b, off, none⟩) is.length cap ∧ b < w.heap.size ∧ ∀ k i, is[k]? = some i → InstAt w w.heap.size b (off + k * 4) i := by
    obtain ⟨ao, cap, rfl, hx⟩ := h
    by_cases h0 : is = []
    · exact .inl h0
    · obtain ⟨b, off, rfl, hlt, hx⟩ := hx h0
      exact .inr ⟨b, off, cap, rfl, hlt, hx⟩
  rcases hpos with rfl | ⟨b, off, cap, rfl, hlt, hx⟩
  · obtain ⟨ao, cap, rfl, _⟩ := h
    go_enter Try.func50, Try.ntmps50
    go_wp2
    go_rounds 1
    go_ret
    exact ⟨rfl, ⟨_, [], heap_alloc_new w _, InstRow.nil _ _⟩, below1 w _⟩
  · have HX := Lib.hid hx
    have HR := Lib.hid hr
    clear hx h hr
    generalize hn : is.length = n at *
    have HN := Lib.hid hn
    clear hn
    go_enter Try.func50, Try.ntmps50
    go_wp2
    go_loopw [13] (fun i wr => ∃ k : Nat, k ≤ n ∧ i = .int .i64 k ∧ ProgAt wr w.heap.size w.heap.size start (is.take k) ∧ Below w.heap.size w wr) (fun i _ => n - (intOf i).toNat)
    case atStart =>
      refine ⟨0, Nat.zero_le _, rfl, ⟨_, [], heap_alloc_new w _, ?_⟩, below1 w _⟩
      exact InstRow.nil _ _
    case round =>
      obtain ⟨k, hk, rfl, ⟨vI, cs, hg, hrow⟩, hbel⟩ := hrel
      by_cases hkn : k < n
      · have hget : ∃ i, is[k]? = some i := ⟨is[k]'(by rw [HN.out]; exact hkn), List.getElem?_eq_getElem _⟩
        obtain ⟨i, hik⟩ := hget
        obtain ⟨rv, c0, c1, c2, c3, hrunes, hbd⟩ := (HX.out k i hik).below hbel hlt
        obtain ⟨ao, c, rfl⟩ := rowN_slice hrunes
        obtain ⟨aI, cI, hvI⟩ := owns_slice hrow.1
        have hlk : (is.take k).length = k := by rw [List.length_take, HN.out]; omega
        rw [hlk] at hvI
        have hrl : i.runes.length ≤ 1000000 := HR.out i (List.mem_of_getElem? hik)
        subst hvI
        have hpc : wr.cell? ⟨w.heap.size, 0, none⟩ = some (.slice aI k cI) := by rw [cell_of_row wr _ _ _ _ _ hg]; rfl
        have hbs : w.heap.size < wr.heap.size := (Array.getElem?_eq_some_iff.1 hg).1
        have HI := Lib.hid hik
        have HRow := Lib.hid hrow
        have HRn := Lib.hid hrunes
        have HBd := Lib.hid hbd
        have HG := Lib.hid hg
        have HLK := Lib.hid hlk
        clear hik hrow hrunes hbd hg hlk
        go_wp2_with fail
        go_region_law (first
          | (refine step_append_lies _ (by rfl) _ _ _ (by rfl) w.heap.size 73 i0 _ 4 40 Try.underlying103 hi hz0 hz1 hz2 rfl (by omega) (.slice aI k cI) k cs (by rfl) (HOwn1.out.alloc _) ⟨w1.heap.size, 0, none⟩ 1 1 [.int .u8 (IntKind.u8.wrap i.op), .int .u32 (IntKind.u32.wrap i.out), .int .u32 (IntKind.u32.wrap i.arg), .slice ao1 i.runes.length c1] (by rfl) (by rfl) (World.news_of_block (cs := #[.int .u8 (IntKind.u8.wrap i.op), .int .u32 (IntKind.u32.wrap i.out), .int .u32 (IntKind.u32.wrap i.arg), .slice ao1 i.runes.length c1]) (t := 73) (fr := (0, 0)) (heap_alloc_new w1 _)) (by simp [Value.oneCell']) (by omega) (by unfold maxLen; omega) (by omega) (by simp; omega) (w1.heap.size + 1) (by simp) ?_
             intro gg cap2 w2 hown2 hgrow hat hlt2
             have hg2 : w2.heap[w.heap.size]? = some (.cells #[.slice aI k cI, .int .i64 start, .int .i64 0] 105 (0, 0)) := by
               rw [hgrow.block w.heap.size (by simp; omega) (fun e => owns_apart_cells HOwn1.out HG1.out (by decide) e.symm), Below.heap_alloc _ _ _ hs1]
               exact HG1.out
             have hc2 : w2.cell? ⟨w.heap.size, 0, none⟩ = some (.slice aI k cI) := by rw [cell_of_row w2 _ _ _ _ _ hg2]; rfl
             have hf2 : w2.frozen? ⟨w.heap.size, 0, none⟩ = false := by simp [World.frozen?, hg2]
             have HG2 := Lib.hid hg2
             have HW2 := Lib.hid hown2
             have HGr := Lib.hid hgrow
             clear hg2 hown2 hgrow hat)
          | (go_simp
             go_at_call 48
             refine (inst_of i.op i.out i.arg _ i.runes _ (RowN.belowW HRn.out (((Below.refl _ _).alloc hbel.size _).drew) HBd.out) (HBd.out.mono (by simp; omega)) hrl).mono ?_
             rintro e w1 ⟨v', rfl, hown1, hb1⟩
             obtain ⟨ao1, c1, rfl⟩ := owns_slice hown1
             have hs1 : w.heap.size < w1.heap.size := by have := hb1.size; simp at this; omega
             have hpc1 : w1.cell? ⟨w.heap.size, 0, none⟩ = some (.slice aI k cI) := (hb1.cell (p := ⟨w.heap.size, 0, none⟩) (by simp; omega)).trans (World.cell?_alloc_of _ _ _ hpc)
             have HG1 : Hid (w1.heap[w.heap.size]? = some (.cells #[.slice aI k cI, .int .i64 start, .int .i64 0] 105 (0, 0))) := (hb1.block w.heap.size (by simp; omega)).trans ((Below.heap_alloc wr _ _ hbs).trans HG.out)
             have HRow1 : Hid (InstRow w1 w.heap.size (.slice aI k cI) (is.take k) cs) := HRow.out.below (((below1 wr _).drew).trans (hb1.mono (by simp)))
             have HOwn1 : Hid (w1.ownsRow w.heap.size 73 4 (.slice aI k cI) k cs) := by have h1 := HRow1.out.1; rw [HLK.out] at h1; exact h1
             have HRun1 := Lib.hid hown1
             have HB1 := Lib.hid hb1
             clear hown1 hb1))
        all_goals
          have hrel := prog_next HI.out HLK.out HRow1.out HRun1.out (by simp; omega) HGr.out HW2.out HG2.out
          have hbel2 := prog_below (k := 0) (u := .slice (some ⟨gg, 0, none⟩) (k + 1) cap2) hbel HB1.out hbs HOwn1.out HGr.out
          clear HRow1 HRun1 HGr HW2 HG2 hbel HB1 hbs HOwn1 HG1 hpc1 hpc hc2 hf2
          go_wp2
          go_roundw
          case rel => exact ⟨k + 1, by omega, by go_num, hrel, hbel2⟩
          case measure => simp [intOf]; omega
      · have hkn' : k = n := by omega
        go_wp2
        go_ret
        subst hkn'
        refine ⟨rfl, ?_, hbel⟩
        refine ⟨vI, cs, hg, ?_⟩
        rw [List.take_of_length_le (by rw [HN.out]; exact Nat.le_refl _)] at hrow
        exact hrow
end Go.Proofs.Ytejhffcjamdffaa
