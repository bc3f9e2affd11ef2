/-
  The contract of Of at a row of runes. Condition: at most ten of them.
-/
import Derived.Test.YtejhffcjamdffaaOfOut
import Derived.Test.YtejhffcjamdffaaOfLeaf
import Derived.Test.YtejhffcjamdffaaRunes
import Derived.Deep.AppendLies
import Derived.Handy
namespace Go.Proofs.Ytejhffcjamdffaa
open Go.RowKit

set_option maxRecDepth 100000 in
set_option maxHeartbeats 8000000 in
theorem of_lit (S : Nat → Prop) (d : Nat) (nd : Nd) (cs : List Value) (w : World) (h : Rep w S (d + 1) nd cs) (hop : nd.op = 3) (hl : nd.runes.length ≤ 10) (hS : ∀ b, S b → b < w.heap.size) :
    Calls Try.prog 42 #[.agg cs.toArray] w fun e w' => (∃ cs', e = .returned (.agg cs'.toArray) ∧ ReRep w' (fun b => w.heap.size ≤ b ∧ b < w'.heap.size) (d + 2) (ofF (d + 1) nd) cs') ∧ Below w.heap.size w w' := by
  obtain ⟨i0, z0, hi, hz0, hz1, hz2, hz3⟩ := info_sizes Try.info63
  obtain ⟨ro, rc, so, sc, rfl, hfit, hr, hrb, hs⟩ := h.open
  rw [show ofF (d + 1) nd = .mk 3 0 0 (nd.runes.map fun _ => .mk 2 0 0 []) from by simp [ofF, hop], hop]
  obtain ⟨ao, cap, hv, hz⟩ := hr.open
  injection hv with e1 e2 e3
  subst e1
  have HIn : Hid (In S (.slice ro nd.runes.length rc)) := hrb
  have HS := Lib.hid hS
  have HZ := Lib.hid hz
  clear h hr hrb hS hs hfit hz e2 e3
  generalize nd.fold = fold
  generalize nd.lazy = lazy
  generalize nd.mn = mn
  generalize nd.mx = mx
  generalize nd.cap = cp
  generalize nd.name = name
  generalize nd.subs.length = sn
  generalize nd.runes = zs at *
  clear hop nd
  generalize hN : zs.length = n at *
  have HN := Lib.hid hN
  clear hN
  go_enter Try.func42, Try.ntmps42
  go_wp2
  go_loopw [20] (fun i wr => ∃ (k : Nat) (v : Value) (cs : List Value), k ≤ n ∧ i = .int .i64 k ∧ OutAt wr w.heap.size #[.int .i64 3, .bool fold, .bool lazy, .int .i64 mn, .int .i64 mx, .int .i64 cp, .string name, .slice ro n rc, .slice so sn sc] 3 0 0 0 false { data := #[] } (d + 1) ((zs.take k).map fun _ => Rx.mk 2 0 0 []) v cs ∧ Below w.heap.size w wr) (fun i _ => n - (intOf i).toNat)
  case atStart =>
    refine ⟨0, .slice none 0 0, [], Nat.zero_le _, rfl, ⟨?_, ?_, ?_, ReRow.nil _ _ _⟩, ?_⟩
    · rw [Below.heap_alloc _ _ _ (by simp <;> omega), Below.heap_alloc _ _ _ (by simp)]; exact heap_alloc_new w _
    · exact alloc_at (by simp)
    · exact ⟨_, by rw [Below.heap_alloc _ _ _ (by simp)]; exact alloc_at (by simp), rfl⟩
    · exact below3 w _ _ _
  case round =>
    obtain ⟨k, v, cs, hk, rfl, hO, hbel⟩ := hrel
    have hlk : ((zs.take k).map fun _ => Rx.mk 2 0 0 []).length = k := by rw [List.length_map, List.length_take, HN.out]; omega
    obtain ⟨aI, cI, hvI⟩ := owns_slice hO.row.1
    rw [hlk] at hvI
    subst hvI
    have hbs : w.heap.size + 2 < wr.heap.size := (Array.getElem?_eq_some_iff.1 hO.out).1
    have b1 : wr.cell? ⟨w.heap.size, 1, none⟩ = some (.bool fold) := by rw [cell_at hO.box]; rfl
    have b2 : ∀ o : Obj, (wr.alloc o).cell? ⟨w.heap.size, 1, none⟩ = some (.bool fold) := fun o => World.cell?_alloc_of _ _ _ b1
    have HO := Lib.hid hO
    have HLK := Lib.hid hlk
    have HBel := Lib.hid hbel
    by_cases hkn : k < n
    · obtain ⟨z, hks⟩ := get_of_lt HN.out hkn
      rcases HZ.out with h0 | ⟨b, off, rfl, hsub⟩
      · rw [h0] at hks; simp at hks
      · have hkeep : Keeps S w wr := Keeps.of_below hbel HS.out
        have hSb : S b := by
          rcases HIn.out b rfl with ⟨_, _, e⟩ | h
          · injection e with _ e2 _; omega
          · exact h
        have c0 : wr.cell? ⟨b, off + k, none⟩ = some (.int .i32 z) := by rw [hkeep.cell (a := ⟨b, off + k, none⟩) hSb]; exact hsub k z hks
        have hpc : wr.cell? ⟨w.heap.size + 2, 9, none⟩ = some (.slice aI k cI) := by rw [cell_at hO.out]; rfl
        have hpf : wr.frozen? ⟨w.heap.size + 2, 9, none⟩ = false := frozen_at hO.out 9
        have HOwn : Hid (wr.ownsRow (w.heap.size + 3) 63 10 (.slice aI k cI) k cs) := by have h1 := hO.row.1; rw [hlk] at h1; exact h1
        have HTk : Hid (((zs.take (k + 1)).map fun _ => Rx.mk 2 0 0 []) = ((zs.take k).map fun _ => Rx.mk 2 0 0 []) ++ [Rx.mk 2 0 0 []]) := by rw [List.take_add_one, hks, List.map_append]; rfl
        have HVB : Hid (∀ j, (Value.slice aI k cI).ownBlock = some j → j < wr.heap.size) := fun j hj => (hO.row.1.lt j hj).2
        clear hsub hkeep hks hlk hO hbel
        go_wp2_with (at_builtin; refine wpList_append_lies _ rfl _ _ _ rfl (w.heap.size + 3) 63 i0 z0 10 120 Try.underlying61 hi hz0 hz1 hz2 hz3 (by omega) (.slice aI k cI) k cs rfl (((HOwn.out.alloc _).alloc _).alloc _) ⟨wr.heap.size + 2, 0, none⟩ 1 1 _ rfl ?_ (World.news_of_block (t := 63) (fr := (0, 0)) (alloc_at (by simp))) ?_ (by omega) (by unfold maxLen; omega) (by omega) (by simp; omega) (wr.heap.size + 3) (by simp) ?_)
        · simp [Value.oneCell']
        · intro gg cap2 w2 hown2 hgrow hat hlt2
          have HO3 := Lib.hid (HO.out.below (below3 wr (.cells #[.int .i32 z, .int .i32 z] 21) (.cells #[.slice (some ⟨wr.heap.size, 0, none⟩) 2 2, .bool false, .bool fold] 97) (.cells #[.int .i64 2, .slice (some ⟨wr.heap.size + 1, 0, none⟩) 1 1, .bool false, .int .i64 0, .int .i64 0, .bool false, .int .i64 0, .string { data := #[] }, .int .i64 0, .slice none 0 0] 63)))
          have hg2 : w2.heap[w.heap.size + 2]? = some (.cells #[.int .i64 3, .slice none 0 0, .bool false, .int .i64 0, .int .i64 0, .bool false, .int .i64 0, .string { data := #[] }, .int .i64 0, .slice aI k cI] 63 (0, 0)) := by
            rw [hgrow.block (w.heap.size + 2) (by simp; omega) (fun e => by have := (HOwn.out.lt _ e.symm).1; omega)]
            exact HO3.out.out
          have hc2 : w2.cell? ⟨w.heap.size + 2, 9, none⟩ = some (.slice aI k cI) := by rw [cell_at hg2]; rfl
          have hf2 : w2.frozen? ⟨w.heap.size + 2, 9, none⟩ = false := frozen_at hg2 9
          have hrel := OutAt.snoc (B1 := wr.heap.size) (r := .mk 2 0 0 []) HO3.out HLK.out (by omega) HVB.out ReRep.leaf rfl hgrow hown2 hat (by simp)
          rw [← HTk.out] at hrel
          have hbel2 := ((HBel.out.trans ((below3 wr (.cells #[.int .i32 z, .int .i32 z] 21) (.cells #[.slice (some ⟨wr.heap.size, 0, none⟩) 2 2, .bool false, .bool fold] 97) (.cells #[.int .i64 2, .slice (some ⟨wr.heap.size + 1, 0, none⟩) 1 1, .bool false, .int .i64 0, .int .i64 0, .bool false, .int .i64 0, .string { data := #[] }, .int .i64 0, .slice none 0 0] 63)).mono HBel.out.size)).grown hgrow (by simp; omega) (fun j hj => by have := (HOwn.out.lt j hj).1; omega)).setCell (p := ⟨w.heap.size + 2, 9, none⟩) (by simp) (.slice (some ⟨gg, 0, none⟩) (k + 1) cap2)
          have HR := Lib.hid hrel
          have HB2 := Lib.hid hbel2
          clear hrel hbel2 hg2 hown2 hgrow hat hlt2 HO3 HO HOwn HVB HTk HBel b2
          go_wp2
          go_roundw
          case rel => exact ⟨k + 1, _, _, by omega, by go_num, HR.out, HB2.out⟩
          case measure => simp [intOf]; omega
    · have hkn' : k = n := by omega
      subst hkn'
      have p0 : wr.cell? ⟨w.heap.size + 2, 0, none⟩ = some (.int .i64 3) := by rw [cell_at hO.out]; rfl
      have p1 : wr.cell? ⟨w.heap.size + 2, 1, none⟩ = some (.slice none 0 0) := by rw [cell_at hO.out]; rfl
      have p2 : wr.cell? ⟨w.heap.size + 2, 2, none⟩ = some (.bool false) := by rw [cell_at hO.out]; rfl
      have p3 : wr.cell? ⟨w.heap.size + 2, 3, none⟩ = some (.int .i64 0) := by rw [cell_at hO.out]; rfl
      have p4 : wr.cell? ⟨w.heap.size + 2, 4, none⟩ = some (.int .i64 0) := by rw [cell_at hO.out]; rfl
      have p5 : wr.cell? ⟨w.heap.size + 2, 5, none⟩ = some (.bool false) := by rw [cell_at hO.out]; rfl
      have p6 : wr.cell? ⟨w.heap.size + 2, 6, none⟩ = some (.int .i64 0) := by rw [cell_at hO.out]; rfl
      have p7 : wr.cell? ⟨w.heap.size + 2, 7, none⟩ = some (.string { data := #[] }) := by rw [cell_at hO.out]; rfl
      have p8 : wr.cell? ⟨w.heap.size + 2, 8, none⟩ = some (.int .i64 0) := by rw [cell_at hO.out]; rfl
      have p9 : wr.cell? ⟨w.heap.size + 2, 9, none⟩ = some (.slice aI k cI) := by rw [cell_at hO.out]; rfl
      have q0 : wr.frozen? ⟨w.heap.size + 2, 0, none⟩ = false := frozen_at hO.out 0
      have q3 : wr.frozen? ⟨w.heap.size + 2, 3, none⟩ = false := frozen_at hO.out 3
      have q4 : wr.frozen? ⟨w.heap.size + 2, 4, none⟩ = false := frozen_at hO.out 4
      have hr1 : ∃ rcells, wr.heap[w.heap.size + 1]? = some (.cells rcells 63 (0, 0)) ∧ rcells.size = 10 := hO.res
      obtain ⟨rcells, hr1, hrz⟩ := hr1
      clear hO hlk hbel b2
      obtain ⟨r0, r1, r2, r3, r4, r5, r6, r7, r8, r9, rfl⟩ := ten hrz
      have m0 : wr.cell? ⟨w.heap.size + 1, 0, none⟩ = some r0 := by rw [cell_at hr1]; rfl
      have m1 : wr.cell? ⟨w.heap.size + 1, 1, none⟩ = some r1 := by rw [cell_at hr1]; rfl
      have m2 : wr.cell? ⟨w.heap.size + 1, 2, none⟩ = some r2 := by rw [cell_at hr1]; rfl
      have m3 : wr.cell? ⟨w.heap.size + 1, 3, none⟩ = some r3 := by rw [cell_at hr1]; rfl
      have m4 : wr.cell? ⟨w.heap.size + 1, 4, none⟩ = some r4 := by rw [cell_at hr1]; rfl
      have m5 : wr.cell? ⟨w.heap.size + 1, 5, none⟩ = some r5 := by rw [cell_at hr1]; rfl
      have m6 : wr.cell? ⟨w.heap.size + 1, 6, none⟩ = some r6 := by rw [cell_at hr1]; rfl
      have m7 : wr.cell? ⟨w.heap.size + 1, 7, none⟩ = some r7 := by rw [cell_at hr1]; rfl
      have m8 : wr.cell? ⟨w.heap.size + 1, 8, none⟩ = some r8 := by rw [cell_at hr1]; rfl
      have m9 : wr.cell? ⟨w.heap.size + 1, 9, none⟩ = some r9 := by rw [cell_at hr1]; rfl
      have z0' : wr.frozen? ⟨w.heap.size + 1, 0, none⟩ = false := frozen_at hr1 0
      have z1 : wr.frozen? ⟨w.heap.size + 1, 1, none⟩ = false := frozen_at hr1 1
      have z2 : wr.frozen? ⟨w.heap.size + 1, 2, none⟩ = false := frozen_at hr1 2
      have z3 : wr.frozen? ⟨w.heap.size + 1, 3, none⟩ = false := frozen_at hr1 3
      have z4 : wr.frozen? ⟨w.heap.size + 1, 4, none⟩ = false := frozen_at hr1 4
      have z5 : wr.frozen? ⟨w.heap.size + 1, 5, none⟩ = false := frozen_at hr1 5
      have z6 : wr.frozen? ⟨w.heap.size + 1, 6, none⟩ = false := frozen_at hr1 6
      have z7 : wr.frozen? ⟨w.heap.size + 1, 7, none⟩ = false := frozen_at hr1 7
      have z8 : wr.frozen? ⟨w.heap.size + 1, 8, none⟩ = false := frozen_at hr1 8
      have z9 : wr.frozen? ⟨w.heap.size + 1, 9, none⟩ = false := frozen_at hr1 9
      have HR1 := Lib.hid hr1
      clear hr1
      have HT := Lib.hid (congrArg (List.map (fun _ => Rx.mk 2 0 0 [])) (List.take_of_length_le (l := zs) (i := k) (by rw [HN.out]; exact Nat.le_refl _)))
      go_wp2
      refine bodyPost_ret (v := .agg #[.int .i64 3, .slice none 0 0, .bool false, .int .i64 0, .int .i64 0, .bool false, .int .i64 0, .string { data := #[] }, .int .i64 0, .slice aI k cI]) (by simp [results, Try.results42, go_sem, m0, m1, m2, m3, m4, m5, m6, m7, m8, m9]) rfl ⟨⟨[.int .i64 3, .slice none 0 0, .bool false, .int .i64 0, .int .i64 0, .bool false, .int .i64 0, .string { data := #[] }, .int .i64 0, .slice aI k cI], rfl, ?_⟩, ?_⟩
      · rw [← HT.out]
        refine ReRow.rep' (base := w.heap.size + 3) (cs := cs) ?_ HLK.out (by omega) (by omega)
        repeat (refine ReRow.setCell ?_ (by simp) _)
        exact HO.out.row
      · repeat (refine Below.setCell ?_ (by simp <;> omega) _)
        exact HBel.out
end Go.Proofs.Ytejhffcjamdffaa
