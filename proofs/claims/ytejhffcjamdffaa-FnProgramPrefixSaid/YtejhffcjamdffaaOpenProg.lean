/-
  A slice of instructions that came in, opened: what a reading of it tells is 'Insts', within the form's own reach. No conditions beside those typed.
-/
import Derived.Test.YtejhffcjamdffaaOpen
import Derived.Test.YtejhffcjamdffaaProgMem
namespace Go.Proofs.Ytejhffcjamdffaa
open Go.ChangeShapes Go.WideShapes Go.ChangeAt Go.RowKit

theorem Try.cells28 : Try.prog.cellsOf 28 = 4 := by kernel_rfl
theorem Try.bytes28 : Try.prog.bytesOf 28 = 48 := by kernel_rfl

theorem four {α : Type} {l : List α} (h : l.length = 4) : ∃ a b c d, l = [a, b, c, d] := by
  match l, h with
  | [a, b, c, d], _ => exact ⟨a, b, c, d, rfl⟩

section
variable {H : Type} {enc : TypeId × Value → H}

theorem in_wd {B : Nat} {v : Value} (h : In (fun b => b < B) v) : Wd B v := h

set_option maxRecDepth 10000 in
/-- One instruction. -/
theorem inst_of_trod (W : World) (fuel : Nat) (cs : List Value) (x : DataW H × List MemPlace) (h : DataW.trod enc Try.prog W 0 (fun _ => true) true fuel 28 cs = some x) (hw : ∀ n, n ∈ x.1.weights Try.prog 28 → n ≤ reachBytes) :
    ∃ (i : I) (rv : Value), cs = [.int .i64 i.op, .int .i64 i.out, .int .i64 i.arg, rv] ∧ Runes W rv i.runes ∧ Wd W.heap.size rv ∧ i.runes.length * 4 ≤ 140737488351232 := by
  obtain ⟨xs, n, rfl, rfl, hl, hlen, hf⟩ := DataW.trod_struct Try.underlying28 h
  rw [Try.cells28] at hl
  obtain ⟨c0, c1, c2, c3, rfl⟩ := four hl
  obtain ⟨y0, y1, y2, y3, rfl⟩ := four hlen
  have h0 := hf 0 _ rfl
  have h1 := hf 1 _ rfl
  have h2 := hf 2 _ rfl
  have h3 := hf 3 _ rfl
  simp only [List.getElem?_cons_zero, List.getElem?_cons_succ] at h0 h1 h2 h3
  obtain ⟨op, e0, _, _⟩ := DataW.trod_int Try.underlying3 h0
  obtain ⟨out, e1, _, _⟩ := DataW.trod_int Try.underlying3 h1
  obtain ⟨arg, e2, _, _⟩ := DataW.trod_int Try.underlying3 h2
  injection e0 with e0 _
  injection e1 with e1 _
  injection e2 with e2 _
  subst e0 e1 e2
  have hwt : ∀ m, m ∈ DataW.weights Try.prog 26 y3.1 → m ≤ reachBytes := fun m hm => hw m (by
    simp only [DataW.weights, Try.underlying28, List.map_cons, List.map_nil, DataW.weightsEach, List.append_nil]
    simp only [List.mem_append]
    simp [hm])
  obtain ⟨zs, hruns, hin, hzl⟩ := runes_of_trod h3 hwt
  exact ⟨⟨op, out, arg, zs⟩, c3, rfl, hruns, in_wd hin, hzl⟩

set_option maxRecDepth 10000 in
theorem insts_of_trod (W : World) (fuel : Nat) (v : Value) (x : DataW H × List MemPlace) (h : DataW.trod enc Try.prog W 0 (fun _ => true) true fuel 31 [v] = some x) (hw : ∀ n, n ∈ x.1.weights Try.prog 31 → n ≤ reachBytes) :
    ∃ is : List I, Insts W W.heap.size v is ∧ is.length * 48 ≤ 140737488351232 ∧ ∀ i, i ∈ is → i.runes.length * 4 ≤ 140737488351232 := by
  rcases DataW.trod_slice Try.underlying31 h with ⟨e8, _⟩ | ⟨a, len, cap, elems, rest, m, hnm, e8, hy8, _, hle, hcm, hel, hget, hrest, _⟩
  · injection e8 with e8 _
    subst e8
    exact ⟨[], ⟨none, 0, rfl, fun h => absurd rfl h⟩, by simp, fun i h => by cases h⟩
  · injection e8 with e8 _
    subst e8
    subst hnm
    have hwl : (elems.length + rest.length) * 48 ≤ reachBytes := hw _ (by
      rw [hy8]
      simp only [DataW.weights, Try.underlying31, Try.bytes28, List.length_map]
      simp)
    have heach : ∀ i, i < len → ∃ y : I × List Value × Value, W.cells? 0 (a.add (i * 4)) 4 = some y.2.1 ∧ y.2.1 = [.int .i64 y.1.op, .int .i64 y.1.out, .int .i64 y.1.arg, y.2.2] ∧ Runes W y.2.2 y.1.runes ∧ Wd W.heap.size y.2.2 ∧ y.1.runes.length * 4 ≤ 140737488351232 := fun i hi => by
      have hg := hget i hi
      rw [Try.cells28] at hg
      have hsome : ∃ z, elems[i]? = some z := ⟨elems[i]'(by omega), List.getElem?_eq_getElem _⟩
      obtain ⟨z, hz⟩ := hsome
      rw [hz] at hg
      obtain ⟨cs', hc1, hc2⟩ := Option.bind_eq_some_iff.1 hg
      obtain ⟨i', rv, e1, e2, e3, e4⟩ := inst_of_trod W m cs' z hc2 (fun n hn => hw n (by
        rw [hy8]
        simp only [DataW.weights, Try.underlying31, List.mem_append, List.mem_cons]
        exact .inr (.inl (weights_all (List.mem_map.2 ⟨z, List.mem_of_getElem? hz, rfl⟩) n hn))))
      exact ⟨(i', cs', rv), hc1, e1, e2, e3, e4⟩
    obtain ⟨l, hll, hlp⟩ := list_of_each len heach
    have hsub : ∀ i s, (l.map (·.1))[i]? = some s → ∃ y, l[i]? = some (s, y) := fun i s hs => by
      rw [List.getElem?_map] at hs
      cases hli : l[i]? with
      | none => rw [hli] at hs; cases hs
      | some y =>
        rw [hli] at hs
        simp at hs
        exact ⟨y.2, by subst hs; exact hli⟩
    have hspot : 0 < len → a = ⟨a.block, a.off, none⟩ ∧ a.block < W.heap.size := fun hpos => by
      obtain ⟨y, hy⟩ : ∃ y, l[0]? = some y := ⟨l[0]'(by omega), List.getElem?_eq_getElem _⟩
      obtain ⟨hcc, hce, _⟩ := hlp 0 y hy
      obtain ⟨_, h9, hc⟩ := World.cells?_some hcc
      have hc0 := hc 0 (by omega)
      rw [hce] at hc0
      have hb := cell_lt hc0
      rw [add_block, add_block] at hb
      refine ⟨?_, hb⟩
      obtain ⟨b, off, spot⟩ := a
      have hs0 : spot = none := by simpa [Addr.add] using World.cell?_spot hc0
      rw [hs0]
    have hlen' : len * 48 ≤ 140737488351232 := by
      have h1 : reachBytes = 140737488351232 := rfl
      omega
    refine ⟨l.map (·.1), ⟨some a, cap, by rw [List.length_map, hll], fun hne => ?_⟩, by rw [List.length_map, hll]; exact hlen', fun i hi => ?_⟩
    · have hpos : 0 < len := by
        have := List.length_pos_iff.2 hne
        rw [List.length_map] at this
        omega
      refine ⟨a.block, a.off, congrArg some (hspot hpos).1, (hspot hpos).2, fun k i hik => ?_⟩
      obtain ⟨y, hlk⟩ := hsub k i hik
      obtain ⟨hc, hce, hr, hwd, _⟩ := hlp k _ hlk
      dsimp only at hc hce hr hwd
      obtain ⟨_, h9, hcc⟩ := World.cells?_some hc
      have hcell : ∀ j u, j < 4 → y.1[j]? = some u → W.cell? ⟨a.block, a.off + k * 4 + j, none⟩ = some u := fun j u hj hu => by
        have h2 := hcc j hj
        rw [(hspot hpos).1, add_at, add_at] at h2
        rw [h2]
        exact hu
      refine ⟨y.2, ?_, hcell 1 _ (by omega) (by rw [hce]; rfl), hcell 2 _ (by omega) (by rw [hce]; rfl), hcell 3 _ (by omega) (by rw [hce]; rfl), hr, hwd⟩
      have := hcell 0 (.int .i64 i.op) (by omega) (by rw [hce]; rfl)
      simpa using this
    · obtain ⟨k, hk⟩ := List.getElem?_of_mem hi
      obtain ⟨y, hlk⟩ := hsub k i hk
      exact (hlp k _ hlk).2.2.2.2
end
end Go.Proofs.Ytejhffcjamdffaa
