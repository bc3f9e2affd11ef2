/-
  A node that came in, opened: what a reading of it tells is a 'Rep', within the form's own reach. No conditions beside those typed.
-/
import Derived.Test.YtejhffcjamdffaaNode
import Derived.Test.YtejhffcjamdffaaRunes
import Derived.ChangeArms
import Derived.ChangeSlices
import Derived.SizedLaws
namespace Go.Proofs.Ytejhffcjamdffaa
open Go.ChangeShapes Go.WideShapes Go.ChangeAt Go.RowKit

theorem Try.cells36 : Try.prog.cellsOf 36 = 9 := by kernel_rfl
theorem Try.cells3 : Try.prog.cellsOf 3 = 1 := by kernel_rfl
theorem Try.cells4 : Try.prog.cellsOf 4 = 1 := by kernel_rfl
theorem Try.cells9 : Try.prog.cellsOf 9 = 1 := by kernel_rfl
theorem Try.cells26 : Try.prog.cellsOf 26 = 1 := by kernel_rfl
theorem Try.cells34 : Try.prog.cellsOf 34 = 1 := by kernel_rfl
theorem Try.cells21 : Try.prog.cellsOf 21 = 1 := by kernel_rfl
theorem Try.bytes36 : Try.prog.bytesOf 36 = 104 := by kernel_rfl
theorem Try.bytes21 : Try.prog.bytesOf 21 = 4 := by kernel_rfl

theorem cell_lt {w : World} {a : Addr} {u : Value} (h : w.cell? a = some u) : a.block < w.heap.size := by
  rcases Nat.lt_or_ge a.block w.heap.size with h1 | h1
  · exact h1
  · rw [World.cell?] at h
    rw [Array.getElem?_eq_none h1] at h
    simp at h

theorem Rep.succ {S : Nat → Prop} {w : World} : ∀ (d : Nat) (nd : Nd) (cs : List Value), Rep w S d nd cs → Rep w S (d + 1) nd cs := by
  intro d
  induction d with
  | zero => intro nd cs h; cases h
  | succ d ih =>
    intro nd cs h
    obtain ⟨rv, ao, c, b, off, f, rfl, hfit, hr, hrb, hne, hs⟩ := h
    exact ⟨rv, ao, c, b, off, f, rfl, hfit, hr, hrb, hne, fun k s hks => ⟨(hs k s hks).1, ih _ _ (hs k s hks).2⟩⟩

theorem rep_mk {w : World} {S : Nat → Prop} {d len c b off : Nat} {op mn mx cp : Int} {fold lazy : Bool} {name : ByteArray} {zs : List Int} {subs : List Nd} {rv : Value} {ao : Option Addr} (f : Nat → List Value) (hl : subs.length = len) (h1 : len * 104 ≤ 140737488351232) (h2 : zs.length * 4 ≤ 140737488351232) (h3 : name.size ≤ 140737488351232)
    (hr : Runes w rv zs) (hrb : In S rv) (hne : 0 < len → ao = some ⟨b, off, none⟩ ∧ S b) (hs : ∀ k s, subs[k]? = some s → Cells w b (off + k * 9) (f k) ∧ Rep w S d s (f k)) :
    Rep w S (d + 1) (.mk op fold lazy mn mx cp name zs subs) [.int .i64 op, .bool fold, .bool lazy, .int .i64 mn, .int .i64 mx, .int .i64 cp, .string name, rv, .slice ao len c] := by
  subst hl
  exact ⟨rv, ao, c, b, off, f, rfl, ⟨h1, h2, h3⟩, hr, hrb, fun h0 => hne (List.length_pos_iff.2 h0), hs⟩

theorem list_of_each {β : Type} {p : Nat → β → Prop} : ∀ (n : Nat), (∀ i, i < n → ∃ y, p i y) → ∃ l : List β, l.length = n ∧ ∀ (i : Nat) (y : β), l[i]? = some y → p i y := by
  intro n
  induction n with
  | zero => intro _; exact ⟨[], rfl, fun i y h => by simp at h⟩
  | succ n ih =>
    intro h
    obtain ⟨l, hl, hp⟩ := ih (fun i hi => h i (by omega))
    obtain ⟨y, hy⟩ := h n (by omega)
    refine ⟨l ++ [y], by simp [hl], fun i z hz => ?_⟩
    by_cases hi : i < l.length
    · rw [List.getElem?_append_left hi] at hz; exact hp i z hz
    · rw [List.getElem?_append_right (by omega)] at hz
      have h0 : i - l.length = 0 := by
        rcases Nat.eq_zero_or_pos (i - l.length) with h0 | h0
        · exact h0
        · rw [List.getElem?_eq_none (by simp; omega)] at hz; cases hz
      rw [h0] at hz
      simp at hz
      subst hz
      rw [show i = n from by omega]
      exact hy

theorem nine {α : Type} {l : List α} (h : l.length = 9) : ∃ a b c d e f g i j, l = [a, b, c, d, e, f, g, i, j] := by
  match l, h with
  | [a, b, c, d, e, f, g, i, j], _ => exact ⟨a, b, c, d, e, f, g, i, j, rfl⟩

section
variable {H : Type} {enc : TypeId × Value → H}

theorem weights_all {P : Program} {e : TypeId} {l : List (DataW H)} {y : DataW H} (h : y ∈ l) : ∀ n, n ∈ y.weights P e → n ∈ DataW.weightsAll P e l := by
  induction l with
  | nil => cases h
  | cons z l ih =>
    intro n hn
    rw [DataW.weightsAll, List.mem_append]
    rcases List.mem_cons.1 h with rfl | h
    · exact .inl hn
    · exact .inr (ih h n hn)

theorem runes_of_trod {W : World} {n : Nat} {v : Value} {y : DataW H × List MemPlace} (h : DataW.trod enc Try.prog W 0 (fun _ => true) true n 26 [v] = some y) (hw : ∀ m, m ∈ y.1.weights Try.prog 26 → m ≤ reachBytes) :
    ∃ zs : List Int, Runes W v zs ∧ In (fun b => b < W.heap.size) v ∧ zs.length * 4 ≤ 140737488351232 := by
  rcases open_ints Try.underlying26 Try.underlying21 Try.cells21 h with ⟨hcs, hx⟩ | ⟨a, len, cap, zs, hcs, _, hl, hm, hz, hx, hcell, hwz⟩
  · injection hcs with e _
    subst e
    exact ⟨[], ⟨rfl, .inl ⟨rfl, rfl⟩⟩, fun k hk => by simp [Value.ownBlock] at hk, by simp⟩
  · injection hcs with e _
    subst e
    simp only [if_true] at hz
    subst hx
    have hlen : (zs.take len).length = len := by rw [List.length_take]; omega
    have h1 := hw ((zs.take len).length * 4 + (zs.drop len).length * 4) (by
      simp only [DataW.weights, Try.underlying26, Try.bytes21, List.mem_cons]
      left
      simp [lits, Nat.add_mul])
    refine ⟨zs.take len, ⟨by simp, .inr ⟨a, cap, by rw [hlen], by rw [hlen]; exact hl, hm, fun j u hu => ?_⟩⟩, fun k hk => ?_, by unfold reachBytes at h1; omega⟩
    · rw [List.getElem?_map] at hu
      cases hz2 : (zs.take len)[j]? with
      | none => rw [hz2] at hu; cases hu
      | some z =>
        rw [hz2] at hu
        simp at hu
        subst hu
        have hj : j < len := by have := (List.getElem?_eq_some_iff.1 hz2).1; omega
        rw [List.getElem?_take_of_lt hj] at hz2
        have hc := hcell j (by omega)
        rw [List.getD, hz2] at hc
        exact hc
    · rcases Nat.eq_zero_or_pos len with h0 | h0
      · exact .inl ⟨_, _, by rw [h0]⟩
      · right
        simp only [Value.ownBlock, Option.some.injEq] at hk
        have hc := cell_lt (hcell 0 (by omega))
        rw [add_block, hk] at hc
        exact hc

set_option maxRecDepth 10000 in
theorem rep_of_trod (W : World) : ∀ (fuel : Nat) (cs : List Value) (x : DataW H × List MemPlace), DataW.trod enc Try.prog W 0 (fun _ => true) true fuel 36 cs = some x → (∀ n, n ∈ x.1.weights Try.prog 36 → n ≤ reachBytes) → ∃ nd, Rep W (fun b => b < W.heap.size) fuel nd cs := by
  intro fuel
  induction fuel using Nat.strongRecOn with
  | ind fuel ih =>
    intro cs x h hw
    obtain ⟨xs, n, rfl, rfl, hl, hlen, hf⟩ := DataW.trod_struct Try.underlying36 h
    rw [Try.cells36] at hl
    obtain ⟨c0, c1, c2, c3, c4, c5, c6, c7, c8, rfl⟩ := nine hl
    obtain ⟨y0, y1, y2, y3, y4, y5, y6, y7, y8, rfl⟩ := nine hlen
    have h0 := hf 0 _ rfl
    have h1 := hf 1 _ rfl
    have h2 := hf 2 _ rfl
    have h3 := hf 3 _ rfl
    have h4 := hf 4 _ rfl
    have h5 := hf 5 _ rfl
    have h6 := hf 6 _ rfl
    have h7 := hf 7 _ rfl
    have h8 := hf 8 _ rfl
    simp only [List.getElem?_cons_zero, List.getElem?_cons_succ] at h0 h1 h2 h3 h4 h5 h6 h7 h8
    obtain ⟨op, e0, _, _⟩ := DataW.trod_int Try.underlying3 h0
    obtain ⟨fold, e1, _⟩ := DataW.trod_bool Try.underlying4 h1
    obtain ⟨lazy, e2, _⟩ := DataW.trod_bool Try.underlying4 h2
    obtain ⟨mn, e3, _, _⟩ := DataW.trod_int Try.underlying3 h3
    obtain ⟨mx, e4, _, _⟩ := DataW.trod_int Try.underlying3 h4
    obtain ⟨cp, e5, _, _⟩ := DataW.trod_int Try.underlying3 h5
    obtain ⟨name, e6, r6, _⟩ := DataW.trod_string Try.underlying9 h6
    injection e0 with e0 _
    injection e1 with e1 _
    injection e2 with e2 _
    injection e3 with e3 _
    injection e4 with e4 _
    injection e5 with e5 _
    injection e6 with e6 _
    subst e0 e1 e2 e3 e4 e5 e6
    have hwt : ∀ m, m ∈ DataW.weights Try.prog 9 y6.1 ++ (DataW.weights Try.prog 26 y7.1 ++ DataW.weights Try.prog 34 y8.1) → m ≤ reachBytes := fun m hm => hw m (by
      simp only [DataW.weights, Try.underlying36, List.map_cons, List.map_nil, DataW.weightsEach, List.append_nil]
      simp only [List.mem_append] at hm ⊢
      rcases hm with hm | hm | hm <;> simp [hm])
    have hname : name.size ≤ 140737488351232 := by
      have := hwt name.data.toList.length (by rw [r6]; simp [DataW.weights])
      unfold reachBytes at this
      simpa using this
    obtain ⟨zs, hruns, hin, hzl⟩ := runes_of_trod h7 (fun m hm => hwt m (by simp [hm]))
    rcases DataW.trod_slice Try.underlying34 h8 with ⟨e8, _⟩ | ⟨a, len, cap, elems, rest, m, hnm, e8, hy8, _, hle, hcm, hel, hget, hrest, _⟩
    · injection e8 with e8 _
      subst e8
      exact ⟨.mk op fold lazy mn mx cp name zs [], c7, none, 0, 0, 0, fun _ => [], rfl, ⟨by simp [Nd.subs], hzl, hname⟩, hruns, hin, fun h => absurd rfl h, fun k s hs => by simp [Nd.subs] at hs⟩
    · injection e8 with e8 _
      subst e8
      subst hnm
      have hwl : (elems.length + rest.length) * 104 ≤ reachBytes := hwt _ (by
        rw [hy8]
        simp only [DataW.weights, Try.underlying34, Try.bytes36, List.length_map]
        simp)
      have heach : ∀ i, i < len → ∃ y : Nd × List Value, W.cells? 0 (a.add (i * 9)) 9 = some y.2 ∧ Rep W (fun b => b < W.heap.size) m y.1 y.2 := fun i hi => by
        have hg := hget i hi
        rw [Try.cells36] at hg
        have hsome : ∃ z, elems[i]? = some z := ⟨elems[i]'(by omega), List.getElem?_eq_getElem _⟩
        obtain ⟨z, hz⟩ := hsome
        rw [hz] at hg
        obtain ⟨cs', hc1, hc2⟩ := Option.bind_eq_some_iff.1 hg
        obtain ⟨nd, hnd⟩ := ih m (by omega) cs' z hc2 (fun n hn => hwt n (by
          rw [hy8]
          simp only [DataW.weights, Try.underlying34, List.mem_append, List.mem_cons]
          exact .inr (.inr (.inr (.inl (weights_all (List.mem_map.2 ⟨z, List.mem_of_getElem? hz, rfl⟩) n hn))))))
        exact ⟨(nd, cs'), hc1, hnd⟩
      obtain ⟨l, hll, hlp⟩ := list_of_each len heach
      have hsub : ∀ i s, (l.map (·.1))[i]? = some s → ∃ cs', l[i]? = some (s, cs') := fun i s hs => by
        rw [List.getElem?_map] at hs
        cases hli : l[i]? with
        | none => rw [hli] at hs; cases hs
        | some y =>
          rw [hli] at hs
          simp at hs
          exact ⟨y.2, by subst hs; exact hli⟩
      have hspot : 0 < len → a = ⟨a.block, a.off, none⟩ ∧ a.block < W.heap.size := fun hpos => by
        obtain ⟨y, hy⟩ : ∃ y, l[0]? = some y := ⟨l[0]'(by omega), List.getElem?_eq_getElem _⟩
        obtain ⟨_, h9, hc⟩ := World.cells?_some (hlp 0 y hy).1
        have hc0 := hc 0 (by omega)
        obtain ⟨u, hu⟩ : ∃ u, y.2[0]? = some u := ⟨y.2[0]'(by omega), List.getElem?_eq_getElem _⟩
        rw [hu] at hc0
        have hb := cell_lt hc0
        rw [add_block, add_block] at hb
        refine ⟨?_, hb⟩
        obtain ⟨b, off, spot⟩ := a
        have hs0 : spot = none := by simpa [Addr.add] using World.cell?_spot hc0
        rw [hs0]
      have hlen' : len * 104 ≤ 140737488351232 := by
        have h1 : reachBytes = 140737488351232 := rfl
        omega
      refine ⟨.mk op fold lazy mn mx cp name zs (l.map (·.1)), rep_mk (b := a.block) (off := a.off) (fun k => ((l[k]?).map (·.2)).getD []) (by rw [List.length_map]; exact hll) hlen' hzl hname hruns hin (fun hpos => ⟨congrArg some (hspot hpos).1, (hspot hpos).2⟩) (fun k s hks => ?_)⟩
      · obtain ⟨cs', hlk⟩ := hsub k s hks
        have hkl : k < len := by have := (List.getElem?_eq_some_iff.1 hlk).1; omega
        obtain ⟨hc, hr⟩ := hlp k _ hlk
        simp only [hlk, Option.map_some, Option.getD_some]
        obtain ⟨_, h9, hcc⟩ := World.cells?_some hc
        refine ⟨fun j u hu => ?_, Rep.succ _ _ _ hr⟩
        have h9' : cs'.length = 9 := h9
        have hj' : j < cs'.length := (List.getElem?_eq_some_iff.1 hu).1
        have hj : j < 9 := by omega
        have h2 := hcc j hj
        rw [(hspot (by omega)).1, add_at, add_at] at h2
        rw [h2]
        exact hu
end
end Go.Proofs.Ytejhffcjamdffaa
