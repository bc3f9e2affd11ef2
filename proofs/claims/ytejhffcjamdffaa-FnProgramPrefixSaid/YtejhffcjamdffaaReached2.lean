/-
  The contract of the specification's Reached: each place that it returns is reached. Conditions: a right program, at most a thousand runes.
-/
import Derived.Test.YtejhffcjamdffaaReached
namespace Go.Proofs.Ytejhffcjamdffaa
open Go.RowKit

/-- A row of places, each of which is reached. -/
def Ends (is : List I) (ts : List Int) (k p : Nat) (w : World) (e : Ending) (w' : World) : Prop :=
  (∃ (v : Value) (es : List Nat), e = .returned v ∧ w'.ownsRow w.heap.size 3 1 v es.length (es.map fun x : Nat => Value.int .i64 (x : Int)) ∧ (∀ x, x ∈ es → Reach is ts k p x ∧ x ≤ ts.length)) ∧ Below w.heap.size w w'

theorem marks_below {w w' : World} {b : Nat} {l : List Bool} (h : MarksAt w b l) (hb : Below w.heap.size w w') : MarksAt w' b l := (hb.block b h.lt).trans h

/-- The places that are told so far. -/
def Told (w : World) (B o T : Nat) (out : List Bool) (v : Value) (es : List Nat) : Prop :=
  w.ownsRow B 3 1 v es.length (es.map fun x : Nat => Value.int .i64 (x : Int)) ∧ MarksAt w o out ∧ out.length = T ∧ ∀ x, x ∈ es → out[x]? = some true

theorem Told.snoc {w w' : World} {B o T x : Nat} {out : List Bool} {v v' : Value} {es : List Nat} {ob : Obj} (h : Told w B o T out v es) (hx : out[x]? = some true) (hg : (w.alloc ob).grownBy w' v.ownBlock)
    (hown : w'.ownsRow B 3 1 v' (es.length + 1) ((es.map fun x : Nat => Value.int .i64 (x : Int)) ++ [.int .i64 (x : Int)])) : Told w' B o T out v' (es ++ [x]) := by
  obtain ⟨h1, h2, h3, h4⟩ := h
  refine ⟨by rw [List.length_append, List.map_append]; exact hown, ?_, h3, fun y hy => ?_⟩
  · have hlt := h2.lt
    unfold MarksAt
    rw [hg.block o (by simp; omega) (fun e => owns_apart_cells h1 h2 (by decide) e.symm), Below.heap_alloc _ _ _ hlt]
    exact h2
  · rcases List.mem_append.1 hy with h5 | h5
    · exact h4 y h5
    · simp only [List.mem_singleton] at h5
      subst h5
      exact hx

set_option maxRecDepth 100000 in
set_option maxHeartbeats 4000000 in
theorem reached_any (is : List I) (ts : List Int) (lv tv : Value) (k p : Nat) (w : World) (hins : Insts w w.heap.size lv is) (hrun : Runes w tv ts) (hbd : Wd w.heap.size tv) (hk : k < is.length) (hp : p ≤ ts.length) (h60 : is.length ≤ 60) (hts : ts.length ≤ 1000) (hok : ∀ i, i ∈ is → InstP is.length i) :
    Calls Try.prog 28 #[lv, .int .i64 k, tv, .int .i64 p] w (Ends is ts k p w) := by
  obtain ⟨i0, hi, hz0, hz1, hz2⟩ := info_parts Try.info69
  obtain ⟨j0, hj, hy0, hy1, hy2⟩ := info_parts Try.info4b
  obtain ⟨l0, hl, hx0, hx1, hx2⟩ := info_parts Try.info3
  obtain ⟨la, lc, rfl⟩ := hins.slice
  obtain ⟨ta, tc, rfl, _⟩ := hrun.open
  have HWalk : Hid (∀ (w' : World) (g o gc : Nat) (bs : List Nat) (rows : List (List Bool)) (out : List Bool), Below w.heap.size w w' → WalkAt w' w.heap.size g o is.length (ts.length + 1) bs rows out → Calls Try.prog 61 #[.slice la is.length lc, .int .i64 k, .slice ta ts.length tc, .int .i64 p, .slice (some ⟨g, 0, none⟩) is.length gc, .slice (some ⟨o, 0, none⟩) (ts.length + 1 : Nat) (ts.length + 1 : Nat)] w' (WalkPost w.heap.size g o is.length (ts.length + 1) bs rows out is ts k p w')) := fun w' g o gc bs rows out hb hat =>
    walk_any is ts _ _ w.heap.size g o gc bs hbd h60 hts hok (unseen rows) k p rows out w' (Nat.le_refl _) hk hp hat (hins.below hb) (RowN.belowW hrun hb hbd) hb.size
  have HHit : Hid (∀ e, NewHits is ts k p (List.replicate (ts.length + 1) false) e → ∀ x : Nat, e[x]? = some true → Reach is ts k p x) := fun e he x hx => by
    rcases he x hx with h1 | h1
    · rw [List.getElem?_replicate] at h1
      split at h1 <;> cases h1
    · exact h1
  clear hins hrun hbd hok hp
  generalize is.length = n at *
  obtain ⟨T, hT⟩ : ∃ T, ts.length + 1 = T := ⟨_, rfl⟩
  rw [hT] at HWalk HHit
  generalize hL0 : ts.length = L at *
  have HL0 := Lib.hid hL0
  clear hL0
  go_enter Try.func28, Try.ntmps28
  go_wp2
  go_loopw [9, 17] (fun v i wr => ∃ (j : Nat) (bs : List Nat) (ao : Option Addr) (c : Nat), j ≤ n ∧ i = .int .i64 j ∧ bs.length = j ∧ v = .slice ao j c ∧ SeenRow wr w.heap.size T v bs ∧ Below w.heap.size w wr) (fun _ i _ => n - (intOf i).toNat)
  case atStart => exact ⟨0, [], _, _, Nat.zero_le _, rfl, rfl, rfl, ⟨World.ownsRow_made w #[] 0 (Nat.le_refl _) (by decide) rfl, fun b h => (by cases h), fun j k b h => by simp at h⟩, below1 w _⟩
  case round =>
    obtain ⟨j, bs, ao, c, hj', rfl, hlen, rfl, hseen, hbel⟩ := hrel
    have hsz := hbel.size
    by_cases hjn : j < n
    · have HS := Lib.hid hseen
      have HB := Lib.hid hbel
      have HOwn : Hid (wr.ownsRow w.heap.size 69 1 (.slice ao j c) j (bs.map fun b => Value.slice (some ⟨b, 0, none⟩) T T)) := by have h := hseen.own; rw [hlen] at h; exact h
      have HL := Lib.hid hlen
      clear hseen hbel hlen
      go_wp2_with (first
        | (at_make
           refine wpList_make_full _ rfl _ _ 69 rfl wr.heap.size 4 j0 (.bool false) 1 Try.underlying69 hj hy0 hy1 .i64 .i64 _ _ T rfl rfl (by rw [← hT]; go_num) (by rw [← hT]; go_num) (by rw [hy2]; omega) (by unfold maxLen; omega) (Nat.le_refl _) ?_
           intro w1 hown1 hgrow1
           have hm1 := marks_made hown1
           have HM1 := Lib.hid hm1
           have HB1 : Hid (Below wr.heap.size wr w1) := (Below.refl _ _).grown hgrow1 (Nat.le_refl _) (fun j hj => by cases hj)
           have hs1 : wr.heap.size ≤ w1.heap.size := HB1.out.size
           clear hown1 hgrow1 hm1)
        | (at_builtin
           refine wpList_append_lies _ rfl _ _ _ rfl w.heap.size 69 i0 _ 1 24 Try.underlying85 hi hz0 hz1 hz2 rfl (by omega) (.slice ao j c) j (bs.map fun b => Value.slice (some ⟨b, 0, none⟩) T T) rfl ((owns_below HOwn.out HB1.out (Bd.of_owns HOwn.out)).alloc _) ⟨w1.heap.size, 0, none⟩ 1 1 _ rfl ?_ (World.news_of_block (t := 69) (fr := (0, 0)) (heap_alloc_new w1 _)) ?_ (by omega) (by unfold maxLen; omega) (by omega) (by simp; omega) (w1.heap.size + 1) (by simp) ?_))
      · simp [Value.oneCell']
      · intro g cap1 w2 hown2 hgrow hat hlt2
        have hB2 : Below w.heap.size w w2 := (HB.out.trans ((HB1.out.mono hsz).alloc (by omega) (.cells #[.slice (some ⟨wr.heap.size, 0, none⟩) T T] 69))).grown hgrow (by simp; omega) (fun x hx => (HOwn.out.lt x hx).1)
        have hnext := SeenRow.snoc HS.out HB1.out HM1.out.1 HM1.out.2.1 hsz hgrow (by rw [HL.out]; exact hown2)
        have HB2 := Lib.hid hB2
        have HNx := Lib.hid hnext
        clear hB2 hnext hown2 hgrow hat hlt2
        go_wp2
        go_roundw
        case rel => exact ⟨j + 1, _, _, _, by omega, by go_num, by rw [List.length_append, HL.out]; rfl, rfl, HNx.out, HB2.out⟩
        case measure => simp [intOf]; omega
    · obtain ⟨wo, rfl⟩ : ∃ wo : World, wo = wr := ⟨_, rfl⟩
      have hjn' : j = n := by omega
      subst hjn'
      have hpos : 0 < j := by omega
      obtain ⟨g, cap', hv, hbg, hgl⟩ := hseen.own.form (by omega)
      injection hv with e1 e2 e3
      subst e1
      have HS := Lib.hid hseen
      have HB := Lib.hid hbel
      have HL := Lib.hid hlen
      clear hseen hbel hlen e2 e3
      go_wp2_with (first
        | (at_make
           refine wpList_make_full _ rfl _ _ 69 rfl wo.heap.size 4 j0 (.bool false) 1 Try.underlying69 hj hy0 hy1 .i64 .i64 _ _ T rfl rfl (by rw [← hT]; go_num) (by rw [← hT]; go_num) (by rw [hy2]; omega) (by unfold maxLen; omega) (Nat.le_refl _) ?_
           intro w1 hown1 hgrow1
           have hm1 := marks_made hown1
           have HB1 : Hid (Below wo.heap.size wo w1) := (Below.refl _ _).grown hgrow1 (Nat.le_refl _) (fun j hj => by cases hj)
           have hne : ∀ b, b ∈ bs → b ≠ wo.heap.size := fun b hb e => by have := (HS.out.marks b hb).2.lt; omega
           have hs2 := HS.out.below HB1.out
           rw [← HL.out] at hs2
           obtain ⟨g', hg', hat⟩ := hs2.walk (n := j) HL.out hpos hm1.1 (by omega) hne
           injection hg' with hg'
           injection hg' with hg' _ _
           subst hg'
           have HAt := Lib.hid hat
           have HBw : Hid (Below w.heap.size w w1) := HB.out.trans (HB1.out.mono hsz)
           clear hown1 hgrow1 hm1 hne hs2 hat)
        | (go_at_call 61
           refine (HWalk.out _ _ _ _ _ _ _ HBw.out HAt.out).mono ?_
           rintro e w2 ⟨rfl, ⟨rows', out', hat2, _, hhit⟩, hb2, _⟩
           have HOut := Lib.hid hat2.outAt
           have HLn := Lib.hid hat2.outLen
           have HHt := Lib.hid (HHit.out out' hhit)
           have HB2 : Hid (Below w.heap.size w w2) := HBw.out.trans hb2
           clear hat2 hhit hb2 HAt HWalk HHit))
      go_loopw [11, 41] (fun v i wr => ∃ (x : Nat) (es : List Nat), x ≤ T ∧ i = .int .i64 x ∧ es.length ≤ x ∧ Told wr w.heap.size wo.heap.size T out' v es ∧ Below w.heap.size w wr) (fun _ i _ => T - (intOf i).toNat)
      case atStart =>
        have hsz2 := HB2.out.size
        exact ⟨0, [], Nat.zero_le _, rfl, Nat.le_refl _, ⟨World.ownsRow_made w2 #[] 0 hsz2 (by decide) rfl, marks_below HOut.out (below1 _ _), HLn.out, fun x h => by cases h⟩, HB2.out.alloc hsz2 _⟩
      case round =>
        obtain ⟨x, es, hx, rfl, hes, htold, hbq⟩ := hrel
        obtain ⟨ea, ec, hve⟩ := owns_slice htold.1
        subst hve
        by_cases hxT : x < T
        · obtain ⟨s, hsx⟩ : ∃ s, out'[x]? = some s := ⟨out'[x]'(by rw [HLn.out]; exact hxT), List.getElem?_eq_getElem _⟩
          have cs := htold.2.1.cell hsx
          have HT := Lib.hid htold
          have HBq := Lib.hid hbq
          have HX := Lib.hid hsx
          have hszq := hbq.size
          clear htold hbq hsx
          cases s
          · go_wp2
            go_roundw
            case rel => exact ⟨x + 1, es, by omega, by go_num, by omega, HT.out, HBq.out⟩
            case measure => simp [intOf]; omega
          · go_wp2_with (at_builtin; refine wpList_append_lies _ rfl _ _ _ rfl w.heap.size 3 l0 _ 1 8 Try.underlying43 hl hx0 hx1 hx2 rfl (by omega) (.slice ea es.length ec) es.length (es.map fun x : Nat => Value.int .i64 (x : Int)) rfl (HT.out.1.alloc _) ⟨wr.heap.size, 0, none⟩ 1 1 _ rfl ?_ (World.news_of_block (t := 3) (fr := (0, 0)) (heap_alloc_new wr _)) ?_ (by omega) (by unfold maxLen; omega) (by omega) (by simp; omega) (wr.heap.size + 1) (by simp) ?_)
            · simp [Value.oneCell']
            · intro gg cap1 w3 hown3 hgrow hat hlt3
              have hB3 := (HBq.out.alloc hszq (.cells #[.int .i64 (x : Int)] 3)).grown hgrow (by simp; omega) (fun y hy => (HT.out.1.lt y hy).1)
              have hnext := HT.out.snoc HX.out hgrow hown3
              have HB3 := Lib.hid hB3
              have HNx := Lib.hid hnext
              clear hB3 hnext hown3 hgrow hat hlt3
              go_wp2
              go_roundw
              case rel => exact ⟨x + 1, es ++ [x], by omega, by go_num, by rw [List.length_append]; simp; omega, HNx.out, HB3.out⟩
              case measure => simp [intOf]; omega
        · have HT' := Lib.hid htold
          have HBq := Lib.hid hbq
          clear htold hbq
          go_wp2
          go_ret
          refine ⟨⟨_, es, rfl, HT'.out.1, fun y hy => ?_⟩, HBq.out⟩
          have h1 := HT'.out.2.2.2 y hy
          refine ⟨HHt.out y h1, ?_⟩
          have h2 := (List.getElem?_eq_some_iff.1 h1).1
          have h3 := HLn.out
          have h4 := HL0.out
          omega
end Go.Proofs.Ytejhffcjamdffaa
