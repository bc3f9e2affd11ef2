/-
  slices.IndexFunc and slices.ContainsFunc at expressions, with any function whose contract is known. No conditions beside those typed.
-/
import Derived.Test.YtejhffcjamdffaaCounted
namespace Go.Proofs.Ytejhffcjamdffaa
open Go.RowKit

/-- The parts of an expression, in a row. -/
def ReSubs (w : World) (S : Nat → Prop) (d : Nat) (ao : Option Addr) (rs : List Rx) : Prop :=
  rs = [] ∨ ∃ b off, ao = some ⟨b, off, none⟩ ∧ S b ∧ ∀ k s, rs[k]? = some s → ∃ cs', Cells w b (off + k * 10) cs' ∧ ReRep w S d s cs'

theorem ReSubs.keeps {w w' : World} {S : Nat → Prop} {d : Nat} {ao : Option Addr} {rs : List Rx} (h : ReSubs w S d ao rs) (hk : Keeps S w w') : ReSubs w' S d ao rs := by
  rcases h with h | ⟨b, off, rfl, hb, hs⟩
  · exact .inl h
  · exact .inr ⟨b, off, rfl, hb, fun k s hks => by
      obtain ⟨cs', hc, hr⟩ := hs k s hks
      exact ⟨cs', hc.keeps hk hb, ReRep.keeps hk _ _ _ hr⟩⟩

/-- The function f answers p at expressions at most d deep. -/
def ReIH (S : Nat → Prop) (d : Nat) (f : Nat) (p : Rx → Bool) : Prop := ∀ (rx : Rx) (cs : List Value) (w : World), ReRep w S d rx cs → RxOne d rx → (∀ b, S b → b < w.heap.size) →
  Calls Try.prog f #[.agg cs.toArray] w fun e w' => e = .returned (.bool (p rx)) ∧ Below w.heap.size w w'

set_option maxRecDepth 100000 in
set_option maxHeartbeats 4000000 in
theorem index_re71 (S : Nat → Prop) (d : Nat) (p : Rx → Bool) (IH : Hid (ReIH S d 71 p)) (ao : Option Addr) (c : Nat) (rs : List Rx) (w : World) (hs : ReSubs w S d ao rs) (h1 : ∀ s, s ∈ rs → RxOne d s) (hn : rs.length ≤ 1353264501504) (hS : ∀ b, S b → b < w.heap.size) :
    Calls Try.prog 88 #[.slice ao rs.length c, .func (.func 71) #[] #[]] w fun e w' => (∃ i : Int, e = .returned (.int .i64 i) ∧ decide (0 ≤ i) = rs.any p) ∧ Below w.heap.size w w' := by
  have HSub := Lib.hid hs
  have H1 := Lib.hid h1
  have HS := Lib.hid hS
  clear hs h1 hS
  generalize hN : rs.length = n at *
  have HN := Lib.hid hN
  clear hN
  go_enter Try.func88, Try.ntmps88
  go_wp2
  go_loopw [8] (fun i wr => ∃ k : Nat, k ≤ n ∧ i = .int .i64 k ∧ Hid ((rs.take k).any p = false) ∧ Below w.heap.size w wr) (fun i _ => n - (intOf i).toNat)
  case atStart => exact ⟨0, Nat.zero_le _, rfl, rfl, Below.refl _ _⟩
  case round =>
    obtain ⟨k, hk, rfl, HA, hbel⟩ := hrel
    by_cases hkn : k < n
    · obtain ⟨s, hks⟩ := get_of_lt HN.out hkn
      rcases HSub.out with h0 | ⟨b, off, rfl, hb, hsub⟩
      · rw [h0] at hks; simp at hks
      · obtain ⟨cs', hcells, hrep⟩ := hsub k s hks
        have hkeep : Keeps S w wr := Keeps.of_below hbel HS.out
        obtain ⟨eo', en', ec', neg', lazy', cap', what', name', ao', c', rfl, c0, c1, c2, c3, c4, c5, c6, c7, c8, c9⟩ := (ReRep.keeps hkeep _ _ _ hrep).cells (hcells.keeps hkeep hb)
        have HRep := Lib.hid (ReRep.keeps hkeep _ _ _ hrep)
        have hsz := hbel.size
        have HLt := Lib.hid (lt_below HS.out hsz)
        have HOne := Lib.hid (H1.out s (List.mem_of_getElem? hks))
        have HK := Lib.hid hks
        have HBel := Lib.hid hbel
        clear hsub hcells hrep hkeep hks hbel
        have hz : p s = true ∨ p s = false := by cases p s <;> simp
        rcases hz with hz | hz
        · go_wp2_with (go_at_call 71; refine (IH.out s _ _ HRep.out HOne.out HLt.out).mono ?_; rintro e w1 ⟨rfl, hb1⟩; rw [hz])
          go_ret
          exact ⟨⟨_, rfl, by rw [anyT_get _ _ _ _ HK.out hz]; simp⟩, HBel.out.trans (hb1.mono hsz)⟩
        · go_wp2_with (go_at_call 71; refine (IH.out s _ _ HRep.out HOne.out HLt.out).mono ?_; rintro e w1 ⟨rfl, hb1⟩; rw [hz])
          have hbel2 := HBel.out.trans (hb1.mono hsz)
          go_roundw
          case rel => exact ⟨k + 1, by omega, by go_num, anyT_next _ _ _ _ HK.out HA.out hz, hbel2⟩
          case measure => simp [intOf]; omega
    · have hkn' : k = n := by omega
      have HT : Hid (rs.any p = false) := by
        have h := HA.out
        rw [List.take_of_length_le (by rw [HN.out, hkn']; exact Nat.le_refl _)] at h
        exact h
      go_wp2
      go_ret
      exact ⟨⟨_, rfl, by rw [HT.out]; rfl⟩, hbel⟩

theorem contains_re71 (S : Nat → Prop) (d : Nat) (p : Rx → Bool) (IH : Hid (ReIH S d 71 p)) (ao : Option Addr) (c : Nat) (rs : List Rx) (w : World) (hs : ReSubs w S d ao rs) (h1 : ∀ s, s ∈ rs → RxOne d s) (hn : rs.length ≤ 1353264501504) (hS : ∀ b, S b → b < w.heap.size) :
    Calls Try.prog 72 #[.slice ao rs.length c, .func (.func 71) #[] #[]] w fun e w' => e = .returned (.bool (rs.any p)) ∧ Below w.heap.size w w' := by
  have HSub := Lib.hid hs
  have H1 := Lib.hid h1
  have HS := Lib.hid hS
  clear hs h1 hS
  go_enter Try.func72, Try.ntmps72
  go_wp2_with (go_at_call 88; refine (index_re71 S d p IH _ _ rs _ HSub.out H1.out hn HS.out).mono ?_; rintro e w' ⟨⟨i, rfl, hi⟩, hb⟩; have HI := Lib.hid hi; have HB := Lib.hid hb; clear hi hb)
  go_ret
  exact ⟨ret_bool HI.out, HB.out⟩

set_option maxRecDepth 100000 in
set_option maxHeartbeats 4000000 in
theorem index_re73 (S : Nat → Prop) (d : Nat) (p : Rx → Bool) (IH : Hid (ReIH S d 73 p)) (ao : Option Addr) (c : Nat) (rs : List Rx) (w : World) (hs : ReSubs w S d ao rs) (h1 : ∀ s, s ∈ rs → RxOne d s) (hn : rs.length ≤ 1353264501504) (hS : ∀ b, S b → b < w.heap.size) :
    Calls Try.prog 88 #[.slice ao rs.length c, .func (.func 73) #[] #[]] w fun e w' => (∃ i : Int, e = .returned (.int .i64 i) ∧ decide (0 ≤ i) = rs.any p) ∧ Below w.heap.size w w' := by
  have HSub := Lib.hid hs
  have H1 := Lib.hid h1
  have HS := Lib.hid hS
  clear hs h1 hS
  generalize hN : rs.length = n at *
  have HN := Lib.hid hN
  clear hN
  go_enter Try.func88, Try.ntmps88
  go_wp2
  go_loopw [8] (fun i wr => ∃ k : Nat, k ≤ n ∧ i = .int .i64 k ∧ Hid ((rs.take k).any p = false) ∧ Below w.heap.size w wr) (fun i _ => n - (intOf i).toNat)
  case atStart => exact ⟨0, Nat.zero_le _, rfl, rfl, Below.refl _ _⟩
  case round =>
    obtain ⟨k, hk, rfl, HA, hbel⟩ := hrel
    by_cases hkn : k < n
    · obtain ⟨s, hks⟩ := get_of_lt HN.out hkn
      rcases HSub.out with h0 | ⟨b, off, rfl, hb, hsub⟩
      · rw [h0] at hks; simp at hks
      · obtain ⟨cs', hcells, hrep⟩ := hsub k s hks
        have hkeep : Keeps S w wr := Keeps.of_below hbel HS.out
        obtain ⟨eo', en', ec', neg', lazy', cap', what', name', ao', c', rfl, c0, c1, c2, c3, c4, c5, c6, c7, c8, c9⟩ := (ReRep.keeps hkeep _ _ _ hrep).cells (hcells.keeps hkeep hb)
        have HRep := Lib.hid (ReRep.keeps hkeep _ _ _ hrep)
        have hsz := hbel.size
        have HLt := Lib.hid (lt_below HS.out hsz)
        have HOne := Lib.hid (H1.out s (List.mem_of_getElem? hks))
        have HK := Lib.hid hks
        have HBel := Lib.hid hbel
        clear hsub hcells hrep hkeep hks hbel
        have hz : p s = true ∨ p s = false := by cases p s <;> simp
        rcases hz with hz | hz
        · go_wp2_with (go_at_call 73; refine (IH.out s _ _ HRep.out HOne.out HLt.out).mono ?_; rintro e w1 ⟨rfl, hb1⟩; rw [hz])
          go_ret
          exact ⟨⟨_, rfl, by rw [anyT_get _ _ _ _ HK.out hz]; simp⟩, HBel.out.trans (hb1.mono hsz)⟩
        · go_wp2_with (go_at_call 73; refine (IH.out s _ _ HRep.out HOne.out HLt.out).mono ?_; rintro e w1 ⟨rfl, hb1⟩; rw [hz])
          have hbel2 := HBel.out.trans (hb1.mono hsz)
          go_roundw
          case rel => exact ⟨k + 1, by omega, by go_num, anyT_next _ _ _ _ HK.out HA.out hz, hbel2⟩
          case measure => simp [intOf]; omega
    · have hkn' : k = n := by omega
      have HT : Hid (rs.any p = false) := by
        have h := HA.out
        rw [List.take_of_length_le (by rw [HN.out, hkn']; exact Nat.le_refl _)] at h
        exact h
      go_wp2
      go_ret
      exact ⟨⟨_, rfl, by rw [HT.out]; rfl⟩, hbel⟩

theorem contains_re73 (S : Nat → Prop) (d : Nat) (p : Rx → Bool) (IH : Hid (ReIH S d 73 p)) (ao : Option Addr) (c : Nat) (rs : List Rx) (w : World) (hs : ReSubs w S d ao rs) (h1 : ∀ s, s ∈ rs → RxOne d s) (hn : rs.length ≤ 1353264501504) (hS : ∀ b, S b → b < w.heap.size) :
    Calls Try.prog 72 #[.slice ao rs.length c, .func (.func 73) #[] #[]] w fun e w' => e = .returned (.bool (rs.any p)) ∧ Below w.heap.size w w' := by
  have HSub := Lib.hid hs
  have H1 := Lib.hid h1
  have HS := Lib.hid hS
  clear hs h1 hS
  go_enter Try.func72, Try.ntmps72
  go_wp2_with (go_at_call 88; refine (index_re73 S d p IH _ _ rs _ HSub.out H1.out hn HS.out).mono ?_; rintro e w' ⟨⟨i, rfl, hi⟩, hb⟩; have HI := Lib.hid hi; have HB := Lib.hid hb; clear hi hb)
  go_ret
  exact ⟨ret_bool HI.out, HB.out⟩

set_option maxRecDepth 100000 in
set_option maxHeartbeats 4000000 in
theorem index_re87 (S : Nat → Prop) (d : Nat) (p : Rx → Bool) (IH : Hid (ReIH S d 87 p)) (ao : Option Addr) (c : Nat) (rs : List Rx) (w : World) (hs : ReSubs w S d ao rs) (h1 : ∀ s, s ∈ rs → RxOne d s) (hn : rs.length ≤ 1353264501504) (hS : ∀ b, S b → b < w.heap.size) :
    Calls Try.prog 88 #[.slice ao rs.length c, .func (.func 87) #[] #[]] w fun e w' => (∃ i : Int, e = .returned (.int .i64 i) ∧ decide (0 ≤ i) = rs.any p) ∧ Below w.heap.size w w' := by
  have HSub := Lib.hid hs
  have H1 := Lib.hid h1
  have HS := Lib.hid hS
  clear hs h1 hS
  generalize hN : rs.length = n at *
  have HN := Lib.hid hN
  clear hN
  go_enter Try.func88, Try.ntmps88
  go_wp2
  go_loopw [8] (fun i wr => ∃ k : Nat, k ≤ n ∧ i = .int .i64 k ∧ Hid ((rs.take k).any p = false) ∧ Below w.heap.size w wr) (fun i _ => n - (intOf i).toNat)
  case atStart => exact ⟨0, Nat.zero_le _, rfl, rfl, Below.refl _ _⟩
  case round =>
    obtain ⟨k, hk, rfl, HA, hbel⟩ := hrel
    by_cases hkn : k < n
    · obtain ⟨s, hks⟩ := get_of_lt HN.out hkn
      rcases HSub.out with h0 | ⟨b, off, rfl, hb, hsub⟩
      · rw [h0] at hks; simp at hks
      · obtain ⟨cs', hcells, hrep⟩ := hsub k s hks
        have hkeep : Keeps S w wr := Keeps.of_below hbel HS.out
        obtain ⟨eo', en', ec', neg', lazy', cap', what', name', ao', c', rfl, c0, c1, c2, c3, c4, c5, c6, c7, c8, c9⟩ := (ReRep.keeps hkeep _ _ _ hrep).cells (hcells.keeps hkeep hb)
        have HRep := Lib.hid (ReRep.keeps hkeep _ _ _ hrep)
        have hsz := hbel.size
        have HLt := Lib.hid (lt_below HS.out hsz)
        have HOne := Lib.hid (H1.out s (List.mem_of_getElem? hks))
        have HK := Lib.hid hks
        have HBel := Lib.hid hbel
        clear hsub hcells hrep hkeep hks hbel
        have hz : p s = true ∨ p s = false := by cases p s <;> simp
        rcases hz with hz | hz
        · go_wp2_with (go_at_call 87; refine (IH.out s _ _ HRep.out HOne.out HLt.out).mono ?_; rintro e w1 ⟨rfl, hb1⟩; rw [hz])
          go_ret
          exact ⟨⟨_, rfl, by rw [anyT_get _ _ _ _ HK.out hz]; simp⟩, HBel.out.trans (hb1.mono hsz)⟩
        · go_wp2_with (go_at_call 87; refine (IH.out s _ _ HRep.out HOne.out HLt.out).mono ?_; rintro e w1 ⟨rfl, hb1⟩; rw [hz])
          have hbel2 := HBel.out.trans (hb1.mono hsz)
          go_roundw
          case rel => exact ⟨k + 1, by omega, by go_num, anyT_next _ _ _ _ HK.out HA.out hz, hbel2⟩
          case measure => simp [intOf]; omega
    · have hkn' : k = n := by omega
      have HT : Hid (rs.any p = false) := by
        have h := HA.out
        rw [List.take_of_length_le (by rw [HN.out, hkn']; exact Nat.le_refl _)] at h
        exact h
      go_wp2
      go_ret
      exact ⟨⟨_, rfl, by rw [HT.out]; rfl⟩, hbel⟩

theorem contains_re87 (S : Nat → Prop) (d : Nat) (p : Rx → Bool) (IH : Hid (ReIH S d 87 p)) (ao : Option Addr) (c : Nat) (rs : List Rx) (w : World) (hs : ReSubs w S d ao rs) (h1 : ∀ s, s ∈ rs → RxOne d s) (hn : rs.length ≤ 1353264501504) (hS : ∀ b, S b → b < w.heap.size) :
    Calls Try.prog 72 #[.slice ao rs.length c, .func (.func 87) #[] #[]] w fun e w' => e = .returned (.bool (rs.any p)) ∧ Below w.heap.size w w' := by
  have HSub := Lib.hid hs
  have H1 := Lib.hid h1
  have HS := Lib.hid hS
  clear hs h1 hS
  go_enter Try.func72, Try.ntmps72
  go_wp2_with (go_at_call 88; refine (index_re87 S d p IH _ _ rs _ HSub.out H1.out hn HS.out).mono ?_; rintro e w' ⟨⟨i, rfl, hi⟩, hb⟩; have HI := Lib.hid hi; have HB := Lib.hid hb; clear hi hb)
  go_ret
  exact ⟨ret_bool HI.out, HB.out⟩

end Go.Proofs.Ytejhffcjamdffaa
