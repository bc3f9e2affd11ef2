/-
  The contract of the specification's Folding. No conditions beside those typed.
-/
import Derived.Test.YtejhffcjamdffaaGroups
import Derived.Test.YtejhffcjamdffaaRunes
namespace Go.Proofs.Ytejhffcjamdffaa
open Go.RowKit

def foldF : Nat → Nd → Bool
  | 0, _ => false
  | d + 1, nd => nd.fold || nd.subs.any (foldF d)

def FoldIH (S : Nat → Prop) (d : Nat) : Prop := ∀ (nd : Nd) (cs : List Value) (w : World), Rep w S d nd cs → (∀ b, S b → b < w.heap.size) →
    Calls Try.prog 34 #[.agg cs.toArray] w fun e w' => e = .returned (.bool (foldF d nd)) ∧ Below w.heap.size w w'

/-- A slice of nodes. -/
def NdsAt (w : World) (S : Nat → Prop) (d : Nat) (so : Option Addr) (ss : List Nd) : Prop := ss = [] ∨ ∃ b off, so = some ⟨b, off, none⟩ ∧ S b ∧ ∀ k s, ss[k]? = some s → ∃ cs', Cells w b (off + k * 9) cs' ∧ Rep w S d s cs'

theorem any_take_nd (p : Nd → Bool) (zs : List Nd) (k : Nat) (z : Nd) (h : zs[k]? = some z) (h0 : (zs.take k).any p = false) (hz : p z = false) : (zs.take (k + 1)).any p = false := by
  rw [List.take_add_one, h]; simp [h0, hz]

set_option maxRecDepth 100000 in
set_option maxHeartbeats 4000000 in
theorem index_fold (S : Nat → Prop) (d : Nat) (IH : Hid (FoldIH S d)) (so : Option Addr) (sc : Nat) (ss : List Nd) (w : World) (h : NdsAt w S d so ss) (hS : ∀ b, S b → b < w.heap.size) (hl : ss.length * 104 ≤ 140737488351232) :
    Calls Try.prog 82 #[.slice so ss.length sc, .func (.func 34) #[] #[]] w fun e w' => (∃ i : Int, e = .returned (.int .i64 i) ∧ decide (0 ≤ i) = ss.any (foldF d)) ∧ Below w.heap.size w w' := by
  have HZ := Lib.hid h
  have HS := Lib.hid hS
  clear h hS
  generalize hN : ss.length = n at *
  have HN := Lib.hid hN
  clear hN
  go_enter Try.func82, Try.ntmps82
  go_wp2
  go_loopw [8] (fun i wr => ∃ k : Nat, k ≤ n ∧ i = .int .i64 k ∧ Hid ((ss.take k).any (foldF d) = false) ∧ Below w.heap.size w wr) (fun i _ => n - (intOf i).toNat)
  case atStart => exact ⟨0, Nat.zero_le _, rfl, rfl, Below.refl _ _⟩
  case round =>
    obtain ⟨k, hk, rfl, HA, hbel⟩ := hrel
    have HBel := Lib.hid hbel
    have hkeep : Keeps S w wr := Keeps.of_below hbel HS.out
    clear hbel
    by_cases hkn : k < n
    · obtain ⟨s, hks⟩ := get_of_lt HN.out hkn
      rcases HZ.out with h0 | ⟨b, off, rfl, hb, hsub⟩
      · rw [h0] at hks; simp at hks
      · obtain ⟨cs', hcells, hrep⟩ := hsub k s hks
        obtain ⟨ro', rc', so', sc', rfl, c0, c1, c2, c3, c4, c5, c6, c7, c8⟩ := (Rep.keeps hkeep _ _ _ hrep).cells (hcells.keeps hkeep hb)
        have HCall := Lib.hid (IH.out s _ wr (Rep.keeps hkeep _ _ _ hrep) (lt_below HS.out HBel.out.size))
        have HK := Lib.hid hks
        clear hsub hcells hrep hkeep hks
        have hz : foldF d s = true ∨ foldF d s = false := by cases foldF d s <;> simp
        rcases hz with hz | hz
        · rw [hz] at HCall
          have HAny : Hid (ss.any (foldF d) = true) := List.any_eq_true.2 ⟨s, List.mem_of_getElem? HK.out, hz⟩
          go_wp2_with (go_at_call 34; refine HCall.out.mono ?_; rintro e w1 ⟨rfl, hb1⟩)
          go_ret
          exact ⟨⟨_, rfl, by rw [HAny.out]; simp⟩, HBel.out.trans (hb1.mono HBel.out.size)⟩
        · rw [hz] at HCall
          have HNx := Lib.hid (any_take_nd (foldF d) ss k s HK.out HA.out hz)
          go_wp2_with (go_at_call 34; refine HCall.out.mono ?_; rintro e w1 ⟨rfl, hb1⟩)
          have hbel2 := HBel.out.trans (hb1.mono HBel.out.size)
          go_roundw
          case rel => exact ⟨k + 1, by omega, by go_num, HNx, hbel2⟩
          case measure => simp [intOf]; omega
    · have hkn' : k = n := by omega
      subst hkn'
      have HE : Hid (ss.any (foldF d) = false) := by
        have h := HA.out
        rwa [List.take_of_length_le (by rw [HN.out]; exact Nat.le_refl _)] at h
      clear hkeep
      go_wp2
      go_ret
      exact ⟨⟨_, rfl, by rw [HE.out]; rfl⟩, HBel.out⟩

set_option maxHeartbeats 4000000 in
theorem contains_fold (S : Nat → Prop) (d : Nat) (IH : Hid (FoldIH S d)) (so : Option Addr) (sc : Nat) (ss : List Nd) (w : World) (h : NdsAt w S d so ss) (hS : ∀ b, S b → b < w.heap.size) (hl : ss.length * 104 ≤ 140737488351232) :
    Calls Try.prog 66 #[.slice so ss.length sc, .func (.func 34) #[] #[]] w fun e w' => e = .returned (.bool (ss.any (foldF d))) ∧ Below w.heap.size w w' := by
  have HC := Lib.hid (index_fold S d IH so sc ss w h hS hl)
  clear h
  generalize ss.any (foldF d) = r at *
  generalize ss.length = n at *
  go_enter Try.func66, Try.ntmps66
  go_wp2_with (go_at_call 82; refine HC.out.mono ?_; rintro e w1 ⟨⟨i, rfl, hi⟩, hb1⟩)
  go_ret
  exact ⟨rfl, hb1⟩

set_option maxRecDepth 100000 in
set_option maxHeartbeats 4000000 in
theorem folding_any (S : Nat → Prop) (d : Nat) : FoldIH S d := by
  induction d with
  | zero => intro nd cs w h; cases h
  | succ d ih =>
    intro nd cs w h hS
    obtain ⟨ro, rc, so, sc, rfl, hfit, hr, hrb, hs⟩ := h.open
    have hsn := hfit.1
    have IH := Lib.hid ih
    have HS := Lib.hid hS
    have HZ : Hid (NdsAt w S d so nd.subs) := hs
    clear ih h hr hrb hs hfit hS
    rw [foldF]
    have hf : nd.fold = true ∨ nd.fold = false := by cases nd.fold <;> simp
    rcases hf with hf | hf
    · rw [hf]
      generalize nd.subs.length = n at *
      go_enter Try.func34, Try.ntmps34
      go_wp2
      go_ret
      exact ⟨rfl, below1 w _⟩
    · rw [hf]
      have HCall : Hid (∀ o : Obj, Calls Try.prog 66 #[.slice so nd.subs.length sc, .func (.func 34) #[] #[]] (w.alloc o) fun e w' => e = .returned (.bool (nd.subs.any (foldF d))) ∧ Below (w.alloc o).heap.size (w.alloc o) w') := fun o => by
        have hk : Keeps S w (w.alloc o) := Keeps.of_below (below1 w o) HS.out
        refine contains_fold S d IH so sc nd.subs _ ?_ (lt_below HS.out (by simp)) hsn
        rcases HZ.out with h0 | ⟨b, off, e, hb, hsub⟩
        · exact .inl h0
        · exact .inr ⟨b, off, e, hb, fun k s hks => by
            obtain ⟨cs', h1, h2⟩ := hsub k s hks
            exact ⟨cs', h1.keeps hk hb, Rep.keeps hk _ _ _ h2⟩⟩
      generalize nd.subs.any (foldF d) = r at *
      generalize nd.subs.length = n at *
      go_enter Try.func34, Try.ntmps34
      go_wp2_with (go_at_call 66; refine (HCall.out _).mono ?_; rintro e w1 ⟨rfl, hb1⟩)
      go_ret
      exact ⟨ret_bool (by simp), (below1 w _).trans (hb1.mono (by simp))⟩
end Go.Proofs.Ytejhffcjamdffaa
