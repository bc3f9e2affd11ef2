/-
  The contracts of the small functions that laws on programs call: zzFits3, zzFits2, PairOf, takes, Here, place, ValidRune, lengthy. No conditions beside those typed.
-/
import Derived.Test.YtejhffcjamdffaaPlain
import Derived.Test.YtejhffcjamdffaaRunes
import Derived.Test.YtejhffcjamdffaaExtent
namespace Go.Proofs.Ytejhffcjamdffaa
open Go.RowKit

theorem fits3_any (o u a : Int) (ro : Option Addr) (n rc : Nat) (w : World) :
    Calls Try.prog 57 #[.agg #[.int .i64 o, .int .i64 u, .int .i64 a, .slice ro n rc]] w (OneBool w.heap.size w) := by
  go_enter Try.func57, Try.ntmps57
  go_wp2
  all_goals
    go_ret
    exact ⟨⟨_, rfl⟩, below1 w _⟩

set_option maxRecDepth 100000 in
set_option maxHeartbeats 4000000 in
theorem fits2_any (is : List I) (v : Value) (w : World) (h : Insts w w.heap.size v is) (hl : is.length * 48 ≤ 140737488351232) :
    Calls Try.prog 24 #[v] w (OneBool w.heap.size w) := by
  obtain ⟨ao, cap, rfl, hx⟩ := h
  have HX := Lib.hid hx
  clear hx
  generalize hN : is.length = n at *
  have HN := Lib.hid hN
  clear hN
  by_cases hbig : 2147483647 < n
  · go_enter Try.func24, Try.ntmps24
    go_wp2
    go_ret
    exact ⟨⟨_, rfl⟩, Below.refl _ _⟩
  go_enter Try.func24, Try.ntmps24
  go_wp2
  go_loopw [10] (fun i wr => ∃ k : Nat, k ≤ n ∧ i = .int .i64 k ∧ Below w.heap.size w wr) (fun i _ => n - (intOf i).toNat)
  case atStart => exact ⟨0, Nat.zero_le _, rfl, Below.refl _ _⟩
  case round =>
    obtain ⟨k, hk, rfl, hbel⟩ := hrel
    by_cases hkn : k < n
    · have hne : is ≠ [] := by rintro rfl; have := HN.out; simp at this; omega
      obtain ⟨b, off, rfl, hlt, hc⟩ := HX.out hne
      obtain ⟨i, hik⟩ : ∃ i, is[k]? = some i := ⟨is[k]'(by rw [HN.out]; exact hkn), List.getElem?_eq_getElem _⟩
      obtain ⟨rv, c0, c1, c2, c3, hrunes, hbd⟩ := (hc k i hik).below hbel hlt
      obtain ⟨ro, rc, rfl⟩ := rowN_slice hrunes
      have HB := Lib.hid hbel
      clear hc hik hrunes hbd hne hbel
      go_wp2_with (go_at_call 57; refine (fits3_any _ _ _ _ _ _ _).mono ?_; rintro e w1 ⟨⟨b1, rfl⟩, hb1⟩)
      all_goals
        have hB2 := HB.out.trans (((below1 wr _).trans (hb1.mono (by simp))).mono HB.out.size)
      · go_ret
        exact ⟨⟨_, rfl⟩, hB2⟩
      · go_roundw
        case rel => exact ⟨k + 1, by omega, by go_num, hB2⟩
        case measure => simp [intOf]; omega
    · go_wp2
      go_ret
      exact ⟨⟨_, rfl⟩, hbel⟩

def SomeInt (w : World) (e : Ending) (w' : World) : Prop := (∃ i : Int, e = .returned (.int .i64 i)) ∧ w = w'

set_option maxRecDepth 100000 in
set_option maxHeartbeats 4000000 in
theorem pairof_any (v : Value) (zs : List Int) (r : Int) (w : World) (h : Runes w v zs) (hl : zs.length ≤ 1000000) :
    Calls Try.prog 90 #[v, .int .i32 r] w (SomeInt w) := by
  obtain ⟨ao, cap, rfl, hz⟩ := h.open
  have HZ := Lib.hid hz
  clear h hz
  generalize hN : zs.length = n at *
  have HN := Lib.hid hN
  clear hN
  go_enter Try.func90, Try.ntmps90
  go_wp2
  go_loop [5] (fun i => ∃ k : Nat, k ≤ n + 1 ∧ i = .int .i64 k) (fun i => n + 2 - (intOf i).toNat)
  case atStart => exact ⟨0, Nat.zero_le _, rfl⟩
  case round =>
    obtain ⟨k, hk, rfl⟩ := hrel
    by_cases hkn : k + 1 < n
    · obtain ⟨z0, hk0⟩ : ∃ z, zs[k]? = some z := ⟨zs[k]'(by rw [HN.out]; omega), List.getElem?_eq_getElem _⟩
      obtain ⟨z1, hk1⟩ : ∃ z, zs[k + 1]? = some z := ⟨zs[k + 1]'(by rw [HN.out]; omega), List.getElem?_eq_getElem _⟩
      rcases HZ.out with h0 | ⟨b, off, rfl, hc⟩
      · rw [h0] at hk0; simp at hk0
      · have c0 := hc k z0 hk0
        have c1 := hc (k + 1) z1 hk1
        clear hc hk0 hk1
        go_wp2
        all_goals first
          | (go_ret
             exact ⟨⟨_, rfl⟩, rfl⟩)
          | (go_round
             case rel => exact ⟨k + 2, by omega, by go_num⟩
             case measure => simp [intOf]; omega)
    · go_wp2
      go_ret
      exact ⟨⟨_, rfl⟩, rfl⟩

/-- Whether an instruction takes a rune: of one that takes one rune alone, that it is this. -/
def TakesPost (i : I) (r : Int) (w : World) (e : Ending) (w' : World) : Prop := (∃ b : Bool, e = .returned (.bool b) ∧ (b = true → i.op = 8 → i.runes = [r])) ∧ Below w.heap.size w w'

set_option maxRecDepth 100000 in
set_option maxHeartbeats 4000000 in
theorem takes_any (i : I) (n : Nat) (r : Int) (rv : Value) (w : World) (hi : InstP n i) (h7 : 7 ≤ i.op) (hr : Runes w rv i.runes) (hb : Wd w.heap.size rv) :
    Calls Try.prog 79 #[.agg #[.int .i64 i.op, .int .i64 i.out, .int .i64 i.arg, rv], .int .i32 r] w (TakesPost i r w) := by
  have hf := hi.few
  have hops := hi.ops
  obtain ⟨ro, rc, rfl⟩ := rowN_slice hr
  have HR := Lib.hid hr
  have HBd := Lib.hid hb
  have HI := Lib.hid hi
  clear hr hb hi
  have hc : i.op = 7 ∨ i.op = 8 ∨ i.op = 9 ∨ i.op = 10 := by omega
  rcases hc with h | h | h | h
  · have HO : Hid (i.op = 7) := h
    rw [h]
    clear h hops h7
    go_enter Try.func79, Try.ntmps79
    go_wp2_with (go_at_call 90; refine (pairof_any _ i.runes r _ (RowN.belowW HR.out (below1 w _) HBd.out) (by omega)).mono ?_; rintro e w1 ⟨⟨x, rfl⟩, rfl⟩)
    go_ret
    exact ⟨⟨_, rfl, fun _ h8 => by have := HO.out; omega⟩, below1 w _⟩
  · obtain ⟨z, hz, _⟩ := HI.out.runes8 h
    have HZ := Lib.hid hz
    rw [h]
    have hrun := HR.out
    rw [hz] at hrun ⊢
    obtain ⟨ao, cap, hv, hcc⟩ := hrun.open
    injection hv with e1 e2 e3
    subst e1 e3
    rcases hcc with h0 | ⟨b, off, rfl, hcell⟩
    · cases h0
    have c0 := hcell 0 z rfl
    have hlt : b < w.heap.size := HBd.out.lt (by rw [HZ.out]; simp)
    simp only [Nat.add_zero] at c0
    clear hcell hrun HR HBd h hops h7 hz hf e2
    simp only [List.length_singleton]
    by_cases hzr : z = r
    · subst hzr
      go_enter Try.func79, Try.ntmps79
      go_wp2
      go_ret
      exact ⟨⟨_, rfl, fun _ _ => HZ.out⟩, below1 w _⟩
    · have hb : (z == r) = false := by simpa using hzr
      go_enter Try.func79, Try.ntmps79
      go_wp2
      go_ret
      exact ⟨⟨_, rfl, fun h => by cases h⟩, below1 w _⟩
  · have HO : Hid (i.op = 9) := h
    rw [h]
    clear h hops h7
    go_enter Try.func79, Try.ntmps79
    go_wp2
    go_ret
    exact ⟨⟨_, rfl, fun _ h8 => by have := HO.out; omega⟩, below1 w _⟩
  · have HO : Hid (i.op = 10) := h
    rw [h]
    clear h hops h7
    go_enter Try.func79, Try.ntmps79
    go_wp2
    go_ret
    exact ⟨⟨_, rfl, fun _ h8 => by have := HO.out; omega⟩, below1 w _⟩
end Go.Proofs.Ytejhffcjamdffaa
