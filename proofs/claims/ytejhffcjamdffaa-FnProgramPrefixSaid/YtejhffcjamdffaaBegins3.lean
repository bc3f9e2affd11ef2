/-
  The contract of the laws' begins, any text, any prefix; runes of a string, in memory. No conditions beside those typed.
-/
import Derived.Test.YtejhffcjamdffaaBegins
import Derived.Test.YtejhffcjamdffaaDecode
namespace Go.Proofs.Ytejhffcjamdffaa
open Go.RowKit

theorem places_of {w : World} {B n ec : Nat} {eo : Option Addr} {es : List Nat} (h : w.ownsRow B 3 1 (.slice eo n ec) n (es.map fun x : Nat => Value.int .i64 (x : Int))) (hpos : 0 < n) : ∃ eb, eo = some ⟨eb, 0, none⟩ ∧ PlacesAt w eb es ∧ n ≤ 9223372036854775807 := by
  have h0 := h
  rcases h.2 with ⟨_, h1⟩ | ⟨g, cap, cur, hv, _, _, h2, h3, _⟩
  · omega
  · injection hv with e1 e2 e3
    refine ⟨g, e1, fun k x hk => ?_, by unfold maxLen at h3; omega⟩
    have h4 := World.ownsRow.cells h0 (g := g) (by rw [e1]; rfl) k (.int .i64 (x : Int)) (by rw [List.getElem?_map, hk]; rfl)
    rw [show ((⟨g, 0, none⟩ : Addr).add k) = ⟨g, k, none⟩ from by unfold Addr.add; split <;> simp_all] at h4
    exact h4

theorem begins_any (po to' eo : Option Addr) (pc tc ec p B m L n : Nat) (wh : Bool) (ts us : List Int) (es : List Nat) (w : World) (hm : us.length = m) (hL : ts.length = L) (hn : es.length = n) (hps : Runes w (.slice po m pc) us) (hts : Runes w (.slice to' L tc) ts) (hev : w.ownsRow B 3 1 (.slice eo n ec) n (es.map fun x : Nat => Value.int .i64 (x : Int))) (hp : p ≤ L) (hs : L ≤ 1000)
    (hall : ∀ x, x ∈ es → p + m ≤ x ∧ x ≤ L ∧ (∀ j z, us[j]? = some z → ts[p + j]? = some z) ∧ (wh = true → x = p + m)) :
    Calls Try.prog 40 #[.slice po m pc, .bool wh, .slice to' L tc, .int .i64 p, .slice eo n ec] w (Quiet (.bool true) w) := by
  by_cases h0 : n = 0
  · subst h0
    exact begins_nil po to' eo m pc L tc p ec wh w
  · obtain ⟨eb, rfl, hpl, hn2⟩ := places_of hev (by omega)
    obtain ⟨x0, hx0⟩ : ∃ x, x ∈ es := by
      cases es with
      | nil => exact absurd hn.symm h0
      | cons x es => exact ⟨x, by simp⟩
    have h1 := hall x0 hx0
    subst hL
    rcases hts.2 with ⟨hv, hz⟩ | ⟨a, cap, hv, hle, hcm, _⟩
    · injection hv with e1 e2 e3
      subst e1
      subst e3
      have hp0 : p = 0 := by omega
      have hm0 : m = 0 := by omega
      have hu : us = [] := List.length_eq_zero_iff.1 (by omega)
      subst hp0
      subst hm0
      subst hu
      rw [hz]
      exact begins_none pc eb ec n po wh es w hn hps hpl hn2 (fun x hx => by have := hall x hx; omega)
    · injection hv with e1 e2 e3
      subst e1
      subst e3
      by_cases hpc : p < tc
      · exact begins_in a tc p pc eb ec m n po wh ts us es w hm hn hps hts hpl hpc hle hs hn2 (fun x hx => by
          have h2 := hall x hx
          exact ⟨x - p, by omega, by omega, by omega, fun hw => by have := h2.2.2.2 hw; omega, h2.2.2.1⟩)
      · have hm0 : m = 0 := by omega
        have hu : us = [] := List.length_eq_zero_iff.1 (by omega)
        have hpe : p = tc := by omega
        have hLe : ts.length = tc := by omega
        subst hm0
        subst hu
        rw [hLe]
        subst hpe
        exact begins_end a p pc eb ec n po wh es w hn hps hpl (by omega) hn2 (fun x hx => by have := hall x hx; omega)

/-- The runes of a string, as numbers. -/
theorem runes_some (s : ByteArray) : ∀ (bound i : Nat) (acc : Array Value), ∃ us : List Int, Conv.runesFrom s bound i acc = acc ++ (us.map (Value.int .i32)).toArray ∧ us.length ≤ bound := by
  intro bound
  induction bound with
  | zero => intro i acc; exact ⟨[], by simp [Conv.runesFrom], Nat.le_refl _⟩
  | succ b ih =>
    intro i acc
    unfold Conv.runesFrom
    by_cases h : i < s.size
    · rw [if_pos h]
      obtain ⟨us, h1, h2⟩ := ih (i + (Utf8.decode s i).2) (acc.push (.int .i32 (Int.ofNat (Utf8.decode s i).1)))
      exact ⟨Int.ofNat (Utf8.decode s i).1 :: us, by
        show Conv.runesFrom s b (i + (Utf8.decode s i).2) (acc.push (.int .i32 (Int.ofNat (Utf8.decode s i).1))) = _
        rw [h1]; simp, by simp; omega⟩
    · rw [if_neg h]
      exact ⟨[], by simp, by simp⟩

/-- What '[]rune(s)' lays. -/
theorem runes_laid (w : World) (us : List Int) (cap : Nat) (hc : us.length ≤ cap) (hm : cap ≤ maxLen) : Runes (w.alloc (.cells ((us.map (Value.int .i32)).toArray ++ Array.replicate (cap - us.length) (.int .i32 0)) 21)) (.slice (some ⟨w.heap.size, 0, none⟩) us.length cap) us := by
  refine ⟨by simp, .inr ⟨⟨w.heap.size, 0, none⟩, cap, rfl, hc, hm, fun j u hj => ?_⟩⟩
  have hlt : j < (us.map (Value.int .i32)).length := (List.getElem?_eq_some_iff.1 hj).1
  rw [show ((⟨w.heap.size, 0, none⟩ : Addr).add j) = ⟨w.heap.size, j, none⟩ from by unfold Addr.add; split <;> simp_all]
  rw [cell_of_row _ _ _ _ _ _ (heap_alloc_new w _), Array.getElem?_append_left (by simpa using hlt), List.getElem?_toArray]
  exact hj
end Go.Proofs.Ytejhffcjamdffaa
