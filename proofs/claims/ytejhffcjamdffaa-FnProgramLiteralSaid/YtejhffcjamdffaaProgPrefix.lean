/-
  The contract of the thin package's ProgramPrefix at a right program. No conditions beside those typed.
-/
import Derived.Test.YtejhffcjamdffaaPrefix
namespace Go.Proofs.Ytejhffcjamdffaa
open Go.RowKit

theorem prefix_any (is : List I) (s G F q g gr cap : Nat) (w : World) (ps : List Int) (wh : Bool) (h : PkAt w w.heap.size g gr cap (s : Int) is) (hs : skipN is G s = some q) (hp : prefN is G F q = some (ps, wh)) (hF : F ≤ 1000) :
    Calls Try.prog 70 #[.pointer (some ⟨g, 0, none⟩)] w (PrefPost ps wh w) := by
  have hq := (skip_lt is G s q hs).2
  obtain ⟨i, hik⟩ : ∃ i, is[q]? = some i := ⟨is[q]'hq, List.getElem?_eq_getElem _⟩
  by_cases h8 : i.op = 8
  · exact prefix_some is s G F q g gr cap w i ps wh h hs hik h8 hp hF
  · cases F with
    | zero => cases hp
    | succ F =>
      rw [prefN, hik] at hp
      dsimp only at hp
      rw [if_neg (fun h => h8 h.1)] at hp
      injection hp with hp
      injection hp with e1 e2
      subst e1
      subst e2
      exact prefix_none is s G q g gr cap w i h hs hik h8

set_option maxRecDepth 100000 in
set_option maxHeartbeats 4000000 in
theorem progprefix_any (is : List I) (s : Nat) (v : Value) (w : World) (ps : List Int) (wh : Bool) (q : Nat) (h : Insts w w.heap.size v is) (hP : ProgP is (s : Int)) (hq : skipN is (is.length + 1) s = some q) (hp : prefN is (is.length + 1) (is.length + 1) q = some (ps, wh)) :
    Calls Try.prog 39 #[v, .int .i64 s] w (PrefPost ps wh w) := by
  have h60 := hP.len
  have hne : is ≠ [] := by rintro rfl; have := hP.start; simp at this; omega
  have H50 : Hid (Calls Try.prog 50 #[v, .int .i64 (s : Int)] w fun e w' => e = .returned (.pointer (some ⟨w.heap.size, 0, none⟩)) ∧ ProgAt w' w.heap.size w.heap.size s is ∧ Below w.heap.size w w') :=
    prog_of is s v w h (by omega) (fun i hi => by have := (hP.inst i hi).few; omega)
  have H70 : Hid (∀ w', ProgAt w' w.heap.size w.heap.size s is → Calls Try.prog 70 #[.pointer (some ⟨w.heap.size, 0, none⟩)] w' (PrefPost ps wh w')) := fun w' ha => by
    obtain ⟨gr, cap, hpk⟩ := PkAt.of ha hP.inst h60 hne
    exact prefix_any is s _ _ q _ gr cap w' ps wh hpk hq hp (by omega)
  clear h hP hq hp
  go_enter Try.func39, Try.ntmps39
  go_wp2_with (first
    | (go_at_call 50
       refine H50.out.mono ?_
       rintro e w1 ⟨rfl, hpa, hb1⟩
       have HA := Lib.hid hpa
       have HB1 := Lib.hid hb1
       clear hpa hb1)
    | (go_at_call 70
       refine (H70.out _ HA.out).mono ?_
       rintro e w2 ⟨rfl, hb2⟩))
  go_ret2
  exact ⟨rfl, HB1.out.trans (hb2.mono HB1.out.size)⟩
end Go.Proofs.Ytejhffcjamdffaa
