/-
  The contract of the specification's SameTree. No conditions beside those typed.
-/
import Derived.Test.YtejhffcjamdffaaSameTree
import Derived.Test.YtejhffcjamdffaaGroupsLaw
namespace Go.Proofs.Ytejhffcjamdffaa
open Go.RowKit

theorem loop_list (b : ByteArray) : ∀ (n i : Nat) (r : List UInt8), b.size - i = n → ByteArray.toList.loop b i r = r.reverse ++ b.data.toList.drop i := by
  intro n
  induction n with
  | zero =>
    intro i r h
    rw [ByteArray.toList.loop, if_neg (by omega), List.drop_of_length_le (by show b.data.toList.length ≤ i; have : b.data.toList.length = b.size := rfl; omega), List.append_nil]
  | succ n ih =>
    intro i r h
    have hi : i < b.data.toList.length := by have : b.data.toList.length = b.size := rfl; omega
    rw [ByteArray.toList.loop, if_pos (by omega), ih _ _ (by omega), List.reverse_cons, List.append_assoc, List.drop_eq_getElem_cons hi]
    congr 2
    have hi' : i < b.data.size := hi
    simp [ByteArray.get!]
    exact getElem!_pos b.data i hi'
theorem toList_inj {a b : ByteArray} (h : a.toList = b.toList) : a = b := by
  rw [ByteArray.toList, ByteArray.toList, loop_list a _ 0 [] rfl, loop_list b _ 0 [] rfl] at h
  have h2 : a.data = b.data := Array.toList_inj.1 (by simpa using h)
  cases a; cases b; exact congrArg _ h2

theorem name_dec (a b : ByteArray) : decide (a = b) = decide (a.toList = b.toList) := decide_eq_decide.2 ⟨fun h => by rw [h], toList_inj⟩

set_option maxRecDepth 100000 in
set_option maxHeartbeats 4000000 in
theorem same_any (S : Nat → Prop) (d : Nat) : SameIH S d := by
  induction d with
  | zero => intro a b ca cb w h; cases h
  | succ d ih =>
    intro a b ca cb w h1 h2 hS
    obtain ⟨ro, rc, so, sc, rfl, hfit, hr, hrb, hs⟩ := h1.open
    obtain ⟨qo, qc, tt, tc, rfl, gfit, gr, grb, gs⟩ := h2.open
    have hn1 := hfit.1
    have hn2 := gfit.1
    have hl1 := hfit.2.1
    have hl2 := gfit.2.1
    have HS := Lib.hid hS
    have HRun : Hid (∀ o o' : Obj, Calls Try.prog 67 #[.slice ro a.runes.length rc, .slice qo b.runes.length qc] ((w.alloc o).alloc o') fun e w' => e = .returned (.bool (decide (a.runes = b.runes))) ∧ Below ((w.alloc o).alloc o').heap.size ((w.alloc o).alloc o') w') := fun o o' =>
      equal_runes _ _ a.runes b.runes _ (RowN.keeps hr (Keeps.of_below (below2 w o o') hS) hrb) (RowN.keeps gr (Keeps.of_below (below2 w o o') hS) grb) (by omega) (by omega)
    have HSub : Hid (∀ w' : World, Below w.heap.size w w' → Calls Try.prog 68 #[.slice so a.subs.length sc, .slice tt b.subs.length tc, .func (.func 35) #[] #[]] w' fun e w'' => e = .returned (.bool (allP (sameF d) a.subs b.subs)) ∧ Below w'.heap.size w' w'') := fun w' hb =>
      equalfunc_any S d (Lib.hid ih) so tt sc tc a.subs b.subs w' (NdsAt.keeps (show NdsAt w S d so a.subs from hs) (Keeps.of_below hb hS)) (NdsAt.keeps (show NdsAt w S d tt b.subs from gs) (Keeps.of_below hb hS)) (lt_below hS hb.size) hn1
    clear ih h1 h2 hr hrb hs hfit gr grb gs gfit hS
    rw [sameF, name_dec]
    generalize allP (sameF d) a.subs b.subs = rs at *
    generalize hrr : decide (a.runes = b.runes) = rr at *
    go_enter Try.func35, Try.ntmps35
    go_wp2_with (first
      | (go_at_call 67
         refine (HRun.out _ _).mono ?_
         rintro e w1 ⟨rfl, hb1⟩
         have k8 := hb1.cell (p := ⟨w.heap.size, 8, none⟩) (by simp; omega)
         have m8 := hb1.cell (p := ⟨w.heap.size + 1, 8, none⟩) (by simp)
         simp at k8 m8
         have HB1 := Lib.hid ((below2 w _ _).trans (hb1.mono (by simp; omega)))
         clear hb1)
      | (go_at_call 68
         refine (HSub.out _ HB1.out).mono ?_
         rintro e w2 ⟨rfl, hb2⟩))
    · go_ret
      exact ⟨ret_bool (by simp_all), HB1.out.trans (hb2.mono HB1.out.size)⟩
    · go_ret
      exact ⟨ret_bool (by simp_all), HB1.out⟩
    all_goals
      go_ret
      exact ⟨ret_bool (by simp_all), below2 w _ _⟩
end Go.Proofs.Ytejhffcjamdffaa
