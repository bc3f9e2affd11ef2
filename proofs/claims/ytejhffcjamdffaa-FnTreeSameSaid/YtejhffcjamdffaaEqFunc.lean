/-
  The contract of slices.EqualFunc at nodes of the package with (*Regexp).Equal, out of that of Equal at their depth; it only reads, and draws. No conditions beside those typed.
-/
import Derived.Test.YtejhffcjamdffaaEqQ
import Derived.Test.YtejhffcjamdffaaTree
import Derived.Test.YtejhffcjamdffaaSameTree
namespace Go.Proofs.Ytejhffcjamdffaa
open Go.RowKit

/-- What is asked of (*Regexp).Equal at depth d. -/
def EqIH (S : Nat → Prop) (d : Nat) : Prop := ∀ (a b : Nd) (ga gb : Nat) (w : World), Rg w S d a ga → Rg w S d b gb → OkF d a → OkF d b →
    Calls Try.prog 65 #[.pointer (some ⟨ga, 0, none⟩), .pointer (some ⟨gb, 0, none⟩)] w (Quiet (.bool (eqF d a b)) w)

/-- The nodes of the package that the slice at so holds. -/
def RgsAt (w : World) (S : Nat → Prop) (d : Nat) (so : Option Addr) (ss : List Nd) : Prop :=
  ss = [] ∨ ∃ b off, so = some ⟨b, off, none⟩ ∧ S b ∧ ∀ k s, ss[k]? = some s → ∃ g', w.cell? ⟨b, off + k, none⟩ = some (.pointer (some ⟨g', 0, none⟩)) ∧ Rg w S d s g'

theorem RgsAt.get {w : World} {S : Nat → Prop} {d : Nat} {so : Option Addr} {ss : List Nd} (h : RgsAt w S d so ss) {k : Nat} {s : Nd} (hk : ss[k]? = some s) : ∃ b off, so = some ⟨b, off, none⟩ ∧ ∃ g', w.cell? ⟨b, off + k, none⟩ = some (.pointer (some ⟨g', 0, none⟩)) ∧ Rg w S d s g' := by
  rcases h with h0 | ⟨b, off, e, hb, hs⟩
  · rw [h0] at hk; simp at hk
  · exact ⟨b, off, e, hs k s hk⟩

theorem keeps_drewN (S : Nat → Prop) (w : World) (m : Nat) : Keeps S w (w.drewN m) := fun b _ => by
  induction m with
  | zero => rfl
  | succ m ih => exact ih

theorem quiet_more {v : Value} {w : World} {m : Nat} {e : Ending} {w' : World} (h : Quiet v (w.drewN m) e w') : Quiet v w e w' := by
  obtain ⟨he, n, hn⟩ := h
  exact ⟨he, m + n, by rw [hn, World.drewN_drewN]⟩

set_option maxRecDepth 100000 in
set_option maxHeartbeats 4000000 in
theorem equalrg_any (S : Nat → Prop) (d : Nat) (IH : Hid (EqIH S d)) (s1 s2 : Option Addr) (k1 k2 : Nat) (l1 l2 : List Nd) (w : World) (h1 : RgsAt w S d s1 l1) (h2 : RgsAt w S d s2 l2) (ok1 : ∀ x, x ∈ l1 → OkF d x) (ok2 : ∀ x, x ∈ l2 → OkF d x) (hn1 : l1.length * 104 ≤ 140737488351232) :
    Calls Try.prog 81 #[.slice s1 l1.length k1, .slice s2 l2.length k2, .func (.func 65) #[] #[]] w (Quiet (.bool (allP (eqF d) l1 l2)) w) := by
  have HX1 := Lib.hid h1
  have HX2 := Lib.hid h2
  have HOk1 := Lib.hid ok1
  have HOk2 := Lib.hid ok2
  clear h1 h2 ok1 ok2
  by_cases hlen : l1.length = l2.length
  · rw [← hlen]
    generalize hN : l1.length = n at *
    have HN := Lib.hid hN
    have HM : Hid (l2.length = n) := hlen.symm
    clear hN hlen
    go_enter Try.func81, Try.ntmps81
    go_wp2
    go_loopw [17] (fun i wr => ∃ k : Nat, k ≤ n ∧ i = .int .i64 k ∧ (∃ m, w.drewN m = wr) ∧ (∀ j x y, j < k → l1[j]? = some x → l2[j]? = some y → eqF d x y = true)) (fun i _ => n - (intOf i).toNat)
    case atStart => exact ⟨0, Nat.zero_le _, rfl, ⟨0, rfl⟩, fun j x y h => absurd h (by omega)⟩
    case round =>
      obtain ⟨k, hk, rfl, ⟨m, rfl⟩, hall⟩ := hrel
      have HAll := Lib.hid hall
      clear hall
      by_cases hkn : k < n
      · obtain ⟨x, hx⟩ := get_of_lt HN.out hkn
        obtain ⟨y, hy⟩ := get_of_lt HM.out hkn
        obtain ⟨b1, o1, rfl, g1, c1, hr1⟩ := HX1.out.get hx
        obtain ⟨b2, o2, rfl, g2, c2, hr2⟩ := HX2.out.get hy
        have HCall : Hid (∀ m, Calls Try.prog 65 #[.pointer (some ⟨g1, 0, none⟩), .pointer (some ⟨g2, 0, none⟩)] (w.drewN m) (Quiet (.bool (eqF d x y)) (w.drewN m))) := fun m =>
          IH.out x y g1 g2 _ (Rg.keeps (keeps_drewN S w m) _ _ _ hr1) (Rg.keeps (keeps_drewN S w m) _ _ _ hr2) (HOk1.out x (List.mem_of_getElem? hx)) (HOk2.out y (List.mem_of_getElem? hy))
        have Hx := Lib.hid hx
        have Hy := Lib.hid hy
        clear hx hy hr1 hr2
        have hz : eqF d x y = true ∨ eqF d x y = false := by cases eqF d x y <;> simp
        rcases hz with hz | hz
        · rw [hz] at HCall
          have HNx : Hid (∀ j x' y', j < k + 1 → l1[j]? = some x' → l2[j]? = some y' → eqF d x' y' = true) := fun j x' y' hj h1 h2 => by
            by_cases hjk : j < k
            · exact HAll.out j x' y' hjk h1 h2
            · have e : j = k := by omega
              subst e
              rw [Hx.out] at h1
              rw [Hy.out] at h2
              injection h1 with h1
              injection h2 with h2
              subst h1 h2
              exact hz
          clear hz
          go_wp2_with (go_at_call 65; refine (HCall.out _).mono ?_; rintro e w1 ⟨rfl, m1, rfl⟩)
          go_roundw
          case rel => exact ⟨k + 1, by omega, by go_num, ⟨m + m1, rfl⟩, HNx.out⟩
          case measure => simp [intOf]; omega
        · rw [hz] at HCall
          have HE : Hid (allP (eqF d) l1 l2 = false) := allP_get l1 l2 k x y Hx.out Hy.out hz
          clear hz
          go_wp2_with (go_at_call 65; refine (HCall.out _).mono ?_; rintro e w1 ⟨rfl, m1, rfl⟩)
          go_ret
          exact ⟨ret_bool HE.out.symm, m + m1, rfl⟩
      · have hkn' : k = n := by omega
        subst hkn'
        have HE : Hid (allP (eqF d) l1 l2 = true) := allP_take l1 l2 (by rw [HN.out, HM.out]) (fun j x y h1 h2 => HAll.out j x y (by have := (List.getElem?_eq_some_iff.1 h1).1; rw [HN.out] at this; exact this) h1 h2)
        go_wp2
        go_ret
        exact ⟨ret_bool HE.out.symm, m, rfl⟩
  · have HE : Hid (allP (eqF d) l1 l2 = false) := allP_length l1 l2 hlen
    have hlb : ((l1.length : Int) != (l2.length : Int)) = true := by simp; omega
    generalize l1.length = n1 at *
    generalize l2.length = n2 at *
    go_enter Try.func81, Try.ntmps81
    go_wp2
    go_ret
    exact ⟨ret_bool HE.out.symm, 0, rfl⟩
end Go.Proofs.Ytejhffcjamdffaa
