/-
  The contract of the specification's SameTree, and of slices.EqualFunc at nodes with it. No conditions beside those typed.
-/
import Derived.Test.YtejhffcjamdffaaSame
import Derived.Test.YtejhffcjamdffaaEqRunes
import Derived.Test.YtejhffcjamdffaaFolding
import Derived.Test.YtejhffcjamdffaaTreeOk
namespace Go.Proofs.Ytejhffcjamdffaa
open Go.RowKit

def SameIH (S : Nat → Prop) (d : Nat) : Prop := ∀ (a b : Nd) (ca cb : List Value) (w : World), Rep w S d a ca → Rep w S d b cb → (∀ b, S b → b < w.heap.size) →
    Calls Try.prog 35 #[.agg ca.toArray, .agg cb.toArray] w fun e w' => e = .returned (.bool (sameF d a b)) ∧ Below w.heap.size w w'

theorem allP_length {α : Type} {p : α → α → Bool} : ∀ (xs ys : List α), xs.length ≠ ys.length → allP p xs ys = false := by
  intro xs
  induction xs with
  | nil => intro ys h; cases ys with | nil => exact absurd rfl h | cons y ys => rfl
  | cons x xs ih =>
    intro ys h
    cases ys with
    | nil => rfl
    | cons y ys => rw [allP, ih ys (fun e => h (by simp [e]))]; simp
theorem allP_get {α : Type} {p : α → α → Bool} : ∀ (xs ys : List α) (k : Nat) (x y : α), xs[k]? = some x → ys[k]? = some y → p x y = false → allP p xs ys = false := by
  intro xs
  induction xs with
  | nil => intro ys k x y h; simp at h
  | cons z xs ih =>
    intro ys k x y h1 h2 h3
    cases ys with
    | nil => rfl
    | cons u ys =>
      rw [allP]
      cases k with
      | zero => simp at h1 h2; subst h1 h2; rw [h3]; rfl
      | succ k => simp at h1 h2; rw [ih ys k x y h1 h2 h3]; simp
theorem allP_take {α : Type} {p : α → α → Bool} : ∀ (xs ys : List α), xs.length = ys.length → (∀ (k : Nat) (x y : α), xs[k]? = some x → ys[k]? = some y → p x y = true) → allP p xs ys = true := by
  intro xs
  induction xs with
  | nil => intro ys h _; cases ys with | nil => rfl | cons y ys => cases h
  | cons x xs ih =>
    intro ys h hp
    cases ys with
    | nil => cases h
    | cons y ys => rw [allP, hp 0 x y rfl rfl, ih ys (by simpa using h) (fun k a b ha hb => hp (k + 1) a b (by simpa using ha) (by simpa using hb))]; rfl

/-- A cell reading of the element k of a slice of nodes. -/
theorem NdsAt.get {w : World} {S : Nat → Prop} {d : Nat} {so : Option Addr} {ss : List Nd} (h : NdsAt w S d so ss) {k : Nat} {s : Nd} (hk : ss[k]? = some s) : ∃ b off, so = some ⟨b, off, none⟩ ∧ S b ∧ ∃ cs', Cells w b (off + k * 9) cs' ∧ Rep w S d s cs' := by
  rcases h with h0 | ⟨b, off, e, hb, hs⟩
  · rw [h0] at hk; simp at hk
  · exact ⟨b, off, e, hb, hs k s hk⟩
theorem NdsAt.keeps {w w' : World} {S : Nat → Prop} {d : Nat} {so : Option Addr} {ss : List Nd} (h : NdsAt w S d so ss) (hk : Keeps S w w') : NdsAt w' S d so ss := by
  rcases h with h0 | ⟨b, off, e, hb, hs⟩
  · exact .inl h0
  · exact .inr ⟨b, off, e, hb, fun k s hks => by
      obtain ⟨cs', h1, h2⟩ := hs k s hks
      exact ⟨cs', h1.keeps hk hb, Rep.keeps hk _ _ _ h2⟩⟩

set_option maxRecDepth 100000 in
set_option maxHeartbeats 4000000 in
theorem equalfunc_any (S : Nat → Prop) (d : Nat) (IH : Hid (SameIH S d)) (s1 s2 : Option Addr) (k1 k2 : Nat) (l1 l2 : List Nd) (w : World) (h1 : NdsAt w S d s1 l1) (h2 : NdsAt w S d s2 l2) (hS : ∀ b, S b → b < w.heap.size) (hn1 : l1.length * 104 ≤ 140737488351232) :
    Calls Try.prog 68 #[.slice s1 l1.length k1, .slice s2 l2.length k2, .func (.func 35) #[] #[]] w fun e w' => e = .returned (.bool (allP (sameF d) l1 l2)) ∧ Below w.heap.size w w' := by
  have HX1 := Lib.hid h1
  have HX2 := Lib.hid h2
  have HS := Lib.hid hS
  clear h1 h2 hS
  by_cases hlen : l1.length = l2.length
  · rw [← hlen]
    generalize hN : l1.length = n at *
    have HN := Lib.hid hN
    have HM : Hid (l2.length = n) := hlen.symm
    clear hN hlen
    go_enter Try.func68, Try.ntmps68
    go_wp2
    go_loopw [17] (fun i wr => ∃ k : Nat, k ≤ n ∧ i = .int .i64 k ∧ Below w.heap.size w wr ∧ (∀ j x y, j < k → l1[j]? = some x → l2[j]? = some y → sameF d x y = true)) (fun i _ => n - (intOf i).toNat)
    case atStart => exact ⟨0, Nat.zero_le _, rfl, Below.refl _ _, fun j x y h => absurd h (by omega)⟩
    case round =>
      obtain ⟨k, hk, rfl, hbel, hall⟩ := hrel
      have HAll := Lib.hid hall
      have HBel := Lib.hid hbel
      have hkeep : Keeps S w wr := Keeps.of_below hbel HS.out
      have HK := Lib.hid hkeep
      clear hall hbel hkeep
      by_cases hkn : k < n
      · obtain ⟨x, hx⟩ := get_of_lt HN.out hkn
        obtain ⟨y, hy⟩ := get_of_lt HM.out hkn
        obtain ⟨b1, o1, rfl, hb1, cx, hcx, hrx⟩ := (HX1.out.keeps HK.out).get hx
        obtain ⟨b2, o2, rfl, hb2, cy, hcy, hry⟩ := (HX2.out.keeps HK.out).get hy
        obtain ⟨ro1, rc1, so1, sc1, rfl, c0, c1, c2, c3, c4, c5, c6, c7, c8⟩ := hrx.cells hcx
        obtain ⟨ro2, rc2, so2, sc2, rfl, d0, d1, d2, d3, d4, d5, d6, d7, d8⟩ := hry.cells hcy
        have e0 : ∀ o : Obj, (wr.alloc o).cell? ⟨b2, o2 + k * 9, none⟩ = some (.int .i64 y.op) := fun o => World.cell?_alloc_of _ _ _ d0
        have e1 : ∀ o : Obj, (wr.alloc o).cell? ⟨b2, o2 + k * 9 + 1, none⟩ = some (.bool y.fold) := fun o => World.cell?_alloc_of _ _ _ d1
        have e2 : ∀ o : Obj, (wr.alloc o).cell? ⟨b2, o2 + k * 9 + 2, none⟩ = some (.bool y.lazy) := fun o => World.cell?_alloc_of _ _ _ d2
        have e3 : ∀ o : Obj, (wr.alloc o).cell? ⟨b2, o2 + k * 9 + 3, none⟩ = some (.int .i64 y.mn) := fun o => World.cell?_alloc_of _ _ _ d3
        have e4 : ∀ o : Obj, (wr.alloc o).cell? ⟨b2, o2 + k * 9 + 4, none⟩ = some (.int .i64 y.mx) := fun o => World.cell?_alloc_of _ _ _ d4
        have e5 : ∀ o : Obj, (wr.alloc o).cell? ⟨b2, o2 + k * 9 + 5, none⟩ = some (.int .i64 y.cap) := fun o => World.cell?_alloc_of _ _ _ d5
        have e6 : ∀ o : Obj, (wr.alloc o).cell? ⟨b2, o2 + k * 9 + 6, none⟩ = some (.string y.name) := fun o => World.cell?_alloc_of _ _ _ d6
        have e7 : ∀ o : Obj, (wr.alloc o).cell? ⟨b2, o2 + k * 9 + 7, none⟩ = some (.slice ro2 y.runes.length rc2) := fun o => World.cell?_alloc_of _ _ _ d7
        have e8 : ∀ o : Obj, (wr.alloc o).cell? ⟨b2, o2 + k * 9 + 8, none⟩ = some (.slice so2 y.subs.length sc2) := fun o => World.cell?_alloc_of _ _ _ d8
        have HCall : Hid (∀ o o' : Obj, _) := fun o o' => IH.out x y _ _ ((wr.alloc o).alloc o') (Rep.keeps (Keeps.of_below (below2 wr o o') (lt_below HS.out HBel.out.size)) _ _ _ hrx) (Rep.keeps (Keeps.of_below (below2 wr o o') (lt_below HS.out HBel.out.size)) _ _ _ hry) (lt_below HS.out (by have := HBel.out.size; simp; omega))
        have Hx := Lib.hid hx
        have Hy := Lib.hid hy
        clear hx hy hrx hry hcx hcy d0 d1 d2 d3 d4 d5 d6 d7 d8
        go_wp2_with (go_at_call 35; refine (HCall.out _ _).mono ?_; rintro e w1 ⟨rfl, hb1'⟩)
        all_goals
          have hbel2 := HBel.out.trans (((below2 wr _ _).trans (hb1'.mono (by simp; omega))).mono HBel.out.size)
        · have hne : sameF d x y = false := by simp_all
          go_ret
          exact ⟨ret_bool (allP_get l1 l2 k x y Hx.out Hy.out hne).symm, hbel2⟩
        · have heq : sameF d x y = true := by simp_all
          have HNx : Hid (∀ j x' y', j < k + 1 → l1[j]? = some x' → l2[j]? = some y' → sameF d x' y' = true) := fun j x' y' hj h1 h2 => by
            by_cases hjk : j < k
            · exact HAll.out j x' y' hjk h1 h2
            · have e : j = k := by omega
              subst e
              rw [Hx.out] at h1
              rw [Hy.out] at h2
              injection h1 with h1
              injection h2 with h2
              subst h1 h2
              exact heq
          go_roundw
          case rel => exact ⟨k + 1, by omega, by go_num, hbel2, HNx.out⟩
          case measure => simp [intOf]; omega
      · have hkn' : k = n := by omega
        subst hkn'
        have HE : Hid (allP (sameF d) l1 l2 = true) := allP_take l1 l2 (by rw [HN.out, HM.out]) (fun j x y h1 h2 => HAll.out j x y (by have := (List.getElem?_eq_some_iff.1 h1).1; rw [HN.out] at this; exact this) h1 h2)
        go_wp2
        go_ret
        exact ⟨ret_bool HE.out.symm, HBel.out⟩
  · have HE : Hid (allP (sameF d) l1 l2 = false) := allP_length l1 l2 hlen
    have hlb : ((l1.length : Int) != (l2.length : Int)) = true := by simp; omega
    generalize l1.length = n1 at *
    generalize l2.length = n2 at *
    go_enter Try.func68, Try.ntmps68
    go_wp2
    go_ret
    exact ⟨ret_bool HE.out.symm, Below.refl _ _⟩
end Go.Proofs.Ytejhffcjamdffaa
