/-
  Slices as rows of cells, by what can be read of them; and the contract of slices.Clone at runes: a new row of the same runes (nil where the slice is nil). Condition: at most a million runes.
-/
import Derived.Test.YtejhffcjamdffaaWord
import Derived.WalkSpells
import Derived.Lib.Hide
import Derived.Laws.OwnMore
namespace Go.Proofs.Ytejhffcjamdffaa
open Go.RowKit

/-- The slice value v, of n elements of 'size' cells each, reads as the cells xs. -/
def RowN (w : World) (size : Nat) (v : Value) (n : Nat) (xs : List Value) : Prop :=
  xs.length = n * size ∧ ((v = .slice none 0 0 ∧ n = 0) ∨ ∃ a cap, v = .slice (some a) n cap ∧ n ≤ cap ∧ cap ≤ maxLen ∧ ∀ j u, xs[j]? = some u → w.cell? (a.add j) = some u)

/-- The slice lies below block B. -/
def Bd (B : Nat) (v : Value) : Prop := ∀ k, v.ownBlock = some k → k < B

theorem Bd.mono {B B' : Nat} {v : Value} (h : Bd B v) (hB : B ≤ B') : Bd B' v := fun k hk => Nat.lt_of_lt_of_le (h k hk) hB

theorem add_block (a : Addr) (n : Nat) : (a.add n).block = a.block := by unfold Addr.add; split <;> rfl

theorem RowN.below {w w' : World} {B size n : Nat} {v : Value} {xs : List Value} (h : RowN w size v n xs) (hb : Below B w w') (hB : Bd B v) : RowN w' size v n xs := by
  refine ⟨h.1, ?_⟩
  rcases h.2 with h2 | ⟨a, cap, rfl, h3, h4, h5⟩
  · exact .inl h2
  · refine .inr ⟨a, cap, rfl, h3, h4, fun j u hu => ?_⟩
    rw [hb.cell (by rw [add_block]; exact hB _ rfl)]
    exact h5 j u hu

theorem below1 (w : World) (o : Obj) : Below w.heap.size w (w.alloc o) := (Below.refl _ _).alloc (Nat.le_refl _) _
theorem below2 (w : World) (o o' : Obj) : Below w.heap.size w ((w.alloc o).alloc o') := (below1 w o).alloc (by simp) _
theorem below3 (w : World) (o o' o'' : Obj) : Below w.heap.size w (((w.alloc o).alloc o').alloc o'') := (below2 w o o').alloc (by simp; omega) _

theorem RowN.of_owns {w : World} {base e size n : Nat} {v : Value} {xs : List Value} (h : w.ownsRow base e size v n xs) : RowN w size v n xs := by
  refine ⟨h.1, ?_⟩
  have hc := h
  rcases h.2 with h2 | ⟨g, cap, cur, rfl, hb, hg, hn, hm, hs, ht⟩
  · exact .inl h2
  · exact .inr ⟨_, cap, rfl, hn, hm, fun j u hu => hc.cells rfl j u hu⟩

theorem owns_slice {w : World} {base e size n : Nat} {v : Value} {xs : List Value} (h : w.ownsRow base e size v n xs) : ∃ ao cap, v = .slice ao n cap := by
  rcases h.2 with ⟨rfl, rfl⟩ | ⟨g, cap, cur, rfl, _⟩
  · exact ⟨_, _, rfl⟩
  · exact ⟨_, _, rfl⟩
theorem rowN_slice {w : World} {size n : Nat} {v : Value} {xs : List Value} (h : RowN w size v n xs) : ∃ ao cap, v = .slice ao n cap := by
  rcases h.2 with ⟨rfl, rfl⟩ | ⟨g, cap, rfl, _⟩
  · exact ⟨_, _, rfl⟩
  · exact ⟨_, _, rfl⟩

theorem owns_base {w : World} {base base' e size n : Nat} {v : Value} {xs : List Value} (h : w.ownsRow base e size v n xs) (hb : base' ≤ base) : w.ownsRow base' e size v n xs := by
  refine ⟨h.1, ?_⟩
  rcases h.2 with h2 | ⟨g, cap, cur, h3, h4, h5⟩
  · exact .inl h2
  · exact .inr ⟨g, cap, cur, h3, Nat.le_trans hb h4, h5⟩

/-- What a call owns stays so while other rows are written. -/
theorem owns_below {w w' : World} {B base e size n : Nat} {v : Value} {xs : List Value} (h : w.ownsRow base e size v n xs) (hb : Below B w w') (hB : Bd B v) : w'.ownsRow base e size v n xs := by
  refine ⟨h.1, ?_⟩
  rcases h.2 with h2 | ⟨g, cap, cur, rfl, h4, h5, h6⟩
  · exact .inl h2
  · exact .inr ⟨g, cap, cur, rfl, h4, by rw [hb.block g (hB g rfl)]; exact h5, h6⟩

theorem owns_setCell {w : World} {base e size n : Nat} {v : Value} {xs : List Value} (h : w.ownsRow base e size v n xs) {a : Addr} (ha : v.ownBlock ≠ some a.block) (u : Value) : (w.setCell a u).ownsRow base e size v n xs := by
  refine ⟨h.1, ?_⟩
  rcases h.2 with h2 | ⟨g, cap, cur, rfl, h4, h5, h6⟩
  · exact .inl h2
  · exact .inr ⟨g, cap, cur, rfl, h4, by rw [Below.heap_setCell _ _ _ _ (by simpa [Value.ownBlock] using ha)]; exact h5, h6⟩

theorem Bd.of_owns {w : World} {base e size n : Nat} {v : Value} {xs : List Value} (h : w.ownsRow base e size v n xs) : Bd w.heap.size v := fun k hk => (h.lt k hk).2

theorem World.cell?_alloc_of (w : World) (a : Addr) (o : Obj) {u : Value} (h : w.cell? a = some u) : (w.alloc o).cell? a = some u := by
  rw [World.cell?_alloc_lt _ _ _ (World.block_lt_of_cell? w a h)]
  exact h

/-- A slice of runes. -/
def Runes (w : World) (v : Value) (zs : List Int) : Prop := RowN w 1 v zs.length (zs.map (Value.int .i32))
/-- A slice of runes in a row of the call's own. -/
def OwnRunes (w : World) (base : Nat) (v : Value) (zs : List Int) : Prop := w.ownsRow base 21 1 v zs.length (zs.map (Value.int .i32))

theorem Try.info21 : (Try.prog.info? 21).map (fun i => (i.zero, i.size, i.bytes)) = some (some (.int .i32 0), 1, 4) := by kernel_rfl

set_option maxHeartbeats 1000000 in
theorem clone_runes (v : Value) (zs : List Int) (w : World) (h : Runes w v zs) (hl : zs.length ≤ 1000000) :
    Calls Try.prog 76 #[v] w fun e w' => ∃ v', e = .returned v' ∧ OwnRunes w' w.heap.size v' zs ∧ Below w.heap.size w w' := by
  obtain ⟨i0, hi, hz0, hz1, hz2⟩ := info_parts Try.info21
  rcases h.2 with ⟨rfl, hn⟩ | ⟨a, cap, rfl, hcap, hm, hc⟩
  · obtain rfl : zs = [] := List.eq_nil_of_length_eq_zero hn
    have he := fun (w : World) => Lib.run_eql_slice_nil (P := Try.prog) w 26 21 none 0 0 0 0 Try.underlying26
    go_enter Try.func76, Try.ntmps76
    go_wp2
    go_ret
    exact ⟨_, rfl, World.ownsRow_nil _ _ _ _, Below.refl _ _⟩
  · have he := fun (w : World) => Lib.run_eql_slice_nil (P := Try.prog) w 26 21 (some a) zs.length cap 0 0 Try.underlying26
    simp only [Option.isNone_some] at he
    have HC := Lib.hid hc
    clear hm h hc
    go_enter Try.func76, Try.ntmps76
    go_wp2_with (at_builtin; refine wpList_append_own _ rfl _ _ 26 rfl w.heap.size 21 i0 (.int .i32 0) 1 4 Try.underlying26 hi hz0 hz1 hz2 rfl (by decide) _ _ _ rfl (World.ownsRow_made w #[] 0 (Nat.le_refl _) (by decide) rfl) a zs.length cap (zs.map (Value.int .i32)) rfl (by simp) ?c1 ?c2 ?c3 ?c4 ?c5 ?_)
    case c1 => exact fun j u hu => World.cell?_alloc_of w (a.add j) _ (HC.out j u hu)
    case c2 => intro u hu; obtain ⟨z, _, rfl⟩ := List.mem_map.1 hu; rfl
    case c3 => unfold maxLen; omega
    case c4 => omega
    case c5 => simp
    intro v' w1 hown hgrow hnil
    go_wp2
    go_ret
    refine ⟨_, rfl, ?_, ((Below.refl _ _).alloc (Nat.le_refl _) _).grown hgrow (by simp) ?_⟩
    · exact hown
    · intro k hk
      simp [Value.ownBlock] at hk
      omega
end Go.Proofs.Ytejhffcjamdffaa
