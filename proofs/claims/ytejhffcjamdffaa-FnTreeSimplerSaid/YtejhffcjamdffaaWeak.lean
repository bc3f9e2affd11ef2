/-
  A slice that is empty or lies below a block ('Wd'): an empty slice that came in may bear any address. No conditions.
-/
import Derived.Test.YtejhffcjamdffaaMem
namespace Go.Proofs.Ytejhffcjamdffaa
open Go.RowKit

/-- The slice is empty, or lies below block B. -/
def Wd (B : Nat) (v : Value) : Prop := ∀ k, v.ownBlock = some k → (∃ ao c, v = .slice ao 0 c) ∨ k < B

theorem Wd.mono {B B' : Nat} {v : Value} (h : Wd B v) (hB : B ≤ B') : Wd B' v := fun k hk => (h k hk).imp id (fun hl => Nat.lt_of_lt_of_le hl hB)
theorem Bd.wd {B : Nat} {v : Value} (h : Bd B v) : Wd B v := fun k hk => .inr (h k hk)

theorem Wd.lt {B b off n c : Nat} (h : Wd B (.slice (some ⟨b, off, none⟩) n c)) (hn : 0 < n) : b < B := by
  rcases h b rfl with ⟨ao, c', e⟩ | hl
  · injection e with _ e2 _
    omega
  · exact hl

theorem RowN.belowW {w w' : World} {B size n : Nat} {v : Value} {xs : List Value} (h : RowN w size v n xs) (hb : Below B w w') (hB : Wd B v) : RowN w' size v n xs := by
  refine ⟨h.1, ?_⟩
  rcases h.2 with h2 | ⟨a, cap, rfl, h3, h4, h5⟩
  · exact .inl h2
  · refine .inr ⟨a, cap, rfl, h3, h4, fun j u hu => ?_⟩
    rcases hB _ rfl with ⟨ao, c, e⟩ | hl
    · injection e with _ e2 _
      have hx := h.1
      rw [e2, Nat.zero_mul] at hx
      rw [List.eq_nil_of_length_eq_zero hx] at hu
      simp at hu
    · rw [hb.cell (by rw [add_block]; exact hl)]
      exact h5 j u hu
end Go.Proofs.Ytejhffcjamdffaa
