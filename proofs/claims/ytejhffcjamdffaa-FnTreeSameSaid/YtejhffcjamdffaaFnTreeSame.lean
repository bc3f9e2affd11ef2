/-
  FnTreeSame: for all pairs of trees the law returns true and leaves its arguments and all memory as they were. No conditions.
-/
import Derived.Test.YtejhffcjamdffaaSameLaw
import Derived.Test.YtejhffcjamdffaaOpen
import Derived.Test.YtejhffcjamdffaaRow
namespace Go.Proofs.Ytejhffcjamdffaa.fnTreeSame
open Go.ChangeShapes Go.WideShapes Go.ChangeAt Go.RowKit

set_option maxRecDepth 100000 in
theorem lifted (os : Os) (started : os.Started) (H : Type) (enc : TypeId × Value → H) :
    ReturnsInHanded {} Try.checked os 10 .any (Rows.fnTreeSameSpec.pre6 enc Try.prog Try.f10 Rows.fnTreeSameRow.domain false) (Rows.fnTreeSameSpec.post enc Try.prog Try.f10 false true false false) := by
  refine returnsInHanded_of_change_sized (C := Try.checked) Try.own started (by kernel_rfl) Try.func10
    (ChangeSpec.witness6 (enc := enc) (C := Try.checked) false ⟨#[], #[.agg #[.int .i64 0, .bool false, .bool false, .int .i64 0, .int .i64 0, .int .i64 0, .string ByteArray.empty, .slice none 0 0, .slice none 0 0], .agg #[.int .i64 0, .bool false, .bool false, .int .i64 0, .int .i64 0, .int .i64 0, .string ByteArray.empty, .slice none 0 0, .slice none 0 0]], []⟩ 8 (by kernel_rfl) (by kernel_rfl) (by kernel_rfl) (by kernel_rfl)) ?_
  intro W base args ds gs before hval0 hW hcnd hsz _
  have hval : ∀ (j : Nat) t v, Try.f10.params[j]? = some t → args[j]? = some v → Value.okWide Try.prog W .any base t v := hval0
  have hW' := hW
  obtain ⟨p, q, hA0, hV, rfl, hfz, hnd⟩ := hW
  have hA : DataW.TrodAll enc Try.prog W 0 (fun _ => true) true Try.f10.params.toList args.toList ds p := hA0
  rw [Try.params10] at hA hval
  obtain ⟨v0, vs0, d0, ds0, p0, q0, hargs, rfl, rfl, h0, r0⟩ := trodAll_cons hA
  obtain ⟨v1, vs1, d1, ds1, p1, q1, hargs1, rfl, rfl, h1, r1⟩ := trodAll_cons r0
  obtain ⟨rfl, rfl, rfl⟩ := trodAll_nil r1
  obtain rfl : args = #[v0, v1] := by cases args; simp_all
  obtain ⟨rfl, rfl⟩ := trodVars_none hV
  obtain ⟨fuel0, hf0⟩ := h0
  obtain ⟨fuel1, hf1⟩ := h1
  have hagg : ∀ (j : Nat) (v : Value), Try.f10.params[j]? = some 36 → (#[v0, v1] : Array Value)[j]? = some v → ∃ cs : Array Value, v = .agg cs := fun j v hp hv => by
    have h := hval j 36 v (by rw [← Try.params10]; exact hp) hv
    unfold Value.okWide at h
    rw [Try.underlying36] at h
    obtain ⟨cs, h, _⟩ := h
    exact ⟨cs, h⟩
  obtain ⟨ca, rfl⟩ := hagg 0 v0 rfl rfl
  obtain ⟨cb, rfl⟩ := hagg 1 v1 rfl rfl
  have hw : ∀ n, n ∈ d0.weights Try.prog 36 ∨ n ∈ d1.weights Try.prog 36 → n ≤ reachBytes := fun n hn => by
    have hsz' : (DataW.weightsEach Try.prog (Try.f10.params.toList ++ Rows.fnTreeSameSpec.plain.varTypes Try.prog) ([d0, d1] ++ [])).all (· ≤ reachBytes) = true := hsz
    rw [Try.params10] at hsz'
    have h1 := List.all_eq_true.1 hsz' n (by
      simp only [List.cons_append, List.nil_append, DataW.weightsEach, List.mem_append]
      rcases hn with hn | hn
      · exact .inl hn
      · exact .inr (.inl hn))
    simpa using h1
  obtain ⟨a, hra⟩ := rep_of_trod W fuel0 ca.toList _ hf0 (fun n hn => hw n (.inl hn))
  obtain ⟨b, hrb⟩ := rep_of_trod W fuel1 cb.toList _ hf1 (fun n hn => hw n (.inr hn))
  have lift : ∀ (k d : Nat) (nd : Nd) (cs : List Value), Rep W (fun b => b < W.heap.size) d nd cs → Rep W (fun b => b < W.heap.size) (d + k) nd cs := by
    intro k
    induction k with
    | zero => intro d nd cs h; exact h
    | succ k ih => intro d nd cs h; exact Rep.succ _ _ _ (ih d nd cs h)
  refine (law_same (fuel0 + fuel1) a b ca.toList cb.toList W (lift fuel1 fuel0 a _ hra) (by rw [Nat.add_comm]; exact lift fuel0 fuel1 b _ hrb)).mono fun e W' ⟨he, hg⟩ => ?_
  subst he
  exact ⟨_, rfl, law_post hW' rfl rfl rfl rfl rfl (by
    intro t ht
    rw [Try.params10] at ht
    simp at ht
    subst ht
    exact ⟨by kernel_rfl, of_decide_eq_true (by kernel_rfl)⟩) hg⟩

theorem over : Rows.fnTreeSameRow.holds Try.pinned (OpenSpec.ofChange Rows.fnTreeSameSpec) :=
  OpenClaim.holds_of_wide 10 Try.f10 rfl rfl rfl rfl rfl rfl rfl ⟨rfl, rfl, rfl, rfl, rfl⟩ rfl rfl rfl rfl rfl (by kernel_rfl) Try.func10 (by kernel_rfl)
    (of_decide_eq_true (by kernel_rfl)) (by unfold Func.isWrapper; first | (rw [if_pos (by decide +kernel)]; kernel_rfl) | (rw [if_neg (by decide +kernel)]; exact ⟨rfl, rfl⟩))
    (fun os started H enc _ => lifted os started H enc)

theorem proved : Rows.FnTreeSameSaid :=
  over
#print axioms proved
end Go.Proofs.Ytejhffcjamdffaa.fnTreeSame
