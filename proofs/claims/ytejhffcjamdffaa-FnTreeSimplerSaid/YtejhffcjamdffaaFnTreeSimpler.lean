/-
  FnTreeSimpler: for every tree the law returns true and leaves its argument and all memory as they were. No conditions.
-/
import Derived.Test.YtejhffcjamdffaaSimplerLaw
import Derived.Test.YtejhffcjamdffaaOpen
import Derived.Test.YtejhffcjamdffaaRow
namespace Go.Proofs.Ytejhffcjamdffaa.fnTreeSimpler
open Go.ChangeShapes Go.WideShapes Go.ChangeAt Go.RowKit

set_option maxRecDepth 100000 in
theorem lifted (os : Os) (started : os.Started) (H : Type) (enc : TypeId × Value → H) :
    ReturnsInHanded {} Try.checked os 13 .any (Rows.fnTreeSimplerSpec.pre6 enc Try.prog Try.f13 Rows.fnTreeSimplerRow.domain false) (Rows.fnTreeSimplerSpec.post enc Try.prog Try.f13 false true false false) := by
  refine returnsInHanded_of_change_sized (C := Try.checked) Try.own started (by kernel_rfl) Try.func13
    (ChangeSpec.witness6 (enc := enc) (C := Try.checked) false ⟨#[], #[.agg #[.int .i64 0, .bool false, .bool false, .int .i64 0, .int .i64 0, .int .i64 0, .string ByteArray.empty, .slice none 0 0, .slice none 0 0]], []⟩ 8 (by kernel_rfl) (by kernel_rfl) (by kernel_rfl) (by kernel_rfl)) ?_
  intro W base args ds gs before hval0 hW hcnd hsz _
  have hval : ∀ (j : Nat) t v, Try.f13.params[j]? = some t → args[j]? = some v → Value.okWide Try.prog W .any base t v := hval0
  have hW' := hW
  obtain ⟨p, q, hA0, hV, rfl, hfz, hnd⟩ := hW
  have hA : DataW.TrodAll enc Try.prog W 0 (fun _ => true) true Try.f13.params.toList args.toList ds p := hA0
  rw [Try.params13] at hA hval
  obtain ⟨v0, vs0, d0, ds0, p0, q0, hargs, rfl, rfl, h0, r0⟩ := trodAll_cons hA
  obtain ⟨rfl, rfl, rfl⟩ := trodAll_nil r0
  obtain rfl : args = #[v0] := by cases args; simp_all
  obtain ⟨rfl, rfl⟩ := trodVars_none hV
  obtain ⟨fuel, hf⟩ := h0
  have hagg : ∃ cs : Array Value, v0 = .agg cs := by
    have h := hval 0 36 v0 rfl rfl
    unfold Value.okWide at h
    rw [Try.underlying36] at h
    obtain ⟨cs, h, _⟩ := h
    exact ⟨cs, h⟩
  obtain ⟨cs, rfl⟩ := hagg
  have hw : ∀ n, n ∈ d0.weights Try.prog 36 → n ≤ reachBytes := fun n hn => by
    have hsz' : (DataW.weightsEach Try.prog (Try.f13.params.toList ++ Rows.fnTreeSimplerSpec.plain.varTypes Try.prog) ([d0] ++ [])).all (· ≤ reachBytes) = true := hsz
    rw [Try.params13] at hsz'
    have h1 := List.all_eq_true.1 hsz' n (by
      simp only [List.cons_append, List.nil_append, DataW.weightsEach]
      exact List.mem_append.2 (.inl hn))
    simpa using h1
  obtain ⟨nd, hrep⟩ := rep_of_trod W fuel cs.toList _ hf hw
  refine (law_simpler fuel nd cs.toList W hrep).mono fun e W' ⟨he, hg⟩ => ?_
  subst he
  exact ⟨_, rfl, law_post hW' rfl rfl rfl rfl rfl (by
    intro t ht
    rw [Try.params13] at ht
    simp at ht
    subst ht
    exact ⟨by kernel_rfl, of_decide_eq_true (by kernel_rfl)⟩) hg⟩

theorem over : Rows.fnTreeSimplerRow.holds Try.pinned (OpenSpec.ofChange Rows.fnTreeSimplerSpec) :=
  OpenClaim.holds_of_wide 13 Try.f13 rfl rfl rfl rfl rfl rfl rfl ⟨rfl, rfl, rfl, rfl, rfl⟩ rfl rfl rfl rfl rfl (by kernel_rfl) Try.func13 (by kernel_rfl)
    (of_decide_eq_true (by kernel_rfl)) (by unfold Func.isWrapper; first | (rw [if_pos (by decide +kernel)]; kernel_rfl) | (rw [if_neg (by decide +kernel)]; exact ⟨rfl, rfl⟩))
    (fun os started H enc _ => lifted os started H enc)

theorem proved : Rows.FnTreeSimplerSaid :=
  over
#print axioms proved
end Go.Proofs.Ytejhffcjamdffaa.fnTreeSimpler
