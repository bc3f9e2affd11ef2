/-
  The contract of the thin package's instOf. Condition: at most a million runes.
-/
import Derived.Test.YtejhffcjamdffaaWeak
import Derived.Deep.RegionHeld3
import Derived.Deep.DeepFit
namespace Go.Proofs.Ytejhffcjamdffaa
open Go.RowKit

set_option maxHeartbeats 2000000 in
theorem inst_of (op out arg : Int) (v : Value) (zs : List Int) (w : World) (h : Runes w v zs) (hB : Wd w.heap.size v) (hl : zs.length ≤ 1000000) :
    Calls Try.prog 48 #[.agg #[.int .i64 op, .int .i64 out, .int .i64 arg, v]] w fun e w' => ∃ v', e = .returned (.agg #[.int .u8 (IntKind.u8.wrap op), .int .u32 (IntKind.u32.wrap out), .int .u32 (IntKind.u32.wrap arg), v']) ∧ OwnRunes w' w.heap.size v' zs ∧ Below w.heap.size w w' := by
  have H := Lib.hid h
  have HB := Lib.hid hB
  clear h hB
  go_enter Try.func48, Try.ntmps48
  go_wp2_with fail
  go_region_held3 (fun w' => w'.cell? ⟨w.heap.size, 0, none⟩ = some (.int .i64 op) ∧ w'.cell? ⟨w.heap.size, 1, none⟩ = some (.int .i64 out) ∧ w'.cell? ⟨w.heap.size, 2, none⟩ = some (.int .i64 arg) ∧ w'.cell? ⟨w.heap.size, 3, none⟩ = some v)
    (go_keep)
    (first
      | (go_at_call 76
         refine (clone_runes v zs _ (RowN.belowW H.out (below2 w _ _).drew HB.out) hl).mono ?_
         rintro e w1 ⟨v', rfl, hown, hb⟩
         obtain ⟨ao, c, rfl⟩ := owns_slice hown
         have k0 := hb.cell (p := ⟨w.heap.size, 0, none⟩) (by simp; omega)
         have k1 := hb.cell (p := ⟨w.heap.size, 1, none⟩) (by simp; omega)
         have k2 := hb.cell (p := ⟨w.heap.size, 2, none⟩) (by simp; omega)
         have k3 := hb.cell (p := ⟨w.heap.size, 3, none⟩) (by simp; omega)
         have m0 := hb.cell (p := ⟨w.heap.size + 1, 0, none⟩) (by simp)
         have m1 := hb.cell (p := ⟨w.heap.size + 1, 1, none⟩) (by simp)
         have m2 := hb.cell (p := ⟨w.heap.size + 1, 2, none⟩) (by simp)
         have m3 := hb.cell (p := ⟨w.heap.size + 1, 3, none⟩) (by simp)
         have f0 := hb.frozen (p := ⟨w.heap.size + 1, 0, none⟩) (by simp)
         have f1 := hb.frozen (p := ⟨w.heap.size + 1, 1, none⟩) (by simp)
         have f2 := hb.frozen (p := ⟨w.heap.size + 1, 2, none⟩) (by simp)
         have f3 := hb.frozen (p := ⟨w.heap.size + 1, 3, none⟩) (by simp)))
  clear k0 k1 k2 k3 f0 f1 f2 f3
  have hs := hb.size
  simp at hs
  have hne : ∀ j, (Value.slice ao zs.length c).ownBlock ≠ some (⟨w.heap.size + 1, j, none⟩ : Addr).block := by
    intro j hj
    have := (hown.lt _ hj).1
    simp at this
    omega
  have hown' := owns_base (owns_setCell (owns_setCell (owns_setCell (owns_setCell hown (hne 0) (.int .u8 (IntKind.u8.wrap op))) (hne 1) (.int .u32 (IntKind.u32.wrap out))) (hne 2) (.int .u32 (IntKind.u32.wrap arg))) (hne 3) (.slice ao zs.length c)) (base' := w.heap.size) (by simp; omega)
  have hb' := ((((((below2 w _ _).drew.trans (hb.mono (by simp; omega))).setCell (p := ⟨w.heap.size + 1, 0, none⟩) (by simp) (.int .u8 (IntKind.u8.wrap op))).setCell (p := ⟨w.heap.size + 1, 1, none⟩) (by simp) (.int .u32 (IntKind.u32.wrap out)))).setCell (p := ⟨w.heap.size + 1, 2, none⟩) (by simp) (.int .u32 (IntKind.u32.wrap arg))).setCell (p := ⟨w.heap.size + 1, 3, none⟩) (by simp) (.slice ao zs.length c)
  clear hne hown H HB
  go_wp2
  exact bodyPost_ret (v := .agg #[.int .u8 (IntKind.u8.wrap op), .int .u32 (IntKind.u32.wrap out), .int .u32 (IntKind.u32.wrap arg), .slice ao zs.length c]) (by simp [results, Try.results48, go_sem, m0, m1, m2, m3]) rfl ⟨_, rfl, hown', hb'⟩
end Go.Proofs.Ytejhffcjamdffaa
