/-
  append of one element onto a slice that the call owns, where the new slice lies, up to the length at which a new array would take more than 2^48 bytes. Condition: what the growth asks for fits.
-/
import Derived.Deep.AppendLies
namespace Go.Proofs.Ytejhffcjamdffaa

section
variable {P : Program} (w : World)

theorem append_one (t ty : TypeId) (base : Nat) (e : TypeId) (i : TypeInfo) (z : Value) (size bytes : Nat) (ht : P.underlying t = some (.slice e)) (hi : P.info? e = some i) (hz : i.zero = some z)
    (hsize : i.size = size) (hby : i.bytes = bytes) (hzs : z.cells.size = size)
    (v : Value) (n : Nat) (xs : List Value) (hown : w.ownsRow base e size v n xs)
    (ad : Addr) (c : Nat) (news : List Value) (hl : news.length = size) (hnews : ∀ j u, news[j]? = some u → w.cell? (ad.add j) = some u) (h1 : ∀ u ∈ news, u.oneCell' = true)
    (h63 : n + 1 ≤ maxLen) (hfit : Builtin.nextslicecap (n + 1) n * bytes ≤ 281474976710656) (hbase : base ≤ w.heap.size) (H : Nat) (hH : w.heap.size = H) :
    ∃ g cap w', (Builtin.append_ #[t, t] ty #[v, .slice (some ad) 1 c]).run P w = .ok (.slice (some ⟨g, 0, none⟩) (n + 1) cap) w' ∧
      w'.ownsRow base e size (.slice (some ⟨g, 0, none⟩) (n + 1) cap) (n + 1) (xs ++ news) ∧ w.grownBy w' v.ownBlock ∧ (v.ownBlock = some g ∨ g = H) ∧ g < w'.heap.size := by
  subst hsize
  subst hby
  subst hH
  have hsmall : n + 1 ≤ 9223372036854775807 := by simp only [maxLen] at h63; omega
  have hl1 : news.length = 1 * i.size := by rw [hl, Nat.one_mul]
  have hlen : (xs ++ news).length = (n + 1) * i.size := by rw [List.length_append, hown.1, hl, Nat.add_mul, Nat.one_mul]
  have grown : ∀ (old : Nat) (row : Option Nat),
      (w.drew.alloc (.cells (xs.toArray ++ news.toArray ++ Builtin.zeroCells z.cells (grownCap w (n + 1) old e - (n + 1))) e)).ownsRow base e i.size
        (.slice (some ⟨w.heap.size, 0, none⟩) (n + 1) (grownCap w (n + 1) old e)) (n + 1) (xs ++ news) ∧
      w.grownBy (w.drew.alloc (.cells (xs.toArray ++ news.toArray ++ Builtin.zeroCells z.cells (grownCap w (n + 1) old e - (n + 1))) e)) row := by
    intro old row
    have hge := grownCap_ge w (n + 1) old e
    have hcm : grownCap w (n + 1) old e ≤ maxLen := grownCap_le_maxLen w (n + 1) old e h63
    refine ⟨⟨hlen, .inr ⟨w.heap.size, _, _, rfl, hbase, heap_alloc_new w.drew _, hge, hcm, ?_, ?_⟩⟩, ⟨rfl, rfl, rfl, by simp, fun k hk _ => heap_alloc_old w.drew _ k hk⟩⟩
    · simp only [Array.size_append, List.size_toArray, size_zeroCells, hzs, hown.1, hl1, ← Nat.add_mul]
      congr 1
      omega
    · simp only [Array.toList_append, List.append_assoc]
      rw [← List.append_assoc, ← hlen]
      exact List.take_left
  rcases hown.2 with ⟨rfl, rfl⟩ | ⟨g, cap, cur, rfl, hbg, hg, hnc, hcm, hcs, htake⟩
  · have hx : xs = [] := List.eq_nil_of_length_eq_zero (by simpa using hown.1)
    subst hx
    have hr := run_append_nil (P := P) w t ty e i z ht hi hz ad 1 c news hl1 hnews (by omega) (by omega) (by have h := hfit; rw [nextslicecap_zero (by omega)] at h; exact h)
    have hgr := grown 0 (Value.ownBlock (.slice none 0 0))
    simp only [Nat.zero_add, List.nil_append, Array.empty_append] at hgr ⊢
    exact ⟨_, _, _, hr, hgr.1, hgr.2, .inr rfl, by simp⟩
  · by_cases hroom : n + 1 ≤ cap
    · have hf : n * i.size + news.length ≤ cur.size := by rw [hl1, hcs, ← Nat.add_mul]; exact Nat.mul_le_mul_right _ hroom
      have hr := run_append_room (P := P) w t ty e i ht hi g n cap cur hg ad 1 c news hl1 hnews h1 hroom hf
      have hown' : (w.setRow g (cur.toList.take (n * i.size) ++ news ++ cur.toList.drop (n * i.size + news.length)).toArray).ownsRow base e i.size (.slice (some ⟨g, 0, none⟩) (n + 1) cap) (n + 1) (xs ++ news) := by
        refine ⟨hlen, .inr ⟨g, cap, _, rfl, hbg, setRow_heap w g cur _ e _ hg, hroom, hcm, ?_, ?_⟩⟩
        · simp only [List.size_toArray, List.length_append, List.length_take, List.length_drop, Array.length_toList]
          omega
        · rw [htake, ← hlen]
          exact List.take_left
      refine ⟨_, _, _, hr, hown', ⟨rfl, rfl, rfl, by simp, fun k _ hk => setRow_other w g k _ (fun e => hk (by simp [Value.ownBlock, e]))⟩, .inl rfl, ?_⟩
      exact (hown'.lt g rfl).2
    · have hcn : cap = n := by omega
      subst hcn
      have holds : ∀ j u, xs[j]? = some u → w.cell? ((⟨g, 0, none⟩ : Addr).add j) = some u := hown.cells (g := g) rfl
      have hr := run_append_grow (P := P) w t ty e i z ht hi hz ⟨g, 0, none⟩ cap cap xs hown.1 holds ad 1 c news hl1 hnews (by omega) (by omega) hfit
      have hgr := grown cap (Value.ownBlock (.slice (some ⟨g, 0, none⟩) cap cap))
      exact ⟨_, _, _, hr, hgr.1, hgr.2, .inr rfl, by simp⟩

/-- At a step of a region that draws its order. -/
theorem step_append_one {ops : Array Oper} {o : Oper} {a : Act} {K : Act → World → Prop} {Q : Exit → Act → World → Prop} {E : Prop} (hgd : o.guard = none) (s x : Operand) (t : TypeId)
    (ho : o.op = .call { callee := .builtin .append, args := #[s, x], argTypes := #[t, t] })
    (base : Nat) (e : TypeId) (i : TypeInfo) (z : Value) (size bytes : Nat) (ht : P.underlying t = some (.slice e)) (hi : P.info? e = some i) (hz : i.zero = some z)
    (hsize : i.size = size) (hby : i.bytes = bytes) (hzs : z.cells.size = size)
    (v : Value) (n : Nat) (xs : List Value) (hs : a.eval s = v) (hown : w.ownsRow base e size v n xs)
    (ad : Addr) (c : Nat) (news : List Value) (hx : a.eval x = .slice (some ad) 1 c) (hl : news.length = size) (hnews : ∀ j u, news[j]? = some u → w.cell? (ad.add j) = some u) (h1 : ∀ u ∈ news, u.oneCell' = true)
    (h63 : n + 1 ≤ maxLen) (hfit : Builtin.nextslicecap (n + 1) n * bytes ≤ 281474976710656) (hbase : base ≤ w.heap.size) (H : Nat) (hH : w.heap.size = H)
    (h : ∀ g cap w', w'.ownsRow base e size (.slice (some ⟨g, 0, none⟩) (n + 1) cap) (n + 1) (xs ++ news) → w.grownBy w' v.ownBlock → (v.ownBlock = some g ∨ g = H) → g < w'.heap.size → K (a.put o.dst (.slice (some ⟨g, 0, none⟩) (n + 1) cap)) w') :
    if Region.wanted o (yielded ops a.tmps) = true then Oper.wp P o a w K Q else E := by
  have hw : Region.wanted o (yielded ops a.tmps) = true := by simp [Region.wanted, hgd]
  rw [if_pos hw]
  obtain ⟨g, cap, w', hr, h2, h3, h4, h5⟩ := append_one (P := P) w t o.type base e i z size bytes ht hi hz hsize hby hzs v n xs hown ad c news hl hnews h1 h63 hfit hbase H hH
  unfold Oper.wp execOp
  simp only [ho, resolve, invoke, builtin, Sem.run_bind, Sem.run_pure, Result.andThen_ok, List.map_toArray, List.map_cons, List.map_nil, hs, hx, hr]
  exact h g cap w' h2 h3 h4 h5
end

/-- What a growth by one element asks for, up to as many elements as a slice of nodes may hold. -/
theorem next_fits (n bytes : Nat) (hn : n ≤ 1353264501504) (hb : bytes ≤ 120) : Builtin.nextslicecap (n + 1) n * bytes ≤ 281474976710656 := by
  have h : Builtin.nextslicecap (n + 1) n ≤ n + n / 4 + 512 := by
    unfold Builtin.nextslicecap
    split
    · omega
    · split
      · omega
      · have hg : Builtin.growBy (n + 1) 4 n = n + (n + 768) / 4 := by
          rw [Builtin.growBy, if_neg (by omega), Builtin.growBy, if_pos (by omega)]
        rw [hg]
        omega
  calc Builtin.nextslicecap (n + 1) n * bytes ≤ (n + n / 4 + 512) * 120 := Nat.mul_le_mul h hb
    _ ≤ 281474976710656 := by omega
end Go.Proofs.Ytejhffcjamdffaa
