/- What made keeps while it fills its maps. -/
import Derived.Test.Qxb6606306aRRK3
import Derived.Test.Qxb6606306aRRWork
namespace Go.Proofs.Qxb6606306aRR
open Go.RowKit Go.Maps

/-- A row of strings of the coverage's own, of at most n. -/
def RowOk (w : World) (base : Nat) (v : Value) (n : Nat) : Prop := ∃ l xs, l ≤ n ∧ w.ownsRow base 9 1 v l xs
theorem RowOk.nil (w : World) (base n : Nat) : RowOk w base (.slice none 0 0) n := ⟨0, [], Nat.zero_le _, World.ownsRow_nil w base 9 1⟩
theorem RowOk.mono {w : World} {base : Nat} {v : Value} {n m : Nat} (h : RowOk w base v n) (hm : n ≤ m) : RowOk w base v m := by
  obtain ⟨l, xs, h1, h2⟩ := h
  exact ⟨l, xs, Nat.le_trans h1 hm, h2⟩
theorem RowOk.of_block {w w' : World} {base : Nat} {v : Value} {n : Nat} (h : RowOk w base v n) (hb : ∀ g, v.ownBlock = some g → w'.heap[g]? = w.heap[g]?) : RowOk w' base v n := by
  obtain ⟨l, xs, h1, h2, h3⟩ := h
  rcases h3 with h3 | ⟨g, cap, cur, rfl, h4, h5, h6⟩
  · exact ⟨l, xs, h1, h2, .inl h3⟩
  · exact ⟨l, xs, h1, h2, .inr ⟨g, cap, cur, rfl, h4, (hb g rfl).trans h5, h6⟩⟩
theorem RowOk.block {w : World} {base : Nat} {v : Value} {n g : Nat} (h : RowOk w base v n) (hg : v.ownBlock = some g) : base ≤ g ∧ g < w.heap.size ∧ ∃ cur, w.heap[g]? = some (.cells cur 9 (0, 0)) := by
  obtain ⟨l, xs, h1, h2⟩ := h
  obtain ⟨h3, h4⟩ := h2.lt g hg
  refine ⟨h3, h4, ?_⟩
  rcases h2.2 with ⟨rfl, _⟩ | ⟨g', cap, cur, rfl, _, h5, _⟩
  · cases hg
  · cases hg; exact ⟨cur, h5⟩
/-- The map of paths. -/
def PathsAt (w : World) (mP base n : Nat) : Prop :=
  ∃ f, MapAt w 9 mP n f ∧ (∀ k v, f k = some v → RowOk w base v n) ∧ ∀ k k' v v', k ≠ k' → f k = some v → f k' = some v' → v.ownBlock = none ∨ v.ownBlock ≠ v'.ownBlock
theorem PathsAt.mono {w : World} {mP base n m : Nat} (h : PathsAt w mP base n) (hm : n ≤ m) : PathsAt w mP base m := by
  obtain ⟨f, h1, h2, h3⟩ := h
  exact ⟨f, h1.mono hm, fun k v e => (h2 k v e).mono hm, h3⟩
theorem PathsAt.kept {w w' : World} {mA mP base n : Nat} (h : PathsAt w mP base n) (hk : Kept mA base w w') (hne : mP ≠ mA) (hlt : mP < base) (hA : mA < base) : PathsAt w' mP base n := by
  obtain ⟨f, h1, h2, h3⟩ := h
  refine ⟨f, h1.of_block (hk.2 mP h1.lt hne (.inl hlt)), fun k v e => (h2 k v e).of_block (fun g hg => ?_), h3⟩
  obtain ⟨b1, b2, cur, b3⟩ := (h2 k v e).block hg
  exact hk.2 g b2 (by omega) (.inr ⟨_, _, _, b3⟩)
theorem PathsAt.below {w w' : World} {mP base n : Nat} (h : PathsAt w mP base n) (hb : Below w.heap.size w w') : PathsAt w' mP base n := by
  obtain ⟨f, h1, h2, h3⟩ := h
  exact ⟨f, h1.of_block (hb.block _ h1.lt), fun k v e => (h2 k v e).of_block (fun g hg => hb.block g ((h2 k v e).block hg).2.1), h3⟩
theorem zero24 (w : World) : (zeroValue 24).run Try.prog w = .ok (.slice none 0 0) w := by kernel_rfl

/-- 'append(v, urls...)'. -/
theorem append_row (F : Nat → Prop) (w : World) (base : Nat) (v uv : Value) (l n : Nat) (xs : List Value) (us : List ByteArray) (hrow : w.ownsRow base 9 1 v l xs) (hu : Strs F w uv us) (hn : l + us.length ≤ n) (hb : n ≤ 1000000000) (hbase : base ≤ w.heap.size) :
    ∃ v' w', (Builtin.append_ #[24, 24] 24 #[v, uv]).run Try.prog w = .ok v' w' ∧ RowOk w' base v' n ∧ w.grownBy w' v.ownBlock ∧ (v'.ownBlock = v.ownBlock ∨ v'.ownBlock = some w.heap.size) := by
  obtain ⟨i0, hi, hz0, hz1, hz2⟩ := info_parts info9
  obtain ⟨a, cap, rfl, hc, hz⟩ := hu
  cases a with
  | none =>
    have hx : us = [] := by
      cases us with
      | nil => rfl
      | cons s t => obtain ⟨b, off, ha, _⟩ := hc 0 (by simp); cases ha
    subst hx
    refine ⟨v, w, ?_, ⟨l, xs, by simpa using hn, hrow⟩, ⟨rfl, rfl, rfl, Nat.le_refl _, fun _ _ _ => rfl⟩, .inl rfl⟩
    rcases hrow.2 with ⟨rfl, rfl⟩ | ⟨g, cap', cur, rfl, _, hg, hl', _⟩
    · simp [Builtin.append_, run_underlying Try.underlying24, sizeOf, typeInfo, hi, Builtin.lenOf, Builtin.firstCells]
    · simp [Builtin.append_, run_underlying Try.underlying24, sizeOf, typeInfo, hi, Builtin.lenOf, Builtin.firstCells, loadCells, hl', storeCells]
  | some a =>
    have hnews : ∀ j u, (strV us)[j]? = some u → w.cell? (a.add j) = some u := fun j u hj => by
      have hlt : j < us.length := by
        have := (List.getElem?_eq_some_iff.1 hj).1
        simpa [strV] using this
      obtain ⟨b, off, ha, _, _, hcell⟩ := hc j hlt
      cases ha
      rw [strV_get us j hlt] at hj
      cases hj
      have e : (⟨b, off, none⟩ : Addr).add j = ⟨b, off + j, none⟩ := by
        unfold Addr.add
        split
        · rename_i h; subst h; rfl
        · rfl
      rw [e]
      exact hcell
    obtain ⟨v', w', hrun, h1, h2, _, h4⟩ := run_append_own_at (P := Try.prog) w base 24 24 9 i0 (.string ⟨#[]⟩) 1 16 Try.underlying24 hi hz0 hz1 hz2 rfl (by omega) v l xs hrow a us.length cap (strV us) (by simp [strV]) hnews (by simp [strV, Value.oneCell']) (by unfold Go.maxLen; omega) (by omega) hbase
    exact ⟨v', w', hrun, ⟨_, _, hn, h1⟩, h2, h4⟩
/-- What made keeps: the coverage in block c, begun in world w. -/
structure MadeInv (w wr : World) (c : Nat) (ev : Value) (n : Nat) (A : Fn) (N : Nat → Fn) : Prop where
  cov : CovAt wr c w.heap.size (w.heap.size + 2) n A N
  paths : PathsAt wr (w.heap.size + 1) (w.heap.size + 2) n
  c0 : wr.cell? ⟨c, 0, none⟩ = some ev
  c2 : wr.cell? ⟨c, 2, none⟩ = some (.map (some (w.heap.size + 1)))
  below : Below c w wr
  big : w.heap.size + 2 ≤ wr.heap.size
  lt : c < w.heap.size
theorem MadeInv.next {w wr w' : World} {c n : Nat} {ev : Value} {A : Fn} {N : Nat → Fn} (h : MadeInv w wr c ev n A N) (hb : Below wr.heap.size wr w') : MadeInv w w' c ev n A N :=
  have hl : c < wr.heap.size := cell_lt h.c0
  ⟨h.cov.below hl hb, h.paths.below hb, (hb.cell (p := ⟨c, 0, none⟩) hl).trans h.c0, (hb.cell (p := ⟨c, 2, none⟩) hl).trans h.c2, h.below.trans (hb.mono (Nat.le_of_lt hl)), Nat.le_trans h.big hb.size, h.lt⟩
theorem MadeInv.mono {w wr : World} {c n m : Nat} {ev : Value} {A : Fn} {N : Nat → Fn} (h : MadeInv w wr c ev n A N) (hm : n ≤ m) : MadeInv w wr c ev m A N :=
  ⟨h.cov.mono hm, h.paths.mono hm, h.c0, h.c2, h.below, h.big, h.lt⟩
/-- Behind a call of hold. -/
theorem MadeInv.hold {w wr w' : World} {c n : Nat} {ev : Value} {A : Fn} {N : Nat → Fn} {x : Value} {names : List ByteArray} (h : MadeInv w wr c ev n A N) (hh : Held wr w' c w.heap.size (w.heap.size + 2) n A N x names) :
    ∃ A' N', MadeInv w w' c ev (n + 1 + names.length) A' N' ∧ Le A N A' N' ∧ Granted A' N' x names ∧ CK wr w' := by
  obtain ⟨A', N', h1, h2, h3, h4, h5⟩ := hh
  have hck := CK.of_kept h.cov.acts h4
  have := h.lt
  exact ⟨A', N', ⟨h1, (h.paths.mono (by omega)).kept h4 (by omega) (by omega) (by omega), hck.2 _ _ _ h.c0, hck.2 _ _ _ h.c2, h.below.trans (h5.mono (by omega)), Nat.le_trans h.big h4.1, h.lt⟩, h2, h3, hck⟩
/-- 'c.paths[verb] = append(c.paths[verb], urls...)'. -/
theorem MadeInv.path {w wr : World} {c n : Nat} {ev : Value} {A : Fn} {N : Nat → Fn} {F : Nat → Prop} {uv : Value} {us : List ByteArray} {t : ByteArray} (h : MadeInv w wr c ev n A N) (hu : Strs F wr uv us) (ht : t.size ≤ Go.maxLen) (hn : n + 1 + us.length ≤ 1000000000) :
    ∃ v1 v2 w1 w2, (Instr.lookup 68 (.map (some (w.heap.size + 1))) (.string t) false).run Try.prog wr = .ok v1 wr ∧ (Builtin.append_ #[24, 24] 24 #[v1, uv]).run Try.prog wr = .ok v2 w1 ∧ (Instr.mapUpdate 68 (.map (some (w.heap.size + 1))) (.string t) v2).run Try.prog w1 = .ok () w2 ∧ w1.cell? ⟨c, 2, none⟩ = some (.map (some (w.heap.size + 1))) ∧ (∃ a l cap, v1 = .slice a l cap) ∧
      MadeInv w w2 c ev (n + 1 + us.length) A N ∧ ∀ (b : Nat) cs ty r, wr.heap[b]? = some (Obj.cells cs ty r) → ty ≠ 9 → w1.heap[b]? = some (Obj.cells cs ty r) ∧ w2.heap[b]? = some (Obj.cells cs ty r) := by
  obtain ⟨f, hm, hr, hd⟩ := h.paths
  have hbig := h.big
  have hclt := h.lt
  have hlook := hm.look keyed9 Try.underlying68 (zero24 wr) (key9 t ht)
  obtain ⟨v1, hv1⟩ : ∃ v1, (f (.string t)).getD (.slice none 0 0) = v1 := ⟨_, rfl⟩
  rw [hv1] at hlook
  have hrow : RowOk wr (w.heap.size + 2) v1 n := by
    cases hf : f (.string t) with
    | none => rw [hf] at hv1; rw [← hv1]; exact RowOk.nil _ _ _
    | some v => rw [hf] at hv1; rw [← hv1]; exact hr _ _ hf
  have hrow' := hrow
  obtain ⟨l, xs, hl, ho⟩ := hrow'
  obtain ⟨v2, w1, happ, hr2, hg1, hloc⟩ := append_row F wr (w.heap.size + 2) v1 uv l (n + us.length) xs us ho hu (by omega) (by omega) (by omega)
  have hrb : ∀ g, v1.ownBlock = some g → w.heap.size + 2 ≤ g ∧ g < wr.heap.size ∧ ∃ cur, wr.heap[g]? = some (.cells cur 9 (0, 0)) := fun g hg => hrow.block hg
  have hb1 : ∀ b, b < w.heap.size + 2 → w1.heap[b]? = wr.heap[b]? := fun b hb => hg1.block b (by omega) (fun e => by have := (hrb b e.symm).1; omega)
  have hm1 : MapAt w1 9 (w.heap.size + 1) n f := hm.of_block (hb1 _ (by omega))
  have hmx : 1000000000 < Go.maxLen := by decide
  obtain ⟨w2, f2, hput, hm2, hf2, hoth, hg2⟩ := hm1.put keyed9 Try.underlying68 (by omega) (key9 t ht) v2
  have hs1 := hg1.size
  have hs2 := hg2.size
  have hb2 : ∀ b, b < w1.heap.size → b ≠ w.heap.size + 1 → w2.heap[b]? = w1.heap[b]? := fun b hb hne => hg2.block b hb (fun e => hne (by injection e))
  have hcells : ∀ (b : Nat) cs ty r, wr.heap[b]? = some (Obj.cells cs ty r) → ty ≠ 9 → w1.heap[b]? = some (Obj.cells cs ty r) ∧ w2.heap[b]? = some (Obj.cells cs ty r) := fun b cs ty r hb hty => by
    have hlt : b < wr.heap.size := (Array.getElem?_eq_some_iff.1 hb).1
    have e1 : w1.heap[b]? = some (.cells cs ty r) := (hg1.block b hlt (fun e => by
      obtain ⟨_, _, cur, hc⟩ := hrb b e.symm
      rw [hb] at hc
      cases hc
      exact hty rfl)).trans hb
    refine ⟨e1, (hb2 b (by omega) (fun e => ?_)).trans e1⟩
    subst e
    obtain ⟨D, ⟨es, cl, k1, _⟩, _⟩ := hm1
    rw [k1] at e1
    cases e1
  have hmaps : ∀ k b m g, MapAt wr k b m g → b ≠ w.heap.size + 1 → MapAt w2 k b m g := fun k b m g hmb hne => by
    refine hmb.of_block ((hb2 b (by have := hmb.lt; omega) hne).trans (hg1.block b hmb.lt (fun e => ?_)))
    obtain ⟨_, _, cur, hc⟩ := hrb b e.symm
    obtain ⟨D, ⟨es, cl, k1, _⟩, _⟩ := hmb
    rw [k1] at hc
    cases hc
  have hcc : ∀ j, w2.cell? ⟨c, j, none⟩ = wr.cell? ⟨c, j, none⟩ := fun j => World.cell?_of_block (a := ⟨c, j, none⟩) ((hb2 c (by omega) (by omega)).trans (hb1 c (by omega)))
  have hcov := h.cov
  refine ⟨v1, v2, w1, w2, hlook, happ, hput, (World.cell?_of_block (a := ⟨c, 2, none⟩) (hb1 c (by omega))).trans h.c2, ?_, ⟨⟨(hcc 1).trans hcov.cell, (hmaps _ _ _ _ hcov.acts (by omega)).mono (by omega), hcov.lo, hcov.held, fun x b e => ⟨(hcov.maps x b e).1, (hmaps _ _ _ _ (hcov.maps x b e).2 (by have := (hcov.maps x b e).1; omega)).mono (by omega)⟩, hcov.bools⟩, ⟨f2, hm2.mono (by omega), ?_, ?_⟩, (hcc 0).trans h.c0, (hcc 2).trans h.c2, ?_, by omega, hclt⟩, hcells⟩
  · rcases ho.2 with ⟨rfl, _⟩ | ⟨g, cap, cur, rfl, _⟩
    · exact ⟨_, _, _, rfl⟩
    · exact ⟨_, _, _, rfl⟩
  · intro k v hk
    by_cases e : k = .string t
    · subst e
      rw [hf2] at hk
      cases hk
      exact (hr2.mono (by omega)).of_block (fun g hg => hb2 g (hr2.block hg).2.1 (by have := (hr2.block hg).1; omega))
    · rw [hoth k e] at hk
      have hv := hr k v hk
      refine (hv.mono (by omega)).of_block (fun g hg => ?_)
      have hb' := hv.block hg
      refine (hb2 g (by omega) (by omega)).trans (hg1.block g hb'.2.1 (fun e2 => ?_))
      cases hf : f (.string t) with
      | none => rw [hf] at hv1; rw [← hv1] at e2; cases e2
      | some vt =>
        rw [hf] at hv1
        rcases hd k (.string t) v vt e hk hf with h1 | h1
        · rw [h1] at hg; cases hg
        · exact h1 (by rw [hg, e2, ← hv1]; rfl)
  · have key : ∀ k v, k ≠ .string t → f k = some v → ∀ g, v.ownBlock = some g → v2.ownBlock ≠ some g := fun k v e hk g hg hg2' => by
      have hb' := (hr k v hk).block hg
      rcases hloc with hl | hl
      · cases hf : f (.string t) with
        | none => rw [hf] at hv1; rw [← hv1] at hl; rw [hl] at hg2'; cases hg2'
        | some vt =>
          rw [hf] at hv1
          rcases hd k (.string t) v vt e hk hf with h1 | h1
          · rw [h1] at hg; cases hg
          · apply h1; rw [hg, ← hg2', hl, ← hv1]; rfl
      · rw [hl] at hg2'
        cases hg2'
        omega
    intro k k' v v' hne hk hk'
    by_cases e : k = .string t
    · subst e
      rw [hf2] at hk
      cases hk
      rw [hoth k' (Ne.symm hne)] at hk'
      cases hv2 : v2.ownBlock with
      | none => exact .inl rfl
      | some g => exact .inr (fun e2 => key k' v' (Ne.symm hne) hk' g e2.symm hv2)
    · rw [hoth k e] at hk
      by_cases e' : k' = .string t
      · subst e'
        rw [hf2] at hk'
        cases hk'
        cases hv2 : v.ownBlock with
        | none => exact .inl rfl
        | some g => exact .inr (fun e2 => key k v e hk g hv2 e2.symm)
      · rw [hoth k' e'] at hk'
        exact hd k k' v v' hne hk hk'
  · exact (h.below.grown hg1 (by omega) (fun j hj => by have := (hrb j hj).1; omega)).grown hg2 (by omega) (fun j hj => by cases hj; omega)
end Go.Proofs.Qxb6606306aRR
