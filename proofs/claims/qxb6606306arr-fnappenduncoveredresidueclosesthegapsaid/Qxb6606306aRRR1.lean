/- The arguments, read down: from the row's reading of memory to Strs, RuleV, Entries. -/
import Derived.Test.Qxb6606306aRRShape
import Derived.SliceStrings
import Derived.ChangeArms
import Derived.DataReads
namespace Go.Proofs.Qxb6606306aRR
open Go.RowKit Go.ChangeShapes Go.WideShapes

theorem cells24 : Try.prog.cellsOf 24 = 1 := by kernel_rfl
theorem cells9 : Try.prog.cellsOf 9 = 1 := by kernel_rfl
theorem cells4 : Try.prog.cellsOf 4 = 1 := by kernel_rfl
theorem cells26 : Try.prog.cellsOf 26 = 6 := by kernel_rfl
theorem cells29 : Try.prog.cellsOf 29 = 1 := by kernel_rfl
theorem cells30 : Try.prog.cellsOf 30 = 1 := by kernel_rfl
theorem cells32 : Try.prog.cellsOf 32 = 2 := by kernel_rfl
theorem cells33 : Try.prog.cellsOf 33 = 1 := by kernel_rfl
theorem cells58 : Try.prog.cellsOf 58 = 2 := by kernel_rfl

theorem addr_of {w : World} {a : Addr} {v : Value} (h : w.cell? (a.add 0) = some v) : ∃ b off, a = ⟨b, off, none⟩ ∧ b < w.heap.size := by
  have hsp := World.cell?_spot h
  obtain ⟨b, off, sp⟩ := a
  have hs2 : sp = none := by
    cases sp with
    | none => rfl
    | some q => simp [Addr.add] at hsp
  subst hs2
  refine ⟨b, off, rfl, ?_⟩
  rcases Nat.lt_or_ge b w.heap.size with hb | hb
  · exact hb
  · simp [Addr.add, World.cell?, hb] at h
theorem add_mk (b off i : Nat) : (⟨b, off, none⟩ : Addr).add i = ⟨b, off + i, none⟩ := by simp [Addr.add]

theorem list_of {α : Type} (d : α) (p : Nat → α → Prop) : ∀ n, (∀ i, i < n → ∃ x, p i x) → ∃ xs : List α, xs.length = n ∧ ∀ i, i < n → p i (xs.getD i d)
  | 0, _ => ⟨[], rfl, fun i hi => absurd hi (Nat.not_lt_zero _)⟩
  | n + 1, h => by
    obtain ⟨xs, hl, hx⟩ := list_of d p n (fun i hi => h i (by omega))
    obtain ⟨x, hxn⟩ := h n (by omega)
    refine ⟨xs ++ [x], by simp [hl], fun i hi => ?_⟩
    by_cases hin : i < n
    · have e : (xs ++ [x]).getD i d = xs.getD i d := by
        rw [List.getD_eq_getElem?_getD, List.getD_eq_getElem?_getD, List.getElem?_append_left (by omega)]
      rw [e]
      exact hx i hin
    · obtain rfl : i = n := by omega
      have e : (xs ++ [x]).getD i d = x := by
        rw [List.getD_eq_getElem?_getD, List.getElem?_append_right (by omega), hl, Nat.sub_self]
        rfl
      rw [e]
      exact hxn

section
variable {H : Type} {enc : TypeId × Value → H} {W : World} {sp : Nat → Bool} {held : Bool} {n : Nat} {cs : List Value} {x : DataW H × List MemPlace}

theorem strs_down (h : DataW.trod enc Try.prog W 0 sp held n 24 cs = some x) : ∃ v xs, cs = [v] ∧ Strs Any W v xs := by
  rcases open_strings Try.underlying24 Try.underlying9 cells9 h with ⟨rfl, _⟩ | ⟨a, len, cap, ss, rfl, _, hl, _, hss, _, hc, hz⟩
  · exact ⟨_, [], rfl, none, 0, rfl, fun i hi => absurd hi (Nat.not_lt_zero _), fun s hs => by simp at hs⟩
  · have hlen : len ≤ ss.length := by rw [hss]; split <;> omega
    have htl : (ss.take len).length = len := by simp; omega
    refine ⟨_, ss.take len, rfl, some a, cap, by rw [htl], fun i hi => ?_, fun s hs => hz s (List.mem_of_mem_take hs)⟩
    rw [htl] at hi
    have hci := hc i (by omega)
    obtain ⟨b, off, rfl, hb⟩ := addr_of (hc 0 (by omega))
    rw [add_mk] at hci
    refine ⟨b, off, rfl, trivial, hb, ?_⟩
    have e : (ss.take len).getD i ByteArray.empty = ss.getD i ByteArray.empty := by
      rw [List.getD_eq_getElem?_getD, List.getD_eq_getElem?_getD, List.getElem?_take, if_pos hi]
    rw [e]
    exact hci

theorem bool_down (h : DataW.trod enc Try.prog W 0 sp held n 4 cs = some x) : ∃ b, cs = [.bool b] := by
  obtain ⟨b, hb, _⟩ := DataW.trod_bool Try.underlying4 h
  exact ⟨b, hb⟩

theorem rule_down (h : DataW.trod enc Try.prog W 0 sp held n 26 cs = some x) : ∃ c0 c1 c2 c3 c4 r, cs = [c0, c1, c2, c3, c4, .bool r.any] ∧ RuleV Any W c0 c1 c2 c3 c4 r := by
  obtain ⟨xs, m, _, _, hl, hlen, hf⟩ := DataW.trod_struct Try.underlying26 h
  rw [cells26] at hl
  match cs, hl, xs, hlen with
  | [c0, c1, c2, c3, c4, c5], _, [x0, x1, x2, x3, x4, x5], _ =>
    have h0 : DataW.trod enc Try.prog W 0 sp held m 24 [c0] = some x0 := by simpa [cells24] using hf 0 _ rfl
    have h1 : DataW.trod enc Try.prog W 0 sp held m 24 [c1] = some x1 := by simpa [cells24] using hf 1 _ rfl
    have h2 : DataW.trod enc Try.prog W 0 sp held m 24 [c2] = some x2 := by simpa [cells24] using hf 2 _ rfl
    have h3 : DataW.trod enc Try.prog W 0 sp held m 24 [c3] = some x3 := by simpa [cells24] using hf 3 _ rfl
    have h4 : DataW.trod enc Try.prog W 0 sp held m 24 [c4] = some x4 := by simpa [cells24] using hf 4 _ rfl
    have h5 : DataW.trod enc Try.prog W 0 sp held m 4 [c5] = some x5 := by simpa [cells4] using hf 5 _ rfl
    obtain ⟨v0, l0, e0, s0⟩ := strs_down h0
    obtain ⟨v1, l1, e1, s1⟩ := strs_down h1
    obtain ⟨v2, l2, e2, s2⟩ := strs_down h2
    obtain ⟨v3, l3, e3, s3⟩ := strs_down h3
    obtain ⟨v4, l4, e4, s4⟩ := strs_down h4
    obtain ⟨b, e5⟩ := bool_down h5
    simp only [List.cons.injEq, and_true] at e0 e1 e2 e3 e4 e5
    subst e0 e1 e2 e3 e4 e5
    exact ⟨_, _, _, _, _, ⟨l0, l1, l2, l3, l4, b⟩, rfl, s0, s1, s2, s3, s4⟩

/-- A slice of structs. -/
theorem rows_down {t e : TypeId} (ht : Try.prog.underlying t = some (.slice e)) (hpos : 0 < Try.prog.cellsOf e) (h : DataW.trod enc Try.prog W 0 sp held n t cs = some x) :
    ∃ a len cap, cs = [.slice a len cap] ∧ ∀ i, i < len → ∃ b off m y cs', a = some ⟨b, off, none⟩ ∧ b < W.heap.size ∧ cs'.length = Try.prog.cellsOf e ∧
      (∀ k, k < Try.prog.cellsOf e → W.cell? ⟨b, off + i * Try.prog.cellsOf e + k, none⟩ = cs'[k]?) ∧ DataW.trod enc Try.prog W 0 sp held m e cs' = some y := by
  rcases DataW.trod_slice ht h with ⟨rfl, _⟩ | ⟨a, len, cap, elems, rest, m, _, rfl, _, _, _, _, hlen, hel, _, _⟩
  · exact ⟨_, _, _, rfl, fun i hi => absurd hi (Nat.not_lt_zero _)⟩
  · refine ⟨_, _, _, rfl, fun i hi => ?_⟩
    obtain ⟨b, off, rfl, hb⟩ : ∃ b off, a = ⟨b, off, none⟩ ∧ b < W.heap.size := by
      have h1 := hel 0 (by omega)
      rw [List.getElem?_eq_getElem (by omega)] at h1
      obtain ⟨cs', hc, _⟩ := Option.bind_eq_some_iff.1 h1
      obtain ⟨_, hcl, hck⟩ := World.cells?_some hc
      have h0 := hck 0 hpos
      rw [List.getElem?_eq_getElem (by omega), Nat.zero_mul, show (a.add 0).add 0 = a.add 0 by simp [Addr.add]] at h0
      exact addr_of h0
    have h1 := hel i hi
    rw [List.getElem?_eq_getElem (by omega)] at h1
    obtain ⟨cs', hc, ht'⟩ := Option.bind_eq_some_iff.1 h1
    obtain ⟨_, hcl, hck⟩ := World.cells?_some hc
    refine ⟨b, off, m, _, cs', rfl, hb, hcl, fun k hk => ?_, ht'⟩
    have := hck k hk
    rw [add_mk, add_mk] at this
    exact this

theorem rules_down (h : DataW.trod enc Try.prog W 0 sp held n 29 cs = some x) : ∃ v rs, cs = [v] ∧ Rules Any W v rs := by
  obtain ⟨a, len, cap, rfl, hr⟩ := rows_down Try.underlying29 (by rw [cells26]; omega) h
  rw [cells26] at hr
  obtain ⟨rs, hl, hrs⟩ := list_of noRule (fun i r => ∃ b off c0 c1 c2 c3 c4, a = some ⟨b, off, none⟩ ∧ Any b ∧ b < W.heap.size ∧
    (W.cell? ⟨b, off + i * 6, none⟩ = some c0 ∧ W.cell? ⟨b, off + i * 6 + 1, none⟩ = some c1 ∧ W.cell? ⟨b, off + i * 6 + 2, none⟩ = some c2 ∧ W.cell? ⟨b, off + i * 6 + 3, none⟩ = some c3 ∧
      W.cell? ⟨b, off + i * 6 + 4, none⟩ = some c4 ∧ W.cell? ⟨b, off + i * 6 + 5, none⟩ = some (.bool r.any)) ∧ RuleV Any W c0 c1 c2 c3 c4 r) len (fun i hi => by
    obtain ⟨b, off, m, y, cs', ha, hb, _, hck, ht⟩ := hr i hi
    obtain ⟨c0, c1, c2, c3, c4, r, rfl, hv⟩ := rule_down ht
    exact ⟨r, b, off, c0, c1, c2, c3, c4, ha, trivial, hb, ⟨hck 0 (by omega), hck 1 (by omega), hck 2 (by omega), hck 3 (by omega), hck 4 (by omega), hck 5 (by omega)⟩, hv⟩)
  subst hl
  exact ⟨_, rs, rfl, a, cap, rfl, hrs⟩

theorem path_down (h : DataW.trod enc Try.prog W 0 sp held n 58 cs = some x) : ∃ c0 c1 p, cs = [c0, c1] ∧ Strs Any W c0 (PathD.verbs p) ∧ Strs Any W c1 p.urls := by
  obtain ⟨xs, m, _, _, hl, hlen, hf⟩ := DataW.trod_struct Try.underlying58 h
  rw [cells58] at hl
  match cs, hl, xs, hlen with
  | [c0, c1], _, [x0, x1], _ =>
    have h0 : DataW.trod enc Try.prog W 0 sp held m 24 [c0] = some x0 := by simpa [cells24] using hf 0 _ rfl
    have h1 : DataW.trod enc Try.prog W 0 sp held m 24 [c1] = some x1 := by simpa [cells24] using hf 1 _ rfl
    obtain ⟨v0, l0, e0, s0⟩ := strs_down h0
    obtain ⟨v1, l1, e1, s1⟩ := strs_down h1
    simp only [List.cons.injEq, and_true] at e0 e1
    subst e0 e1
    exact ⟨_, _, ⟨l0, l1⟩, rfl, s0, s1⟩

theorem paths_down (h : DataW.trod enc Try.prog W 0 sp held n 30 cs = some x) : ∃ v ps, cs = [v] ∧ Paths Any W v ps := by
  obtain ⟨a, len, cap, rfl, hr⟩ := rows_down Try.underlying30 (by rw [cells58]; omega) h
  rw [cells58] at hr
  obtain ⟨ps, hl, hps⟩ := list_of noPath (fun i p => ∃ b off c0 c1, a = some ⟨b, off, none⟩ ∧ Any b ∧ b < W.heap.size ∧
    (W.cell? ⟨b, off + i * 2, none⟩ = some c0 ∧ W.cell? ⟨b, off + i * 2 + 1, none⟩ = some c1) ∧ Strs Any W c0 p.verbs ∧ Strs Any W c1 p.urls) len (fun i hi => by
    obtain ⟨b, off, m, y, cs', ha, hb, _, hck, ht⟩ := hr i hi
    obtain ⟨c0, c1, p, rfl, hv0, hv1⟩ := path_down ht
    exact ⟨p, b, off, c0, c1, ha, trivial, hb, ⟨hck 0 (by omega), hck 1 (by omega)⟩, hv0, hv1⟩)
  subst hl
  exact ⟨_, ps, rfl, a, cap, rfl, hps⟩

theorem entry_down (h : DataW.trod enc Try.prog W 0 sp held n 32 cs = some x) : ∃ c0 c1 p, cs = [c0, c1] ∧ Rules Any W c0 (EntryD.rules p) ∧ Paths Any W c1 p.paths := by
  obtain ⟨xs, m, _, _, hl, hlen, hf⟩ := DataW.trod_struct Try.underlying32 h
  rw [cells32] at hl
  match cs, hl, xs, hlen with
  | [c0, c1], _, [x0, x1], _ =>
    have h0 : DataW.trod enc Try.prog W 0 sp held m 29 [c0] = some x0 := by simpa [cells29] using hf 0 _ rfl
    have h1 : DataW.trod enc Try.prog W 0 sp held m 30 [c1] = some x1 := by simpa [cells30] using hf 1 _ rfl
    obtain ⟨v0, l0, e0, s0⟩ := rules_down h0
    obtain ⟨v1, l1, e1, s1⟩ := paths_down h1
    simp only [List.cons.injEq, and_true] at e0 e1
    subst e0 e1
    exact ⟨_, _, ⟨l0, l1⟩, rfl, s0, s1⟩

theorem entries_down (h : DataW.trod enc Try.prog W 0 sp held n 33 cs = some x) : ∃ v es, cs = [v] ∧ Entries Any W v es := by
  obtain ⟨a, len, cap, rfl, hr⟩ := rows_down Try.underlying33 (by rw [cells32]; omega) h
  rw [cells32] at hr
  obtain ⟨es, hl, hes⟩ := list_of noEntry (fun i p => ∃ b off c0 c1, a = some ⟨b, off, none⟩ ∧ Any b ∧ b < W.heap.size ∧
    (W.cell? ⟨b, off + i * 2, none⟩ = some c0 ∧ W.cell? ⟨b, off + i * 2 + 1, none⟩ = some c1) ∧ Rules Any W c0 p.rules ∧ Paths Any W c1 p.paths) len (fun i hi => by
    obtain ⟨b, off, m, y, cs', ha, hb, _, hck, ht⟩ := hr i hi
    obtain ⟨c0, c1, p, rfl, hv0, hv1⟩ := entry_down ht
    exact ⟨p, b, off, c0, c1, ha, trivial, hb, ⟨hck 0 (by omega), hck 1 (by omega)⟩, hv0, hv1⟩)
  subst hl
  exact ⟨_, es, rfl, a, cap, rfl, hes⟩
end
end Go.Proofs.Qxb6606306aRR
