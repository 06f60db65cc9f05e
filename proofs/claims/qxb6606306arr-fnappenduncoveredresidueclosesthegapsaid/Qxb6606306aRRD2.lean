/- made's loops: what each round leaves. -/
import Derived.Test.Qxb6606306aRRD1
namespace Go.Proofs.Qxb6606306aRR
open Go.RowKit Go.Maps

def trip (r : RuleD) (a b d : Nat) : Value := actV (r.verbs.getD a ByteArray.empty) (r.groups.getD b ByteArray.empty) (r.resources.getD d ByteArray.empty) r.any
/-- All triples ahead of (a, b, d) are granted. -/
def GR (A : Fn) (N : Nat → Fn) (r : RuleD) (a b d : Nat) : Prop :=
  ∀ a' b' d', a' < r.verbs.length → b' < r.groups.length → d' < r.resources.length → (a' < a ∨ a' = a ∧ (b' < b ∨ b' = b ∧ d' < d)) → Granted A N (trip r a' b' d') r.names
def AllGr (A : Fn) (N : Nat → Fn) (r : RuleD) : Prop :=
  ∀ a b d, a < r.verbs.length → b < r.groups.length → d < r.resources.length → Granted A N (trip r a b d) r.names
theorem AllGr.le {A A' : Fn} {N N' : Nat → Fn} {r : RuleD} (h : AllGr A N r) (k : Le A N A' N') : AllGr A' N' r := fun a b d ha hb hd => (h a b d ha hb hd).le k
def LenR (r : RuleD) : Prop := r.verbs.length ≤ 1048576 ∧ r.groups.length ≤ 1048576 ∧ r.resources.length ≤ 1048576 ∧ r.names.length ≤ 1048576
def LenP (p : PathD) : Prop := p.verbs.length ≤ 1048576 ∧ p.urls.length ≤ 1048576
/-- What made can bear. -/
def Bears (es : List EntryD) : Prop := es.length ≤ 1000000000 ∧ (∀ e ∈ es, e.rules.length ≤ 1000000000 ∧ (∀ r ∈ e.rules, LenR r) ∧ e.paths.length ≤ 1000000000 ∧ ∀ p ∈ e.paths, LenP p) ∧ workEs es es.length ≤ 67108864
def idx3 (r : RuleD) (a b d : Nat) : Nat := ((a * r.groups.length + b) * r.resources.length + d) * (1 + r.names.length)
theorem idx3_next (r : RuleD) (a b d : Nat) : idx3 r a b (d + 1) = idx3 r a b d + (1 + r.names.length) := by
  unfold idx3
  rw [show (a * r.groups.length + b) * r.resources.length + (d + 1) = ((a * r.groups.length + b) * r.resources.length + d) + 1 from rfl, Nat.succ_mul]
theorem idx3_b (r : RuleD) (a b : Nat) : idx3 r a b r.resources.length = idx3 r a (b + 1) 0 := by
  unfold idx3
  rw [Nat.add_zero, show a * r.groups.length + (b + 1) = (a * r.groups.length + b) + 1 from rfl, Nat.succ_mul]
theorem idx3_a (r : RuleD) (a : Nat) : idx3 r a r.groups.length 0 = idx3 r (a + 1) 0 0 := by
  unfold idx3
  rw [Nat.succ_mul]
  simp
theorem idx3_all (r : RuleD) : idx3 r r.verbs.length 0 0 = workR r := by
  unfold idx3 workR tri
  simp
theorem idx3_le (r : RuleD) {a b d : Nat} (ha : a < r.verbs.length) (hb : b < r.groups.length) (hd : d < r.resources.length) : idx3 r a b d + (1 + r.names.length) ≤ workR r := by
  rw [← idx3_next]
  unfold idx3 workR tri
  refine Nat.mul_le_mul_right _ ?_
  have h1 : a * r.groups.length + b + 1 ≤ r.verbs.length * r.groups.length := by
    have := Nat.mul_le_mul_right r.groups.length (show a + 1 ≤ r.verbs.length from ha)
    rw [Nat.succ_mul] at this
    omega
  have h2 := Nat.mul_le_mul_right r.resources.length h1
  rw [Nat.succ_mul] at h2
  omega

/-- Inside a rule. -/
def RInv (w W2 wr : World) (c : Nat) (ev : Value) (n0 : Nat) (r : RuleD) (A0 : Fn) (N0 : Nat → Fn) (a b d : Nat) : Prop :=
  ∃ n A N, MadeInv w wr c ev n A N ∧ n ≤ n0 + idx3 r a b d ∧ CK W2 wr ∧ Le A0 N0 A N ∧ GR A N r a b d
section
variable {w W2 wr : World} {c n0 : Nat} {ev : Value} {r : RuleD} {A0 : Fn} {N0 : Nat → Fn} {a b d : Nat}
theorem RInv.start (h : MadeInv w W2 c ev n0 A0 N0) : RInv w W2 W2 c ev n0 r A0 N0 0 0 0 :=
  ⟨n0, A0, N0, h, by omega, CK.refl _, Le.refl _ _, fun a' b' d' _ _ _ hlt => by omega⟩
theorem RInv.nextB (h : RInv w W2 wr c ev n0 r A0 N0 a b r.resources.length) : RInv w W2 wr c ev n0 r A0 N0 a (b + 1) 0 := by
  obtain ⟨n, A, N, h1, h2, h3, h4, h5⟩ := h
  exact ⟨n, A, N, h1, by rw [← idx3_b]; exact h2, h3, h4, fun a' b' d' ha hb hd hlt => h5 a' b' d' ha hb hd (by omega)⟩
theorem RInv.nextA (h : RInv w W2 wr c ev n0 r A0 N0 a r.groups.length 0) : RInv w W2 wr c ev n0 r A0 N0 (a + 1) 0 0 := by
  obtain ⟨n, A, N, h1, h2, h3, h4, h5⟩ := h
  exact ⟨n, A, N, h1, by rw [← idx3_a]; exact h2, h3, h4, fun a' b' d' ha hb hd hlt => h5 a' b' d' ha hb hd (by omega)⟩
theorem RInv.done (h : RInv w W2 wr c ev n0 r A0 N0 r.verbs.length 0 0) : ∃ n A N, MadeInv w wr c ev n A N ∧ n ≤ n0 + workR r ∧ Le A0 N0 A N ∧ AllGr A N r := by
  obtain ⟨n, A, N, h1, h2, h3, h4, h5⟩ := h
  exact ⟨n, A, N, h1, by rw [← idx3_all]; exact h2, h4, fun a b d ha hb hd => h5 a b d ha hb hd (.inl ha)⟩
theorem RInv.ck (h : RInv w W2 wr c ev n0 r A0 N0 a b d) : CK W2 wr := by obtain ⟨n, A, N, h1, h2, h3, h4, h5⟩ := h; exact h3
theorem RInv.below (h : RInv w W2 wr c ev n0 r A0 N0 a b d) : Below c w wr := by obtain ⟨n, A, N, h1, h2, h3, h4, h5⟩ := h; exact h1.below
theorem RInv.call {F : Nat → Prop} {nv : Value} (h : RInv w W2 wr c ev n0 r A0 N0 a b d) (hN : Strs F wr nv r.names) (hV : ∀ s ∈ r.verbs, s.size ≤ Go.maxLen) (hG : ∀ s ∈ r.groups, s.size ≤ Go.maxLen) (hR : ∀ s ∈ r.resources, s.size ≤ Go.maxLen)
    (ha : a < r.verbs.length) (hb : b < r.groups.length) (hd : d < r.resources.length) (hn : n0 + workR r ≤ 67108864) (hl : r.names.length ≤ 1048576) :
    Calls Try.prog 42 #[.pointer (some ⟨c, 0, none⟩), trip r a b d, nv] wr fun e w' => e = .returned (.tuple #[]) ∧ RInv w W2 w' c ev n0 r A0 N0 a b (d + 1) := by
  obtain ⟨n, A, N, h1, h2, h3, h4, h5⟩ := h
  have hle := idx3_le r ha hb hd
  have hmx : 1000000000 < Go.maxLen := by decide
  refine (hold_any F c w.heap.size (w.heap.size + 2) n A N _ _ _ r.any nv r.names wr h1.cov hN (hV _ (getD_mem _ _ ha)) (hG _ (getD_mem _ _ hb)) (hR _ (getD_mem _ _ hd)) (by omega) hl h1.big).mono ?_
  rintro e w' ⟨rfl, hh⟩
  obtain ⟨A', N', g1, g2, g3, g4⟩ := h1.hold hh
  refine ⟨rfl, n + 1 + r.names.length, A', N', g1, by rw [idx3_next]; omega, h3.trans g4, h4.trans g2, fun a' b' d' ha' hb' hd' hlt => ?_⟩
  by_cases e : a' = a ∧ b' = b ∧ d' = d
  · obtain ⟨rfl, rfl, rfl⟩ := e
    exact g3
  · exact (h5 a' b' d' ha' hb' hd' (by omega)).le g2
end
/-- All rules ahead of (i, j) are granted. -/
def GE (A : Fn) (N : Nat → Fn) (es : List EntryD) (i j : Nat) : Prop :=
  ∀ i' j', i' < es.length → j' < (es.getD i' noEntry).rules.length → (i' < i ∨ i' = i ∧ j' < j) → AllGr A N ((es.getD i' noEntry).rules.getD j' noRule)
def EInv (w wr : World) (c : Nat) (ev : Value) (es : List EntryD) (i j : Nat) : Prop :=
  ∃ n A N, MadeInv w wr c ev n A N ∧ n ≤ workEs es i + workRs (es.getD i noEntry).rules j ∧ GE A N es i j
def PInv (w wr : World) (c : Nat) (ev : Value) (es : List EntryD) (i k a : Nat) : Prop :=
  ∃ n A N, MadeInv w wr c ev n A N ∧ n ≤ workEs es i + workRs (es.getD i noEntry).rules (es.getD i noEntry).rules.length + workPs (es.getD i noEntry).paths k + a * (1 + ((es.getD i noEntry).paths.getD k noPath).urls.length) ∧ GE A N es i (es.getD i noEntry).rules.length
theorem sumTo_le (f : Nat → Nat) {i n : Nat} (h : i < n) : sumTo f i + f i ≤ sumTo f n := by
  induction n with
  | zero => omega
  | succ n ih =>
    show _ ≤ sumTo f n + f n
    rcases (by omega : i < n ∨ i = n) with h' | rfl
    · have := ih h'; omega
    · exact Nat.le_refl _
section
variable {w wr : World} {c : Nat} {ev : Value} {es : List EntryD} {i j k a : Nat}
theorem EInv.below (h : EInv w wr c ev es i j) : Below c w wr := by obtain ⟨n, A, N, h1, _⟩ := h; exact h1.below
theorem PInv.below (h : PInv w wr c ev es i k a) : Below c w wr := by obtain ⟨n, A, N, h1, _⟩ := h; exact h1.below
theorem EInv.c0 (h : EInv w wr c ev es i j) : wr.cell? ⟨c, 0, none⟩ = some ev := by obtain ⟨n, A, N, h1, _⟩ := h; exact h1.c0
theorem EInv.next {w' : World} (h : EInv w wr c ev es i j) (hb : Below wr.heap.size wr w') : EInv w w' c ev es i j := by
  obtain ⟨n, A, N, h1, h2⟩ := h
  exact ⟨n, A, N, h1.next hb, h2⟩
theorem PInv.next {w' : World} (h : PInv w wr c ev es i k a) (hb : Below wr.heap.size wr w') : PInv w w' c ev es i k a := by
  obtain ⟨n, A, N, h1, h2⟩ := h
  exact ⟨n, A, N, h1.next hb, h2⟩
theorem EInv.rule (h : EInv w wr c ev es i j) : ∃ n0 A0 N0, MadeInv w wr c ev n0 A0 N0 ∧ n0 ≤ workEs es i + workRs (es.getD i noEntry).rules j ∧ GE A0 N0 es i j := h
theorem EInv.ruled {n0 : Nat} {A0 : Fn} {N0 : Nat → Fn} {r : RuleD} (hr : (es.getD i noEntry).rules.getD j noRule = r) (h0 : n0 ≤ workEs es i + workRs (es.getD i noEntry).rules j) (hG : GE A0 N0 es i j) (h : ∃ n A N, MadeInv w wr c ev n A N ∧ n ≤ n0 + workR r ∧ Le A0 N0 A N ∧ AllGr A N r) : EInv w wr c ev es i (j + 1) := by
  obtain ⟨n, A, N, h1, h2, h3, h4⟩ := h
  refine ⟨n, A, N, h1, ?_, fun i' j' hi' hj' hlt => ?_⟩
  · have : workRs (es.getD i noEntry).rules (j + 1) = workRs (es.getD i noEntry).rules j + workR r := by rw [← hr]; rfl
    omega
  · by_cases e : i' = i ∧ j' = j
    · obtain ⟨rfl, rfl⟩ := e
      rw [hr]
      exact h4
    · exact (hG i' j' hi' hj' (by omega)).le h3
theorem EInv.bound {n0 : Nat} {r : RuleD} (hB : Bears es) (hi : i < es.length) (hj : j < (es.getD i noEntry).rules.length) (hr : (es.getD i noEntry).rules.getD j noRule = r) (h0 : n0 ≤ workEs es i + workRs (es.getD i noEntry).rules j) : n0 + workR r ≤ 67108864 := by
  have h1 := sumTo_le (fun j => workE (es.getD j noEntry)) hi
  have h2 := sumTo_le (fun j => workR ((es.getD i noEntry).rules.getD j noRule)) hj
  have h3 := hB.2.2
  have e6 : workE (es.getD i noEntry) = workRs (es.getD i noEntry).rules (es.getD i noEntry).rules.length + workPs (es.getD i noEntry).paths (es.getD i noEntry).paths.length := rfl
  have e7 : workRs (es.getD i noEntry).rules j = sumTo (fun j => workR ((es.getD i noEntry).rules.getD j noRule)) j := rfl
  have e8 : workRs (es.getD i noEntry).rules (es.getD i noEntry).rules.length = sumTo (fun j => workR ((es.getD i noEntry).rules.getD j noRule)) (es.getD i noEntry).rules.length := rfl
  have e9 : workEs es i = sumTo (fun j => workE (es.getD j noEntry)) i := rfl
  have e10 : workEs es es.length = sumTo (fun j => workE (es.getD j noEntry)) es.length := rfl
  rw [hr] at h2
  omega
theorem PInv.start (h : EInv w wr c ev es i (es.getD i noEntry).rules.length) : PInv w wr c ev es i 0 0 := by
  obtain ⟨n, A, N, h1, h2, h3⟩ := h
  exact ⟨n, A, N, h1, by unfold workPs sumTo; omega, h3⟩
theorem PInv.step (h : PInv w wr c ev es i k ((es.getD i noEntry).paths.getD k noPath).verbs.length) : PInv w wr c ev es i (k + 1) 0 := by
  obtain ⟨n, A, N, h1, h2, h3⟩ := h
  refine ⟨n, A, N, h1, ?_, h3⟩
  have : workPs (es.getD i noEntry).paths (k + 1) = workPs (es.getD i noEntry).paths k + workP ((es.getD i noEntry).paths.getD k noPath) := rfl
  rw [this, Nat.zero_mul]
  unfold workP
  omega
theorem PInv.done (h : PInv w wr c ev es i (es.getD i noEntry).paths.length 0) : EInv w wr c ev es (i + 1) 0 := by
  obtain ⟨n, A, N, h1, h2, h3⟩ := h
  refine ⟨n, A, N, h1, ?_, fun i' j' hi' hj' hlt => h3 i' j' hi' hj' ?_⟩
  · have e : workEs es (i + 1) = workEs es i + workE (es.getD i noEntry) := rfl
    rw [e]
    unfold workE
    omega
  · rcases (by omega : i' < i ∨ i' = i) with h | rfl
    · exact .inl h
    · exact .inr ⟨rfl, hj'⟩
theorem PInv.path {F : Nat → Prop} {uv : Value} {t : ByteArray} (h : PInv w wr c ev es i k a) (hB : Bears es) (hi : i < es.length) (hk : k < (es.getD i noEntry).paths.length) (ha : a < ((es.getD i noEntry).paths.getD k noPath).verbs.length)
    (hu : Strs F wr uv ((es.getD i noEntry).paths.getD k noPath).urls) (ht : t.size ≤ Go.maxLen) :
    ∃ v1 v2 w1 w2, (Instr.lookup 68 (.map (some (w.heap.size + 1))) (.string t) false).run Try.prog wr = .ok v1 wr ∧ (Builtin.append_ #[24, 24] 24 #[v1, uv]).run Try.prog wr = .ok v2 w1 ∧ (Instr.mapUpdate 68 (.map (some (w.heap.size + 1))) (.string t) v2).run Try.prog w1 = .ok () w2 ∧ w1.cell? ⟨c, 2, none⟩ = some (.map (some (w.heap.size + 1))) ∧ (∃ a l cap, v1 = .slice a l cap) ∧
      PInv w w2 c ev es i k (a + 1) ∧ ∀ (b : Nat) cs ty r, wr.heap[b]? = some (Obj.cells cs ty r) → ty ≠ 9 → w1.heap[b]? = some (Obj.cells cs ty r) ∧ w2.heap[b]? = some (Obj.cells cs ty r) := by
  obtain ⟨n, A, N, h1, h2, h3⟩ := h
  have e1 := sumTo_le (fun j => workE (es.getD j noEntry)) hi
  have e2 := sumTo_le (fun j => workP ((es.getD i noEntry).paths.getD j noPath)) hk
  have e3 := hB.2.2
  have e4 : (a + 1) * (1 + ((es.getD i noEntry).paths.getD k noPath).urls.length) ≤ workP ((es.getD i noEntry).paths.getD k noPath) := Nat.mul_le_mul_right _ ha
  have e5 : (a + 1) * (1 + ((es.getD i noEntry).paths.getD k noPath).urls.length) = a * (1 + ((es.getD i noEntry).paths.getD k noPath).urls.length) + (1 + ((es.getD i noEntry).paths.getD k noPath).urls.length) := Nat.succ_mul _ _
  have e6 : workE (es.getD i noEntry) = workRs (es.getD i noEntry).rules (es.getD i noEntry).rules.length + workPs (es.getD i noEntry).paths (es.getD i noEntry).paths.length := rfl
  have e7 : workPs (es.getD i noEntry).paths k = sumTo (fun j => workP ((es.getD i noEntry).paths.getD j noPath)) k := rfl
  have e8 : workPs (es.getD i noEntry).paths (es.getD i noEntry).paths.length = sumTo (fun j => workP ((es.getD i noEntry).paths.getD j noPath)) (es.getD i noEntry).paths.length := rfl
  have e9 : workEs es i = sumTo (fun j => workE (es.getD j noEntry)) i := rfl
  have e10 : workEs es es.length = sumTo (fun j => workE (es.getD j noEntry)) es.length := rfl
  obtain ⟨v1, v2, w1, w2, g1, g2, g3, g4, g5, g6, g7⟩ := h1.path hu ht (by omega)
  exact ⟨v1, v2, w1, w2, g1, g2, g3, g4, g5, ⟨_, A, N, g6, by rw [e5]; omega, h3⟩, g7⟩
end
/-- What made leaves. -/
def MadeOk (w w' : World) (c : Nat) (es : List EntryD) : Prop :=
  ∃ d : CovD, d.c = c ∧ d.at w' ∧ (∀ i j, i < es.length → j < (es.getD i noEntry).rules.length → AllGr d.A d.N ((es.getD i noEntry).rules.getD j noRule)) ∧ Below c w w'
theorem EInv.made {w wr : World} {c : Nat} {ev : Value} {es : List EntryD} (h : EInv w wr c ev es es.length 0) : MadeOk w wr c es := by
  obtain ⟨n, A, N, h1, _, h3⟩ := h
  exact ⟨⟨c, w.heap.size, w.heap.size + 2, n, A, N⟩, rfl, h1.cov, fun i j hi hj => h3 i j hi hj (.inl hi), h1.below⟩
end Go.Proofs.Qxb6606306aRR
