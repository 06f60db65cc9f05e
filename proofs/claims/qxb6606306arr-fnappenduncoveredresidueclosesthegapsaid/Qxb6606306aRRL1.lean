/- The residue closes the gap: plain; and ZZAppendUncovered. -/
import Derived.Test.Qxb6606306aRRA3
namespace Go.Proofs.Qxb6606306aRR
open Go.RowKit Go.Maps
theorem heldB_two {d1 d2 : CovD} {v g t : ByteArray} {q : Bool} {name : ByteArray} {named : Bool} (h : heldB [d1] v g t q name named = true) : heldB [d1, d2] v g t q name named = true := by
  unfold heldB at h ⊢
  simp only [List.any_cons, List.any_nil, Bool.or_false] at h ⊢
  rw [h]; rfl
theorem CR_two {d1 d2 : CovD} {v g s : ByteArray} {b : Bool} {name : ByteArray} {named : Bool} (h : CR [d1] v g s b name named = true) : CR [d1, d2] v g s b name named = true :=
  crB_mono (fun _ _ e => heldB_two e) s b h
theorem CR_hit {d1 d2 : CovD} {v g s : ByteArray} {b : Bool} {name : ByteArray} {named : Bool} (h : hitB d2.A d2.N (actV v g s b) name named = true) : CR [d1, d2] v g s b name named = true := by
  refine crB_self ?_
  show heldB [d1, d2] v g s b name named = true
  have e : d2.covers v g s b name named = true := by unfold CovD.covers coversB; rw [h]; rfl
  unfold heldB
  simp only [List.any_cons, List.any_nil, Bool.or_false]
  rw [e, Bool.or_true]
/-- Behind the residue's own coverage no triple is put out. -/
theorem out_none {d1 d2 : CovD} {r : RuleD} {rs : List RuleD} (h : Resid [d1] r rs) (hg : ∀ x ∈ rs, AllGr d2.A d2.N x) {a b d : Nat} (hin : InR r a b d) : outB [d1, d2] r (vOf r a) (gOf r b) (sOf r d) = false := by
  have key : outB [d1] r (vOf r a) (gOf r b) (sOf r d) = true → Granted d2.A d2.N (actV (vOf r a) (gOf r b) (sOf r d) r.any) (restN [d1] r (vOf r a) (gOf r b) (sOf r d) r.names) := fun ho =>
    hg _ (h.2.2 a b d hin ho) 0 0 0 (by simp [outR]) (by simp [outR]) (by simp [outR])
  generalize vOf r a = v at key ⊢
  generalize gOf r b = g at key ⊢
  generalize sOf r d = s at key ⊢
  have hname : ∀ n ∈ r.names, CR [d1, d2] v g s r.any n true = true := fun n hn => by
    cases hc : CR [d1] v g s r.any n true with
    | true => exact CR_two hc
    | false =>
      have hm : n ∈ restN [d1] r v g s r.names := List.mem_filter.2 ⟨hn, by rw [hc]; rfl⟩
      have ho : outB [d1] r v g s = true := by
        unfold outB
        have : 0 < (restN [d1] r v g s r.names).length := List.length_pos_of_mem hm
        simp [this]
      have := (key ho).2 n hm
      exact CR_hit (by unfold hitB; simpa using this)
  have hnil : (restN [d1, d2] r v g s r.names) = [] := by
    unfold restN
    rw [List.filter_eq_nil_iff]
    intro n hn
    rw [hname n hn]
    simp
  unfold outB
  rw [hnil]
  by_cases h0 : r.names.length = 0
  · have hnm : r.names = [] := List.length_eq_zero_iff.1 h0
    have hcr : CR [d1, d2] v g s r.any ⟨#[]⟩ false = true := by
      cases hc : CR [d1] v g s r.any ⟨#[]⟩ false with
      | true => exact CR_two hc
      | false =>
        have ho : outB [d1] r v g s = true := by
          unfold outB
          rw [hc, h0]
          rfl
        have := (key ho).1 (by rw [hnm]; rfl)
        exact CR_hit (by unfold hitB; rw [this]; rfl)
    rw [hcr]
    simp
  · simp [h0]
theorem again_nil {d1 d2 : CovD} {r : RuleD} {rs again : List RuleD} (h : Resid [d1] r rs) (hg : ∀ x ∈ rs, AllGr d2.A d2.N x) (h2 : Resid [d1, d2] r again) : again = [] := by
  cases again with
  | nil => rfl
  | cons x t =>
    obtain ⟨a, b, d, hin, ho, _⟩ := h2.1 x (by simp)
    rw [out_none h hg hin] at ho
    cases ho
theorem sumTo_bound (f : Nat → Nat) (m : Nat) : ∀ n, (∀ j, j < n → f j ≤ m) → sumTo f n ≤ n * m
  | 0, _ => by simp [sumTo]
  | n + 1, h => by
    have h1 := sumTo_bound f m n (fun j hj => h j (by omega))
    have h2 := h n (by omega)
    show sumTo f n + f n ≤ _
    rw [Nat.succ_mul]
    omega
/-- made can bear the residue. -/
theorem bears_resid {d1 : CovD} {r : RuleD} {rs : List RuleD} (h : Resid [d1] r rs) (hs : SmallR r) (hw : workR r ≤ 67108864) : Bears [⟨rs, []⟩] := by
  have hx : ∀ x ∈ rs, workR x ≤ 1 + r.names.length ∧ LenR x := fun x hx => by
    obtain ⟨a, b, d, _, _, rfl⟩ := h.1 x hx
    have hl := (restN_small [d1] r (vOf r a) (gOf r b) (sOf r d) r.names).1
    have hl' := hs.2.2.2.1.1
    refine ⟨?_, ?_, ?_, ?_, ?_⟩
    · simp [workR, tri, outR]
      exact hl
    · simp [outR]
    · simp [outR]
    · simp [outR]
    · simp only [outR]; omega
  have hsum : workRs rs rs.length ≤ rs.length * (1 + r.names.length) := sumTo_bound _ _ _ (fun j hj => (hx _ (getR_mem rs j hj)).1)
  have h2 : rs.length * (1 + r.names.length) ≤ workR r := Nat.mul_le_mul_right _ h.2.1
  have h3 : rs.length ≤ 67108864 := by
    have : rs.length * 1 ≤ rs.length * (1 + r.names.length) := Nat.mul_le_mul_left _ (by omega)
    omega
  refine ⟨by simp, fun e he => ?_, ?_⟩
  · simp at he
    subst he
    exact ⟨by show rs.length ≤ _; omega, fun x hx' => (hx x hx').2, by simp, fun p hp => by cases hp⟩
  · have e1 : workEs [(⟨rs, []⟩ : EntryD)] [(⟨rs, []⟩ : EntryD)].length = 0 + (workRs rs rs.length + 0) := rfl
    rw [e1]
    omega
/-- What the law asks of each rule of the residue. -/
theorem resid_names {d1 : CovD} {r : RuleD} {rs : List RuleD} (h : Resid [d1] r rs) {i : Nat} (hi : i < rs.length) : (rs.getD i noRule).names.length ≤ r.names.length ∧ (0 < r.names.length → 0 < (rs.getD i noRule).names.length) := by
  obtain ⟨a, b, d, _, ho, e⟩ := h.1 _ (getR_mem rs i hi)
  rw [e]
  refine ⟨(restN_small [d1] r (vOf r a) (gOf r b) (sOf r d) r.names).1, fun hp => ?_⟩
  unfold outB at ho
  have h0 : ¬ r.names.length = 0 := by omega
  simp [h0] at ho
  exact ho
set_option maxHeartbeats 400000 in
theorem zzAppend_any (F : Nat → Prop) (c0 c1 c2 c3 c4 : Value) (r : RuleD) (sv : Value) (cs : List CovD) (w : World) (hV : RuleV F w c0 c1 c2 c3 c4 r) (hSm : SmallR r) (hSc : Scopes w sv cs) (hl : cs.length ≤ 1048576) (htri : tri r ≤ 67108864) :
    Calls Try.prog 17 #[.slice none 0 0, .agg #[c0, c1, c2, c3, c4, .bool r.any], sv] w fun e w' => RetResid w w' cs r e := by
  obtain ⟨W, hW⟩ : ∃ W, w.alloc (.cells #[c0, c1, c2, c3, c4, .bool r.any] 41) = W := ⟨_, rfl⟩
  obtain ⟨_, hBW⟩ := box41 w _ _ _ _ _ _ W hW
  have HC := hidden (append_any F c0 c1 c2 c3 c4 r sv cs W (hV.same (Same.of_below hBW)) hSm (hSc.below hBW) hl htri)
  have HBW := hidden hBW
  have HW := hidden hW
  obtain ⟨a0, p0, rfl, _, _⟩ := hV.verbs
  obtain ⟨a1, p1, rfl, _, _⟩ := hV.groups
  obtain ⟨a2, p2, rfl, _, _⟩ := hV.resources
  obtain ⟨a3, p3, rfl, _, _⟩ := hV.names
  obtain ⟨a4, p4, rfl, _, _⟩ := hV.bys
  obtain ⟨sa, scap, rfl, _⟩ := hSc
  clear hV hW hBW
  go_enter Try.func17, Try.ntmps17
  go_wp2_with fail
  rw [HW.out]
  refine HC.out.mono ?_
  rintro e w1 ⟨v, rs, rfl, hr, hres, hb⟩
  clear HC
  go_wp2_with fail
  go_ret
  exact ⟨v, rs, rfl, hr, hres, HBW.out.trans (hb.mono HBW.out.size)⟩
end Go.Proofs.Qxb6606306aRR
