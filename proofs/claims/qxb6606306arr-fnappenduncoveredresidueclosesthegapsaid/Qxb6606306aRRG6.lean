/- appendCost. -/
import Derived.Test.Qxb6606306aRRG5
namespace Go.Proofs.Qxb6606306aRR
open Go.RowKit

def appC (r : RuleD) : Int := costR r + mulC (mulC (triC r) (1 + r.names.length)) (mulC (maxGo r.resources 0 + 1) (maxGo r.resources 0 + 1))
theorem wrap_id (x : Int) (h0 : 0 ≤ x) (h1 : x ≤ 1000000000000) : IntKind.i64.wrap x = x := by
  rw [IntKind.wrap_i64]
  omega
/-- The worlds behind the box. -/
def Cls (w : World) (o : Obj) (w' : World) : Prop := Below (w.heap.size + 1) (w.alloc o) w'
theorem cls_start (w : World) (o : Obj) : Cls w o (w.alloc o).drew := (Below.refl _ _).drew
theorem Cls.below {w w' : World} {o : Obj} (h : Cls w o w') : Below w.heap.size w w' := ((Below.refl _ _).alloc (Nat.le_refl _) _).trans (Below.mono h (by omega))
theorem Cls.next {w w' w'' : World} {o : Obj} (h : Cls w o w') (hb : Below w'.heap.size w' w'') : Cls w o w'' := Below.trans h (hb.mono (by have := h.size; simpa using this))
theorem Calls.at_class {P : Program} {f : FuncId} {args : Array Value} {w w' : World} {o : Obj} {v : Value} (hw : Cls w o w')
    (h : Calls P f args w' fun e w'' => e = .returned v ∧ Below w'.heap.size w' w'') : Calls P f args w' fun e w'' => e = .returned v ∧ Cls w o w'' :=
  h.mono fun _ _ ⟨he, hb⟩ => ⟨he, hw.next hb⟩
theorem Calls.at_class_same {P : Program} {f : FuncId} {args : Array Value} {w w' : World} {o : Obj} {v : Value} (hw : Cls w o w')
    (h : Calls P f args w' fun e w'' => e = .returned v ∧ w'' = w') : Calls P f args w' fun e w'' => e = .returned v ∧ Cls w o w'' :=
  h.mono fun _ _ ⟨he, hb⟩ => ⟨he, hb ▸ hw⟩

set_option maxHeartbeats 2000000 in
theorem appendCost_any (F : Nat → Prop) (c0 c1 c2 c3 c4 : Value) (r : RuleD) (w : World) (h : RuleV F w c0 c1 c2 c3 c4 r) (hs : SmallR r) :
    Calls Try.prog 12 #[.agg #[c0, c1, c2, c3, c4, .bool r.any]] w fun e w' => e = .returned (.int .i64 (appC r)) ∧ Below w.heap.size w w' := by
  have HV : Hid (∀ w', Below w.heap.size w w' → RuleV F w' c0 c1 c2 c3 c4 r) := fun w' hb => h.same (Same.of_below hb)
  obtain ⟨a0, p0, rfl, _, _⟩ := h.verbs
  obtain ⟨a1, p1, rfl, _, _⟩ := h.groups
  obtain ⟨a2, p2, rfl, _, _⟩ := h.resources
  obtain ⟨a3, p3, rfl, _, _⟩ := h.names
  obtain ⟨a4, p4, rfl, _, _⟩ := h.bys
  obtain ⟨l2, u2⟩ := maxL_bd _ hs.2.2.1
  have hn := hs.2.2.2.1.1
  have HS : Hid (SmallR r) := hs
  clear h hs
  go_enter Try.func12, Try.ntmps12
  go_wp2_with fail
  refine (maxLen_any F _ r.resources _ (HV.out _ ((Below.refl _ _).alloc (Nat.le_refl _) _)).resources HS.out.2.2.1).mono ?_
  rintro e w1' ⟨rfl, rfl⟩
  go_wp2_with fail
  refine wp_region_quiet (C := fun w' => Cls w (.cells #[.slice a0 r.verbs.length p0, .slice a1 r.groups.length p1, .slice a2 r.resources.length p2, .slice a3 r.names.length p3, .slice a4 r.bys.length p4, .bool r.any] 26) w') (by kernel_rfl) (by kernel_rfl) (cls_start w _) ?_
  have HCL : Hid (∀ w', Cls w (.cells #[.slice a0 r.verbs.length p0, .slice a1 r.groups.length p1, .slice a2 r.resources.length p2, .slice a3 r.names.length p3, .slice a4 r.bys.length p4, .bool r.any] 26) w' → ∀ j, j < 6 → w'.cell? ⟨w.heap.size, j, none⟩ = #[Value.slice a0 r.verbs.length p0, .slice a1 r.groups.length p1, .slice a2 r.resources.length p2, .slice a3 r.names.length p3, .slice a4 r.bys.length p4, .bool r.any][j]?) := fun w' hb j _ =>
    (Below.cell (p := ⟨w.heap.size, j, none⟩) hb (Nat.lt_succ_self _)).trans (World.cell?_alloc_mark w _ 26 (0, 0) j)
  have HVW : Hid (∀ w', Cls w (.cells #[.slice a0 r.verbs.length p0, .slice a1 r.groups.length p1, .slice a2 r.resources.length p2, .slice a3 r.names.length p3, .slice a4 r.bys.length p4, .bool r.any] 26) w' → RuleV F w' (.slice a0 r.verbs.length p0) (.slice a1 r.groups.length p1) (.slice a2 r.resources.length p2) (.slice a3 r.names.length p3) (.slice a4 r.bys.length p4) r) := fun w' hb =>
    HV.out w' hb.below
  have HT : Hid (0 ≤ triC r) := triC_nonneg r
  obtain ⟨g0, g1⟩ := costR_bd r HS.out
  obtain ⟨m0, m1, _, _⟩ := mulC_bd (mulC (triC r) (1 + r.names.length)) (mulC (maxGo r.resources 0 + 1) (maxGo r.resources 0 + 1)) (mulC_bd _ _ HT.out (by omega)).1 (mulC_bd _ _ (by omega) (by omega)).1
  have w1 := wrap_id (1 + (r.names.length : Int)) (by omega) (by omega)
  have w2 := wrap_id (costR r + mulC (mulC (triC r) (1 + r.names.length)) (mulC (maxGo r.resources 0 + 1) (maxGo r.resources 0 + 1))) (by omega) (by omega)
  clear HV
  refine wpQuiet_step fun K hK => ?_
  go_simp
  refine ⟨.agg #[.slice a0 r.verbs.length p0, .slice a1 r.groups.length p1, .slice a2 r.resources.length p2, .slice a3 r.names.length p3, .slice a4 r.bys.length p4, .bool r.any], fun w' hw => ?_, hK _ ?_⟩
  · simp [HCL.out w' hw 0 (by omega), HCL.out w' hw 1 (by omega), HCL.out w' hw 2 (by omega), HCL.out w' hw 3 (by omega), HCL.out w' hw 4 (by omega), HCL.out w' hw 5 (by omega)]
  clear hK K
  refine wpQuiet_step fun K hK => ?_
  go_simp
  refine ⟨_, fun w' hw => Calls.at_class hw (ruleCost_any F _ _ _ _ _ r w' (HVW.out w' hw) HS.out), hK _ ?_⟩
  clear hK K
  refine wpQuiet_step fun K hK => ?_
  go_simp
  refine ⟨.agg #[.slice a0 r.verbs.length p0, .slice a1 r.groups.length p1, .slice a2 r.resources.length p2, .slice a3 r.names.length p3, .slice a4 r.bys.length p4, .bool r.any], fun w' hw => ?_, hK _ ?_⟩
  · simp [HCL.out w' hw 0 (by omega), HCL.out w' hw 1 (by omega), HCL.out w' hw 2 (by omega), HCL.out w' hw 3 (by omega), HCL.out w' hw 4 (by omega), HCL.out w' hw 5 (by omega)]
  clear hK K
  refine wpQuiet_step fun K hK => ?_
  go_simp
  refine ⟨_, fun w' hw => Calls.at_class hw (triples_any F _ _ _ _ _ r w' (HVW.out w' hw)), hK _ ?_⟩
  clear hK K
  refine wpQuiet_step fun K hK => ?_
  go_simp
  refine ⟨_, fun _ _ => rfl, hK _ ?_⟩
  clear hK K
  refine wpQuiet_step fun K hK => ?_
  go_simp
  refine ⟨.slice a3 r.names.length p3, fun w' hw => ?_, hK _ ?_⟩
  · simp [HCL.out w' hw 3 (by omega)]
  clear hK K
  refine wpQuiet_step fun K hK => ?_
  go_simp
  refine ⟨_, fun _ _ => rfl, hK _ ?_⟩
  clear hK K
  refine wpQuiet_step fun K hK => ?_
  go_simp
  refine ⟨_, fun _ _ => rfl, hK _ ?_⟩
  clear hK K
  refine wpQuiet_step fun K hK => ?_
  go_simp
  refine ⟨_, fun w' hw => Calls.at_class_same hw (mulCap_any _ _ w' HT.out (by omega)), hK _ ?_⟩
  clear hK K
  refine wpQuiet_step fun K hK => ?_
  go_simp
  refine ⟨_, fun _ _ => rfl, hK _ ?_⟩
  clear hK K
  refine wpQuiet_step fun K hK => ?_
  go_simp
  refine ⟨_, fun _ _ => rfl, hK _ ?_⟩
  clear hK K
  refine wpQuiet_step fun K hK => ?_
  go_simp
  refine ⟨_, fun w' hw => Calls.at_class_same hw (mulCap_any _ _ w' (by omega) (by omega)), hK _ ?_⟩
  clear hK K
  refine wpQuiet_step fun K hK => ?_
  go_simp
  refine ⟨_, fun w' hw => Calls.at_class_same hw (mulCap_any _ _ w' (mulC_bd _ _ HT.out (by omega)).1 (mulC_bd _ _ (by omega) (by omega)).1), hK _ ?_⟩
  clear hK K
  refine wpQuiet_step fun K hK => ?_
  go_simp
  refine ⟨_, fun _ _ => rfl, hK _ ?_⟩
  clear hK K
  refine wpQuiet_step fun K hK => ?_
  go_simp
  refine ⟨_, fun _ _ => rfl, hK _ ?_⟩
  clear hK K
  refine wpQuiet_nil ?_
  intro w2 hb2
  have HB2 : Hid (Below w.heap.size w w2) := hb2.below
  clear hb2
  go_wp2_with fail
  go_ret
  exact ⟨rfl, HB2.out⟩
end Go.Proofs.Qxb6606306aRR
