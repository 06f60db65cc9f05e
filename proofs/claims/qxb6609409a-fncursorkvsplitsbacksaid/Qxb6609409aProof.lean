/- The statement FnCursorKVSplitsBackSaid (the frame by the kit's proof-skeleton.mjs). -/
import Derived.Test.Qxb6609409aRows
import Derived.Test.Qxb6609409aLaw
import Derived.WalkKit
import Derived.ProofKit
import Derived.OpenShut
import Derived.ShutString
import Derived.ChangeOld
import Derived.Below
namespace Go.Proofs.Qxb6609409a.fnCursorKVSplitsBack
open Go.ChangeShapes Go.WideShapes Go.ChangeAt Go.RowKit
open Go.ChangeMaps (open_string shut_string)
set_option linter.unusedVariables false

theorem own : ownKnob Try.prog.godebug = none := by kernel_rfl
theorem laidOut : laidOutB Try.prog = true := by kernel_rfl

/-- What the walk is told of a slice of integers that came in: it is nil; or it leads to a row of 'cap' cells, the numbers 'zs' (the first 'len' are its elements, the rest its spare room), each fitting its kind. -/
def IsRow (k : IntKind) (w : World) (a : Option Addr) (len cap : Nat) (zs : List Int) : Prop :=
  (a = none ∧ len = 0 ∧ cap = 0 ∧ zs = []) ∨
  ∃ x, a = some x ∧ len ≤ cap ∧ cap ≤ maxLen ∧ zs.length = cap ∧ (∀ i, i < zs.length → w.cell? (x.add i) = some (.int k (zs.getD i 0))) ∧ ∀ n ∈ zs, (Lit.int k n).wf = true

set_option maxHeartbeats 400000 in
theorem law_dot (t n : ByteArray) (a : Option Addr) (len cap : Nat) (w : World) (h1 : t.size ≤ 1048576) (h2 : n.size ≤ 1048576) (h3 : len ≤ 1048576) (hsum : t.size + n.size + len ≤ 1048576)
    (H6 : Hid (∀ w, Calls Try.prog 6 #[.string t] w fun e w' => e = .returned (.bool true) ∧ w' = w)) :
    Calls Try.prog 3 #[.string t, .string n, .slice a len cap] w fun e w' => e = .returned (.bool true) ∧ Below w.heap.size w w' := by
  go_enter Try.func3, Try.ntmps3
  go_wp2_with fail
  refine (bytes_any t n a len cap _).mono ?_
  rintro e w' ⟨⟨r, rfl⟩, rfl⟩
  cases r
  · go_wp2_with fail
    go_ret
    exact ⟨rfl, Below.refl _ _⟩
  · go_wp2_with fail
    refine (H6.out _).mono ?_
    rintro e w9 ⟨rfl, rfl⟩
    go_wp2_with fail
    go_ret
    exact ⟨rfl, Below.refl _ _⟩

set_option maxHeartbeats 400000 in
theorem law_big (t n : ByteArray) (a : Option Addr) (len cap : Nat) (w : World)
    (h : (1048576 < (t.size : Int)) ∨ ((t.size : Int) ≤ 1048576 ∧ 1048576 < (n.size : Int)) ∨ ((t.size : Int) ≤ 1048576 ∧ (n.size : Int) ≤ 1048576 ∧ 1048576 < (len : Int)) ∨ ((t.size : Int) ≤ 1048576 ∧ (n.size : Int) ≤ 1048576 ∧ (len : Int) ≤ 1048576 ∧ 1048576 < (t.size : Int) + n.size + len)) :
    Calls Try.prog 3 #[.string t, .string n, .slice a len cap] w fun e w' => e = .returned (.bool true) ∧ Below w.heap.size w w' := by
  go_enter Try.func3, Try.ntmps3
  go_wp2_with fail
  refine (bytes_any t n a len cap _).mono ?_
  rintro e w' ⟨⟨r, rfl⟩, rfl⟩
  cases r
  · go_wp2_with fail
    go_ret
    exact ⟨rfl, Below.refl _ _⟩
  · rcases h with h | ⟨h1, h⟩ | ⟨h1, h2, h⟩ | ⟨h1, h2, h3, h⟩
    · go_wp2_with fail
      all_goals
        go_ret
        exact ⟨rfl, Below.refl _ _⟩
    · go_wp2_with fail
      all_goals
        go_ret
        exact ⟨rfl, Below.refl _ _⟩
    · go_wp2_with fail
      all_goals
        go_ret
        exact ⟨rfl, Below.refl _ _⟩
    · go_wp2_with fail
      all_goals
        go_ret
        exact ⟨rfl, Below.refl _ _⟩

/-- The clone, whatever came in. -/
theorem clone_any (a : Option Addr) (len cap : Nat) (zs : List Int) (w : World) (hlen : len ≤ 1048576) (hr : IsRow .u8 w a len cap zs) :
    Calls Try.prog 7 #[.slice a len cap] w fun e w' => ∃ a' c', e = .returned (.slice a' len c') ∧ Below w.heap.size w w' ∧ Cloned w w' len a' c' := by
  rcases hr with ⟨rfl, rfl, rfl, rfl⟩ | ⟨x, rfl, hl, _, hz, hcell, _⟩
  · exact (clone_nil w).mono fun e w' ⟨he, hw⟩ => ⟨none, 0, he, hw ▸ Below.refl _ _, .inl ⟨rfl, rfl, rfl⟩⟩
  · by_cases h0 : len = 0
    · subst h0
      exact (clone_empty x cap w).mono fun e w' ⟨he, hb, hlt⟩ => ⟨_, _, he, hb, .inr ⟨[], rfl, rfl, hlt, fun i hi => absurd hi (Nat.not_lt_zero _)⟩⟩
    · have hc0 := hcell 0 (by omega)
      have hsp := World.cell?_spot hc0
      obtain ⟨b, off, sp⟩ := x
      have hs2 : sp = none := by
        cases sp with
        | none => rfl
        | some q => simp [Addr.add] at hsp
      subst hs2
      have hadd : ∀ i, (⟨b, off, none⟩ : Addr).add i = ⟨b, off + i, none⟩ := fun i => by simp [Addr.add]
      have hb : b < w.heap.size := by
        rw [hadd] at hc0
        rcases Nat.lt_or_ge b w.heap.size with h | h
        · exact h
        · simp [World.cell?, h] at hc0
      exact (clone_some b off len cap zs w hlen hb (fun i hi => by rw [← hadd]; exact hcell i (by omega))).mono fun e w' ⟨he, hbl, hlt, l, _, hc⟩ => ⟨_, _, he, hbl, .inr ⟨l, rfl, rfl, hlt, hc⟩⟩

/-- JoinKey's answer is taken apart by SplitKey. -/
theorem join_split (t n : ByteArray) (h1 : t.size ≤ 1048576) (h2 : n.size ≤ 1048576) (hd : dotB t = false) :
    ∃ K : ByteArray, (∀ w, Calls Try.prog 14 #[.string t, .string n] w fun e w' => e = .returned (.string K) ∧ w' = w) ∧
      (∀ w, Calls Try.prog 10 #[.string K] w fun e w' => e = .returned (.tuple #[.string t, .string n]) ∧ Below w.heap.size w w') := by
  cases hm : (t.toList == [109, 97, 105, 110]) with
  | false => exact ⟨_, fun w => join_other t n w h1 h2 hm, fun w => split_at t n w hd h1 h2⟩
  | true =>
    have hml : (⟨#[109, 97, 105, 110]⟩ : ByteArray).toList = [109, 97, 105, 110] := by rw [Lib.toList_data]
    have ht : t = ⟨#[109, 97, 105, 110]⟩ := same_bytes _ _ (by rw [hml]; exact hm)
    subst ht
    cases hn : dotB n with
    | true => exact ⟨_, fun w => join_main n w h2 hn, fun w => split_at _ n w hd h1 h2⟩
    | false => exact ⟨n, fun w => join_alone n w hn, fun w => (split_none n w hn).mono fun e w' ⟨he, hw⟩ => ⟨he, hw ▸ Below.refl _ _⟩⟩

theorem walk (a0 : ByteArray) (a1 : ByteArray) (a2 : Option Addr) (len2 cap2 : Nat) (z2 : List Int) (w : World) (w0 : a0.size ≤ maxLen) (w1 : a1.size ≤ maxLen) (w2 : IsRow .u8 w a2 len2 cap2 z2) :
    Calls Try.prog 3 #[.string a0, .string a1, .slice a2 len2 cap2] w fun e w' => e = .returned (.bool true) ∧ Below w.heap.size w w' := by
  by_cases h1 : a0.size ≤ 1048576
  · by_cases h2 : a1.size ≤ 1048576
    · by_cases h3 : len2 ≤ 1048576
      · by_cases hsum : a0.size + a1.size + len2 ≤ 1048576
        · cases hd : dotB a0 with
          | true => exact law_dot a0 a1 a2 len2 cap2 w h1 h2 h3 hsum (fun w => by rw [← hd]; exact hasdot_any a0 w h1)
          | false =>
            obtain ⟨K, hj, hs⟩ := join_split a0 a1 h1 h2 hd
            exact law_core a0 a1 K a2 len2 cap2 w h1 h2 h3 hsum (fun w => by rw [← hd]; exact hasdot_any a0 w h1) hj hs (clone_any a2 len2 cap2 z2 w h3 w2)
        · exact law_big a0 a1 a2 len2 cap2 w (by omega)
      · exact law_big a0 a1 a2 len2 cap2 w (by omega)
    · exact law_big a0 a1 a2 len2 cap2 w (by omega)
  · exact law_big a0 a1 a2 len2 cap2 w (by omega)

/-! ### THE ROW's STEP: WRITTEN OUT: LEAVE IT -/
set_option maxRecDepth 100000 in
theorem lifted (os : Os) (started : os.Started) (H : Type) (enc : TypeId × Value → H) :
    ReturnsInHanded {} Try.checked os 3 .any (Rows.fnCursorKVSplitsBackSpec.pre6 enc Try.prog Try.f3 Rows.fnCursorKVSplitsBackRow.domain false) (Rows.fnCursorKVSplitsBackSpec.post enc Try.prog Try.f3 false true false false) := by
  refine returnsInHanded_of_change (C := Try.checked) own started (by kernel_rfl) Try.func3
    (ChangeSpec.witness6 (enc := enc) (C := Try.checked) false ⟨#[], #[.string ByteArray.empty, .string ByteArray.empty, .slice none 0 0], []⟩ 8 (by kernel_rfl) (by kernel_rfl) (by kernel_rfl) (by kernel_rfl)) ?_
  intro W base args ds gs before hval0 hW hcnd _
  have hval : ∀ (j : Nat) t v, Try.f3.params[j]? = some t → args[j]? = some v → Value.okWide Try.prog W .any base t v := hval0
  have hW' := hW
  obtain ⟨p, q, hA0, hV, rfl, hfz, hnd⟩ := hW
  have hA : DataW.TrodAll enc Try.prog W 0 (fun _ => true) true Try.f3.params.toList args.toList ds p := hA0
  rw [Try.params3] at hA hval
  obtain ⟨v0, vs0, d0, ds0, p0, q0, hargs, rfl, rfl, h0, r0⟩ := trodAll_cons hA
  obtain ⟨v1, vs1, d1, ds1, p1, q1, rfl, rfl, rfl, h1, r1⟩ := trodAll_cons r0
  obtain ⟨v2, vs2, d2, ds2, p2, q2, rfl, rfl, rfl, h2, r2⟩ := trodAll_cons r1
  obtain ⟨rfl, rfl, rfl⟩ := trodAll_nil r2
  obtain rfl : args = #[v0, v1, v2] := by cases args; simp_all
  obtain ⟨rfl, rfl⟩ := trodVars_none hV
  obtain ⟨a0, rfl, rfl, rfl, w0⟩ := open_string Try.underlying9 (hval 0 9 v0 rfl rfl) h0
  obtain ⟨a1, rfl, rfl, rfl, w1⟩ := open_string Try.underlying9 (hval 1 9 v1 rfl rfl) h1
  obtain ⟨a2, len2, cap2, rfl⟩ := okWide_slice Try.underlying22 (hval 2 22 v2 rfl rfl)
  have k2 := h2
  have lt2 : ∀ x ∈ p2, x.block < W.heap.size := by obtain ⟨m, hm⟩ := k2; exact DataW.trod_lt m _ _ _ hm
  obtain ⟨z2, w2⟩ : ∃ zs, IsRow .u8 W a2 len2 cap2 zs := by
    obtain ⟨fuel, hf⟩ := h2
    rcases open_ints Try.underlying22 Try.underlying5 (by kernel_rfl) hf with ⟨hcs, _⟩ | ⟨x, l, c, zs, hcs, _, hl, hm, hz, _, hcell, hwz⟩
    · simp [Value.cells] at hcs
      obtain ⟨rfl, rfl, rfl⟩ := hcs
      exact ⟨[], .inl ⟨rfl, rfl, rfl, rfl⟩⟩
    · simp [Value.cells] at hcs
      obtain ⟨rfl, rfl, rfl⟩ := hcs
      exact ⟨zs, .inr ⟨_, rfl, hl, hm, by simpa using hz, hcell, hwz⟩⟩
  clear hA0 hval0
  refine (walk a0 a1 a2 len2 cap2 z2 W w0 w1 w2).mono fun e W' ⟨he, bel⟩ => ?_
  subst he
  exact ⟨_, rfl, _, _, _, [], _, [], hW', trodAll_mk1 (shut_bool Try.underlying4 _), (trodAll_cons_mk (shut_string Try.underlying9 w0) (trodAll_cons_mk (shut_string Try.underlying9 w1) (trodAll_cons_mk (Below.trod laidOut (by kernel_rfl) (of_decide_eq_true (by kernel_rfl)) k2 bel lt2) trodAll_mk0))), rfl, bel.frame _, fun h => by cases h⟩

theorem over : Rows.fnCursorKVSplitsBackRow.holds Try.pinned (OpenSpec.ofChange Rows.fnCursorKVSplitsBackSpec) :=
  OpenClaim.holds_of_wide 3 Try.f3 rfl rfl rfl rfl rfl rfl rfl ⟨rfl, rfl, rfl, rfl, rfl⟩ rfl rfl rfl rfl rfl (by kernel_rfl) Try.func3 (by kernel_rfl)
    (of_decide_eq_true (by kernel_rfl)) (by unfold Func.isWrapper; first | (rw [if_pos (by decide +kernel)]; kernel_rfl) | (rw [if_neg (by decide +kernel)]; exact ⟨rfl, rfl⟩))
    (fun os started H enc _ => lifted os started H enc)

/-- The statement. -/
theorem proved : Rows.FnCursorKVSplitsBackSaid := over
end Go.Proofs.Qxb6609409a.fnCursorKVSplitsBack
