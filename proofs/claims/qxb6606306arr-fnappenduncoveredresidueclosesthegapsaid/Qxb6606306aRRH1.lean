/- hold. -/
import Derived.Test.Qxb6606306aRRM2
namespace Go.Proofs.Qxb6606306aRR
open Go.RowKit Go.Maps

/-- Every cell stands. -/
def CK (w w' : World) : Prop := w.heap.size ≤ w'.heap.size ∧ ∀ b j v, w.cell? ⟨b, j, none⟩ = some v → w'.cell? ⟨b, j, none⟩ = some v
theorem CK.refl (w : World) : CK w w := ⟨Nat.le_refl _, fun _ _ _ h => h⟩
theorem CK.trans {a b c : World} (h : CK a b) (k : CK b c) : CK a c := ⟨Nat.le_trans h.1 k.1, fun b j v e => k.2 b j v (h.2 b j v e)⟩
theorem cell_lt {w : World} {b j : Nat} {v : Value} (h : w.cell? ⟨b, j, none⟩ = some v) : b < w.heap.size := by
  unfold World.cell? at h
  split at h
  · rename_i cs t r hh; exact (Array.getElem?_eq_some_iff.1 hh).1
  · cases h
theorem CK.of_below {w w' : World} (h : Below w.heap.size w w') : CK w w' := ⟨h.size, fun b j _ e => (h.cell (p := ⟨b, j, none⟩) (cell_lt e)).trans e⟩
theorem CK.of_kept {w w' : World} {mA base n : Nat} {A : Fn} (h : MapAt w 83 mA n A) (k : Kept mA base w w') : CK w w' := ⟨k.1, fun b j v e => k.cell (by
  intro hb
  subst hb
  obtain ⟨D, ⟨es, cl, h1, _⟩, _⟩ := h
  simp [World.cell?, h1] at e) e⟩
theorem Strs.ck {F : Nat → Prop} {w w' : World} {v : Value} {xs : List ByteArray} (h : Strs F w v xs) (s : CK w w') : Strs F w' v xs := by
  obtain ⟨a, cap, rfl, hc, hz⟩ := h
  refine ⟨a, cap, rfl, fun i hi => ?_, hz⟩
  obtain ⟨b, off, ha, hF, hl, hcell⟩ := hc i hi
  exact ⟨b, off, ha, hF, Nat.lt_of_lt_of_le hl s.1, s.2 _ _ _ hcell⟩

/-- What hold leaves. -/
def Held (w w' : World) (c mA base n : Nat) (A : Fn) (N : Nat → Fn) (x : Value) (names : List ByteArray) : Prop :=
  ∃ A' N', CovAt w' c mA base (n + 1 + names.length) A' N' ∧ Le A N A' N' ∧ Granted A' N' x names ∧ Kept mA base w w' ∧ Below mA w w'

theorem held_all {w w' : World} {c mA base n : Nat} {A : Fn} {N : Nat → Fn} {x : Value} {names : List ByteArray} (h : CovAt w' c mA base n A N) (ha : allV (A x) = true) (hk : Kept mA base w w') (hb : Below mA w w') : Held w w' c mA base n A N x names :=
  ⟨A, N, h.mono (by omega), Le.refl _ _, ⟨fun _ => ha, fun s _ => by rw [ha]; rfl⟩, hk, hb⟩

/-- Behind the look-up: two boxes, nothing else. -/
theorem boxes {w : World} (o1 o2 : Obj) : Below w.heap.size w ((w.alloc o1).alloc o2).drew := (((Below.refl _ _).alloc (Nat.le_refl _) _).alloc (by simp) _).drew
theorem held_of {w W w' : World} {c mA base n m : Nat} {A A' : Fn} {N N' : Nat → Fn} {x : Value} {names : List ByteArray} (hW : Below w.heap.size w W) (hA : mA ≤ w.heap.size) (h : CovAt w' c mA base m A' N') (hm : m ≤ n + 1 + names.length) (hle : Le A N A' N') (hg : Granted A' N' x names) (hk : Kept mA base W w') (hb : Below mA W w') : Held w w' c mA base n A N x names :=
  ⟨A', N', h.mono hm, hle, hg, (Kept.of_below hW).trans hk, (hW.mono hA).trans hb⟩
/-- The loop's invariant: the first k names are held. -/
def NamesIn (W w' : World) (c mA base n : Nat) (A : Fn) (N : Nat → Fn) (x : Value) (names : List ByteArray) (k : Nat) : Prop :=
  ∃ N', CovAt w' c mA base (n + k) A N' ∧ Le A N A N' ∧ (∀ j, j < k → (allV (A x) || nameV A N' x (names.getD j ByteArray.empty)) = true) ∧ Kept mA base W w' ∧ Below mA W w'
theorem NamesIn.step {W w' : World} {c mA base n : Nat} {A : Fn} {N : Nat → Fn} {x : Value} {names : List ByteArray} {k bN : Nat} (h : NamesIn W w' c mA base n A N x names k) (hn : n + k < Go.maxLen) (hx : mapV (A x) = some bN) {s : ByteArray} (hs : s.size ≤ Go.maxLen) (hk : names.getD k ByteArray.empty = s) :
    ∃ w2, (Instr.mapUpdate 86 (.map (some bN)) (.string s) (.bool true)).run Try.prog w' = .ok () w2 ∧ NamesIn W w2 c mA base n A N x names (k + 1) := by
  obtain ⟨N', h1, h2, h3, h4, h5⟩ := h
  obtain ⟨w2, N2, hrun, g1, g2, g3, g4, g5⟩ := h1.addName hn hx hs
  refine ⟨w2, hrun, N2, g1, h2.trans g3, fun j hj => ?_, h4.trans g4, h5.trans g5⟩
  by_cases e : j = k
  · subst e; rw [hk, g2, Bool.or_true]
  · exact g3.2 x _ (h3 j (by omega))
theorem NamesIn.cells {W w' : World} {c mA base n : Nat} {A : Fn} {N : Nat → Fn} {x : Value} {names : List ByteArray} {k : Nat} (h : NamesIn W w' c mA base n A N x names k) {m : Nat} {A0 : Fn} (hm : MapAt W 83 mA m A0) : CK W w' := by
  obtain ⟨N', _, _, _, h4, _⟩ := h
  exact CK.of_kept hm h4
theorem NamesIn.done {w W w' : World} {c mA base n n0 : Nat} {A A0 : Fn} {N N0 : Nat → Fn} {x : Value} {names : List ByteArray} (h : NamesIn W w' c mA base n A N x names names.length) (hne : names ≠ []) (hW : Kept mA base w W) (hWb : Below mA w W) (hle : Le A0 N0 A N) (hn : n + names.length ≤ n0 + 1 + names.length) : Held w w' c mA base n0 A0 N0 x names := by
  obtain ⟨N', h1, h2, h3, h4, h5⟩ := h
  refine ⟨A, N', h1.mono hn, hle.trans h2, ⟨fun e => absurd e hne, fun s hs => ?_⟩, hW.trans h4, hWb.trans h5⟩
  obtain ⟨j, hj, rfl⟩ := List.getElem_of_mem hs
  have := h3 j hj
  rwa [List.getD_eq_getElem?_getD, List.getElem?_eq_getElem hj] at this
theorem eqlNil86 (w : World) : (binOp .eql 86 (.map none) (.map none)).run Try.prog w = .ok (.bool true) w := by kernel_rfl
theorem eqlSome86 (b : Nat) (w : World) : (binOp .eql 86 (.map (some b)) (.map none)).run Try.prog w = .ok (.bool false) w := by kernel_rfl
theorem make86 (n : Int) (w : World) : (Instr.makeMap 86 (some (.int .i64 n))).run Try.prog w = .ok (.map (some w.heap.size)) (w.alloc (.map #[] 0)) := by
  simp [Instr.makeMap, run_underlying Try.underlying86, asInt, asIntOf, Result.andThen]
/-- The world behind the look-up. -/
theorem hold_world (w : World) (c mA base n : Nat) (A : Fn) (N : Nat → Fn) (v g s : ByteArray) (b : Bool) (q : Bool) (m : Option Nat) (h : CovAt w c mA base n A N) (W : World) (hW : ((w.alloc (.cells #[.string v, .string g, .string s, .bool b] 83)).alloc (.cells #[.bool q, .map m] 88)).drew = W) :
    (W.cell? ⟨w.heap.size, 0, none⟩ = some (.string v) ∧ W.cell? ⟨w.heap.size, 1, none⟩ = some (.string g) ∧ W.cell? ⟨w.heap.size, 2, none⟩ = some (.string s) ∧ W.cell? ⟨w.heap.size, 3, none⟩ = some (.bool b)) ∧
    (W.cell? ⟨w.heap.size + 1, 0, none⟩ = some (.bool q) ∧ W.cell? ⟨w.heap.size + 1, 1, none⟩ = some (.map m) ∧ W.frozen? ⟨w.heap.size + 1, 1, none⟩ = false) ∧ W.cell? ⟨c, 1, none⟩ = some (.map (some mA)) ∧ Below w.heap.size w W ∧ W.heap.size = w.heap.size + 2 := by
  subst hW
  refine ⟨⟨?_, ?_, ?_, ?_⟩, ⟨?_, ?_, ?_⟩, ?_, boxes _ _, by simp⟩
  all_goals try (go_simp; done)
  exact ((boxes (w := w) _ _).cell (p := ⟨c, 1, none⟩) (cell_lt h.cell)).trans h.cell
theorem hold_new (w W : World) (c mA base n : Nat) (A : Fn) (N : Nat → Fn) (h : CovAt w c mA base n A N) (hb : Below w.heap.size w W) (hz : W.heap.size = w.heap.size + 2) (hbase : base ≤ w.heap.size) (hn : n < Go.maxLen) {x : Value} {l : Lit} (hx : keyOf Try.prog 83 x = some l) (h1 : allV (A x) = false) (h2 : mapV (A x) = none) {x0 x1 x2 x3 y0 y1 : Value}
    (k : W.cell? ⟨w.heap.size, 0, none⟩ = some x0 ∧ W.cell? ⟨w.heap.size, 1, none⟩ = some x1 ∧ W.cell? ⟨w.heap.size, 2, none⟩ = some x2 ∧ W.cell? ⟨w.heap.size, 3, none⟩ = some x3) (k0 : W.cell? ⟨w.heap.size + 1, 0, none⟩ = some y0) (k1 : W.cell? ⟨w.heap.size + 1, 1, none⟩ = some y1) :
    ∃ W2, (W.setCell ⟨w.heap.size + 1, 1, none⟩ (.map (some (w.heap.size + 2)))).alloc (.map #[] 0) = W2 ∧ (W2.cell? ⟨w.heap.size, 0, none⟩ = some x0 ∧ W2.cell? ⟨w.heap.size, 1, none⟩ = some x1 ∧ W2.cell? ⟨w.heap.size, 2, none⟩ = some x2 ∧ W2.cell? ⟨w.heap.size, 3, none⟩ = some x3) ∧ W2.cell? ⟨w.heap.size + 1, 0, none⟩ = some y0 ∧ W2.cell? ⟨w.heap.size + 1, 1, none⟩ = some (.map (some (w.heap.size + 2))) ∧ W2.cell? ⟨c, 1, none⟩ = some (.map (some mA)) ∧
    ∃ w' A' N', (Instr.mapUpdate 67 (.map (some mA)) x (.agg #[.bool false, .map (some (w.heap.size + 2))])).run Try.prog W2.drew = .ok () w' ∧ CovAt w' c mA base (n + 1) A' N' ∧ mapV (A' x) = some (w.heap.size + 2) ∧ Le A N A' N' ∧ Kept mA base w w' ∧ Below mA w w' ∧ CK w w' ∧ w'.cell? ⟨w.heap.size + 1, 1, none⟩ = some (.map (some (w.heap.size + 2))) := by
  have hp : w.heap.size ≤ (⟨w.heap.size + 1, 1, none⟩ : Addr).block := Nat.le_succ _
  have hz' : (W.setCell ⟨w.heap.size + 1, 1, none⟩ (.map (some (w.heap.size + 2)))).heap.size = w.heap.size + 2 := by rw [← hz]; simp
  have hB : Below w.heap.size w ((W.setCell ⟨w.heap.size + 1, 1, none⟩ (.map (some (w.heap.size + 2)))).alloc (.map #[] 0)) := (hb.setCell hp _).alloc (by omega) _
  have hB1 : Below (w.heap.size + 2) (W.setCell ⟨w.heap.size + 1, 1, none⟩ (.map (some (w.heap.size + 2)))) ((W.setCell ⟨w.heap.size + 1, 1, none⟩ (.map (some (w.heap.size + 2)))).alloc (.map #[] 0)) := (Below.refl _ _).alloc (by omega) _
  have hm : MapAt ((W.setCell ⟨w.heap.size + 1, 1, none⟩ (.map (some (w.heap.size + 2)))).alloc (.map #[] 0)).drew 9 (w.heap.size + 2) 0 (fun _ => none) := by
    have := MapAt.made (W.setCell ⟨w.heap.size + 1, 1, none⟩ (.map (some (w.heap.size + 2)))) 9
    rwa [hz'] at this
  have e0 : ∀ j, ((W.setCell ⟨w.heap.size + 1, 1, none⟩ (.map (some (w.heap.size + 2)))).alloc (.map #[] 0)).cell? ⟨w.heap.size, j, none⟩ = W.cell? ⟨w.heap.size, j, none⟩ := fun j => (hB1.cell (p := ⟨w.heap.size, j, none⟩) (by show w.heap.size < _; omega)).trans ((Same.set W ⟨w.heap.size + 1, 1, none⟩ _).cell (p := ⟨w.heap.size, j, none⟩) (by show w.heap.size ≠ w.heap.size + 1; omega) (by show w.heap.size < _; omega))
  have e1 : ((W.setCell ⟨w.heap.size + 1, 1, none⟩ (.map (some (w.heap.size + 2)))).alloc (.map #[] 0)).cell? ⟨w.heap.size + 1, 1, none⟩ = some (.map (some (w.heap.size + 2))) := (hB1.cell (p := ⟨w.heap.size + 1, 1, none⟩) (by show w.heap.size + 1 < _; omega)).trans (World.cell?_setCell_same' W _ _ (by rw [k1]; rfl))
  have e2 : ((W.setCell ⟨w.heap.size + 1, 1, none⟩ (.map (some (w.heap.size + 2)))).alloc (.map #[] 0)).cell? ⟨w.heap.size + 1, 0, none⟩ = some y0 := (hB1.cell (p := ⟨w.heap.size + 1, 0, none⟩) (by show w.heap.size + 1 < _; omega)).trans ((World.cell?_setCell_other _ _ _ _ (by intro hh; cases hh)).trans k0)
  have hC := h.below (cell_lt h.cell) hB.drew
  obtain ⟨w', A', N', hrun, g1, g2, g3, g4, g5⟩ := hC.setNew hn hx h1 h2 (bN := w.heap.size + 2) (by omega) (fun y b hy => by have := (h.maps y b hy).2.lt; omega) hm
  have hck := CK.of_kept hC.acts g4
  exact ⟨_, rfl, ⟨(e0 _).trans k.1, (e0 _).trans k.2.1, (e0 _).trans k.2.2.1, (e0 _).trans k.2.2.2⟩, e2, e1, hC.cell, w', A', N', hrun, g1, g2, g3, (Kept.of_below hB.drew).trans g4, (hB.drew.mono (Nat.le_of_lt h.acts.lt)).trans g5, (CK.of_below hB.drew).trans hck, hck.2 _ _ _ e1⟩
set_option maxRecDepth 8000 in
set_option maxHeartbeats 1000000 in
theorem hold_any (F : Nat → Prop) (c mA base n : Nat) (A : Fn) (N : Nat → Fn) (v g s : ByteArray) (b : Bool) (nv : Value) (names : List ByteArray) (w : World) (h : CovAt w c mA base n A N) (hN : Strs F w nv names)
    (hv : v.size ≤ Go.maxLen) (hg : g.size ≤ Go.maxLen) (hs : s.size ≤ Go.maxLen) (hn : n + 1 + names.length < Go.maxLen) (hlen : names.length ≤ 1048576) (hbase : base ≤ w.heap.size) :
    Calls Try.prog 42 #[.pointer (some ⟨c, 0, none⟩), actV v g s b, nv] w fun e w' => e = .returned (.tuple #[]) ∧ Held w w' c mA base n A N (actV v g s b) names := by
  obtain ⟨l, hl⟩ := key83 v g s b hv hg hs
  have hc : c < w.heap.size := cell_lt h.cell
  obtain ⟨al, hal⟩ : ∃ al, allV (A (actV v g s b)) = al := ⟨_, rfl⟩
  obtain ⟨m, hm⟩ : ∃ m, mapV (A (actV v g s b)) = m := ⟨_, rfl⟩
  have hlook : ∀ w', Below w.heap.size w w' → (Instr.lookup 67 (.map (some mA)) (.agg #[.string v, .string g, .string s, .bool b]) false).run Try.prog w' = .ok (.agg #[.bool al, .map m]) w' := fun w' hb => by
    have := (h.below hc hb).look hl
    rw [hal, hm] at this
    exact this
  have hl1 := hlook (w.alloc (.cells #[.string v, .string g, .string s, .bool b] 83)).drew (((Below.refl _ _).alloc (Nat.le_refl _) _).drew)
  have hl2 := hlook ((w.alloc (.cells #[.string v, .string g, .string s, .bool b] 83)).alloc (.cells #[.bool false, .map none] 88)).drew ((((Below.refl _ _).alloc (Nat.le_refl _) _).alloc (by simp) _).drew)
  have hcell : ∀ o, (w.alloc o).cell? ⟨c, 1, none⟩ = some (.map (some mA)) := fun o => (((Below.refl w.heap.size w).alloc (Nat.le_refl _) o).cell (p := ⟨c, 1, none⟩) hc).trans h.cell
  unfold actV
  go_enter Try.func42, Try.ntmps42
  go_wp2_with fail
  go_region
  all_goals
    obtain ⟨W, hW⟩ : ∃ W, ((w.alloc (.cells #[.string v, .string g, .string s, .bool b] 83)).alloc (.cells #[.bool al, .map m] 88)).drew = W := ⟨_, rfl⟩
    rw [hW]
    obtain ⟨⟨x0, x1, x2, x3⟩, ⟨y0, y1, f1⟩, hc1, hBW, hzW⟩ := hold_world w c mA base n A N v g s b al m h W hW
    have HBW : Hid _ := hBW
    have HC : Hid (CovAt w c mA base n A N) := h
    have HNS : Hid (Strs F w nv names) := hN
    obtain ⟨na, ncap, rfl, _, _⟩ := hN
    clear hlook hl1 hl2 hW hcell h hBW
    cases al with
    | true =>
      have HF : Hid (Held w _ c mA base n A N _ names) := held_all (names := names) (HC.out.below hc HBW.out) hal (Kept.of_below HBW.out) (HBW.out.mono (Nat.le_of_lt HC.out.acts.lt))
      go_wp2_with fail
      exact bodyPost_ret (v := .tuple #[]) (by simp [results, Try.results42, go_sem]) rfl ⟨rfl, HF.out⟩
    | false =>
      by_cases hnm : names.length = 0
      · obtain ⟨w1, A1, hrun, g1, g2, g3, g4, g5⟩ := CovAt.setAll (w := W.drew) (HC.out.below hc HBW.out.drew) (by omega) hl
        have HF : Hid (Held w w1 c mA base n A N (actV v g s b) names) := held_of HBW.out.drew (Nat.le_of_lt HC.out.acts.lt) g1 (by omega) g3 ⟨fun _ => g2, fun s _ => by rw [g2]; rfl⟩ g4 g5
        have hnm' : (names.length : Int) = 0 := by omega
        clear g1 g2 g3 g4 g5
        unfold actV at hrun
        go_wp2_with fail
        go_region
        go_wp2_with fail
        exact bodyPost_ret (v := .tuple #[]) (by simp [results, Try.results42, go_sem]) rfl ⟨rfl, HF.out⟩
      · have hnm' : ¬ (names.length : Int) = 0 := by omega
        cases m with
        | none =>
          obtain ⟨W2, hW2, ⟨z0, z1, z2, z3⟩, z4, z5, z6, w1, A1, N1, hrun, g1, g2, g3, g4, g5, g6, g7⟩ := hold_new w W c mA base n A N HC.out HBW.out hzW hbase (by omega) hl hal hm ⟨x0, x1, x2, x3⟩ y0 y1
          unfold actV at hrun
          have HG1 : Hid (CovAt w1 c mA base (n + 1) A1 N1) := g1
          have HG2 : Hid (mapV (A1 (actV v g s b)) = some (w.heap.size + 2)) := g2
          have HG3 : Hid (Le A N A1 N1) := g3
          have HG4 : Hid (Kept mA base w w1) := g4
          have HG5 : Hid (Below mA w w1) := g5
          have HG6 : Hid (CK w w1) := g6
          have k1 := eqlNil86
          have k2 := make86
          have HW2 : Hid _ := hW2
          clear g1 g2 g3 g4 g5 g6 hW2
          go_wp2_with fail
          rw [HW2.out]
          clear HW2 x0 x1 x2 x3 y0 y1 f1 hc1
          go_region
          clear z0 z1 z2 z3 z4 z5 z6 hrun
          go_wp2_with fail
          go_loopw [44] (fun i wr => ∃ k : Nat, k ≤ names.length ∧ i = .int .i64 k ∧ Hid (NamesIn w1 wr c mA base (n + 1) A1 N1 (actV v g s b) names k)) (fun i _ => names.length - (intOf i).toNat)
          case atStart => exact ⟨0, Nat.zero_le _, rfl, N1, HG1.out, Le.refl _ _, fun j hj => absurd hj (Nat.not_lt_zero _), Kept.refl _ _ _, Below.refl _ _⟩
          case round =>
            obtain ⟨k, hk, rfl, hrel⟩ := hrel
            by_cases hlt : k < names.length
            · have hck := hrel.out.cells HG1.out.acts
              obtain ⟨na', nc', he, hcs, hz⟩ := HNS.out.ck (HG6.out.trans hck)
              obtain ⟨b', off, ha, _, hbl, hcell⟩ := hcs k hlt
              have hae : na = some ⟨b', off, none⟩ := by cases he; exact ha
              subst hae
              obtain ⟨t, ht⟩ : ∃ t, names.getD k ByteArray.empty = t := ⟨_, rfl⟩
              rw [ht] at hcell
              obtain ⟨w3, hrun, hst⟩ := hrel.out.step (by omega) HG2.out (hz t (ht ▸ getD_mem names k hlt)) ht
              have HST : Hid _ := hst
              have hb7 := hck.2 _ _ _ g7
              clear hcs he ha hrel hck hst ht hz
              go_wp2_with fail
              go_roundw
              case rel => exact ⟨k + 1, by omega, by go_num, HST.out⟩
              case measure => simp [intOf]; omega
            · obtain rfl : k = names.length := by omega
              have HF : Hid (Held w wr c mA base n A N (actV v g s b) names) := hrel.out.done (by intro e; rw [e] at hnm; exact hnm rfl) HG4.out HG5.out HG3.out (by omega)
              clear hrel
              go_wp2_with fail
              exact bodyPost_end (v := .tuple #[]) (by simp [results, Try.results42, go_sem]) rfl ⟨rfl, HF.out⟩
        | some bN =>
          have k1 := eqlSome86
          have HG1 : Hid (CovAt W c mA base n A N) := HC.out.below hc HBW.out
          have HG2 : Hid (mapV (A (actV v g s b)) = some bN) := hm
          have HG3 : Hid (Le A N A N) := Le.refl _ _
          have HG4 : Hid (Kept mA base w W) := Kept.of_below HBW.out
          have HG5 : Hid (Below mA w W) := HBW.out.mono (Nat.le_of_lt HC.out.acts.lt)
          have HG6 : Hid (CK w W) := CK.of_below HBW.out
          have g7 := y1
          go_wp2_with fail
          clear x0 x1 x2 x3 y0 y1 f1 hc1
          go_loopw [44] (fun i wr => ∃ k : Nat, k ≤ names.length ∧ i = .int .i64 k ∧ Hid (NamesIn W wr c mA base n A N (actV v g s b) names k)) (fun i _ => names.length - (intOf i).toNat)
          case atStart => exact ⟨0, Nat.zero_le _, rfl, N, HG1.out, Le.refl _ _, fun j hj => absurd hj (Nat.not_lt_zero _), Kept.refl _ _ _, Below.refl _ _⟩
          case round =>
            obtain ⟨k, hk, rfl, hrel⟩ := hrel
            by_cases hlt : k < names.length
            · have hck := hrel.out.cells HG1.out.acts
              obtain ⟨na', nc', he, hcs, hz⟩ := HNS.out.ck (HG6.out.trans hck)
              obtain ⟨b', off, ha, _, hbl, hcell⟩ := hcs k hlt
              have hae : na = some ⟨b', off, none⟩ := by cases he; exact ha
              subst hae
              obtain ⟨t, ht⟩ : ∃ t, names.getD k ByteArray.empty = t := ⟨_, rfl⟩
              rw [ht] at hcell
              obtain ⟨w3, hrun, hst⟩ := hrel.out.step (by omega) HG2.out (hz t (ht ▸ getD_mem names k hlt)) ht
              have HST : Hid _ := hst
              have hb7 := hck.2 _ _ _ g7
              clear hcs he ha hrel hck hst ht hz
              go_wp2_with fail
              go_roundw
              case rel => exact ⟨k + 1, by omega, by go_num, HST.out⟩
              case measure => simp [intOf]; omega
            · obtain rfl : k = names.length := by omega
              have HF : Hid (Held w wr c mA base n A N (actV v g s b) names) := hrel.out.done (by intro e; rw [e] at hnm; exact hnm rfl) HG4.out HG5.out HG3.out (by omega)
              clear hrel
              go_wp2_with fail
              exact bodyPost_end (v := .tuple #[]) (by simp [results, Try.results42, go_sem]) rfl ⟨rfl, HF.out⟩
end Go.Proofs.Qxb6606306aRR
