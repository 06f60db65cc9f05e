/- covers. -/
import Derived.Test.Qxb6606306aRRH1
namespace Go.Proofs.Qxb6606306aRR
open Go.RowKit Go.Maps
def star : ByteArray := ⟨#[42]⟩
def pick (v : ByteArray) (i : Nat) : ByteArray := if i = 0 then v else star
/-- Is it held at this action? -/
def hitB (A : Fn) (N : Nat → Fn) (x : Value) (name : ByteArray) (named : Bool) : Bool := allV (A x) || (named && nameV A N x name)
def coversB (A : Fn) (N : Nat → Fn) (v g s : ByteArray) (b : Bool) (name : ByteArray) (named : Bool) : Bool :=
  hitB A N (actV v g s b) name named || hitB A N (actV v star s b) name named || hitB A N (actV star g s b) name named || hitB A N (actV star star s b) name named
theorem coversB_true {A : Fn} {N : Nat → Fn} {v g s : ByteArray} {b : Bool} {name : ByteArray} {named : Bool} {i j : Nat} (h : hitB A N (actV (pick v i) (pick g j) s b) name named = true) : coversB A N v g s b name named = true := by
  unfold coversB
  unfold pick at h
  split at h <;> split at h <;> simp [h]
theorem coversB_false {A : Fn} {N : Nat → Fn} {v g s : ByteArray} {b : Bool} {name : ByteArray} {named : Bool} (h : ∀ i, i < 2 → ∀ j, j < 2 → hitB A N (actV (pick v i) (pick g j) s b) name named = false) : coversB A N v g s b name named = false := by
  unfold coversB
  have h0 := h 0 (by omega) 0 (by omega)
  have h1 := h 0 (by omega) 1 (by omega)
  have h2 := h 1 (by omega) 0 (by omega)
  have h3 := h 1 (by omega) 1 (by omega)
  simp only [pick] at h0 h1 h2 h3
  simp at h0 h1 h2 h3
  simp [h0, h1, h2, h3]
theorem pick_size {v : ByteArray} (i : Nat) (h : v.size ≤ Go.maxLen) : (pick v i).size ≤ Go.maxLen := by
  unfold pick
  split
  · exact h
  · decide
theorem idx85 (v : ByteArray) (i : Nat) (h : i < 2) (w : World) : (Instr.index 85 (.agg #[.string v, .string ⟨#[42]⟩]) (.int .i64 i)).run Try.prog w = .ok (.string (pick v i)) w := by
  rcases (by omega : i = 0 ∨ i = 1) with rfl | rfl
  · rfl
  · rfl
theorem new56 (w : World) (s : ByteArray) (b : Bool) (W : World) (hW : w.alloc (.cells #[.string s, .bool b] 56) = W) : W.cell? ⟨w.heap.size, 0, none⟩ = some (.string s) ∧ W.cell? ⟨w.heap.size, 1, none⟩ = some (.bool b) ∧ Below w.heap.size w W := by
  subst hW
  exact ⟨by go_simp, by go_simp, (Below.refl _ _).alloc (Nat.le_refl _) _⟩
theorem new88 (wr : World) (q : Bool) (m : Option Nat) (W : World) (hW : (wr.alloc (.cells #[.bool q, .map m] 88)).drew = W) : W.cell? ⟨wr.heap.size, 0, none⟩ = some (.bool q) ∧ W.cell? ⟨wr.heap.size, 1, none⟩ = some (.map m) ∧ Below wr.heap.size wr W := by
  subst hW
  exact ⟨by go_simp, by go_simp, ((Below.refl _ _).alloc (Nat.le_refl _) _).drew⟩

set_option maxRecDepth 8000 in
set_option maxHeartbeats 1000000 in
theorem covers_any (c mA base n : Nat) (A : Fn) (N : Nat → Fn) (v g s : ByteArray) (b : Bool) (name : ByteArray) (named : Bool) (w : World) (h : CovAt w c mA base n A N)
    (hv : v.size ≤ Go.maxLen) (hg : g.size ≤ Go.maxLen) (hs : s.size ≤ Go.maxLen) (hn : name.size ≤ Go.maxLen) :
    Calls Try.prog 39 #[.pointer (some ⟨c, 0, none⟩), .string v, .string g, .agg #[.string s, .bool b], .string name, .bool named] w fun e w' => e = .returned (.bool (coversB A N v g s b name named)) ∧ Below w.heap.size w w' := by
  have HC : Hid (CovAt w c mA base n A N) := h
  have hc : c < w.heap.size := cell_lt h.cell
  clear h
  go_enter Try.func39, Try.ntmps39
  go_wp2_with fail
  obtain ⟨W, hW⟩ : ∃ W, w.alloc (.cells #[.string s, .bool b] 56) = W := ⟨_, rfl⟩
  obtain ⟨x0, x1, hBW⟩ := new56 w s b W hW
  have hlW : w.heap.size < W.heap.size := cell_lt x0
  rw [hW]
  clear hW
  have HX : Hid _ := And.intro x0 x1
  have HBW : Hid (Below w.heap.size w W) := hBW
  clear x0 x1 hBW
  go_loopw [20] (fun i wr => ∃ k : Nat, k ≤ 2 ∧ i = .int .i64 k ∧ Hid (∀ i', i' < k → ∀ j, j < 2 → hitB A N (actV (pick v i') (pick g j) s b) name named = false) ∧ Hid (Below W.heap.size W wr)) (fun i _ => 2 - (intOf i).toNat)
  case atStart => exact ⟨0, by omega, rfl, fun i hi => absurd hi (Nat.not_lt_zero _), Below.refl _ _⟩
  case round =>
    obtain ⟨i, hi, rfl, hno, hb⟩ := hrel
    by_cases hlt : i < 2
    · have q1 := idx85 v i hlt
      obtain ⟨vi, hvi⟩ : ∃ t, pick v i = t := ⟨_, rfl⟩
      rw [hvi] at q1
      have HVI : Hid (pick v i = vi) := hvi
      clear hvi
      go_wp2_with fail
      go_loopw [25] (fun j wi => ∃ k : Nat, k ≤ 2 ∧ j = .int .i64 k ∧ Hid (∀ j, j < k → hitB A N (actV (pick v i) (pick g j) s b) name named = false) ∧ Hid (Below W.heap.size W wi)) (fun j _ => 2 - (intOf j).toNat)
      case atStart => exact ⟨0, by omega, rfl, fun i hi => absurd hi (Nat.not_lt_zero _), hb⟩
      case round =>
        clear hb
        obtain ⟨j, hj, rfl, hno2, hb⟩ := hrel
        by_cases hjl : j < 2
        · have q2 := idx85 g j hjl
          obtain ⟨gj, hgj⟩ : ∃ t, pick g j = t := ⟨_, rfl⟩
          rw [hgj] at q2
          have HGJ : Hid (pick g j = gj) := hgj
          obtain ⟨al, hal⟩ : ∃ al, allV (A (actV vi gj s b)) = al := ⟨_, rfl⟩
          obtain ⟨m, hm⟩ : ∃ m, mapV (A (actV vi gj s b)) = m := ⟨_, rfl⟩
          obtain ⟨nm, hnm⟩ : ∃ nm, nameV A N (actV vi gj s b) name = nm := ⟨_, rfl⟩
          have HAL : Hid (hitB A N (actV (pick v i) (pick g j) s b) name named = (al || (named && nm))) := by rw [HVI.out, hgj, ← hal, ← hnm]; rfl
          obtain ⟨l, hl⟩ := key83 vi gj s b (HVI.out ▸ pick_size i hv) (hgj ▸ pick_size j hg) hs
          have hwb : Below w.heap.size w wr := HBW.out.trans (hb.out.mono HBW.out.size)
          have hlook : ∀ w', Below w.heap.size w w' → (Instr.lookup 67 (.map (some mA)) (.agg #[.string vi, .string gj, .string s, .bool b]) false).run Try.prog w' = .ok (.agg #[.bool al, .map m]) w' := fun w' hb => by
            have := (HC.out.below hc hb).look hl
            rw [hal, hm] at this
            exact this
          have hl1 := hlook wr.drew hwb.drew
          have hl2 := hlook (wr.alloc (.cells #[.bool false, .map none] 88)).drew (hwb.alloc hwb.size _).drew
          have hcell : wr.cell? ⟨c, 1, none⟩ = some (.map (some mA)) := (hwb.cell (p := ⟨c, 1, none⟩) hc).trans HC.out.cell
          have x0 : wr.cell? ⟨w.heap.size, 0, none⟩ = some (.string s) := (hb.out.cell (p := ⟨w.heap.size, 0, none⟩) hlW).trans HX.out.1
          have x1 : wr.cell? ⟨w.heap.size, 1, none⟩ = some (.bool b) := (hb.out.cell (p := ⟨w.heap.size, 1, none⟩) hlW).trans HX.out.2
          have hcell' : ∀ o, (wr.alloc o).cell? ⟨c, 1, none⟩ = some (.map (some mA)) := fun o => (((Below.refl wr.heap.size wr).alloc (Nat.le_refl _) o).cell (p := ⟨c, 1, none⟩) (cell_lt hcell)).trans hcell
          have x0' : ∀ o, (wr.alloc o).cell? ⟨w.heap.size, 0, none⟩ = some (.string s) := fun o => (((Below.refl wr.heap.size wr).alloc (Nat.le_refl _) o).cell (p := ⟨w.heap.size, 0, none⟩) (cell_lt x0)).trans x0
          have x1' : ∀ o, (wr.alloc o).cell? ⟨w.heap.size, 1, none⟩ = some (.bool b) := fun o => (((Below.refl wr.heap.size wr).alloc (Nat.le_refl _) o).cell (p := ⟨w.heap.size, 1, none⟩) (cell_lt x0)).trans x1
          have HWB : Hid _ := hwb
          have HHM : Hid (mapV (A (actV vi gj s b)) = m ∧ nameV A N (actV vi gj s b) name = nm) := ⟨hm, hnm⟩
          clear hlook hgj hal hm hnm hwb hl
          go_wp2_with fail
          go_region
          all_goals
            obtain ⟨W1, hW1⟩ : ∃ W1, (wr.alloc (.cells #[.bool al, .map m] 88)).drew = W1 := ⟨_, rfl⟩
            rw [hW1]
            obtain ⟨y0, y1, hb1⟩ := new88 wr al m W1 hW1
            have hw1 : Below w.heap.size w W1 := HWB.out.trans (hb1.mono HWB.out.size)
            have hnl := (HC.out.below hc hw1).lookName (actV vi gj s b) hn
            rw [HHM.out.1, HHM.out.2] at hnl
            have HW1 : Hid (Below W.heap.size W W1) := hb.out.trans (hb1.mono hb.out.size)
            have HF : Hid (Below w.heap.size w W1) := hw1
            clear hl1 hl2 hcell x0 x1 hcell' x0' x1' hW1 hb hb1 hw1 HWB HHM
            cases al
            · cases named
              · have HN : Hid (∀ k, k < j + 1 → hitB A N (actV (pick v i) (pick g k) s b) name false = false) := fun k hk => by
                  rcases (by omega : k < j ∨ k = j) with hk | rfl
                  · exact hno2.out k hk
                  · rw [HAL.out]; rfl
                clear hno hno2 HAL hnl
                go_wp2_with fail
                go_roundw
                case rel => exact ⟨j + 1, by omega, by go_num, HN.out, HW1.out⟩
                case measure => simp [intOf]; omega
              · cases nm
                · have HN : Hid (∀ k, k < j + 1 → hitB A N (actV (pick v i) (pick g k) s b) name true = false) := fun k hk => by
                    rcases (by omega : k < j ∨ k = j) with hk | rfl
                    · exact hno2.out k hk
                    · rw [HAL.out]; rfl
                  clear hno hno2 HAL
                  go_wp2_with fail
                  go_roundw
                  case rel => exact ⟨j + 1, by omega, by go_num, HN.out, HW1.out⟩
                  case measure => simp [intOf]; omega
                · have HT : Hid (coversB A N v g s b name true = true) := coversB_true (i := i) (j := j) HAL.out
                  clear hno hno2 HAL
                  go_wp2_with fail
                  go_ret
                  exact ⟨by rw [HT.out]; rfl, HF.out⟩
            · have HT : Hid (coversB A N v g s b name named = true) := coversB_true (i := i) (j := j) HAL.out
              clear hno hno2 HAL hnl
              go_wp2_with fail
              go_ret
              exact ⟨by rw [HT.out]; rfl, HF.out⟩
        · obtain rfl : j = 2 := by omega
          have HN : Hid (∀ i', i' < i + 1 → ∀ j, j < 2 → hitB A N (actV (pick v i') (pick g j) s b) name named = false) := fun i' hi' => by
            rcases (by omega : i' < i ∨ i' = i) with hk | rfl
            · exact hno.out i' hk
            · exact hno2.out
          clear hno hno2
          go_wp2_with fail
          go_roundw
          case rel => exact ⟨i + 1, by omega, by go_num, HN.out, hb⟩
          case measure => simp [intOf]; omega
    · obtain rfl : i = 2 := by omega
      have HT : Hid (coversB A N v g s b name named = false) := coversB_false hno.out
      have HF : Hid (Below w.heap.size w wr) := HBW.out.trans (hb.out.mono HBW.out.size)
      clear hno hb
      go_wp2_with fail
      go_ret
      exact ⟨by rw [HT.out]; rfl, HF.out⟩
end Go.Proofs.Qxb6606306aRR
