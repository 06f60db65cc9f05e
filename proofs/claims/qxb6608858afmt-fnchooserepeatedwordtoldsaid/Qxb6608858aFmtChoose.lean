/- The walks of choose, ZZChoose, zzHasEq. -/
import Derived.Test.Qxb6608858aFmtFacts
import Derived.Test.Qxb6608858aFmtShelf
namespace Go.Proofs.Qxb6608858aFmt
open Go.RowKit Go.Extern.Stop Go.Stop Go.Extern

def eqB (s : ByteArray) : Bool := decide (0 ≤ Lib.indexByte s.data.toList 61)

theorem contains_eq (s : ByteArray) (w : World) : Calls Tryf.prog 18 #[.string s, .string ⟨#[61]⟩] w fun e w' => e = .returned (.bool (eqB s)) ∧ w' = w :=
  Tryf.strings_Contains_one s 61 w

set_option maxHeartbeats 400000 in
theorem choose_empty (b : Nat) (c0 s g : ByteArray) (w : World) (hc : w.cell? ⟨b, 0, none⟩ = some (.string c0)) (hf : w.frozen? ⟨b, 0, none⟩ = false) (he : c0.toList.isEmpty = true) :
    Calls Tryf.prog 16 #[.pointer (some ⟨b, 0, none⟩), .string s, .string g] w fun e w' => e = .returned .nilIface ∧ w' = w.setCell ⟨b, 0, none⟩ (.string s) := by
  go_enter Tryf.func16, Tryf.ntmps16
  go_wp2_with fail
  go_ret
  exact ⟨rfl, rfl⟩

set_option maxHeartbeats 400000 in
theorem choose_other (F : Interp) (b : Nat) (c0 s g : ByteArray) (w : World) (hF : F.answers w.tape) (hc : w.cell? ⟨b, 0, none⟩ = some (.string c0)) (he : c0.toList.isEmpty = false) (hd : (c0.toList == s.toList) = false) :
    Calls Tryf.prog 16 #[.pointer (some ⟨b, 0, none⟩), .string s, .string g] w fun e w' => (∃ a, e = .returned (.iface 54 (.pointer (some a)))) ∧ Below w.heap.size w w' := by
  go_enter Tryf.func16, Tryf.ntmps16
  go_wp2_with fail
  refine (errorfA F c0 s g _ _ (by exact hF) (by go_simp) (by go_simp) (by go_simp)).mono ?_
  rintro e w' ⟨rfl, hb⟩
  go_wp2_with fail
  go_ret
  exact ⟨⟨_, rfl⟩, ((Below.refl _ _).alloc (Nat.le_refl _) _).trans (hb.mono (by simp))⟩

set_option maxHeartbeats 400000 in
theorem choose_twice (F : Interp) (b : Nat) (c0 s g : ByteArray) (w : World) (hF : F.answers w.tape) (hc : w.cell? ⟨b, 0, none⟩ = some (.string c0)) (he : c0.toList.isEmpty = false) (hd : (c0.toList == s.toList) = true) (hq : eqB s = true) :
    Calls Tryf.prog 16 #[.pointer (some ⟨b, 0, none⟩), .string s, .string g] w fun e w' => (∃ a, e = .returned (.iface 54 (.pointer (some a)))) ∧ Below w.heap.size w w' := by
  have h18 : ∀ w, Calls Tryf.prog 18 #[.string s, .string ⟨#[61]⟩] w fun e w' => e = .returned (.bool true) ∧ w' = w := fun w => by rw [← hq]; exact contains_eq s w
  have H18 : Hid (∀ w, Calls Tryf.prog 18 #[.string s, .string ⟨#[61]⟩] w fun e w' => e = .returned (.bool true) ∧ w' = w) := h18
  clear h18 hq
  go_enter Tryf.func16, Tryf.ntmps16
  go_wp2_with fail
  refine (H18.out _).mono ?_
  rintro e w' ⟨rfl, rfl⟩
  go_wp2_with fail
  refine (errorfB F s g _ _ (by exact hF) (by go_simp) (by go_simp)).mono ?_
  rintro e w' ⟨rfl, hb⟩
  go_wp2_with fail
  go_ret
  exact ⟨⟨_, rfl⟩, ((Below.refl _ _).alloc (Nat.le_refl _) _).trans (hb.mono (by simp))⟩

set_option maxHeartbeats 400000 in
theorem choose_again (b : Nat) (c0 s g : ByteArray) (w : World) (hc : w.cell? ⟨b, 0, none⟩ = some (.string c0)) (he : c0.toList.isEmpty = false) (hd : (c0.toList == s.toList) = true) (hq : eqB s = false) :
    Calls Tryf.prog 16 #[.pointer (some ⟨b, 0, none⟩), .string s, .string g] w fun e w' => e = .returned .nilIface ∧ w' = w := by
  have h18 : ∀ w, Calls Tryf.prog 18 #[.string s, .string ⟨#[61]⟩] w fun e w' => e = .returned (.bool false) ∧ w' = w := fun w => by rw [← hq]; exact contains_eq s w
  have H18 : Hid (∀ w, Calls Tryf.prog 18 #[.string s, .string ⟨#[61]⟩] w fun e w' => e = .returned (.bool false) ∧ w' = w) := h18
  clear h18 hq
  go_enter Tryf.func16, Tryf.ntmps16
  go_wp2_with fail
  refine (H18.out _).mono ?_
  rintro e w' ⟨rfl, rfl⟩
  go_wp2_with fail
  go_ret
  exact ⟨rfl, rfl⟩

def refuses (c0 s : ByteArray) : Bool := !c0.toList.isEmpty && (!(c0.toList == s.toList) || eqB s)
def after (c0 s : ByteArray) : ByteArray := if c0.toList.isEmpty = true then s else c0
def errIs (r : Bool) (v : Value) : Prop := if r = true then ∃ a, v = .iface 54 (.pointer (some a)) else v = .nilIface

theorem choose_any (F : Interp) (b : Nat) (c0 s g : ByteArray) (w : World) (hb : b < w.heap.size) (hF : F.answers w.tape) (hc : w.cell? ⟨b, 0, none⟩ = some (.string c0)) (hf : w.frozen? ⟨b, 0, none⟩ = false) :
    Calls Tryf.prog 16 #[.pointer (some ⟨b, 0, none⟩), .string s, .string g] w fun e w' => (∃ v, e = .returned v ∧ errIs (refuses c0 s) v) ∧
      w'.cell? ⟨b, 0, none⟩ = some (.string (after c0 s)) ∧ w'.frozen? ⟨b, 0, none⟩ = false ∧ Below b w w' := by
  cases he : c0.toList.isEmpty with
  | true =>
    refine (choose_empty b c0 s g w hc hf he).mono ?_
    rintro e w' ⟨rfl, rfl⟩
    refine ⟨⟨_, rfl, by simp [errIs, refuses, he]⟩, ?_, ?_, ?_⟩
    · simp only [after, he, if_true]
      exact World.cell?_setCell_same _ _ _ hc
    · rw [World.frozen?_setCell]; exact hf
    · have h0 : b ≤ (⟨b, 0, none⟩ : Addr).block := Nat.le_refl b
      exact (Below.refl b w).setCell h0 _
  | false =>
    cases hd : (c0.toList == s.toList) with
    | false =>
      refine (choose_other F b c0 s g w hF hc he hd).mono ?_
      rintro e w' ⟨⟨a, rfl⟩, hbl⟩
      exact ⟨⟨_, rfl, by simp [errIs, refuses, he, hd]⟩, by simp only [after, he]; exact (hbl.cell hb).trans hc, (hbl.frozen hb).trans hf, hbl.mono (by omega)⟩
    | true =>
      cases hq : eqB s with
      | true =>
        refine (choose_twice F b c0 s g w hF hc he hd hq).mono ?_
        rintro e w' ⟨⟨a, rfl⟩, hbl⟩
        exact ⟨⟨_, rfl, by simp [errIs, refuses, he, hq]⟩, by simp only [after, he]; exact (hbl.cell hb).trans hc, (hbl.frozen hb).trans hf, hbl.mono (by omega)⟩
      | false =>
        refine (choose_again b c0 s g w hc he hd hq).mono ?_
        rintro e w' ⟨rfl, rfl⟩
        exact ⟨⟨_, rfl, by simp [errIs, refuses, he, hd, hq]⟩, by simp only [after, he]; exact hc, hf, Below.refl _ _⟩

set_option maxHeartbeats 400000 in
theorem zzchoose_any (F : Interp) (b : Nat) (c0 s g : ByteArray) (w : World) (hb : b < w.heap.size) (hF : F.answers w.tape) (hc : w.cell? ⟨b, 0, none⟩ = some (.string c0)) (hf : w.frozen? ⟨b, 0, none⟩ = false) :
    Calls Tryf.prog 12 #[.pointer (some ⟨b, 0, none⟩), .string s, .string g] w fun e w' => (∃ v, e = .returned v ∧ errIs (refuses c0 s) v) ∧
      w'.cell? ⟨b, 0, none⟩ = some (.string (after c0 s)) ∧ w'.frozen? ⟨b, 0, none⟩ = false ∧ Below b w w' := by
  have HF : Hid (F.answers w.tape) := hF
  clear hF
  go_enter Tryf.func12, Tryf.ntmps12
  go_wp2_with fail
  refine (choose_any F b c0 s g _ hb HF.out hc hf).mono ?_
  rintro e w' ⟨⟨v, rfl, hv⟩, h2, h3, h4⟩
  clear hc hf
  have H2 : Hid (w'.cell? ⟨b, 0, none⟩ = some (.string (after c0 s))) := h2
  clear h2
  go_wp2_with fail
  go_ret
  exact ⟨⟨_, rfl, hv⟩, H2.out, h3, h4⟩

theorem idx_mem (c : UInt8) : ∀ l : List UInt8, 0 ≤ Lib.indexByte l c ↔ c ∈ l
  | [] => by simp [Lib.indexByte]
  | b :: l => by
    have ih := idx_mem c l
    have hge := Lib.indexByte_ge l c
    unfold Lib.indexByte
    by_cases h : b = c
    · simp [h]
    · have h1 : (b == c) = false := by simp [h]
      have h2 : ¬ c = b := fun e => h e.symm
      simp only [h1, List.mem_cons, h2, false_or]
      rw [← ih]
      by_cases h3 : Lib.indexByte l c = -1
      · simp [h3]
      · have h4 : (Lib.indexByte l c == -1) = false := by simp [h3]
        simp only [h4, Bool.false_eq_true, if_false]
        omega

theorem eqB_mem (s : ByteArray) : eqB s = true ↔ (61 : UInt8) ∈ s.data.toList := by
  unfold eqB
  rw [decide_eq_true_iff]
  exact idx_mem 61 _
theorem getE (s : ByteArray) (k : Nat) (h : k < s.size) : s.data.toList[k]'(by rw [← Lib.size_eq]; exact h) = s[k] := rfl

theorem eqB_yes (s : ByteArray) (k : Nat) (h : k < s.size) (hk : s[k] = 61) : eqB s = true := by
  rw [eqB_mem, ← hk, ← getE s k h]
  exact List.getElem_mem _
theorem eqB_no (s : ByteArray) (h : ∀ j, (hj : j < s.size) → s[j] ≠ 61) : eqB s = false := by
  cases hq : eqB s with
  | false => rfl
  | true =>
    rw [eqB_mem] at hq
    obtain ⟨j, hj, e⟩ := List.getElem_of_mem hq
    exact absurd e (h j (by rw [Lib.size_eq]; exact hj))

set_option maxHeartbeats 400000 in
theorem haseq_any (s : ByteArray) (w : World) (hs : s.size ≤ 262144) :
    Calls Tryf.prog 13 #[.string s] w fun e w' => e = .returned (.bool (eqB s)) ∧ w' = w := by
  go_enter Tryf.func13, Tryf.ntmps13
  go_wp2_with fail
  go_loop [3] (fun i => ∃ k : Nat, k ≤ s.size ∧ i = .int .i64 k ∧ Hid (∀ j, (hj : j < s.size) → j < k → s[j] ≠ 61)) (fun i => s.size - (intOf i).toNat)
  case atStart => exact ⟨0, Nat.zero_le _, rfl, fun j _ h => absurd h (Nat.not_lt_zero _)⟩
  case round =>
    obtain ⟨k, hk, rfl, hno⟩ := hrel
    by_cases hlt : k < s.size
    · by_cases h61 : s[k] = 61
      · have hb : (((s[k]).toNat : Int) == 61) = true := by rw [h61]; rfl
        have HY : Hid (eqB s = true) := eqB_yes s k hlt h61
        clear h61
        go_wp2_with fail
        go_ret
        exact ⟨by rw [HY.out]; rfl, rfl⟩
      · have hb : (((s[k]).toNat : Int) == 61) = false := by
          rw [beq_eq_false_iff_ne]
          intro e
          apply h61
          apply UInt8.toNat_inj.1
          have : (61 : UInt8).toNat = 61 := rfl
          omega
        have HN : Hid (∀ j, (hj : j < s.size) → j < k + 1 → s[j] ≠ 61) := fun j hj hjk => by
          rcases Nat.lt_or_ge j k with h | h
          · exact hno.out j hj h
          · obtain rfl : j = k := by omega
            exact h61
        clear h61 hno
        go_wp2_with fail
        go_round
        case rel => exact ⟨k + 1, by omega, by go_num, HN⟩
        case measure => simp [intOf]; omega
    · have HY : Hid (eqB s = false) := eqB_no s fun j hj => hno.out j hj (by omega)
      clear hno
      go_wp2_with fail
      go_ret
      exact ⟨by rw [HY.out]; rfl, rfl⟩
end Go.Proofs.Qxb6608858aFmt
