/- The walks of uriChars and of what it calls, at texts of whole escapes. -/
import Derived.Test.Qxb6608519aRows
import Derived.Test.Qxb6608519aShelf
import Derived.Test.Qxb6608519aPlain
import Derived.WalkKit
import Derived.WalkSpells
import Derived.WalkLawsBesides
namespace Go.Proofs.Qxb6608519a
open Go.RowKit

set_option maxHeartbeats 400000 in
theorem only_empty (o : ByteArray) (w : World) :
    Calls Try.prog 15 #[.string ⟨#[]⟩, .string o] w fun e w' => e = .returned (.bool true) ∧ w' = w := by
  go_enter Try.func15, Try.ntmps15
  go_wp2
  refine wp_loop_rounds 1 ?_
  rw [rounds_succ]
  go_wp2
  go_ret
  exact ⟨rfl, rfl⟩

set_option maxHeartbeats 400000 in
theorem hex_any (c : UInt8) (w : World) :
    Calls Try.prog 16 #[.int .u8 c.toNat] w fun e w' => e = .returned (.bool (hexB c)) ∧ w' = w := by
  go_enter Try.func16, Try.ntmps16
  go_wp2_with (go_at_call 14; refine (Try.strings_IndexByte _ _ _).mono ?_; rintro e w' ⟨rfl, rfl⟩)
  go_ret
  exact ⟨rfl, rfl⟩

theorem cut3 (a b c : UInt8) (t : List UInt8) (n : Nat) (h : n = t.length + 1 + 1 + 1) : (⟨(c :: a :: b :: t).toArray⟩ : ByteArray).extract 3 n = ⟨t.toArray⟩ := by
  apply ByteArray.ext
  apply Array.toList_inj.1
  rw [Lib.extract_data]
  subst h
  simp
theorem size3 (a b c : UInt8) (t : List UInt8) : (⟨(c :: a :: b :: t).toArray⟩ : ByteArray).size = t.length + 3 := by
  show (c :: a :: b :: t).toArray.size = _
  simp
theorem sizeL (t : List UInt8) : (⟨t.toArray⟩ : ByteArray).size = t.length := by
  show t.toArray.size = _
  simp
theorem idx_nil (w : World) : Calls Try.prog 14 #[.string ⟨#[]⟩, .int .u8 37] w fun r w' => r = .returned (.int .i64 (-1)) ∧ w' = w :=
  (Try.strings_IndexByte ⟨#[]⟩ 37 w).mono fun _ _ h => h
theorem idx_hit (t : List UInt8) (w : World) : Calls Try.prog 14 #[.string ⟨(37 :: t).toArray⟩, .int .u8 37] w fun r w' => r = .returned (.int .i64 0) ∧ w' = w :=
  (Try.strings_IndexByte ⟨(37 :: t).toArray⟩ 37 w).mono fun _ _ h => by
    have e : Lib.indexByte (⟨(37 :: t).toArray⟩ : ByteArray).data.toList (37 : Int).toNat.toUInt8 = 0 := by simp [Lib.indexByte]
    rw [e] at h; exact h

set_option maxHeartbeats 400000 in
theorem uri_any (e : Bool) (l : List UInt8) (o : ByteArray) (w : World) (hl : l.length ≤ 1000000) (hg : good e l = true) :
    Calls Try.prog 10 #[.string ⟨l.toArray⟩, .string o] w fun r w' => r = .returned (.bool e) ∧ w' = w := by
  have HG : Hid (good e l = true) := hg
  clear hg
  go_enter Try.func10, Try.ntmps10
  go_wp2_with fail
  go_loop [0] (fun s => ∃ m : List UInt8, m.length ≤ 1000000 ∧ s = .string ⟨m.toArray⟩ ∧ Hid (good e m = true)) (fun s => match s with | .string b => b.size | _ => 0)
  case atStart => exact ⟨l, hl, rfl, HG⟩
  case round =>
    obtain ⟨m, hm, rfl, hgm⟩ := hrel
    match m, hm, hgm with
    | [], hm, hgm =>
      have he : e = true := hgm.out
      subst he
      clear HG hgm
      go_wp2_with (first | (go_at_call 14; refine (idx_nil _).mono ?_; rintro e w' ⟨rfl, rfl⟩) | (go_at_call 15; refine (only_empty _ _).mono ?_; rintro e w' ⟨rfl, rfl⟩))
      go_ret
      exact ⟨rfl, rfl⟩
    | [c], hm, hgm =>
      have hc : c = 37 := by have := hgm.out; simp [good] at this; exact this.2
      have he : e = false := by have := hgm.out; simp [good] at this; exact this.1
      subst hc he
      clear HG hgm
      go_wp2_with (first | (go_at_call 14; refine (idx_hit [] _).mono ?_; rintro e w' ⟨rfl, rfl⟩) | (go_at_call 15; refine (only_empty _ _).mono ?_; rintro e w' ⟨rfl, rfl⟩))
      go_ret
      exact ⟨rfl, rfl⟩
    | [c, d], hm, hgm =>
      have hc : c = 37 := by have := hgm.out; simp [good] at this; exact this.2
      have he : e = false := by have := hgm.out; simp [good] at this; exact this.1
      subst hc he
      clear HG hgm
      go_wp2_with (first | (go_at_call 14; refine (idx_hit [d] _).mono ?_; rintro e w' ⟨rfl, rfl⟩) | (go_at_call 15; refine (only_empty _ _).mono ?_; rintro e w' ⟨rfl, rfl⟩))
      go_ret
      exact ⟨rfl, rfl⟩
    | c :: a :: b :: t, hm, hgm =>
      have hgm2 := hgm.out
      simp only [good, Bool.and_eq_true, beq_iff_eq] at hgm2
      obtain ⟨⟨⟨hc, ha⟩, hb⟩, ht⟩ := hgm2
      subst hc
      have HT : Hid (good e t = true) := ht
      have h16a : ∀ w, Calls Try.prog 16 #[.int .u8 a.toNat] w fun r w' => r = .returned (.bool true) ∧ w' = w := by intro w; rw [← ha]; exact hex_any a w
      have h16b : ∀ w, Calls Try.prog 16 #[.int .u8 b.toNat] w fun r w' => r = .returned (.bool true) ∧ w' = w := by intro w; rw [← hb]; exact hex_any b w
      have Ha : Hid (∀ w, Calls Try.prog 16 #[.int .u8 a.toNat] w fun r w' => r = .returned (.bool true) ∧ w' = w) := h16a
      have Hb : Hid (∀ w, Calls Try.prog 16 #[.int .u8 b.toNat] w fun r w' => r = .returned (.bool true) ∧ w' = w) := h16b
      clear HG hgm ht ha hb h16a h16b
      go_wp2_with (first | (go_at_call 14; refine (idx_hit (a :: b :: t) _).mono ?_; rintro e w' ⟨rfl, rfl⟩) | (go_at_call 15; refine (only_empty _ _).mono ?_; rintro e w' ⟨rfl, rfl⟩))
      refine ((show ∀ w, Calls Try.prog 16 #[.int .u8 ((⟨(37 :: a :: b :: t).toArray⟩ : ByteArray)[1]'(by rw [size3]; omega)).toNat] w fun r w' => r = .returned (.bool true) ∧ w' = w from Ha.out) _).mono ?_
      rintro e w' ⟨rfl, rfl⟩
      go_wp2_with fail
      refine ((show ∀ w, Calls Try.prog 16 #[.int .u8 ((⟨(37 :: a :: b :: t).toArray⟩ : ByteArray)[2]'(by rw [size3]; omega)).toNat] w fun r w' => r = .returned (.bool true) ∧ w' = w from Hb.out) _).mono ?_
      rintro e w' ⟨rfl, rfl⟩
      go_wp2_with fail
      rw [cut3 a b 37 t _ rfl]
      refine ⟨⟨t, by simp at hm; omega, rfl, HT⟩, ?_⟩
      show (⟨t.toArray⟩ : ByteArray).size < (⟨(37 :: a :: b :: t).toArray⟩ : ByteArray).size
      rw [sizeL, size3]
      omega

set_option maxHeartbeats 400000 in
theorem zzuri_any (e : Bool) (l : List UInt8) (o : ByteArray) (w : World) (hl : l.length ≤ 1000000) (hg : good e l = true) :
    Calls Try.prog 6 #[.string ⟨l.toArray⟩, .string o] w fun r w' => r = .returned (.bool e) ∧ w' = w := by
  have HG : Hid (good e l = true) := hg
  clear hg
  go_enter Try.func6, Try.ntmps6
  go_wp2_with (go_at_call 10; refine (uri_any e l o _ hl HG.out).mono ?_; rintro r w' ⟨rfl, rfl⟩)
  go_ret
  exact ⟨rfl, rfl⟩
end Go.Proofs.Qxb6608519a
