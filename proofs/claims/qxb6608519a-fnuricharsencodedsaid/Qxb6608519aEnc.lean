/- The walk of zzPctEncode. -/
import Derived.Test.Qxb6608519aRows
import Derived.Test.Qxb6608519aPlain
import Derived.WalkKit
import Derived.WalkSpells
import Derived.WalkLawsBesides
import Derived.Deep.RegionLaw
import Derived.Deep.AppendLies
import Derived.Deep.LoopGhost
import Derived.Laws.IdiomStrings
namespace Go.Proofs.Qxb6608519a
open Go.RowKit
theorem info5 : (Try.prog.info? 5).map (fun i => (i.zero, i.size, i.bytes)) = some (some (.int .u8 0), 1, 1) := by kernel_rfl

def bcells (l : List UInt8) : List Value := l.map fun c => Value.int .u8 (c.toNat : Int)

theorem and15 (c : UInt8) : bits BinOp.and IntKind.u8 (c.toNat : Int) 15 = (c.toNat : Int) % 16 := by
  have h : ∀ n : Nat, n < 256 → bits BinOp.and IntKind.u8 (n : Int) 15 = (n : Int) % 16 := by decide +kernel
  exact h c.toNat c.toNat_lt

theorem hx_at (k n : Nat) (hn : n < 16) (A : Array UInt8) (hA : A.toList = hx k) (h : ((n : Nat) : Int).toNat < (⟨A⟩ : ByteArray).size) : (⟨A⟩ : ByteArray)[((n : Nat) : Int).toNat]'h = (hx k).getD n 0 := by
  have e : ((n : Nat) : Int).toNat = n := by omega
  have h2 : n < A.size := by simpa [ByteArray.size] using (e ▸ h)
  have : (⟨A⟩ : ByteArray)[((n : Nat) : Int).toNat]'h = A[n] := by
    show A[((n : Nat) : Int).toNat]'_ = A[n]
    congr 1
  rw [this, ← hA]
  simp [List.getD, h2]

theorem conv_nil (w : World) : (convert 27 9 (.slice none 0 0)).run Try.prog w = .ok (.string ⟨#[]⟩) w := by
  rw [run_convert_bytes_string w 27 9 5 none 0 0 Try.underlying27 Try.underlying5 Try.underlying9]
  simp [Conv.bytesToString]
  rfl

theorem new_block (wr : World) (cs : Array Value) (t : TypeId) : (wr.alloc (.cells cs t)).drew.heap[wr.heap.size]? = some (.cells cs t (0, 0)) := by
  show (wr.heap.push (.cells cs t))[wr.heap.size]? = _
  simp

/-- What one round does to the relation. -/
theorem rel_step (s : ByteArray) (k : Nat) (hlt : k < s.size) (c x y : UInt8) (hc : s[k] = c) (hx1 : (hx k).getD (c.toNat / 16) 0 = x) (hy1 : (hx k).getD (c.toNat % 16) 0 = y) :
    bcells (encTo s.data.toList k) ++ [.int .u8 37, .int .u8 (x.toNat : Int), .int .u8 (y.toNat : Int)] = bcells (encTo s.data.toList (k + 1)) := by
  have e : s.data.toList.getD k 0 = c := by
    rw [← hc]
    have h2 : k < s.data.toList.length := by rw [← Lib.size_eq]; exact hlt
    rw [List.getD_eq_getElem?_getD, List.getElem?_eq_getElem h2]
    rfl
  show _ = bcells (encTo s.data.toList k ++ encAt k (s.data.toList.getD k 0))
  rw [e]
  unfold encAt
  rw [hx1, hy1]
  simp [bcells]

theorem rel_step' (s : ByteArray) (k : Nat) (hlt : k < s.size) (c x y : UInt8) (hc : s[k] = c) (hx1 : (hx k).getD (c.toNat / 16) 0 = x) (hy1 : (hx k).getD (c.toNat % 16) 0 = y) {w wr w1 : World} {v v' : Value} (cs : Array Value)
    (hb : Below w.heap.size w wr) (hgrow : (wr.alloc (.cells cs 5)).drew.grownBy w1 v.ownBlock) (hown : wr.ownsRow w.heap.size 5 1 v (3 * k) (bcells (encTo s.data.toList k)))
    (hown1 : w1.ownsRow w.heap.size 5 1 v' (3 * k + 3) (bcells (encTo s.data.toList k) ++ [.int .u8 37, .int .u8 (x.toNat : Int), .int .u8 (y.toNat : Int)])) :
    w1.ownsRow w.heap.size 5 1 v' (3 * (k + 1)) (bcells (encTo s.data.toList (k + 1))) ∧ Below w.heap.size w w1 := by
  rw [rel_step s k hlt c x y hc hx1 hy1] at hown1
  have h1 : Below w.heap.size w (wr.alloc (.cells cs 5)).drew := (hb.alloc (by have := hb.size; omega) _).drew
  exact ⟨hown1, h1.grown hgrow h1.size (fun r hr => (hown.lt r hr).1)⟩

set_option maxHeartbeats 400000 in
theorem enc_any (s : ByteArray) (w : World) (hs : s.size ≤ 65536) :
    Calls Try.prog 9 #[.string s] w fun e w' => e = .returned (.string ⟨(encTo s.data.toList s.size).toArray⟩) ∧ Below w.heap.size w w' := by
  obtain ⟨i0, hi, hz0, hz1, hz2⟩ := info_parts info5
  go_enter Try.func9, Try.ntmps9
  go_wp2_with (at_make; refine wpList_make_own _ rfl _ _ 27 rfl w.heap.size 5 i0 (.int .u8 0) 1 Try.underlying27 hi hz0 hz1 .i64 .i64 _ (3 * s.size) rfl rfl (by omega) (by rw [hz2]; omega) (by unfold maxLen; omega) (Nat.le_refl _) ?_; intro w1 hown1 hgrow1)
  have hb1 : Below w.heap.size w w1 := (Below.refl _ _).grown hgrow1 (Nat.le_refl _) (by simp)
  go_loopw [3, 4] (fun v i wr => ∃ k : Nat, k ≤ s.size ∧ i = .int .i64 k ∧ wr.ownsRow w.heap.size 5 1 v (3 * k) (bcells (encTo s.data.toList k)) ∧ Below w.heap.size w wr) (fun _ i _ => s.size - (intOf i).toNat)
  case atStart => exact ⟨0, Nat.zero_le _, rfl, hown1, hb1⟩
  case round =>
    clear hown1 hgrow1 hb1
    obtain ⟨k, hk, rfl, hown, hb⟩ := hrel
    by_cases hlt : k < s.size
    · obtain ⟨c, hc⟩ : ∃ c, s[k] = c := ⟨_, rfl⟩
      have hc0 := c.toNat_lt
      have hand := and15 c
      have b1 : 0 ≤ (c.toNat : Int) / 16 ∧ (c.toNat : Int) / 16 < 16 := by omega
      have b2 : 0 ≤ (c.toNat : Int) % 16 ∧ (c.toNat : Int) % 16 < 16 := by omega
      have HC : Hid (s[k] = c) := hc
      by_cases hp : ((k : Int) % 2 == 1) = true
      · obtain ⟨x, hx1⟩ : ∃ x, (⟨#[48, 49, 50, 51, 52, 53, 54, 55, 56, 57, 97, 98, 99, 100, 101, 102]⟩ : ByteArray)[((c.toNat : Int) / 16).toNat]'(by show _ < 16; omega) = x := ⟨_, rfl⟩
        obtain ⟨y, hy1⟩ : ∃ y, (⟨#[48, 49, 50, 51, 52, 53, 54, 55, 56, 57, 97, 98, 99, 100, 101, 102]⟩ : ByteArray)[((c.toNat : Int) % 16).toNat]'(by show _ < 16; omega) = y := ⟨_, rfl⟩
        have hxk : hx k = [48, 49, 50, 51, 52, 53, 54, 55, 56, 57, 97, 98, 99, 100, 101, 102] := by unfold hx; rw [if_pos (by simp at hp; omega)]
        have HX : Hid ((hx k).getD (c.toNat / 16) 0 = x) := by rw [← hx1]; exact (hx_at k (c.toNat / 16) (by omega) _ hxk.symm _).symm
        have HY : Hid ((hx k).getD (c.toNat % 16) 0 = y) := by rw [← hy1]; exact (hx_at k (c.toNat % 16) (by omega) _ hxk.symm _).symm
        clear hxk
        have Hown : Hid (wr.ownsRow w.heap.size 5 1 u3 (3 * k) (bcells (encTo s.data.toList k))) := hown
        clear hown
        go_wp2_with fail
        go_region_law (refine step_append_lies _ rfl (.tmp 23) (.tmp 32) 27 rfl w.heap.size 5 i0 (.int .u8 0) 1 1 Try.underlying27 hi hz0 hz1 hz2 rfl (by decide) _ (3 * k) _ rfl (Hown.out.alloc _).drew ⟨wr.heap.size, 0, none⟩ 3 3 [.int .u8 37, .int .u8 (x.toNat : Int), .int .u8 (y.toNat : Int)] rfl rfl (World.news_of_block (new_block _ _ _)) (by intro u hu; simp at hu; rcases hu with rfl | rfl | rfl <;> rfl) (by decide) (by unfold maxLen; omega) (by omega) (by have := hb.size; simp; omega) _ rfl ?_; intro g cap w1 hown1 hgrow1 _ _)
        all_goals
          have R := rel_step' s k hlt c x y HC.out HX.out HY.out _ hb hgrow1 Hown.out hown1
          clear hown1 hgrow1 hx1 hy1 hand b1 b2
          go_wp2_with fail
          go_roundw
          case rel => exact ⟨k + 1, by omega, by go_num, R.1, R.2⟩
          case measure => simp [intOf]; omega
      · obtain ⟨x, hx1⟩ : ∃ x, (⟨#[48, 49, 50, 51, 52, 53, 54, 55, 56, 57, 65, 66, 67, 68, 69, 70]⟩ : ByteArray)[((c.toNat : Int) / 16).toNat]'(by show _ < 16; omega) = x := ⟨_, rfl⟩
        obtain ⟨y, hy1⟩ : ∃ y, (⟨#[48, 49, 50, 51, 52, 53, 54, 55, 56, 57, 65, 66, 67, 68, 69, 70]⟩ : ByteArray)[((c.toNat : Int) % 16).toNat]'(by show _ < 16; omega) = y := ⟨_, rfl⟩
        have hxk : hx k = [48, 49, 50, 51, 52, 53, 54, 55, 56, 57, 65, 66, 67, 68, 69, 70] := by unfold hx; rw [if_neg (by simp at hp; omega)]
        have HX : Hid ((hx k).getD (c.toNat / 16) 0 = x) := by rw [← hx1]; exact (hx_at k (c.toNat / 16) (by omega) _ hxk.symm _).symm
        have HY : Hid ((hx k).getD (c.toNat % 16) 0 = y) := by rw [← hy1]; exact (hx_at k (c.toNat % 16) (by omega) _ hxk.symm _).symm
        clear hxk
        have Hown : Hid (wr.ownsRow w.heap.size 5 1 u3 (3 * k) (bcells (encTo s.data.toList k))) := hown
        clear hown
        go_wp2_with fail
        go_region_law (refine step_append_lies _ rfl (.tmp 23) (.tmp 32) 27 rfl w.heap.size 5 i0 (.int .u8 0) 1 1 Try.underlying27 hi hz0 hz1 hz2 rfl (by decide) _ (3 * k) _ rfl (Hown.out.alloc _).drew ⟨wr.heap.size, 0, none⟩ 3 3 [.int .u8 37, .int .u8 (x.toNat : Int), .int .u8 (y.toNat : Int)] rfl rfl (World.news_of_block (new_block _ _ _)) (by intro u hu; simp at hu; rcases hu with rfl | rfl | rfl <;> rfl) (by decide) (by unfold maxLen; omega) (by omega) (by have := hb.size; simp; omega) _ rfl ?_; intro g cap w1 hown1 hgrow1 _ _)
        all_goals
          have R := rel_step' s k hlt c x y HC.out HX.out HY.out _ hb hgrow1 Hown.out hown1
          clear hown1 hgrow1 hx1 hy1 hand b1 b2
          go_wp2_with fail
          go_roundw
          case rel => exact ⟨k + 1, by omega, by go_num, R.1, R.2⟩
          case measure => simp [intOf]; omega
    · have hke : k = s.size := by omega
      have hcv : ∀ g cap, (∀ j (hj : j < (encTo s.data.toList k).length), wr.cell? ((⟨g, 0, none⟩ : Addr).add j) = some (.int .u8 ((encTo s.data.toList k)[j].toNat : Int))) → (convert 27 9 (.slice (some ⟨g, 0, none⟩) (3 * k) cap)).run Try.prog wr = .ok (.string ⟨(encTo s.data.toList k).toArray⟩) wr := by
        intro g cap hcells
        have := run_convert_bytes_back (P := Try.prog) wr 27 9 5 ⟨g, 0, none⟩ cap (encTo s.data.toList k) Try.underlying27 Try.underlying5 Try.underlying9 hcells
        rw [encTo_length] at this
        exact this
      subst hke
      have hown2 := hown
      rcases hown.2 with ⟨rfl, h0⟩ | ⟨g, cap, cur, rfl, _⟩
      · have h00 : s.size = 0 := by omega
        have hcv0 := conv_nil wr
        clear hcv hown hown2
        have HE : Hid (encTo s.data.toList s.size = []) := by show _ = _; rw [h00]; rfl
        clear h00 h0
        go_wp2_with fail
        go_ret
        exact ⟨by rw [HE.out]; rfl, hb⟩
      · have hc2 := hcv g cap (fun j hj => hown2.cells (g := g) rfl j _ (by simp [bcells, List.getElem?_eq_getElem hj]))
        clear hcv hown hown2
        go_wp2_with fail
        go_ret
        exact ⟨rfl, hb⟩
end Go.Proofs.Qxb6608519a
