/- Maps whose elements are held as they are. -/
import Derived.Test.Qxb6606306aRRS3
import Derived.Maps.OwnOps
import Derived.Maps.Views
import Derived.Maps.AppendAt
import Derived.DeepKeys4
namespace Go.Proofs.Qxb6606306aRR
open Go.RowKit Go.Maps

theorem laidOut : laidOutB Try.prog = true := by kernel_rfl
theorem row83 : (83 : TypeId) < Try.prog.types.size := of_decide_eq_true (by kernel_rfl)
theorem wide83 : (match Try.prog.underlying 83 with | some (.array _ _) | some (.struct _) => true | _ => false) = true := by kernel_rfl
theorem keyed83 : Keyed Try.prog 83 := Keyed.of_law (deep_law_laid laidOut (m := 3) (by omega) row83 (by kernel_rfl) wide83)
theorem keyed9 : Keyed Try.prog 9 := string_keyed Try.underlying9
theorem keyType83 : Try.prog.keyType 83 = true := by kernel_rfl
theorem size83 : Try.prog.cellsOf 83 = 4 := by kernel_rfl
theorem size56 : Try.prog.cellsOf 56 = 2 := by kernel_rfl
theorem size9 : Try.prog.cellsOf 9 = 1 := by kernel_rfl
theorem size4 : Try.prog.cellsOf 4 = 1 := by kernel_rfl
/-- An action, as a map's key. -/
def actV (v g s : ByteArray) (b : Bool) : Value := .agg #[.string v, .string g, .string s, .bool b]
theorem lits9 (d : Nat) (s : ByteArray) (h : s.size ≤ Go.maxLen) : Try.prog.keyLits (d + 1) 9 [.string s] = some [.string s.data.toList] := by
  simp [Program.keyLits, Try.underlying9, h]
theorem lits4 (d : Nat) (b : Bool) : Try.prog.keyLits (d + 1) 4 [.bool b] = some [.bool b] := by
  simp [Program.keyLits, Try.underlying4]
theorem lits56 (d : Nat) (s : ByteArray) (b : Bool) (h : s.size ≤ Go.maxLen) : Try.prog.keyLits (d + 2) 56 [.string s, .bool b] = some [.string s.data.toList, .bool b] := by
  unfold Program.keyLits
  rw [Try.underlying56]
  dsimp only
  rw [if_pos ⟨by rw [size56]; rfl, by kernel_rfl⟩]
  simp [size9, size4, lits9 d s h, lits4 d b]
theorem lits83 (d : Nat) (v g s : ByteArray) (b : Bool) (hv : v.size ≤ Go.maxLen) (hg : g.size ≤ Go.maxLen) (hs : s.size ≤ Go.maxLen) : Try.prog.keyLits (d + 3) 83 [.string v, .string g, .string s, .bool b] = some [.string v.data.toList, .string g.data.toList, .string s.data.toList, .bool b] := by
  unfold Program.keyLits
  rw [Try.underlying83]
  dsimp only
  rw [if_pos ⟨by rw [size83]; rfl, by kernel_rfl⟩]
  simp [size9, size56, lits9 (d + 1) v hv, lits9 (d + 1) g hg, lits56 d s b hs]
theorem key83 (v g s : ByteArray) (b : Bool) (hv : v.size ≤ Go.maxLen) (hg : g.size ≤ Go.maxLen) (hs : s.size ≤ Go.maxLen) : ∃ l, keyOf Try.prog 83 (actV v g s b) = some l := by
  obtain ⟨d, hd⟩ : ∃ d, Try.prog.types.size = d + 2 := ⟨Try.prog.types.size - 2, by have : 83 < Try.prog.types.size := row83; omega⟩
  refine ⟨.string (keyBytes [.string v.data.toList, .string g.data.toList, .string s.data.toList, .bool b]), ?_⟩
  unfold keyOf
  rw [Try.underlying83]
  dsimp only
  have hf : (actV v g s b).formed Try.prog 83 = true := by simp [actV, Value.formed, Try.underlying83, size83]
  rw [hf, keyType83, hd]
  have := lits83 d v g s b hv hg hs
  simp [actV, Value.cells, this]
theorem key9 (s : ByteArray) (h : s.size ≤ Go.maxLen) : keyOf Try.prog 9 (.string s) = some (.string s.data.toList) := Go.WideMaps.keyOf_string_mk Try.underlying9 h

/-- An element is held as it is. -/
def heldR (v : Value) : Option (DataW Value × List MemPlace) := some (.held v, [])
/-- Block b is a map of at most n entries; at the key x stands f x. -/
def MapAt (w : World) (k b n : Nat) (f : Value → Option Value) : Prop :=
  ∃ D : DataW Value, w.ownsMap Try.prog k heldR b n D ∧ IsMap D ∧ ∀ x l, keyOf Try.prog k x = some l → ∀ z, D.atKey l (.held z) = .held ((f x).getD z)
theorem MapAt.lt {w : World} {k b n : Nat} {f : Value → Option Value} (h : MapAt w k b n f) : b < w.heap.size := by
  obtain ⟨D, h, _⟩ := h; exact h.lt
theorem MapAt.made (w : World) (k : Nat) : MapAt (w.alloc (.map #[] 0)) k w.heap.size 0 (fun _ => none) :=
  ⟨_, World.ownsMap_made w _ _ _, isMap_empty, fun _ _ _ _ => rfl⟩
theorem MapAt.of_block {w w' : World} {k b n : Nat} {f : Value → Option Value} (h : MapAt w k b n f) (hb : w'.heap[b]? = w.heap[b]?) : MapAt w' k b n f := by
  obtain ⟨D, ⟨es, clock, h1, h2⟩, h3⟩ := h
  exact ⟨D, ⟨es, clock, hb.trans h1, h2⟩, h3⟩
theorem MapAt.same {F : Nat → Prop} {w w' : World} {k b n : Nat} {f : Value → Option Value} (h : MapAt w k b n f) (hF : F b) (s : Same F w w') : MapAt w' k b n f :=
  h.of_block (s.2 b hF h.lt)
theorem MapAt.mono {w : World} {k b n m : Nat} {f : Value → Option Value} (h : MapAt w k b n f) (hm : n ≤ m) : MapAt w k b m f := by
  obtain ⟨D, h1, h2⟩ := h
  exact ⟨D, h1.mono hm, h2⟩
theorem MapAt.look {w : World} {k b n : Nat} {f : Value → Option Value} (h : MapAt w k b n f) (K : Keyed Try.prog k) {t e : TypeId} (ht : Try.prog.underlying t = some (.map k e)) {z : Value} (hz : (zeroValue e).run Try.prog w = .ok z w)
    {x : Value} {l : Lit} (hx : keyOf Try.prog k x = some l) : (Instr.lookup t (.map (some b)) x false).run Try.prog w = .ok ((f x).getD z) w := by
  obtain ⟨D, h1, _, h3⟩ := h
  obtain ⟨v, ps, hrun, hv⟩ := h1.lookup K ht hz (zd := .held z) (zp := []) rfl hx
  have hp : (DataW.held v, []) = (D.atKey l (.held z), ps) := Option.some.inj hv
  have e : DataW.held v = DataW.held ((f x).getD z) := by
    rw [← h3 x l hx z]
    exact congrArg Prod.fst hp
  have e' : v = (f x).getD z := by simpa using e
  rw [hrun, e']
theorem MapAt.put {w : World} {k b n : Nat} {f : Value → Option Value} (h : MapAt w k b n f) (K : Keyed Try.prog k) {t e : TypeId} (ht : Try.prog.underlying t = some (.map k e)) (hn : n < Go.maxLen)
    {x : Value} {l : Lit} (hx : keyOf Try.prog k x = some l) (v : Value) :
    ∃ w' f', (Instr.mapUpdate t (.map (some b)) x v).run Try.prog w = .ok () w' ∧ MapAt w' k b (n + 1) f' ∧ f' x = some v ∧ (∀ y, y ≠ x → f' y = f y) ∧ w.grownBy w' (some b) := by
  obtain ⟨D, h1, h2, h3⟩ := h
  obtain ⟨w', hrun, ho, hg⟩ := h1.update K ht hn hx (val := v) (d := .held v) (ps := []) rfl
  refine ⟨w', fun y => @ite _ (y = x) (Classical.propDecidable _) (some v) (f y), hrun, ⟨_, ho, h2.put _ _, fun y ly hy z => ?_⟩, if_pos rfl, fun y hy => if_neg hy, hg⟩
  by_cases hyx : y = x
  · subst hyx
    obtain rfl : l = ly := Option.some.inj (hx.symm.trans hy)
    rw [atKey_put_same h2 (K.key hx)]
    dsimp only
    rw [if_pos rfl]
    rfl
  · rw [atKey_put_other (fun e => hyx (K.inj (l := l) (by rw [← e]; exact hy) hx))]
    dsimp only
    rw [if_neg hyx]
    exact h3 y ly hy z
end Go.Proofs.Qxb6606306aRR
