/- What memory holds: slices of strings, rules, paths, entries, each over a footprint F of blocks. -/
import Derived.Test.Qxb6606306aRRRows
import Derived.WalkKit
import Derived.WalkSpells
import Derived.WalkLawsBesides
namespace Go.Proofs.Qxb6606306aRR
open Go.RowKit

/-- The blocks of F are as they were, and none is lost. -/
def Same (F : Nat → Prop) (w w' : World) : Prop := w.heap.size ≤ w'.heap.size ∧ ∀ b, F b → b < w.heap.size → w'.heap[b]? = w.heap[b]?
def Any (_ : Nat) : Prop := True

theorem Same.refl (F : Nat → Prop) (w : World) : Same F w w := ⟨Nat.le_refl _, fun _ _ _ => rfl⟩
theorem Same.trans {F : Nat → Prop} {a b c : World} (h : Same F a b) (k : Same F b c) : Same F a c :=
  ⟨Nat.le_trans h.1 k.1, fun i hi hl => (k.2 i hi (Nat.lt_of_lt_of_le hl h.1)).trans (h.2 i hi hl)⟩
theorem Same.of_below {F : Nat → Prop} {w w' : World} (h : Below w.heap.size w w') : Same F w w' := ⟨h.size, fun b _ hb => h.block b hb⟩
theorem Same.of_below_at {B : Nat} {w w' : World} (h : Below B w w') : Same (fun b => b < B) w w' := ⟨h.size, fun b hb _ => h.block b hb⟩
theorem Same.of_grown {F : Nat → Prop} {w w' : World} {row : Option Nat} (h : w.grownBy w' row) (hF : ∀ b, F b → some b ≠ row) : Same F w w' := ⟨h.size, fun b hb hl => h.block b hl (hF b hb)⟩
theorem Same.mono {F G : Nat → Prop} {w w' : World} (h : Same F w w') (hG : ∀ b, G b → F b) : Same G w w' := ⟨h.1, fun b hb hl => h.2 b (hG b hb) hl⟩
theorem Same.cell {F : Nat → Prop} {w w' : World} (h : Same F w w') {p : Addr} (hF : F p.block) (hl : p.block < w.heap.size) : w'.cell? p = w.cell? p := World.cell?_of_block (h.2 _ hF hl)
theorem Same.frozen {F : Nat → Prop} {w w' : World} (h : Same F w w') {p : Addr} (hF : F p.block) (hl : p.block < w.heap.size) : w'.frozen? p = w.frozen? p := World.frozen?_of_block (h.2 _ hF hl)

/-- A slice of strings. -/
def Strs (F : Nat → Prop) (w : World) (v : Value) (xs : List ByteArray) : Prop :=
  ∃ a cap, v = .slice a xs.length cap ∧ (∀ i, i < xs.length → ∃ b off, a = some ⟨b, off, none⟩ ∧ F b ∧ b < w.heap.size ∧ w.cell? ⟨b, off + i, none⟩ = some (.string (xs.getD i ByteArray.empty))) ∧ ∀ s ∈ xs, s.size ≤ Go.maxLen

theorem Strs.same {F : Nat → Prop} {w w' : World} {v : Value} {xs : List ByteArray} (h : Strs F w v xs) (s : Same F w w') : Strs F w' v xs := by
  obtain ⟨a, cap, rfl, hc, hz⟩ := h
  refine ⟨a, cap, rfl, fun i hi => ?_, hz⟩
  obtain ⟨b, off, ha, hF, hl, hcell⟩ := hc i hi
  exact ⟨b, off, ha, hF, Nat.lt_of_lt_of_le hl s.1, (s.cell (p := ⟨b, off + i, none⟩) hF hl).trans hcell⟩
theorem Strs.mono {F G : Nat → Prop} {w : World} {v : Value} {xs : List ByteArray} (h : Strs F w v xs) (hG : ∀ b, b < w.heap.size → F b → G b) : Strs G w v xs := by
  obtain ⟨a, cap, rfl, hc, hz⟩ := h
  refine ⟨a, cap, rfl, fun i hi => ?_, hz⟩
  obtain ⟨b, off, ha, hF, hl, hcell⟩ := hc i hi
  exact ⟨b, off, ha, hG b hl hF, hl, hcell⟩
theorem getD_mem (xs : List ByteArray) (i : Nat) (h : i < xs.length) : xs.getD i ByteArray.empty ∈ xs := by
  rw [List.getD_eq_getElem?_getD, List.getElem?_eq_getElem h]; exact List.getElem_mem h

/-- A rule: five lists of words and a flag. -/
structure RuleD where
  verbs : List ByteArray
  groups : List ByteArray
  resources : List ByteArray
  names : List ByteArray
  bys : List ByteArray
  any : Bool
def noRule : RuleD := ⟨[], [], [], [], [], false⟩
structure PathD where
  verbs : List ByteArray
  urls : List ByteArray
def noPath : PathD := ⟨[], []⟩
structure EntryD where
  rules : List RuleD
  paths : List PathD
def noEntry : EntryD := ⟨[], []⟩

/-- Five values that hold a rule's lists. -/
structure RuleV (F : Nat → Prop) (w : World) (c0 c1 c2 c3 c4 : Value) (r : RuleD) : Prop where
  verbs : Strs F w c0 r.verbs
  groups : Strs F w c1 r.groups
  resources : Strs F w c2 r.resources
  names : Strs F w c3 r.names
  bys : Strs F w c4 r.bys
theorem RuleV.same {F : Nat → Prop} {w w' : World} {c0 c1 c2 c3 c4 : Value} {r : RuleD} (h : RuleV F w c0 c1 c2 c3 c4 r) (s : Same F w w') : RuleV F w' c0 c1 c2 c3 c4 r :=
  ⟨h.verbs.same s, h.groups.same s, h.resources.same s, h.names.same s, h.bys.same s⟩
theorem RuleV.mono {F G : Nat → Prop} {w : World} {c0 c1 c2 c3 c4 : Value} {r : RuleD} (h : RuleV F w c0 c1 c2 c3 c4 r) (hG : ∀ b, b < w.heap.size → F b → G b) : RuleV G w c0 c1 c2 c3 c4 r :=
  ⟨h.verbs.mono hG, h.groups.mono hG, h.resources.mono hG, h.names.mono hG, h.bys.mono hG⟩

/-- A slice of rules (six cells each), whichever of the two struct types. -/
def Rules (F : Nat → Prop) (w : World) (v : Value) (rs : List RuleD) : Prop :=
  ∃ a cap, v = .slice a rs.length cap ∧ ∀ i, i < rs.length → ∃ b off c0 c1 c2 c3 c4, a = some ⟨b, off, none⟩ ∧ F b ∧ b < w.heap.size ∧
    (w.cell? ⟨b, off + i * 6, none⟩ = some c0 ∧ w.cell? ⟨b, off + i * 6 + 1, none⟩ = some c1 ∧ w.cell? ⟨b, off + i * 6 + 2, none⟩ = some c2 ∧ w.cell? ⟨b, off + i * 6 + 3, none⟩ = some c3 ∧
      w.cell? ⟨b, off + i * 6 + 4, none⟩ = some c4 ∧ w.cell? ⟨b, off + i * 6 + 5, none⟩ = some (.bool (rs.getD i noRule).any)) ∧ RuleV F w c0 c1 c2 c3 c4 (rs.getD i noRule)
theorem Rules.same {F : Nat → Prop} {w w' : World} {v : Value} {rs : List RuleD} (h : Rules F w v rs) (s : Same F w w') : Rules F w' v rs := by
  obtain ⟨a, cap, rfl, hc⟩ := h
  refine ⟨a, cap, rfl, fun i hi => ?_⟩
  obtain ⟨b, off, c0, c1, c2, c3, c4, ha, hF, hl, ⟨h0, h1, h2, h3, h4, h5⟩, hr⟩ := hc i hi
  have e : ∀ j, w'.cell? ⟨b, j, none⟩ = w.cell? ⟨b, j, none⟩ := fun j => s.cell (p := ⟨b, j, none⟩) hF hl
  exact ⟨b, off, c0, c1, c2, c3, c4, ha, hF, Nat.lt_of_lt_of_le hl s.1, ⟨(e _).trans h0, (e _).trans h1, (e _).trans h2, (e _).trans h3, (e _).trans h4, (e _).trans h5⟩, hr.same s⟩

/-- A slice of path rules (two cells each). -/
def Paths (F : Nat → Prop) (w : World) (v : Value) (ps : List PathD) : Prop :=
  ∃ a cap, v = .slice a ps.length cap ∧ ∀ i, i < ps.length → ∃ b off c0 c1, a = some ⟨b, off, none⟩ ∧ F b ∧ b < w.heap.size ∧
    (w.cell? ⟨b, off + i * 2, none⟩ = some c0 ∧ w.cell? ⟨b, off + i * 2 + 1, none⟩ = some c1) ∧ Strs F w c0 (ps.getD i noPath).verbs ∧ Strs F w c1 (ps.getD i noPath).urls
theorem Paths.same {F : Nat → Prop} {w w' : World} {v : Value} {ps : List PathD} (h : Paths F w v ps) (s : Same F w w') : Paths F w' v ps := by
  obtain ⟨a, cap, rfl, hc⟩ := h
  refine ⟨a, cap, rfl, fun i hi => ?_⟩
  obtain ⟨b, off, c0, c1, ha, hF, hl, ⟨h0, h1⟩, hr0, hr1⟩ := hc i hi
  have e : ∀ j, w'.cell? ⟨b, j, none⟩ = w.cell? ⟨b, j, none⟩ := fun j => s.cell (p := ⟨b, j, none⟩) hF hl
  exact ⟨b, off, c0, c1, ha, hF, Nat.lt_of_lt_of_le hl s.1, ⟨(e _).trans h0, (e _).trans h1⟩, hr0.same s, hr1.same s⟩

/-- A slice of entries (two cells each: a slice of rules, a slice of path rules). -/
def Entries (F : Nat → Prop) (w : World) (v : Value) (es : List EntryD) : Prop :=
  ∃ a cap, v = .slice a es.length cap ∧ ∀ i, i < es.length → ∃ b off c0 c1, a = some ⟨b, off, none⟩ ∧ F b ∧ b < w.heap.size ∧
    (w.cell? ⟨b, off + i * 2, none⟩ = some c0 ∧ w.cell? ⟨b, off + i * 2 + 1, none⟩ = some c1) ∧ Rules F w c0 (es.getD i noEntry).rules ∧ Paths F w c1 (es.getD i noEntry).paths
theorem Entries.same {F : Nat → Prop} {w w' : World} {v : Value} {es : List EntryD} (h : Entries F w v es) (s : Same F w w') : Entries F w' v es := by
  obtain ⟨a, cap, rfl, hc⟩ := h
  refine ⟨a, cap, rfl, fun i hi => ?_⟩
  obtain ⟨b, off, c0, c1, ha, hF, hl, ⟨h0, h1⟩, hr0, hr1⟩ := hc i hi
  have e : ∀ j, w'.cell? ⟨b, j, none⟩ = w.cell? ⟨b, j, none⟩ := fun j => s.cell (p := ⟨b, j, none⟩) hF hl
  exact ⟨b, off, c0, c1, ha, hF, Nat.lt_of_lt_of_le hl s.1, ⟨(e _).trans h0, (e _).trans h1⟩, hr0.same s, hr1.same s⟩
end Go.Proofs.Qxb6606306aRR
