/- Is it held by some coverage? -/
import Derived.Test.Qxb6606306aRRK0
namespace Go.Proofs.Qxb6606306aRR
open Go.RowKit Go.Maps
theorem hidden {p : Prop} (h : p) : Hid p := h
/-- A coverage's data. -/
structure CovD where
  c : Nat
  mA : Nat
  base : Nat
  n : Nat
  A : Fn
  N : Nat → Fn
def CovD.at (w : World) (d : CovD) : Prop := CovAt w d.c d.mA d.base d.n d.A d.N
def CovD.covers (d : CovD) (v g s : ByteArray) (b : Bool) (name : ByteArray) (named : Bool) : Bool := coversB d.A d.N v g s b name named
/-- A slice of pointers to coverages. -/
def Scopes (w : World) (v : Value) (cs : List CovD) : Prop :=
  ∃ a cap, v = .slice a cs.length cap ∧ ∀ i d, cs[i]? = some d → (∃ b off, a = some ⟨b, off, none⟩ ∧ w.cell? ⟨b, off + i, none⟩ = some (.pointer (some ⟨d.c, 0, none⟩))) ∧ d.at w
theorem Scopes.below {w w' : World} {v : Value} {cs : List CovD} (h : Scopes w v cs) (hb : Below w.heap.size w w') : Scopes w' v cs := by
  obtain ⟨a, cap, rfl, hc⟩ := h
  refine ⟨a, cap, rfl, fun i d hi => ?_⟩
  obtain ⟨⟨b, off, ha, h0⟩, hd⟩ := hc i d hi
  exact ⟨⟨b, off, ha, (hb.cell (p := ⟨b, off + i, none⟩) (cell_lt h0)).trans h0⟩, CovAt.below hd (cell_lt hd.cell) hb⟩
def heldB (cs : List CovD) (v g s : ByteArray) (b : Bool) (name : ByteArray) (named : Bool) : Bool := cs.any (fun d => d.covers v g s b name named)

/-- The boxes that the closures captured. -/
structure Caps (w : World) (pv pg pn pb : Nat) (v g name : ByteArray) (named : Bool) : Prop where
  v : w.cell? ⟨pv, 0, none⟩ = some (.string v)
  g : w.cell? ⟨pg, 0, none⟩ = some (.string g)
  n : w.cell? ⟨pn, 0, none⟩ = some (.string name)
  b : w.cell? ⟨pb, 0, none⟩ = some (.bool named)
theorem Caps.below {w w' : World} {pv pg pn pb : Nat} {v g name : ByteArray} {named : Bool} (h : Caps w pv pg pn pb v g name named) (hb : Below w.heap.size w w') : Caps w' pv pg pn pb v g name named :=
  ⟨(hb.cell (p := ⟨pv, 0, none⟩) (cell_lt h.v)).trans h.v, (hb.cell (p := ⟨pg, 0, none⟩) (cell_lt h.g)).trans h.g, (hb.cell (p := ⟨pn, 0, none⟩) (cell_lt h.n)).trans h.n, (hb.cell (p := ⟨pb, 0, none⟩) (cell_lt h.b)).trans h.b⟩

set_option maxHeartbeats 400000 in
theorem clo38 (d : CovD) (pv pg pr pn pb : Nat) (v g s : ByteArray) (b : Bool) (name : ByteArray) (named : Bool) (w : World) (h : d.at w) (hcap : Caps w pv pg pn pb v g name named) (h0 : w.cell? ⟨pr, 0, none⟩ = some (.string s)) (h1 : w.cell? ⟨pr, 1, none⟩ = some (.bool b))
    (hv : v.size ≤ Go.maxLen) (hg : g.size ≤ Go.maxLen) (hs : s.size ≤ Go.maxLen) (hn : name.size ≤ Go.maxLen) :
    Calls Try.prog 38 #[.pointer (some ⟨d.c, 0, none⟩), .pointer (some ⟨pv, 0, none⟩), .pointer (some ⟨pg, 0, none⟩), .pointer (some ⟨pr, 0, none⟩), .pointer (some ⟨pn, 0, none⟩), .pointer (some ⟨pb, 0, none⟩)] w fun e w' => e = .returned (.bool (d.covers v g s b name named)) ∧ Below w.heap.size w w' := by
  obtain ⟨k1, k2, k3, k4⟩ := hcap
  go_enter Try.func38, Try.ntmps38
  go_wp2_with fail
  refine (covers_any d.c d.mA d.base d.n d.A d.N v g s b name named _ h hv hg hs hn).mono ?_
  rintro e w1 ⟨rfl, hb⟩
  go_wp2_with fail
  go_ret
  exact ⟨rfl, hb⟩

/-- It returned an index, not below nought just where some coverage covers. -/
def RetIdx (q : Bool) (e : Ending) : Prop := ∃ z : Int, e = .returned (.int .i64 z) ∧ decide (0 ≤ z) = q
theorem any_take {cs : List CovD} {p : CovD → Bool} (h : ∀ (i : Nat) d, cs[i]? = some d → p d = false) : cs.any p = false := by
  rw [List.any_eq_false]
  intro d hd
  obtain ⟨i, hi, rfl⟩ := List.getElem_of_mem hd
  simpa using h i _ (List.getElem?_eq_getElem hi)
theorem any_hit {cs : List CovD} {p : CovD → Bool} {i : Nat} {d : CovD} (h : cs[i]? = some d) (hp : p d = true) : cs.any p = true :=
  List.any_eq_true.2 ⟨d, List.mem_of_getElem? h, hp⟩

set_option maxRecDepth 8000 in
set_option maxHeartbeats 1000000 in
theorem idx43 (cs : List CovD) (sv : Value) (pv pg pr pn pb : Nat) (v g s : ByteArray) (b : Bool) (name : ByteArray) (named : Bool) (w : World) (h : Scopes w sv cs) (hcap : Caps w pv pg pn pb v g name named) (h0 : w.cell? ⟨pr, 0, none⟩ = some (.string s)) (h1 : w.cell? ⟨pr, 1, none⟩ = some (.bool b))
    (hv : v.size ≤ Go.maxLen) (hg : g.size ≤ Go.maxLen) (hs : s.size ≤ Go.maxLen) (hn : name.size ≤ Go.maxLen) (hl : cs.length ≤ 1048576) :
    Calls Try.prog 43 #[sv, .func (.func 38) #[] #[.pointer (some ⟨pv, 0, none⟩), .pointer (some ⟨pg, 0, none⟩), .pointer (some ⟨pr, 0, none⟩), .pointer (some ⟨pn, 0, none⟩), .pointer (some ⟨pb, 0, none⟩)]] w fun e w' => RetIdx (heldB cs v g s b name named) e ∧ Below w.heap.size w w' := by
  have HS : Hid (Scopes w sv cs) := h
  obtain ⟨a, cap, rfl, _⟩ := h
  have HCAP : Hid (Caps w pv pg pn pb v g name named ∧ w.cell? ⟨pr, 0, none⟩ = some (.string s) ∧ w.cell? ⟨pr, 1, none⟩ = some (.bool b)) := ⟨hcap, h0, h1⟩
  clear hcap h0 h1
  go_enter Try.func43, Try.ntmps43
  go_wp2_with fail
  go_loopw [8] (fun i wr => ∃ k : Nat, k ≤ cs.length ∧ i = .int .i64 k ∧ Hid (∀ i d, i < k → cs[i]? = some d → d.covers v g s b name named = false) ∧ Hid (Below w.heap.size w wr)) (fun i _ => cs.length - (intOf i).toNat)
  case atStart => exact ⟨0, Nat.zero_le _, rfl, fun i d hi => absurd hi (Nat.not_lt_zero _), Below.refl _ _⟩
  case round =>
    obtain ⟨k, hk, rfl, hno, hb⟩ := hrel
    by_cases hlt : k < cs.length
    · obtain ⟨d, hd⟩ : ∃ d, cs[k]? = some d := ⟨_, List.getElem?_eq_getElem hlt⟩
      obtain ⟨a', cap', he, hcs⟩ := HS.out.below hb.out
      obtain ⟨⟨b', off, ha, hcell⟩, hda⟩ := hcs k d hd
      have hae : a = some ⟨b', off, none⟩ := by cases he; exact ha
      subst hae
      have hcap := HCAP.out.1.below hb.out
      have h0 := (hb.out.cell (p := ⟨pr, 0, none⟩) (cell_lt HCAP.out.2.1)).trans HCAP.out.2.1
      have h1 := (hb.out.cell (p := ⟨pr, 1, none⟩) (cell_lt HCAP.out.2.1)).trans HCAP.out.2.2
      have HCON := hidden (clo38 d pv pg pr pn pb v g s b name named wr hda hcap h0 h1 hv hg hs hn)
      clear hcs he ha hcap h0 h1 hda
      go_wp2_with fail
      refine HCON.out.mono ?_
      rintro e w2 ⟨rfl, hb2⟩
      obtain ⟨q, hq⟩ : ∃ q, d.covers v g s b name named = q := ⟨_, rfl⟩
      rw [hq]
      have HB : Hid (Below w.heap.size w w2) := hb.out.trans (hb2.mono hb.out.size)
      cases q with
      | true =>
        have HT : Hid (heldB cs v g s b name named = true) := any_hit hd hq
        clear hno hb hb2 HCON hq
        go_wp2_with fail
        go_ret
        exact ⟨⟨k, rfl, by rw [HT.out]; simp⟩, HB.out⟩
      | false =>
        have HN : Hid (∀ i d, i < k + 1 → cs[i]? = some d → d.covers v g s b name named = false) := fun i d' hi hd' => by
          rcases (by omega : i < k ∨ i = k) with h | rfl
          · exact hno.out i d' h hd'
          · rw [hd] at hd'; cases hd'; exact hq
        clear hno hb hb2 HCON hq
        go_wp2_with fail
        go_roundw
        case rel => exact ⟨k + 1, by omega, by go_num, HN.out, HB.out⟩
        case measure => simp [intOf]; omega
    · obtain rfl : k = cs.length := by omega
      have HT : Hid (heldB cs v g s b name named = false) := any_take (fun i d hi => hno.out i d (List.getElem?_eq_some_iff.1 hi).1 hi)
      clear hno
      go_wp2_with fail
      go_ret
      exact ⟨⟨-1, rfl, by rw [HT.out]; rfl⟩, hb.out⟩
set_option maxHeartbeats 400000 in
theorem cont37 (cs : List CovD) (sv : Value) (pv pg pr pn pb : Nat) (v g s : ByteArray) (b : Bool) (name : ByteArray) (named : Bool) (w : World) (h : Scopes w sv cs) (hcap : Caps w pv pg pn pb v g name named) (h0 : w.cell? ⟨pr, 0, none⟩ = some (.string s)) (h1 : w.cell? ⟨pr, 1, none⟩ = some (.bool b))
    (hv : v.size ≤ Go.maxLen) (hg : g.size ≤ Go.maxLen) (hs : s.size ≤ Go.maxLen) (hn : name.size ≤ Go.maxLen) (hl : cs.length ≤ 1048576) :
    Calls Try.prog 37 #[sv, .func (.func 38) #[] #[.pointer (some ⟨pv, 0, none⟩), .pointer (some ⟨pg, 0, none⟩), .pointer (some ⟨pr, 0, none⟩), .pointer (some ⟨pn, 0, none⟩), .pointer (some ⟨pb, 0, none⟩)]] w fun e w' => e = .returned (.bool (heldB cs v g s b name named)) ∧ Below w.heap.size w w' := by
  have HCON := hidden (idx43 cs sv pv pg pr pn pb v g s b name named w h hcap h0 h1 hv hg hs hn hl)
  obtain ⟨a, cap, rfl, _⟩ := h
  clear hcap h0 h1
  go_enter Try.func37, Try.ntmps37
  go_wp2_with fail
  refine HCON.out.mono ?_
  rintro e w1 ⟨⟨z, rfl, hz⟩, hb⟩
  have HZ := hidden hz
  clear HCON hz
  go_wp2_with fail
  go_ret
  exact ⟨by rw [← HZ.out]; rfl, hb⟩
set_option maxHeartbeats 400000 in
theorem held36 (cs : List CovD) (sv : Value) (ps pv pg pn pb : Nat) (v g s : ByteArray) (b : Bool) (name : ByteArray) (named : Bool) (w : World) (h : Scopes w sv cs) (hps : w.cell? ⟨ps, 0, none⟩ = some sv) (hcap : Caps w pv pg pn pb v g name named)
    (hv : v.size ≤ Go.maxLen) (hg : g.size ≤ Go.maxLen) (hs : s.size ≤ Go.maxLen) (hn : name.size ≤ Go.maxLen) (hl : cs.length ≤ 1048576) :
    Calls Try.prog 36 #[.agg #[.string s, .bool b], .pointer (some ⟨ps, 0, none⟩), .pointer (some ⟨pv, 0, none⟩), .pointer (some ⟨pg, 0, none⟩), .pointer (some ⟨pn, 0, none⟩), .pointer (some ⟨pb, 0, none⟩)] w fun e w' => e = .returned (.bool (heldB cs v g s b name named)) ∧ Below w.heap.size w w' := by
  have hmf : ∀ (fn : Go.Fn) (first cap : Array Value) (w : World), (Instr.makeFunc fn first cap).run Try.prog w = .ok (.func fn first cap) w := fun _ _ _ _ => rfl
  obtain ⟨W, hW⟩ : ∃ W, w.alloc (.cells #[.string s, .bool b] 56) = W := ⟨_, rfl⟩
  obtain ⟨x0, x1, hBW⟩ := new56 w s b W hW
  have HCON := hidden (cont37 cs sv pv pg w.heap.size pn pb v g s b name named W (h.below hBW) (hcap.below hBW) x0 x1 hv hg hs hn hl)
  have hps' : (w.alloc (.cells #[.string s, .bool b] 56)).cell? ⟨ps, 0, none⟩ = some sv := by rw [hW]; exact (hBW.cell (p := ⟨ps, 0, none⟩) (cell_lt hps)).trans hps
  obtain ⟨a, cap, rfl, _⟩ := h
  have HBW : Hid (Below w.heap.size w W) := hBW
  have HW : Hid _ := hW
  clear hcap x0 x1 hBW hW
  go_enter Try.func36, Try.ntmps36
  go_wp2_with fail
  rw [HW.out]
  refine HCON.out.mono ?_
  rintro e w1 ⟨rfl, hb⟩
  clear HCON
  go_wp2_with fail
  go_ret
  exact ⟨rfl, HBW.out.trans (hb.mono HBW.out.size)⟩
end Go.Proofs.Qxb6606306aRR
