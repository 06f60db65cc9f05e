/- made, walked. -/
import Derived.Test.Qxb6606306aRRD2
import Derived.Deep.RegionLaw
namespace Go.Proofs.Qxb6606306aRR
open Go.RowKit Go.Maps
theorem neqNil67 (w : World) : (binOp .neq 67 (.map none) (.map none)).run Try.prog w = .ok (.bool false) w := by kernel_rfl
theorem made_start (c : Nat) (ev : Value) (es : List EntryD) (w W0 : World) (h0 : w.cell? ⟨c, 0, none⟩ = some ev) (h1 : w.cell? ⟨c, 1, none⟩ = some (.map none)) (h2 : w.cell? ⟨c, 2, none⟩ = some (.map none))
    (hW : (((w.setCell ⟨c, 1, none⟩ (.map (some w.heap.size))).setCell ⟨c, 2, none⟩ (.map (some (w.heap.size + 1)))).alloc (.map #[] 0)).alloc (.map #[] 0) = W0) : EInv w W0 c ev es 0 0 := by
  obtain ⟨w', hw'⟩ : ∃ w', (w.setCell ⟨c, 1, none⟩ (.map (some w.heap.size))).setCell ⟨c, 2, none⟩ (.map (some (w.heap.size + 1))) = w' := ⟨_, rfl⟩
  have hlt := cell_lt h0
  have hz : w'.heap.size = w.heap.size := by rw [← hw']; simp
  have k0 : w'.cell? ⟨c, 0, none⟩ = some ev := by
    rw [← hw', World.cell?_setCell_other _ _ _ _ (by intro hh; cases hh), World.cell?_setCell_other _ _ _ _ (by intro hh; cases hh)]; exact h0
  have k1 : w'.cell? ⟨c, 1, none⟩ = some (.map (some w.heap.size)) := by
    rw [← hw', World.cell?_setCell_other _ _ _ _ (by intro hh; cases hh)]
    exact World.cell?_setCell_same' w _ _ (by rw [h1]; rfl)
  have k2 : w'.cell? ⟨c, 2, none⟩ = some (.map (some (w.heap.size + 1))) := by
    rw [← hw']
    refine World.cell?_setCell_same' _ _ _ ?_
    rw [World.cell?_setCell_other _ _ _ _ (by intro hh; cases hh), h2]; rfl
  have hp : ∀ j, c ≤ (⟨c, j, none⟩ : Addr).block := fun j => Nat.le_refl _
  have hb' : Below c w w' := by rw [← hw']; exact ((Below.refl c w).setCell (hp 1) _).setCell (hp 2) _
  rw [hw'] at hW
  have hb1 : Below w'.heap.size w' (w'.alloc (.map #[] 0)) := (Below.refl _ _).alloc (Nat.le_refl _) _
  have hb2 : Below (w'.alloc (.map #[] 0)).heap.size (w'.alloc (.map #[] 0)) ((w'.alloc (.map #[] 0)).alloc (.map #[] 0)) := (Below.refl _ _).alloc (Nat.le_refl _) _
  have hz1 : (w'.alloc (.map #[] 0)).heap.size = w.heap.size + 1 := by simp [hz]
  have hbW : Below w'.heap.size w' W0 := by rw [← hW]; exact hb1.trans (hb2.mono (by omega))
  have hA : MapAt W0 83 w.heap.size 0 (fun _ => none) := by
    have := MapAt.made w' 83
    rw [hz] at this
    rw [← hW]
    exact this.of_block (hb2.block _ (by omega))
  have hP : MapAt W0 9 (w.heap.size + 1) 0 (fun _ => none) := by
    have := MapAt.made (w'.alloc (.map #[] 0)) 9
    rw [hz1] at this
    rw [← hW]
    exact this
  have hlt' : c < w'.heap.size := by omega
  refine ⟨0, fun _ => none, fun _ _ => none, ⟨⟨(hbW.cell (p := ⟨c, 1, none⟩) hlt').trans k1, hA, by omega, fun x v e => (by cases e), fun x b e => (by cases e), fun x b y v e => (by cases e)⟩, ⟨fun _ => none, hP, fun k v e => (by cases e), fun k k' v v' _ e => (by cases e)⟩, (hbW.cell (p := ⟨c, 0, none⟩) hlt').trans k0, (hbW.cell (p := ⟨c, 2, none⟩) hlt').trans k2, hb'.trans (hbW.mono (by omega)), ?_, hlt⟩, by omega, fun i' j' _ _ h => by omega⟩
  rw [← hW]
  simp [hz]
theorem box41 (w : World) (c0 c1 c2 c3 c4 c5 : Value) (W : World) (hW : w.alloc (.cells #[c0, c1, c2, c3, c4, c5] 41) = W) : (W.cell? ⟨w.heap.size, 0, none⟩ = some c0 ∧ W.cell? ⟨w.heap.size, 1, none⟩ = some c1 ∧ W.cell? ⟨w.heap.size, 2, none⟩ = some c2 ∧ W.cell? ⟨w.heap.size, 3, none⟩ = some c3 ∧ W.cell? ⟨w.heap.size, 4, none⟩ = some c4 ∧ W.cell? ⟨w.heap.size, 5, none⟩ = some c5) ∧ Below w.heap.size w W := by
  subst hW
  refine ⟨⟨?_, ?_, ?_, ?_, ?_, ?_⟩, (Below.refl _ _).alloc (Nat.le_refl _) _⟩
  all_goals go_simp
theorem box73 (w : World) (c0 c1 c2 : Value) (W : World) (hW : w.alloc (.cells #[c0, c1, c2] 73) = W) : W.heap[w.heap.size]? = some (.cells #[c0, c1, c2] 73 (0, 0)) ∧ Below w.heap.size w W := by
  subst hW
  exact ⟨heap_alloc_new w _, (Below.refl _ _).alloc (Nat.le_refl _) _⟩
theorem cells73 {w : World} {b : Nat} {c0 c1 c2 : Value} (h : w.heap[b]? = some (.cells #[c0, c1, c2] 73 (0, 0))) : w.cell? ⟨b, 0, none⟩ = some c0 ∧ w.cell? ⟨b, 1, none⟩ = some c1 := by
  constructor <;> simp [World.cell?, h]
/-- An append in a region that draws, by an equation on its run. -/
theorem step_append_run {P : Program} {w : World} {ops : Array Oper} {o : Oper} {a : Act} {K : Act → World → Prop} {Q : Exit → Act → World → Prop} {E : Prop} (hgd : o.guard = none) (s x : Operand) (t : TypeId)
    (ho : o.op = .call { callee := .builtin .append, args := #[s, x], argTypes := #[t, t] }) (v u v' : Value) (w' : World) (hs : a.eval s = v) (hx : a.eval x = u) (hr : (Builtin.append_ #[t, t] o.type #[v, u]).run P w = .ok v' w') (h : K (a.put o.dst v') w') :
    if Region.wanted o (yielded ops a.tmps) = true then Oper.wp P o a w K Q else E := by
  have hw : Region.wanted o (yielded ops a.tmps) = true := by simp [Region.wanted, hgd]
  rw [if_pos hw]
  unfold Oper.wp execOp
  simp only [ho, resolve, invoke, builtin, Sem.run_bind, Sem.run_pure, Result.andThen_ok, List.map_toArray, List.map_cons, List.map_nil, hs, hx, hr]
  exact h
theorem str_at {F : Nat → Prop} {w : World} {a : Option Addr} {n cap k : Nat} {xs : List ByteArray} {t : ByteArray} (h : Strs F w (.slice a n cap) xs) (hk : k < xs.length) (ht : xs.getD k ByteArray.empty = t) : ∃ b off, a = some ⟨b, off, none⟩ ∧ w.cell? ⟨b, off + k, none⟩ = some (.string t) ∧ t.size ≤ Go.maxLen := by
  obtain ⟨a', cap', he, hc, hz⟩ := h
  cases he
  obtain ⟨b, off, ha, _, _, hcell⟩ := hc k hk
  rw [ht] at hcell
  exact ⟨b, off, ha, hcell, ht ▸ hz _ (getD_mem xs k hk)⟩

set_option maxRecDepth 8000 in
set_option maxHeartbeats 8000000 in
theorem made_any (c : Nat) (ev : Value) (es : List EntryD) (w : World) (hS : Subs (fun b => b < c) w ev es) (h0 : w.cell? ⟨c, 0, none⟩ = some ev) (h1 : w.cell? ⟨c, 1, none⟩ = some (.map none)) (h2 : w.cell? ⟨c, 2, none⟩ = some (.map none)) (f1 : w.frozen? ⟨c, 1, none⟩ = false) (f2 : w.frozen? ⟨c, 2, none⟩ = false) (hB : Bears es) :
    Calls Try.prog 34 #[.pointer (some ⟨c, 0, none⟩)] w fun e w' => e = .returned (.pointer (some ⟨c, 0, none⟩)) ∧ MadeOk w w' c es := by
  have HS := hidden hS
  have HB := hidden hB
  have hn1 := hB.1
  have hmm := @run_makeMap Try.prog
  have hnn := neqNil67
  obtain ⟨a, cap, rfl, _⟩ := hS
  have hb2 : Below w.heap.size w ((w.alloc (.map #[] 0)).alloc (.map #[] 0)) := ((Below.refl _ _).alloc (Nat.le_refl _) _).alloc (by simp) _
  have hlt := cell_lt h0
  have q0 := (hb2.cell (p := ⟨c, 0, none⟩) hlt).trans h0
  have q1 := (hb2.cell (p := ⟨c, 1, none⟩) hlt).trans h1
  have q2 := (hb2.cell (p := ⟨c, 2, none⟩) hlt).trans h2
  have q3 := (hb2.frozen (p := ⟨c, 1, none⟩) hlt).trans f1
  have q4 := (hb2.frozen (p := ⟨c, 2, none⟩) hlt).trans f2
  have HH := hidden (And.intro h0 (And.intro h1 h2))
  clear hB hb2
  go_enter Try.func34, Try.ntmps34
  go_wp2_with fail
  clear q0 q1 q2 q3 q4 f1 f2 hnn hmm
  obtain ⟨W0, hW0⟩ : ∃ W0, (((w.setCell ⟨c, 1, none⟩ (.map (some w.heap.size))).setCell ⟨c, 2, none⟩ (.map (some (w.heap.size + 1)))).alloc (.map #[] 0)).alloc (.map #[] 0) = W0 := ⟨_, rfl⟩
  have HE0 := hidden (made_start c _ es w W0 HH.out.1 HH.out.2.1 HH.out.2.2 hW0)
  rw [hW0]
  clear hW0 HH h0 h1 h2
  go_loopw [36] (fun i wr => ∃ k : Nat, k ≤ es.length ∧ i = .int .i64 k ∧ Hid (EInv w wr c (.slice a es.length cap) es k 0)) (fun i _ => es.length - (intOf i).toNat)
  case atStart => exact ⟨0, Nat.zero_le _, rfl, HE0.out⟩
  case round =>
    clear HE0
    obtain ⟨k, hk, rfl, he⟩ := hrel
    by_cases hlk : k < es.length
    · obtain ⟨a', cap', hae, hcs⟩ := HS.out
      obtain ⟨b, off, p, ha, hbc, _, hcell, hpc, _, c0, c1, ⟨hc5, hc6⟩, hRu, hNP⟩ := hcs k hlk
      have hae' : a = some ⟨b, off, none⟩ := by cases hae; exact ha
      subst hae'
      obtain ⟨ent, hent⟩ : ∃ r, es.getD k noEntry = r := ⟨_, rfl⟩
      rw [hent] at hRu hNP
      have hmem : ent ∈ es := hent ▸ getE_mem es k hlk
      have HBe := hidden (HB.out.2.1 ent hmem)
      have HENT := hidden hent
      have hn2 := HBe.out.1
      have hn3 := HBe.out.2.2.1
      have HSV : Hid (∀ w', Below c w w' → w'.cell? ⟨b, off + k, none⟩ = some (.pointer (some ⟨p, 0, none⟩)) ∧ w'.cell? ⟨p, 5, none⟩ = some c0 ∧ w'.cell? ⟨p, 6, none⟩ = some c1) := fun w' hb => ⟨(hb.cell (p := ⟨b, off + k, none⟩) hbc).trans hcell, (hb.cell (p := ⟨p, 5, none⟩) hpc).trans hc5, (hb.cell (p := ⟨p, 6, none⟩) hpc).trans hc6⟩
      have HRu := hidden hRu
      have HNP := hidden hNP
      obtain ⟨ra, rcap, rfl, _⟩ := hRu
      obtain ⟨na, ncap, rfl, _⟩ := hNP
      clear hcs hae ha hent hmem hcell hc5 hc6 hbc hpc
      obtain ⟨hcell, hc5, hc6⟩ := HSV.out wr he.out.below
      go_wp2_with fail
      clear hcell hc5 hc6
      go_loopw [45] (fun i wi => ∃ j : Nat, j ≤ ent.rules.length ∧ i = .int .i64 j ∧ Hid (EInv w wi c (.slice (some ⟨b, off, none⟩) es.length cap) es k j)) (fun i _ => ent.rules.length - (intOf i).toNat)
      case atStart => exact ⟨0, Nat.zero_le _, rfl, he⟩
      case round =>
        clear he
        obtain ⟨j, hj, rfl, he⟩ := hrel
        by_cases hlj : j < ent.rules.length
        · obtain ⟨a', cap', hae, hcs⟩ := HRu.out
          obtain ⟨rb, roff, d0, d1, d2, d3, d4, ha, hrc, _, ⟨y0, y1, y2, y3, y4, y5⟩, hV⟩ := hcs j hlj
          have hae' : ra = some ⟨rb, roff, none⟩ := by cases hae; exact ha
          subst hae'
          obtain ⟨r, hr⟩ : ∃ r, ent.rules.getD j noRule = r := ⟨_, rfl⟩
          rw [hr] at y5 hV
          have hLen : LenR r := HBe.out.2.1 r (hr ▸ getR_mem ent.rules j hlj)
          obtain ⟨l0, l1, l2, l3⟩ := hLen
          have HR := hidden hr
          have HV := hidden hV
          obtain ⟨a0, p0, rfl, _, _⟩ := hV.verbs
          obtain ⟨a1, p1, rfl, _, _⟩ := hV.groups
          obtain ⟨a2, p2, rfl, _, _⟩ := hV.resources
          obtain ⟨a3, p3, rfl, _, _⟩ := hV.names
          obtain ⟨a4, p4, rfl, _, _⟩ := hV.bys
          have e : ∀ i, wr.cell? ⟨rb, i, none⟩ = w.cell? ⟨rb, i, none⟩ := fun i => he.out.below.cell (p := ⟨rb, i, none⟩) hrc
          rw [← e] at y0 y1 y2 y3 y4 y5
          clear hcs hae ha hV hr e
          go_wp2_with fail
          clear y0 y1 y2 y3 y4 y5
          obtain ⟨W2, hW2⟩ : ∃ W2, wr.alloc (.cells #[.slice a0 r.verbs.length p0, .slice a1 r.groups.length p1, .slice a2 r.resources.length p2, .slice a3 r.names.length p3, .slice a4 r.bys.length p4, .bool r.any] 41) = W2 := ⟨_, rfl⟩
          obtain ⟨⟨x0, x1, x2, x3, x4, x5⟩, hbW2⟩ := box41 wr _ _ _ _ _ _ W2 hW2
          obtain ⟨n0, A0, N0, hM0, hn0, hG0⟩ := (he.out.next hbW2).rule
          rw [hW2]
          have HN0 := hidden hn0
          have HG0 := hidden hG0
          have hbd : n0 + workR r ≤ 67108864 := EInv.bound HB.out hlk (by rw [HENT.out]; exact hlj) (by rw [HENT.out]; exact HR.out) hn0
          have HR0 := hidden (RInv.start (r := r) hM0)
          have HX := hidden (And.intro x1 (And.intro x2 (And.intro x3 x5)))
          have hbx : wr.heap.size < W2.heap.size := cell_lt x0
          obtain ⟨bx, hbxe⟩ : ∃ bx, wr.heap.size = bx := ⟨_, rfl⟩
          rw [hbxe] at HX hbx ⊢
          clear x0 x1 x2 x3 x4 x5 hW2 hbW2 hM0 hn0 hG0 he hbxe
          go_loopw [52] (fun i w3 => ∃ a : Nat, a ≤ r.verbs.length ∧ i = .int .i64 a ∧ Hid (RInv w W2 w3 c (.slice (some ⟨b, off, none⟩) es.length cap) n0 r A0 N0 a 0 0)) (fun i _ => r.verbs.length - (intOf i).toNat)
          case atStart => exact ⟨0, Nat.zero_le _, rfl, HR0.out⟩
          case round =>
            clear HR0
            obtain ⟨va, hva, rfl, hi⟩ := hrel
            by_cases hlv : va < r.verbs.length
            · obtain ⟨tv, htv⟩ : ∃ t, r.verbs.getD va ByteArray.empty = t := ⟨_, rfl⟩
              obtain ⟨vb, vo, rfl, hcv, hzv⟩ := str_at (HV.out.verbs.same (Same.of_below_at hi.out.below)) hlv htv
              have x1 := hi.out.ck.2 _ _ _ HX.out.1
              have HTV := hidden htv
              clear htv
              go_wp2_with fail
              clear hcv x1
              go_loopw [59] (fun i w4 => ∃ b' : Nat, b' ≤ r.groups.length ∧ i = .int .i64 b' ∧ Hid (RInv w W2 w4 c (.slice (some ⟨b, off, none⟩) es.length cap) n0 r A0 N0 va b' 0)) (fun i _ => r.groups.length - (intOf i).toNat)
              case atStart => exact ⟨0, Nat.zero_le _, rfl, hi⟩
              case round =>
                clear hi
                obtain ⟨gb, hgb, rfl, hi⟩ := hrel
                by_cases hlg : gb < r.groups.length
                · obtain ⟨tg, htg⟩ : ∃ t, r.groups.getD gb ByteArray.empty = t := ⟨_, rfl⟩
                  obtain ⟨gbb, go, rfl, hcg, hzg⟩ := str_at (HV.out.groups.same (Same.of_below_at hi.out.below)) hlg htg
                  have x2 := hi.out.ck.2 _ _ _ HX.out.2.1
                  have HTG := hidden htg
                  clear htg
                  go_wp2_with fail
                  clear hcg x2
                  go_loopw [66] (fun i w5 => ∃ d : Nat, d ≤ r.resources.length ∧ i = .int .i64 d ∧ Hid (RInv w W2 w5 c (.slice (some ⟨b, off, none⟩) es.length cap) n0 r A0 N0 va gb d)) (fun i _ => r.resources.length - (intOf i).toNat)
                  case atStart => exact ⟨0, Nat.zero_le _, rfl, hi⟩
                  case round =>
                    clear hi
                    obtain ⟨sd, hsd, rfl, hi⟩ := hrel
                    by_cases hls : sd < r.resources.length
                    · obtain ⟨ts, hts⟩ : ∃ t, r.resources.getD sd ByteArray.empty = t := ⟨_, rfl⟩
                      obtain ⟨sb, so, rfl, hcs, hzs⟩ := str_at (HV.out.resources.same (Same.of_below_at hi.out.below)) hls hts
                      have x3 := hi.out.ck.2 _ _ _ HX.out.2.2.1
                      have x5 := hi.out.ck.2 _ _ _ HX.out.2.2.2
                      have hcall := hi.out.call (HV.out.names.same (Same.of_below_at hi.out.below)) (by obtain ⟨_, _, _, _, hz⟩ := HV.out.verbs; exact hz) (by obtain ⟨_, _, _, _, hz⟩ := HV.out.groups; exact hz) (by obtain ⟨_, _, _, _, hz⟩ := HV.out.resources; exact hz) hlv hlg hls hbd l3
                      unfold trip at hcall
                      rw [HTV.out, HTG.out, hts] at hcall
                      unfold actV at hcall
                      have HCALL := hidden hcall
                      clear hcall hts hi
                      go_wp2_with fail
                      refine HCALL.out.mono ?_
                      rintro e w6 ⟨rfl, hi⟩
                      have HI := hidden hi
                      clear hi HCALL hcs x3 x5
                      go_wp2_with fail
                      go_roundw
                      case rel => exact ⟨sd + 1, by omega, by go_num, HI.out⟩
                      case measure => simp [intOf]; omega
                    · obtain rfl : sd = r.resources.length := by omega
                      have HI := hidden hi.out.nextB
                      clear hi
                      go_wp2_with fail
                      go_roundw
                      case rel => exact ⟨gb + 1, by omega, by go_num, HI.out⟩
                      case measure => simp [intOf]; omega
                · obtain rfl : gb = r.groups.length := by omega
                  have HI := hidden hi.out.nextA
                  clear hi
                  go_wp2_with fail
                  go_roundw
                  case rel => exact ⟨va + 1, by omega, by go_num, HI.out⟩
                  case measure => simp [intOf]; omega
            · obtain rfl : va = r.verbs.length := by omega
              have HI := hidden (EInv.ruled (es := es) (i := k) (j := j) (by rw [HENT.out]; exact HR.out) HN0.out HG0.out hi.out.done)
              clear hi
              go_wp2_with fail
              go_roundw
              case rel => exact ⟨j + 1, by omega, by go_num, HI.out⟩
              case measure => simp [intOf]; omega
        · obtain rfl : j = ent.rules.length := by omega
          obtain ⟨_, _, hc6⟩ := HSV.out wr he.out.below
          have HP0 := hidden (PInv.start (by rw [HENT.out]; exact he.out))
          clear he
          go_wp2_with fail
          clear hc6
          go_loopw [90] (fun i w6 => ∃ q : Nat, q ≤ ent.paths.length ∧ i = .int .i64 q ∧ Hid (PInv w w6 c (.slice (some ⟨b, off, none⟩) es.length cap) es k q 0)) (fun i _ => ent.paths.length - (intOf i).toNat)
          case atStart => exact ⟨0, Nat.zero_le _, rfl, HP0.out⟩
          case round =>
            clear HP0
            obtain ⟨q, hq, rfl, hi⟩ := hrel
            by_cases hlq : q < ent.paths.length
            · obtain ⟨a', cap', hae, hcs⟩ := HNP.out
              obtain ⟨nb, noff, d0, d1, ha, hnc, _, ⟨y0, y1, y2⟩, hV0, hV1⟩ := hcs q hlq
              have hae' : na = some ⟨nb, noff, none⟩ := by cases hae; exact ha
              subst hae'
              obtain ⟨pd, hpd⟩ : ∃ r, ent.paths.getD q noPath = r := ⟨_, rfl⟩
              rw [hpd] at hV0 hV1
              obtain ⟨l0, l1⟩ : LenP pd := HBe.out.2.2.2 pd (hpd ▸ getP_mem ent.paths q hlq)
              have HPD := hidden hpd
              have HV0 := hidden hV0
              have HV1 := hidden hV1
              obtain ⟨a0, p0, rfl, _, _⟩ := hV0
              obtain ⟨a1, p1, rfl, _, _⟩ := hV1
              have e : ∀ i, wr.cell? ⟨nb, i, none⟩ = w.cell? ⟨nb, i, none⟩ := fun i => hi.out.below.cell (p := ⟨nb, i, none⟩) hnc
              rw [← e] at y0 y1 y2
              clear hcs hae ha hpd e
              go_wp2_with fail
              clear y0 y1 y2
              obtain ⟨W2, hW2⟩ : ∃ W2, wr.alloc (.cells #[.slice a0 pd.verbs.length p0, .slice a1 pd.urls.length p1, .slice none 0 0] 73) = W2 := ⟨_, rfl⟩
              obtain ⟨hblk, hbW2⟩ := box73 wr _ _ _ W2 hW2
              have HP0 := hidden (hi.out.next hbW2)
              rw [hW2]
              have HBL := hidden hblk
              obtain ⟨bx, hbxe⟩ : ∃ bx, wr.heap.size = bx := ⟨_, rfl⟩
              rw [hbxe] at HBL ⊢
              clear hW2 hbW2 hblk hbxe hi
              go_loopw [97] (fun i w7 => ∃ va : Nat, va ≤ pd.verbs.length ∧ i = .int .i64 va ∧ Hid (PInv w w7 c (.slice (some ⟨b, off, none⟩) es.length cap) es k q va) ∧ Hid (w7.heap[bx]? = some (.cells #[.slice a0 pd.verbs.length p0, .slice a1 pd.urls.length p1, .slice none 0 0] 73 (0, 0)))) (fun i _ => pd.verbs.length - (intOf i).toNat)
              case atStart => exact ⟨0, Nat.zero_le _, rfl, HP0.out, HBL.out⟩
              case round =>
                clear HP0 HBL
                obtain ⟨va, hva, rfl, hi, hbl⟩ := hrel
                by_cases hlv : va < pd.verbs.length
                · obtain ⟨tv, htv⟩ : ∃ t, pd.verbs.getD va ByteArray.empty = t := ⟨_, rfl⟩
                  obtain ⟨vb, vo, rfl, hcv, hzv⟩ := str_at (HV0.out.same (Same.of_below_at hi.out.below)) hlv htv
                  have hid : PInv w wr.drew c (.slice (some ⟨b, off, none⟩) es.length cap) es k q va := hi.out.next (Below.refl _ _).drew
                  obtain ⟨v1, v2, w1, w2, g1, g2, g3, g4, ⟨ga, gl, gc, rfl⟩, g5, g6⟩ := hid.path HB.out hlk (by rw [HENT.out]; exact hlq) (by rw [HENT.out, HPD.out]; exact hlv) (by rw [HENT.out, HPD.out]; exact HV1.out.same (Same.of_below_at hid.below)) hzv
                  have hc2 : wr.cell? ⟨c, 2, none⟩ = some (.map (some (w.heap.size + 1))) := by obtain ⟨_, _, _, hm, _⟩ := hi.out; exact hm.c2
                  obtain ⟨b1, b2⟩ := g6 bx _ _ _ hbl.out (by decide)
                  obtain ⟨z0, z1⟩ := cells73 hbl.out
                  obtain ⟨z2, z3⟩ := cells73 b1
                  have HI := hidden g5
                  have HB2 := hidden b2
                  clear hid g5 g6 b1 b2 hi hbl htv z0 z2
                  go_wp2_with fail
                  go_region_law (refine step_append_run rfl (.tmp 111) (.tmp 113) 24 rfl _ _ _ _ rfl rfl g2 ?_)
                  all_goals
                    clear g1 g2 g3 g4 hc2 z1 z3 hcv
                    go_wp2_with fail
                    go_roundw
                    case rel => exact ⟨va + 1, by omega, by go_num, HI.out, HB2.out⟩
                    case measure => simp [intOf]; omega
                · obtain rfl : va = pd.verbs.length := by omega
                  have HI := hidden (PInv.step (by rw [HENT.out, HPD.out]; exact hi.out))
                  clear hi hbl
                  go_wp2_with fail
                  go_roundw
                  case rel => exact ⟨q + 1, by omega, by go_num, HI.out⟩
                  case measure => simp [intOf]; omega
            · obtain rfl : q = ent.paths.length := by omega
              have HI := hidden (PInv.done (by rw [HENT.out]; exact hi.out))
              clear hi
              go_wp2_with fail
              go_roundw
              case rel => exact ⟨k + 1, by omega, by go_num, HI.out⟩
              case measure => simp [intOf]; omega
    · obtain rfl : k = es.length := by omega
      have HF := hidden he.out.made
      clear he
      go_wp2_with fail
      go_ret
      exact ⟨rfl, HF.out⟩
end Go.Proofs.Qxb6606306aRR
