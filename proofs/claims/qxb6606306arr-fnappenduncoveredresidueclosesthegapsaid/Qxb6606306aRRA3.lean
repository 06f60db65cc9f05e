/- appendUncovered, walked. -/
import Derived.Test.Qxb6606306aRRA2
import Derived.Deep.AppendLies
namespace Go.Proofs.Qxb6606306aRR
open Go.RowKit Go.Maps
theorem two_boxes (w : World) (c0 c1 c2 c3 c4 c5 sv : Value) (W : World) (hW : (w.alloc (.cells #[c0, c1, c2, c3, c4, c5] 41)).alloc (.cells #[sv] 35) = W) :
    (W.cell? ⟨w.heap.size, 0, none⟩ = some c0 ∧ W.cell? ⟨w.heap.size, 1, none⟩ = some c1 ∧ W.cell? ⟨w.heap.size, 2, none⟩ = some c2 ∧ W.cell? ⟨w.heap.size, 3, none⟩ = some c3 ∧ W.cell? ⟨w.heap.size, 4, none⟩ = some c4 ∧ W.cell? ⟨w.heap.size, 5, none⟩ = some c5) ∧ W.cell? ⟨w.heap.size + 1, 0, none⟩ = some sv ∧ Below w.heap.size w W := by
  subst hW
  refine ⟨⟨?_, ?_, ?_, ?_, ?_, ?_⟩, ?_, ((Below.refl _ _).alloc (Nat.le_refl _) _).alloc (by simp) _⟩
  all_goals go_simp
theorem box9 (w : World) (t : ByteArray) (W : World) (hW : w.alloc (.cells #[.string t] 9) = W) : W.heap[w.heap.size]? = some (.cells #[.string t] 9 (0, 0)) ∧ Below w.heap.size w W := by
  subst hW
  exact ⟨heap_alloc_new w _, (Below.refl _ _).alloc (Nat.le_refl _) _⟩
theorem cell9 {w : World} {b : Nat} {t : ByteArray} (h : w.heap[b]? = some (.cells #[.string t] 9 (0, 0))) : w.cell? ⟨b, 0, none⟩ = some (.string t) := by simp [World.cell?, h]
theorem restN_step (cs : List CovD) (r : RuleD) (v g s : ByteArray) (ns : List ByteArray) {k : Nat} (hk : k < ns.length) {t : ByteArray} (ht : ns.getD k ByteArray.empty = t) :
    restN cs r v g s (ns.take (k + 1)) = restN cs r v g s (ns.take k) ++ (if CR cs v g s r.any t true then [] else [t]) := by
  have e : ns.take (k + 1) = ns.take k ++ [t] := by
    rw [← ht, List.getD_eq_getElem?_getD, List.take_add_one, List.getElem?_eq_getElem hk]
    rfl
  unfold restN
  rw [e, List.filter_append]
  congr 1
  cases hc : CR cs v g s r.any t true <;> simp [hc]
theorem owns_strs {w : World} {base n : Nat} {v : Value} {ns : List ByteArray} (h : w.ownsRow base 9 1 v n (strV ns)) (hn : n = ns.length) (hz : ∀ s ∈ ns, s.size ≤ Go.maxLen) : Strs (fun b => base ≤ b) w v ns := by
  subst hn
  rcases h.2 with ⟨rfl, h0⟩ | ⟨g, cap, cur, rfl, hb, hg, _⟩
  · exact ⟨none, 0, by rw [h0], fun i hi => by omega, hz⟩
  · refine ⟨_, cap, rfl, fun i hi => ⟨g, 0, rfl, hb, (Array.getElem?_eq_some_iff.1 hg).1, ?_⟩, hz⟩
    rw [Nat.zero_add, h.cellAt i (by omega), strV_get ns i hi]
theorem owns_slice {w : World} {base n : Nat} {v : Value} {xs : List Value} (h : w.ownsRow base 9 1 v n xs) : ∃ a cap, v = .slice a n cap := by
  rcases h.2 with ⟨rfl, h0⟩ | ⟨g, cap, cur, rfl, _⟩
  · exact ⟨none, 0, by rw [h0]⟩
  · exact ⟨_, _, rfl⟩
theorem restN_small (cs : List CovD) (r : RuleD) (v g s : ByteArray) (ns : List ByteArray) : (restN cs r v g s ns).length ≤ ns.length ∧ ∀ t ∈ restN cs r v g s ns, t ∈ ns :=
  ⟨List.length_filter_le _ _, fun _ ht => (List.mem_filter.1 ht).1⟩
theorem owns_below {w w' : World} {base e size n : Nat} {v : Value} {xs : List Value} (h : w.ownsRow base e size v n xs) (hb : Below w.heap.size w w') : w'.ownsRow base e size v n xs := by
  obtain ⟨k1, k2⟩ := h
  refine ⟨k1, k2.imp id ?_⟩
  rintro ⟨g, cap, cur, e, k3, k4, k5⟩
  exact ⟨g, cap, cur, e, k3, (hb.block g (Array.getElem?_eq_some_iff.1 k4).1).trans k4, k5⟩
theorem AInv.push {W w5 W5 w6 : World} {v v' : Value} {cs : List CovD} {r : RuleD} {rs : List RuleD} {ia ib id : Nat} {tv tg ts : ByteArray} {c0 c1 c2 c3 c4 : Value} {xs : List Value} (hbl : Below W.heap.size W w5) (hbW5 : Below w5.heap.size w5 W5) (h1 : W5.ownsRow W.heap.size 41 6 v rs.length xs)
    (h2 : ∀ i, i < rs.length → ∃ c0 c1 c2 c3 c4, (xs[i * 6]? = some c0 ∧ xs[i * 6 + 1]? = some c1 ∧ xs[i * 6 + 2]? = some c2 ∧ xs[i * 6 + 3]? = some c3 ∧ xs[i * 6 + 4]? = some c4 ∧ xs[i * 6 + 5]? = some (.bool (rs.getD i noRule).any)) ∧ RuleV (fun b => v.ownBlock ≠ some b) W5 c0 c1 c2 c3 c4 (rs.getD i noRule))
    (hx : RuleV (fun b => v.ownBlock ≠ some b) W5 c0 c1 c2 c3 c4 (outR cs r tv tg ts)) (hr : w6.ownsRow W.heap.size 41 6 v' (rs.length + 1) (xs ++ [c0, c1, c2, c3, c4, .bool r.any])) (hg : W5.grownBy w6 v.ownBlock) (hat : v'.ownBlock = v.ownBlock ∨ v'.ownBlock = some W5.heap.size)
    (hAI : AI cs r rs ia ib id) (hin : InR r ia ib id) (ho : outB cs r tv tg ts = true) (e1 : vOf r ia = tv) (e2 : gOf r ib = tg) (e3 : sOf r id = ts) : AInv W w6 v' cs r ia ib (id + 1) ∧ ∀ (b : Nat) k ty fr, W5.heap[b]? = some (Obj.cells k ty fr) → ty ≠ 41 → w6.heap[b]? = some (Obj.cells k ty fr) := by
  subst e1 e2 e3
  have hb5 : Below W.heap.size W W5 := hbl.trans (hbW5.mono hbl.size)
  refine ⟨⟨_, RowOut.push (x := outR cs r (vOf r ia) (gOf r ib) (sOf r id)) h1 h2 hx hr hg hat, hAI.emit hin ho, hb5.grown hg hb5.size (fun j hj => (h1.lt j hj).1)⟩, fun b k ty fr hb hty => (hg.block b (Array.getElem?_eq_some_iff.1 hb).1 (fun e => ?_)).trans hb⟩
  rcases h1.2 with ⟨rfl, _⟩ | ⟨g, cap, cur, rfl, _, hg', _⟩
  · cases e
  · cases e
    rw [hb] at hg'
    cases hg'
    exact hty rfl
/-- It returned such rules. -/
def RetResid (w w' : World) (cs : List CovD) (r : RuleD) (e : Ending) : Prop := ∃ v rs, e = .returned v ∧ Rules Any w' v rs ∧ Resid cs r rs ∧ Below w.heap.size w w'
set_option maxRecDepth 8000 in
set_option maxHeartbeats 8000000 in
theorem append_any (F : Nat → Prop) (c0 c1 c2 c3 c4 : Value) (r : RuleD) (sv : Value) (cs : List CovD) (w : World) (hV : RuleV F w c0 c1 c2 c3 c4 r) (hSm : SmallR r) (hSc : Scopes w sv cs) (hl : cs.length ≤ 1048576) (htri : tri r ≤ 67108864) :
    Calls Try.prog 33 #[.slice none 0 0, .agg #[c0, c1, c2, c3, c4, .bool r.any], sv] w fun e w' => RetResid w w' cs r e := by
  have hmf : ∀ (fn : Go.Fn) (first cap : Array Value) (w : World), (Instr.makeFunc fn first cap).run Try.prog w = .ok (.func fn first cap) w := fun _ _ _ _ => rfl
  have HV := hidden hV
  have HSC := hidden hSc
  obtain ⟨a0, p0, rfl, _, _⟩ := hV.verbs
  obtain ⟨a1, p1, rfl, _, _⟩ := hV.groups
  obtain ⟨a2, p2, rfl, _, _⟩ := hV.resources
  obtain ⟨a3, p3, rfl, _, _⟩ := hV.names
  obtain ⟨a4, p4, rfl, _, _⟩ := hV.bys
  obtain ⟨sa, scap, rfl, _⟩ := hSc
  clear hV
  go_enter Try.func33, Try.ntmps33
  go_wp2_with fail
  obtain ⟨W, hW⟩ : ∃ W, (w.alloc (.cells #[.slice a0 r.verbs.length p0, .slice a1 r.groups.length p1, .slice a2 r.resources.length p2, .slice a3 r.names.length p3, .slice a4 r.bys.length p4, .bool r.any] 41)).alloc (.cells #[.slice sa cs.length scap] 35) = W := ⟨_, rfl⟩
  obtain ⟨⟨x0, x1, x2, x3, x4, x5⟩, x6, hBW⟩ := two_boxes w _ _ _ _ _ _ _ W hW
  rw [hW]
  have HX : Hid (∀ w', Below W.heap.size W w' → (w'.cell? ⟨w.heap.size, 1, none⟩ = some (.slice a1 r.groups.length p1) ∧ w'.cell? ⟨w.heap.size, 2, none⟩ = some (.slice a2 r.resources.length p2) ∧ w'.cell? ⟨w.heap.size, 3, none⟩ = some (.slice a3 r.names.length p3) ∧ w'.cell? ⟨w.heap.size, 4, none⟩ = some (.slice a4 r.bys.length p4) ∧ w'.cell? ⟨w.heap.size, 5, none⟩ = some (.bool r.any)) ∧ w'.cell? ⟨w.heap.size + 1, 0, none⟩ = some (.slice sa cs.length scap)) := fun w' hb => ⟨⟨(hb.cell (p := ⟨w.heap.size, 1, none⟩) (cell_lt x0)).trans x1, (hb.cell (p := ⟨w.heap.size, 2, none⟩) (cell_lt x0)).trans x2, (hb.cell (p := ⟨w.heap.size, 3, none⟩) (cell_lt x0)).trans x3, (hb.cell (p := ⟨w.heap.size, 4, none⟩) (cell_lt x0)).trans x4, (hb.cell (p := ⟨w.heap.size, 5, none⟩) (cell_lt x0)).trans x5⟩, (hb.cell (p := ⟨w.heap.size + 1, 0, none⟩) (cell_lt x6)).trans x6⟩
  have HBW := hidden hBW
  have HSRC : Hid (∀ w', Below W.heap.size W w' → Below w.heap.size w w') := fun w' hb => hBW.trans (hb.mono hBW.size)
  have HA0 : Hid (AInv W W (.slice none 0 0) cs r 0 0 0) := ⟨[], RowOut.nil _ _, AI.start cs r, Below.refl _ _⟩
  have HSM := hidden hSm
  have hlV := hSm.1.1
  have hlG := hSm.2.1.1
  have hlR := hSm.2.2.1.1
  have hlN := hSm.2.2.2.1.1
  clear hW x0 x1 x2 x3 x4 x5 x6 hBW hSm
  go_loopw [0, 21] (fun ov i wr => ∃ a : Nat, a ≤ r.verbs.length ∧ i = .int .i64 a ∧ Hid (AInv W wr ov cs r a 0 0)) (fun _ i _ => r.verbs.length - (intOf i).toNat)
  case atStart => exact ⟨0, Nat.zero_le _, rfl, HA0.out⟩
  case round =>
    clear HA0
    obtain ⟨ia, hia, rfl, hi⟩ := hrel
    obtain ⟨ga, gl, gc, rfl⟩ := hi.out.slice
    by_cases hlv : ia < r.verbs.length
    · obtain ⟨tv, htv⟩ : ∃ t, r.verbs.getD ia ByteArray.empty = t := ⟨_, rfl⟩
      obtain ⟨vb, vo, rfl, hcv, hzv⟩ := str_at (HV.out.verbs.same (Same.of_below (HSRC.out _ hi.out.below))) hlv htv
      have HTV : Hid (vOf r ia = tv) := htv
      obtain ⟨⟨x1, _⟩, _⟩ := HX.out wr hi.out.below
      have x1' : ∀ o, (wr.alloc o).cell? ⟨w.heap.size, 1, none⟩ = some (.slice a1 r.groups.length p1) := fun o => (((Below.refl wr.heap.size wr).alloc (Nat.le_refl _) o).cell (p := ⟨w.heap.size, 1, none⟩) (cell_lt x1)).trans x1
      clear htv x1
      go_wp2_with fail
      obtain ⟨W1, hW1⟩ : ∃ W1, wr.alloc (.cells #[.string tv] 9) = W1 := ⟨_, rfl⟩
      obtain ⟨hbv, hbW1⟩ := box9 wr tv W1 hW1
      have HA1 := hidden (hi.out.next hbW1)
      have HBV := hidden hbv
      rw [hW1]
      obtain ⟨bv, hbve⟩ : ∃ b, wr.heap.size = b := ⟨_, rfl⟩
      rw [hbve] at HBV ⊢
      clear hW1 hbv hbW1 hi x1' hcv hbve
      go_loopw [0, 28] (fun ov i w2 => ∃ a : Nat, a ≤ r.groups.length ∧ i = .int .i64 a ∧ Hid (AInv W w2 ov cs r ia a 0) ∧ Hid (w2.heap[bv]? = some (.cells #[.string tv] 9 (0, 0)))) (fun _ i _ => r.groups.length - (intOf i).toNat)
      case atStart => exact ⟨0, Nat.zero_le _, rfl, HA1.out, HBV.out⟩
      case round =>
        clear HA1 HBV
        obtain ⟨ib, hib, rfl, hi, hbv⟩ := hrel
        obtain ⟨ga, gl, gc, rfl⟩ := hi.out.slice
        by_cases hlg : ib < r.groups.length
        · obtain ⟨tg, htg⟩ : ∃ t, r.groups.getD ib ByteArray.empty = t := ⟨_, rfl⟩
          obtain ⟨gb, go, rfl, hcg, hzg⟩ := str_at (HV.out.groups.same (Same.of_below (HSRC.out _ hi.out.below))) hlg htg
          have HTG : Hid (gOf r ib = tg) := htg
          obtain ⟨⟨_, x2, _⟩, _⟩ := HX.out wr hi.out.below
          have x2' : ∀ o, (wr.alloc o).cell? ⟨w.heap.size, 2, none⟩ = some (.slice a2 r.resources.length p2) := fun o => (((Below.refl wr.heap.size wr).alloc (Nat.le_refl _) o).cell (p := ⟨w.heap.size, 2, none⟩) (cell_lt x2)).trans x2
          clear htg x2
          go_wp2_with fail
          obtain ⟨W2, hW2⟩ : ∃ W1, wr.alloc (.cells #[.string tg] 9) = W1 := ⟨_, rfl⟩
          obtain ⟨hbg, hbW2⟩ := box9 wr tg W2 hW2
          have HA1 := hidden (hi.out.next hbW2)
          have HBG := hidden hbg
          have HBV := hidden ((hbW2.block _ (Array.getElem?_eq_some_iff.1 hbv.out).1).trans hbv.out)
          rw [hW2]
          obtain ⟨bg, hbge⟩ : ∃ b, wr.heap.size = b := ⟨_, rfl⟩
          rw [hbge] at HBG ⊢
          clear hW2 hbg hbW2 hi x2' hcg hbge hbv
          go_loopw [0, 35] (fun ov i w3 => ∃ a : Nat, a ≤ r.resources.length ∧ i = .int .i64 a ∧ Hid (AInv W w3 ov cs r ia ib a) ∧ Hid (w3.heap[bv]? = some (.cells #[.string tv] 9 (0, 0))) ∧ Hid (w3.heap[bg]? = some (.cells #[.string tg] 9 (0, 0)))) (fun _ i _ => r.resources.length - (intOf i).toNat)
          case atStart => exact ⟨0, Nat.zero_le _, rfl, HA1.out, HBV.out, HBG.out⟩
          case round =>
            clear HA1 HBV HBG
            obtain ⟨id, hid, rfl, hi, hbv, hbg⟩ := hrel
            obtain ⟨ga, gl, gc, rfl⟩ := hi.out.slice
            by_cases hls : id < r.resources.length
            · obtain ⟨ts, hts⟩ : ∃ t, r.resources.getD id ByteArray.empty = t := ⟨_, rfl⟩
              obtain ⟨sb, so, rfl, hcs, hzs⟩ := str_at (HV.out.resources.same (Same.of_below (HSRC.out _ hi.out.below))) hls hts
              have HTS : Hid (sOf r id = ts) := hts
              have hzs' : ts.size ≤ 1048576 := hts ▸ HSM.out.2.2.1.2 _ (getD_mem r.resources id hls)
              obtain ⟨⟨_, _, x3, _, x5⟩, _⟩ := HX.out wr hi.out.below
              have x3' : ∀ o, (wr.alloc o).cell? ⟨w.heap.size, 3, none⟩ = some (.slice a3 r.names.length p3) := fun o => (((Below.refl wr.heap.size wr).alloc (Nat.le_refl _) o).cell (p := ⟨w.heap.size, 3, none⟩) (cell_lt x3)).trans x3
              have hin : InR r ia ib id := ⟨hlv, hlg, hls⟩
              clear hts x3
              go_wp2_with fail
              obtain ⟨W3, hW3⟩ : ∃ W1, wr.alloc (.cells #[.string ts, .bool r.any] 56) = W1 := ⟨_, rfl⟩
              obtain ⟨z0, z1, hbW3⟩ := new56 wr ts r.any W3 hW3
              have HA3 := hidden (hi.out.next hbW3)
              have HBV := hidden ((hbW3.block _ (Array.getElem?_eq_some_iff.1 hbv.out).1).trans hbv.out)
              have HBG := hidden ((hbW3.block _ (Array.getElem?_eq_some_iff.1 hbg.out).1).trans hbg.out)
              have HGLT : Hid (∀ g, (Value.slice ga gl gc).ownBlock = some g → g < W3.heap.size) := fun g hg => by obtain ⟨rs, hr, _⟩ := hi.out; exact Nat.lt_of_lt_of_le (hr.block hg).2.1 hbW3.size
              have HCLO : Hid (∀ w' name named, Below W3.heap.size W3 w' → name.size ≤ Go.maxLen → Calls Try.prog 41 #[.string name, .bool named, .pointer (some ⟨w.heap.size + 1, 0, none⟩), .pointer (some ⟨bv, 0, none⟩), .pointer (some ⟨bg, 0, none⟩), .pointer (some ⟨wr.heap.size, 0, none⟩)] w' fun e w'' => e = .returned (.bool (CR cs tv tg ts r.any name named)) ∧ Below w'.heap.size w' w'') := fun w' name named hb hnm => by
                have hbW : Below W.heap.size W w' := HA3.out.below.trans (hb.mono HA3.out.below.size)
                exact clo41 cs _ _ _ _ _ tv tg ts r.any name named w' (HSC.out.below (HSRC.out _ hbW)) (HX.out w' hbW).2 (cell9 ((hb.block _ (Array.getElem?_eq_some_iff.1 HBV.out).1).trans HBV.out)) (cell9 ((hb.block _ (Array.getElem?_eq_some_iff.1 HBG.out).1).trans HBG.out)) ((hb.cell (p := ⟨wr.heap.size, 0, none⟩) (cell_lt z0)).trans z0) ((hb.cell (p := ⟨wr.heap.size, 1, none⟩) (cell_lt z0)).trans z1) hzv hzg hzs' hnm hl
              rw [hW3]
              obtain ⟨br, hbre⟩ : ∃ b, wr.heap.size = b := ⟨_, rfl⟩
              rw [hbre] at HCLO ⊢
              clear hW3 hbW3 hi x3' x5 hcs hbv hbg z0 z1 hbre
              obtain ⟨i9, hi9, hz90, hz91, hz92⟩ := info_parts info9
              go_loopw [15, 47] (fun nv i w4 => ∃ k : Nat, ∃ ns : List ByteArray, k ≤ r.names.length ∧ i = .int .i64 k ∧ Hid (ns = restN cs r tv tg ts (r.names.take k)) ∧ Hid (w4.ownsRow W3.heap.size 9 1 nv ns.length (strV ns)) ∧ Hid (Below W3.heap.size W3 w4)) (fun _ i _ => r.names.length - (intOf i).toNat)
              case atStart => exact ⟨0, [], Nat.zero_le _, rfl, rfl, World.ownsRow_nil _ _ _ _, Below.refl _ _⟩
              case round =>
                obtain ⟨k, ns, hk, rfl, hns, hown, hb4⟩ := hrel
                obtain ⟨na, nc, rfl⟩ := owns_slice hown.out
                by_cases hlk : k < r.names.length
                · obtain ⟨tn, htn⟩ : ∃ t, r.names.getD k ByteArray.empty = t := ⟨_, rfl⟩
                  have hb4W : Below W.heap.size W wr := HA3.out.below.trans (hb4.out.mono HA3.out.below.size)
                  obtain ⟨nb, no, rfl, hcn, hzn⟩ := str_at (HV.out.names.same (Same.of_below (HSRC.out _ hb4W))) hlk htn
                  have HST := hidden (restN_step cs r tv tg ts r.names hlk htn)
                  clear htn hb4W
                  go_wp2_with fail
                  refine (HCLO.out wr tn true hb4.out hzn).mono ?_
                  rintro e w5 ⟨rfl, hb5⟩
                  obtain ⟨q, hq⟩ : ∃ q, CR cs tv tg ts r.any tn true = q := ⟨_, rfl⟩
                  rw [hq] at HST ⊢
                  have HB5 := hidden (hb4.out.trans (hb5.mono hb4.out.size))
                  have HO5 := hidden (owns_below hown.out hb5)
                  clear hb4 hown hb5 hq hcn
                  cases q with
                  | true =>
                    have HN : Hid (ns = restN cs r tv tg ts (r.names.take (k + 1))) := by show ns = _; rw [HST.out, hns.out]; simp
                    clear HST hns
                    go_wp2_with fail
                    go_roundw
                    case rel => exact ⟨k + 1, ns, by omega, by go_num, HN.out, HO5.out, HB5.out⟩
                    case measure => simp [intOf]; omega
                  | false =>
                    have HN : Hid (ns ++ [tn] = restN cs r tv tg ts (r.names.take (k + 1))) := by show ns ++ [tn] = _; rw [HST.out, hns.out]; simp
                    have hln : ns.length ≤ 65536 := by rw [hns.out]; have := (restN_small cs r tv tg ts (r.names.take k)).1; have := List.length_take_le k r.names; omega
                    clear HST hns
                    have HBA : Hid (Below W3.heap.size W3 (w5.alloc (.cells #[.string tn] 9))) := HB5.out.alloc HB5.out.size _
                    have hsz5 := HB5.out.size
                    go_wp2_with (at_builtin; refine wpList_append_own_at _ rfl (.tmp 55) (.tmp 57) 24 rfl W3.heap.size 9 i9 (.string ⟨#[]⟩) 1 16 Try.underlying24 hi9 hz90 hz91 hz92 rfl (by omega) _ ns.length (strV ns) rfl (HO5.out.alloc _) ⟨w5.heap.size, 0, none⟩ 1 1 [.string tn] rfl rfl (cell_one_new _ _ _) (by intro u hu; simp at hu; subst hu; rfl) (by unfold Go.maxLen; omega) (by omega) (by simp; omega) ?_)
                    intro nv' w6 hown' hgrow _ hat
                    have HO6 : Hid (w6.ownsRow W3.heap.size 9 1 nv' (ns ++ [tn]).length (strV (ns ++ [tn]))) := by
                      show World.ownsRow _ _ _ _ _ _ _
                      have e1 : (ns ++ [tn]).length = ns.length + 1 := by simp
                      have e2 : strV (ns ++ [tn]) = strV ns ++ [.string tn] := by simp [strV]
                      rw [e1, e2]
                      exact hown'
                    have HB6 : Hid (Below W3.heap.size W3 w6) := HBA.out.grown hgrow HBA.out.size (fun j hj => (HO5.out.lt j hj).1)
                    clear hown' hgrow hat HO5 HBA HB5
                    go_wp2_with fail
                    go_roundw
                    case rel => exact ⟨k + 1, ns ++ [tn], by omega, by go_num, HN.out, HO6.out, HB6.out⟩
                    case measure => simp [intOf]; omega
                · obtain rfl : k = r.names.length := by omega
                  rw [List.take_length] at hns
                  have HA4 := hidden (HA3.out.next hb4.out)
                  have HBV4 := hidden ((hb4.out.block _ (Array.getElem?_eq_some_iff.1 HBV.out).1).trans HBV.out)
                  have HBG4 := hidden ((hb4.out.block _ (Array.getElem?_eq_some_iff.1 HBG.out).1).trans HBG.out)
                  obtain ⟨⟨_, _, y3, _, _⟩, _⟩ := HX.out wr HA4.out.below
                  have hnl : ns.length ≤ r.names.length := by rw [hns.out]; exact (restN_small cs r tv tg ts r.names).1
                  by_cases hn0' : (r.names.length : Int) = 0
                  · have HN0 : Hid (r.names.length = 0) := by show r.names.length = 0; omega
                    have HNS0 : Hid (ns.length = 0) := by show ns.length = 0; omega
                    clear hnl
                    go_wp2_with fail
                    refine (HCLO.out wr ⟨#[]⟩ false hb4.out (by decide)).mono ?_
                    rintro e w5 ⟨rfl, hb5⟩
                    obtain ⟨q, hq⟩ : ∃ q, CR cs tv tg ts r.any ⟨#[]⟩ false = q := ⟨_, rfl⟩
                    rw [hq]
                    have HB5 := hidden (hb4.out.trans (hb5.mono hb4.out.size))
                    have HO5 := hidden (owns_below hown.out hb5)
                    have HA5 := hidden (HA4.out.next hb5)
                    have HBV5 := hidden ((hb5.block _ (Array.getElem?_eq_some_iff.1 HBV4.out).1).trans HBV4.out)
                    have HBG5 := hidden ((hb5.block _ (Array.getElem?_eq_some_iff.1 HBG4.out).1).trans HBG4.out)
                    have HOUT : Hid (outB cs r tv tg ts = !q) := by show outB cs r tv tg ts = !q; unfold outB; rw [hq, ← hns.out, HNS0.out, HN0.out]; simp
                    clear hb4 hown hb5 hq HA4 HBV4 HBG4 y3
                    cases q with
                    | true =>
                      have hns0' : ¬ (0 : Int) < ns.length := by have := HNS0.out; omega
                      have HAn := hidden (HA5.out.skip (by rw [HTV.out, HTG.out, HTS.out]; exact HOUT.out))
                      clear HA5
                      go_wp2_with fail
                      go_roundw
                      case rel => exact ⟨id + 1, by omega, by go_num, HAn.out, HBV5.out, HBG5.out⟩
                      case measure => simp [intOf]; omega
                    | false =>
                      obtain ⟨rs, hRow, hAI, hbl⟩ := HA5.out
                      obtain ⟨ga', gc', hge⟩ := hRow.slice
                      cases hge
                      have hrl : rs.length ≤ 67108864 := by have := hAI.2.1; have := idxT_le r hin; omega
                      obtain ⟨i41, hi41, hq0, hq1, hq2⟩ := info_parts info41
                      obtain ⟨W5, hW5⟩ : ∃ W5, (((w5.alloc (.cells #[.string tv] 9)).alloc (.cells #[.string tg] 9)).alloc (.cells #[.string ts] 9)).alloc (.cells #[.slice (some ⟨w5.heap.size, 0, none⟩) 1 1, .slice (some ⟨w5.heap.size + 1, 0, none⟩) 1 1, .slice (some ⟨w5.heap.size + 1 + 1, 0, none⟩) 1 1, .slice na ns.length nc, .slice a4 r.bys.length p4, .bool r.any] 41) = W5 := ⟨_, rfl⟩
                      obtain ⟨hbW5, hblk, s0, s1, s2, hz5⟩ := emit_world w5 tv tg ts _ _ r.any W5 hW5 hzv hzg hzs
                      obtain ⟨xs, h1, h2⟩ := hRow.below hbW5
                      have hgX : ∀ g, (Value.slice ga rs.length gc).ownBlock = some g → W.heap.size ≤ g ∧ g < W3.heap.size := fun g hg => ⟨(hRow.block hg).1, HGLT.out g hg⟩
                      have hWX : W3.heap.size ≤ w5.heap.size := HB5.out.size
                      have hWW : w.heap.size ≤ W.heap.size := HBW.out.size
                      have hx : RuleV (fun b => (Value.slice ga rs.length gc).ownBlock ≠ some b) W5 _ _ _ (.slice na ns.length nc) (.slice a4 r.bys.length p4) (outR cs r tv tg ts) :=
                        ⟨s0.mono (fun b _ hb e => by have := (hgX b e).2; omega), s1.mono (fun b _ hb e => by have := (hgX b e).2; omega), s2.mono (fun b _ hb e => by have := (hgX b e).2; omega),
                          by
                            have hN0 : Strs (fun b => W3.heap.size ≤ b) w5 (.slice na ns.length nc) (restN cs r tv tg ts r.names) := by
                              rw [← hns.out]
                              exact owns_strs HO5.out rfl (by intro s hs; rw [hns.out] at hs; have hm := (restN_small cs r tv tg ts r.names).2 s hs; obtain ⟨_, _, _, _, hz⟩ := HV.out.names; exact hz s hm)
                            exact (hN0.same (Same.of_below hbW5)).mono (fun b _ hb e => by have := (hgX b e).2; omega),
                          by
                            have hB0 : Strs (fun b => b < w.heap.size) W5 (.slice a4 r.bys.length p4) r.bys := Strs.same (F := fun b => b < w.heap.size) (HV.out.bys.mono (fun b hb _ => hb)) (Same.of_below (HSRC.out _ (hbl.trans (hbW5.mono hbl.size))))
                            exact hB0.mono (fun b _ hb e => by have := (hgX b e).1; omega)⟩
                      have HPUSH : Hid (∀ v' w6, w6.ownsRow W.heap.size 41 6 v' (rs.length + 1) (xs ++ [.slice (some ⟨w5.heap.size, 0, none⟩) 1 1, .slice (some ⟨w5.heap.size + 1, 0, none⟩) 1 1, .slice (some ⟨w5.heap.size + 1 + 1, 0, none⟩) 1 1, .slice na ns.length nc, .slice a4 r.bys.length p4, .bool r.any]) → W5.grownBy w6 (Value.slice ga rs.length gc).ownBlock → _ → _) := fun v' w6 hr hg hat => AInv.push hbl hbW5 h1 h2 hx hr hg hat hAI hin HOUT.out HTV.out HTG.out HTS.out
                      have k0 := cell9 HBV5.out
                      have k1 : ∀ o, (w5.alloc o).cell? ⟨bg, 0, none⟩ = some (.string tg) := fun o => (((Below.refl w5.heap.size w5).alloc (Nat.le_refl _) o).cell (p := ⟨bg, 0, none⟩) (cell_lt (cell9 HBG5.out))).trans (cell9 HBG5.out)
                      obtain ⟨⟨_, _, _, x4, x5⟩, _⟩ := HX.out w5 hbl
                      have k2 : ∀ o o' o'', (((w5.alloc o).alloc o').alloc o'').cell? ⟨w.heap.size, 4, none⟩ = some (.slice a4 r.bys.length p4) := fun o o' o'' => ((((Below.refl w5.heap.size w5).alloc (Nat.le_refl _) o).alloc (by simp) o').alloc (by simp; omega) o'' |>.cell (p := ⟨w.heap.size, 4, none⟩) (cell_lt x4)).trans x4
                      have k3 : ∀ o o' o'', (((w5.alloc o).alloc o').alloc o'').cell? ⟨w.heap.size, 5, none⟩ = some (.bool r.any) := fun o o' o'' => ((((Below.refl w5.heap.size w5).alloc (Nat.le_refl _) o).alloc (by simp) o').alloc (by simp; omega) o'' |>.cell (p := ⟨w.heap.size, 5, none⟩) (cell_lt x5)).trans x5
                      have HV5 := hidden ((hbW5.block _ (Array.getElem?_eq_some_iff.1 HBV5.out).1).trans HBV5.out)
                      have HG5 := hidden ((hbW5.block _ (Array.getElem?_eq_some_iff.1 HBG5.out).1).trans HBG5.out)
                      have hWl : W.heap.size ≤ w5.heap.size := hbl.size
                      rw [← hW5] at h1 hblk
                      have H1 := hidden h1
                      have HBLK := hidden hblk
                      have HW5 := hidden hW5
                      clear hRow hAI hbl h1 h2 hx hblk hbW5 s0 s1 s2 hgX HA5 HO5 x4 x5 hW5 HB5
                      go_wp2_with (at_builtin; refine wpList_append_own_at _ rfl (.tmp 74) (.tmp 87) 43 rfl W.heap.size 41 i41 _ 6 128 Try.underlying43 hi41 hq0 hq1 hq2 rfl (by omega) _ rs.length xs rfl H1.out ⟨w5.heap.size + 3, 0, none⟩ 1 1 [_, _, _, _, _, _] rfl rfl (World.news_of_block HBLK.out) (by intro u hu; simp at hu; rcases hu with rfl | rfl | rfl | rfl | rfl | rfl <;> rfl) (by unfold Go.maxLen; omega) (by omega) (by simp; omega) ?_)
                      intro v' w6 hown' hgrow _ hat
                      rw [HW5.out] at hgrow
                      obtain ⟨hAn, hbk⟩ := HPUSH.out v' w6 hown' hgrow (by rw [hz5]; exact hat)
                      have HAn := hidden hAn
                      have HBVn := hidden (hbk _ _ _ _ HV5.out (by decide))
                      have HBGn := hidden (hbk _ _ _ _ HG5.out (by decide))
                      clear hown' hgrow hat hAn hbk HPUSH H1 HBLK HW5 HV5 HG5 k0 k1 k2 k3
                      go_wp2_with fail
                      go_roundw
                      case rel => exact ⟨id + 1, by omega, by go_num, HAn.out, HBVn.out, HBGn.out⟩
                      case measure => simp [intOf]; omega
                  · have hn0 : ¬ r.names.length = 0 := by omega
                    have HOUT : Hid (outB cs r tv tg ts = decide (0 < ns.length)) := by show outB cs r tv tg ts = decide (0 < ns.length); unfold outB; rw [← hns.out]; simp [hn0]
                    by_cases hpos : 0 < ns.length
                    · have hpos' : (0 : Int) < ns.length := by omega
                      have HOT : Hid (outB cs r tv tg ts = true) := by show outB cs r tv tg ts = true; rw [HOUT.out]; simp [hpos]
                      obtain ⟨rs, hRow, hAI, hbl⟩ := HA4.out
                      obtain ⟨ga', gc', hge⟩ := hRow.slice
                      cases hge
                      have hrl : rs.length ≤ 67108864 := by have := hAI.2.1; have := idxT_le r hin; omega
                      obtain ⟨i41, hi41, hq0, hq1, hq2⟩ := info_parts info41
                      obtain ⟨W5, hW5⟩ : ∃ W5, (((wr.alloc (.cells #[.string tv] 9)).alloc (.cells #[.string tg] 9)).alloc (.cells #[.string ts] 9)).alloc (.cells #[.slice (some ⟨wr.heap.size, 0, none⟩) 1 1, .slice (some ⟨wr.heap.size + 1, 0, none⟩) 1 1, .slice (some ⟨wr.heap.size + 1 + 1, 0, none⟩) 1 1, .slice na ns.length nc, .slice a4 r.bys.length p4, .bool r.any] 41) = W5 := ⟨_, rfl⟩
                      obtain ⟨hbW5, hblk, s0, s1, s2, hz5⟩ := emit_world wr tv tg ts _ _ r.any W5 hW5 hzv hzg hzs
                      obtain ⟨xs, h1, h2⟩ := hRow.below hbW5
                      have hgX : ∀ g, (Value.slice ga rs.length gc).ownBlock = some g → W.heap.size ≤ g ∧ g < W3.heap.size := fun g hg => ⟨(hRow.block hg).1, HGLT.out g hg⟩
                      have hWX : W3.heap.size ≤ wr.heap.size := hb4.out.size
                      have hWW : w.heap.size ≤ W.heap.size := HBW.out.size
                      have hx : RuleV (fun b => (Value.slice ga rs.length gc).ownBlock ≠ some b) W5 _ _ _ (.slice na ns.length nc) (.slice a4 r.bys.length p4) (outR cs r tv tg ts) :=
                        ⟨s0.mono (fun b _ hb e => by have := (hgX b e).2; omega), s1.mono (fun b _ hb e => by have := (hgX b e).2; omega), s2.mono (fun b _ hb e => by have := (hgX b e).2; omega),
                          by
                            have hN0 : Strs (fun b => W3.heap.size ≤ b) wr (.slice na ns.length nc) (restN cs r tv tg ts r.names) := by
                              rw [← hns.out]
                              exact owns_strs hown.out rfl (by intro s hs; rw [hns.out] at hs; have hm := (restN_small cs r tv tg ts r.names).2 s hs; obtain ⟨_, _, _, _, hz⟩ := HV.out.names; exact hz s hm)
                            exact (hN0.same (Same.of_below hbW5)).mono (fun b _ hb e => by have := (hgX b e).2; omega),
                          by
                            have hB0 : Strs (fun b => b < w.heap.size) W5 (.slice a4 r.bys.length p4) r.bys := Strs.same (F := fun b => b < w.heap.size) (HV.out.bys.mono (fun b hb _ => hb)) (Same.of_below (HSRC.out _ (hbl.trans (hbW5.mono hbl.size))))
                            exact hB0.mono (fun b _ hb e => by have := (hgX b e).1; omega)⟩
                      have HPUSH : Hid (∀ v' w6, w6.ownsRow W.heap.size 41 6 v' (rs.length + 1) (xs ++ [.slice (some ⟨wr.heap.size, 0, none⟩) 1 1, .slice (some ⟨wr.heap.size + 1, 0, none⟩) 1 1, .slice (some ⟨wr.heap.size + 1 + 1, 0, none⟩) 1 1, .slice na ns.length nc, .slice a4 r.bys.length p4, .bool r.any]) → W5.grownBy w6 (Value.slice ga rs.length gc).ownBlock → _ → _) := fun v' w6 hr hg hat => AInv.push hbl hbW5 h1 h2 hx hr hg hat hAI hin HOT.out HTV.out HTG.out HTS.out
                      have k0 := cell9 HBV4.out
                      have k1 : ∀ o, (wr.alloc o).cell? ⟨bg, 0, none⟩ = some (.string tg) := fun o => (((Below.refl wr.heap.size wr).alloc (Nat.le_refl _) o).cell (p := ⟨bg, 0, none⟩) (cell_lt (cell9 HBG4.out))).trans (cell9 HBG4.out)
                      obtain ⟨⟨_, _, _, x4, x5⟩, _⟩ := HX.out wr hbl
                      have k2 : ∀ o o' o'', (((wr.alloc o).alloc o').alloc o'').cell? ⟨w.heap.size, 4, none⟩ = some (.slice a4 r.bys.length p4) := fun o o' o'' => ((((Below.refl wr.heap.size wr).alloc (Nat.le_refl _) o).alloc (by simp) o').alloc (by simp; omega) o'' |>.cell (p := ⟨w.heap.size, 4, none⟩) (cell_lt x4)).trans x4
                      have k3 : ∀ o o' o'', (((wr.alloc o).alloc o').alloc o'').cell? ⟨w.heap.size, 5, none⟩ = some (.bool r.any) := fun o o' o'' => ((((Below.refl wr.heap.size wr).alloc (Nat.le_refl _) o).alloc (by simp) o').alloc (by simp; omega) o'' |>.cell (p := ⟨w.heap.size, 5, none⟩) (cell_lt x5)).trans x5
                      have HV5 := hidden ((hbW5.block _ (Array.getElem?_eq_some_iff.1 HBV4.out).1).trans HBV4.out)
                      have HG5 := hidden ((hbW5.block _ (Array.getElem?_eq_some_iff.1 HBG4.out).1).trans HBG4.out)
                      have hWl : W.heap.size ≤ wr.heap.size := hbl.size
                      rw [← hW5] at h1 hblk
                      have H1 := hidden h1
                      have HBLK := hidden hblk
                      have HW5 := hidden hW5
                      clear hRow hAI hbl h1 h2 hx hblk hbW5 s0 s1 s2 hgX HA4 hown x4 x5 hW5 hb4
                      go_wp2_with (at_builtin; refine wpList_append_own_at _ rfl (.tmp 74) (.tmp 87) 43 rfl W.heap.size 41 i41 _ 6 128 Try.underlying43 hi41 hq0 hq1 hq2 rfl (by omega) _ rs.length xs rfl H1.out ⟨wr.heap.size + 3, 0, none⟩ 1 1 [_, _, _, _, _, _] rfl rfl (World.news_of_block HBLK.out) (by intro u hu; simp at hu; rcases hu with rfl | rfl | rfl | rfl | rfl | rfl <;> rfl) (by unfold Go.maxLen; omega) (by omega) (by simp; omega) ?_)
                      intro v' w6 hown' hgrow _ hat
                      rw [HW5.out] at hgrow
                      obtain ⟨hAn, hbk⟩ := HPUSH.out v' w6 hown' hgrow (by rw [hz5]; exact hat)
                      have HAn := hidden hAn
                      have HBVn := hidden (hbk _ _ _ _ HV5.out (by decide))
                      have HBGn := hidden (hbk _ _ _ _ HG5.out (by decide))
                      clear hown' hgrow hat hAn hbk HPUSH H1 HBLK HW5 HV5 HG5 k0 k1 k2 k3
                      go_wp2_with fail
                      go_roundw
                      case rel => exact ⟨id + 1, by omega, by go_num, HAn.out, HBVn.out, HBGn.out⟩
                      case measure => simp [intOf]; omega
                    · have hpos' : ¬ (0 : Int) < ns.length := by omega
                      have HOT : Hid (outB cs r tv tg ts = false) := by show outB cs r tv tg ts = false; rw [HOUT.out]; simp [hpos]
                      have HAn := hidden (HA4.out.skip (by rw [HTV.out, HTG.out, HTS.out]; exact HOT.out))
                      clear HA4
                      go_wp2_with fail
                      go_roundw
                      case rel => exact ⟨id + 1, by omega, by go_num, HAn.out, HBV4.out, HBG4.out⟩
                      case measure => simp [intOf]; omega
            · obtain rfl : id = r.resources.length := by omega
              have HI := hidden hi.out.nextB
              clear hi hbg
              go_wp2_with fail
              go_roundw
              case rel => exact ⟨ib + 1, by omega, by go_num, HI.out, hbv⟩
              case measure => simp [intOf]; omega
        · obtain rfl : ib = r.groups.length := by omega
          have HI := hidden hi.out.nextA
          clear hi hbv
          go_wp2_with fail
          go_roundw
          case rel => exact ⟨ia + 1, by omega, by go_num, HI.out⟩
          case measure => simp [intOf]; omega
    · obtain rfl : ia = r.verbs.length := by omega
      have HF : Hid (RetResid w wr cs r (.returned (.slice ga gl gc))) := by
        obtain ⟨rs, h1, h2, h3⟩ := hi.out
        exact ⟨_, rs, rfl, h1.rules, h2.done, HSRC.out _ h3⟩
      clear hi
      go_wp2_with fail
      go_ret
      exact HF.out
end Go.Proofs.Qxb6606306aRR
