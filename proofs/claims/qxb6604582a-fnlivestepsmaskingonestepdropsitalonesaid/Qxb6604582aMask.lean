/-
  The walk over FnLiveStepsMaskingOneStepDropsItAlone.
-/
import Derived.Test.Qxb6604582aPlain
import Derived.Deep.RegionWith
import Derived.Deep.Cut
import Derived.Deep.CutRange
import Derived.Deep.QuietTactic
import Derived.BigQuiet
import Derived.WalkSmall
namespace Go.Proofs.Qxb6604582a
open Go.RowKit
set_option linter.unusedVariables false
set_option linter.unusedSimpArgs false

theorem below_drewM {w x : World} (h : Below w.drew.heap.size w.drew x) : Below w.heap.size w x := ⟨h.os, h.tape, h.output, h.size, h.block⟩
theorem below_stepM {w4 wr x : World} (h : Below w4.heap.size w4 wr) (hx : Below wr.heap.size wr x) : Below w4.heap.size w4 x := h.trans (hx.mono h.size)

/-- The masked row. -/
theorem masked {w : World} {base : Nat} {g len1 cp j : Nat} {zs : List Int} (o : w.ownsRow base 21 1 (.slice (some ⟨g, 0, none⟩) len1 cp) len1 (ints .i32 zs)) : Rd .i32 (w.setCell ⟨g, j, none⟩ (.int .i32 (-1))) (some ⟨g, 0, none⟩) len1 (zs.set j (-1)) := by
  have := (o.stored j (.int .i32 (-1))).1
  rw [ints_set] at this
  exact rd_of_own this

set_option maxRecDepth 100000 in
set_option maxHeartbeats 8000000 in
theorem mask_any (a0 : Option Addr) (len0 cap0 : Nat) (ss : List SI) (a1 : Option Addr) (len1 cap1 : Nat) (zz : List Int) (jz : Int) (w : World) (h0 : IsIn w a0 len0 cap0 ss) (h1 : IsRow .i32 w a1 len1 cap1 zz) :
    Calls Try.prog 6 #[.slice a0 len0 cap0, .slice a1 len1 cap1, .int .i64 jz] w fun e w' => e = .returned (.bool true) ∧ Below w.heap.size w w' := by
  have hm1 : len1 ≤ maxLen := by
    rcases h1 with ⟨_, h, _⟩ | ⟨x, _, h, h', _⟩
    · rw [h]; exact Nat.zero_le _
    · omega
  have r0 := h0.ri
  have r1 := h1.rd
  obtain ⟨zs, hzs⟩ : ∃ zs, zs = zz.take len1 := ⟨_, rfl⟩
  rw [← hzs] at r1
  have hb8 := bytes16_any a0 len0 cap0 ss a1 len1 cap1 jz w h0 hm1
  have hft := fit_any a0 len0 cap0 ss a1 len1 cap1 w h0
  clear h0 h1 hm1 hzs
  go_enter Try.func6, Try.ntmps6
  go_wp2_with fail
  refine hb8.mono ?_
  rintro e w1 ⟨⟨q, rfl⟩, rfl⟩
  clear hb8
  cases q with
  | false =>
    clear hft r0 r1
    go_wp2
    go_ret
    exact ⟨rfl, Below.refl _ _⟩
  | true =>
  by_cases hl0 : len0 ≤ 65536
  rotate_left
  · have hl : (65536 : Int) < (len0 : Int) := by omega
    clear hft r0 r1
    go_wp2
    go_ret
    exact ⟨rfl, Below.refl _ _⟩
  have hln0 : ¬ (65536 : Int) < (len0 : Int) := by omega
  by_cases hl1 : len1 ≤ 65536
  rotate_left
  · have hl : (65536 : Int) < (len1 : Int) := by omega
    clear hft r0 r1
    go_wp2
    go_ret
    exact ⟨rfl, Below.refl _ _⟩
  have hln1 : ¬ (65536 : Int) < (len1 : Int) := by omega
  have hft' := hft hl1 hl0
  clear hft
  go_wp2_with fail
  refine hft'.mono ?_
  rintro e w1 ⟨⟨q, rfl⟩, rfl⟩
  clear hft'
  cases q with
  | false =>
    clear r0 r1
    go_wp2
    go_ret
    exact ⟨rfl, Below.refl _ _⟩
  | true =>
  by_cases hl : len0 ≤ len1
  rotate_left
  · have hl : (len1 : Int) < (len0 : Int) := by omega
    clear r0 r1
    go_wp2
    go_ret
    exact ⟨rfl, Below.refl _ _⟩
  have hln : ¬ (len1 : Int) < (len0 : Int) := by omega
  by_cases hj0 : jz < 0
  · clear r0 r1
    go_wp2
    go_ret
    exact ⟨rfl, Below.refl _ _⟩
  by_cases hj1 : (len0 : Int) ≤ jz
  · clear r0 r1
    go_wp2
    go_ret
    exact ⟨rfl, Below.refl _ _⟩
  obtain ⟨j, rfl⟩ : ∃ j : Nat, jz = j := ⟨jz.toNat, by omega⟩
  have hjl : j < len0 := by omega
  have hjl1 : (j : Int) < (len1 : Int) := by omega
  have hjl0 : (j : Int) < (len0 : Int) := by omega
  have hjn : (0 : Int) ≤ (j : Int) := by omega
  have hcs := sclone_any (cap := cap0) r0 hl0
  go_wp2_with fail
  refine hcs.mono ?_
  rintro e w1 ⟨A, rfl, b1, o1⟩
  clear hcs r0
  have r0 := ri_of_own o1
  have hcz := zclone_any (cap := cap1) (r1.up b1) hl1
  clear o1 r1
  go_wp2_with fail
  refine hcz.mono ?_
  rintro e w2 ⟨B, rfl, b2, o2⟩
  clear hcz
  have r1 := rd_of_own o2
  have ht := turn_any (cap := len0) (r0.up b2) hl0
  clear o2
  go_wp2_with fail
  refine ht.mono ?_
  rintro e w3 ⟨T, rfl, b3, o3⟩
  clear ht
  have b13 := b2.trans (b3.mono b2.size)
  have r2 := ri_of_own o3
  have hz := zlive_any (cap1 := len0) (cap2 := len1) r2 (r1.up b3) hl0 hl hl1
  clear o3
  go_wp2_with fail
  refine hz.mono ?_
  rintro e w4 ⟨p, cp, p', cp', rfl, b4, rL, rN⟩
  clear hz
  have r1 := (r1.up b3).up b4
  have r0 := (r0.up b13).up b4
  have r2 := r2.up b4
  have b04 : Below w.heap.size w w4 := b1.trans ((b13.trans (b4.mono b13.size)).mono b1.size)
  clear b1 b2 b3 b4 b13
  have hcz := zclone_any (cap := len1) r1 hl1
  go_wp2_with fail
  refine hcz.mono ?_
  rintro e w5 ⟨C, rfl, b5, o5⟩
  clear hcz
  obtain ⟨g, cg, hv, hbg, hgl⟩ := o5.form (by omega)
  simp only [Value.slice.injEq, true_and] at hv
  obtain ⟨rfl, rfl⟩ := hv
  have hzl := r1.1
  obtain ⟨v0, d0⟩ : ∃ v, w5.cell? ⟨g, j, none⟩ = some v := by
    rw [o5.cellAt j (by omega)]
    exact ⟨_, List.getElem?_eq_getElem (by rw [o5.1]; omega)⟩
  have f0 := o5.frozenAt j
  have b6 : Below w4.heap.size w4 (w5.setCell ⟨g, j, none⟩ (.int .i32 (-1))) := b5.setCell hbg _
  have m6 := masked (j := j) o5
  clear o5 b5
  go_upto_region 17 with fail
  obtain ⟨w6, hw6⟩ : ∃ w6, w6 = w5.setCell ⟨g, j, none⟩ (.int .i32 (-1)) := ⟨_, rfl⟩
  rw [← hw6] at b6 m6 ⊢
  clear hw6 d0 f0
  have hz := zlive_any (cap1 := len0) (cap2 := len1) (r2.up b6) m6 hl0 hl hl1
  go_wp2_with fail
  refine hz.mono ?_
  rintro e w7 ⟨p2, cp2, p2', cp2', rfl, b7, rL2, rN2⟩
  clear hz
  have b67 := below_stepM b6 b7
  have R : Hid (Below w.heap.size w w7 ∧ Ri w7 A len0 ss ∧ Rd .i32 w7 B len1 zs ∧ Ri w7 p (lidx ss zs len0).length (pickS ss (lidx ss zs len0)) ∧ Rd .i64 w7 p' (lidx ss zs len0).length ((lidx ss zs len0).map (fun i : Nat => (i : Int)))
      ∧ Ri w7 p2 (lidx ss (zs.set j (-1)) len0).length (pickS ss (lidx ss (zs.set j (-1)) len0)) ∧ Rd .i64 w7 p2' (lidx ss (zs.set j (-1)) len0).length ((lidx ss (zs.set j (-1)) len0).map (fun i : Nat => (i : Int)))) :=
    ⟨b04.trans (b67.mono b04.size), r0.up b67, r1.up b67, rL.up b67, rN.up b67, rL2, rN2⟩
  clear b04 b67 b6 b7 r0 r1 r2 rL rN rL2 rN2 m6
  have hmle := lidx_le ss zs len0
  have hm2le := lidx_le ss (zs.set j (-1)) len0
  have HL : Hid (lidx ss (zs.set j (-1)) len0 = (lidx ss zs len0).filter (fun i => decide (i ≠ j))) := lidx_mask (by omega) len0
  have HS : Hid ((lidx ss zs len0).Pairwise (· < ·)) := lidx_sorted ss zs len0
  have HA : Hid (∀ k i, (lidx ss zs len0)[k]? = some i → i < len0) := fun k i h => (lidx_at h).1
  have HJ : Hid (liveAt ss zs j = true ↔ j ∈ lidx ss zs len0) := by
    show _ ↔ _
    rw [lidx_mem]; exact ⟨fun h => ⟨hjl, h⟩, fun h => h.2⟩
  obtain ⟨l, hl'⟩ : ∃ l, l = lidx ss zs len0 := ⟨_, rfl⟩
  obtain ⟨l2, hl2⟩ : ∃ l2, l2 = lidx ss (zs.set j (-1)) len0 := ⟨_, rfl⟩
  rw [← hl', ← hl2] at R HL
  rw [← hl'] at HS HA HJ hmle
  rw [← hl2] at hm2le
  rw [← hl', ← hl2]
  clear hl' hl2
  go_wp2
  go_loopg [13, 14] l.length (fun k pv kv wx => ∃ n : Nat, n + k = l.length ∧ kv = .int .i64 n ∧ Below w7.heap.size w7 wx ∧ ∃ pz : Int, pv = .int .i64 pz ∧ Pos l j n pz)
  case atStart => exact ⟨0, by omega, rfl, Below.refl _ _, -1, rfl, Pos.zero l j⟩
  case round =>
    obtain ⟨n, hnk, rfl, hbel, pz, rfl, hpos⟩ := hrel
    cases gk with
    | zero =>
      have e : n = l.length := by omega
      subst e
      have hlt : ¬ (l.length : Int) < (l.length : Int) := by omega
      rcases hpos with ⟨rfl, hno⟩ | ⟨q0, rfl, hq0, hqj⟩
      · have hll : l = l2 := (HL.out.trans (filter_out hno)).symm
        have hlv : liveAt ss zs j = false := by
          rw [Bool.eq_false_iff]
          intro h
          obtain ⟨q, hq, e⟩ := List.mem_iff_getElem.1 (HJ.out.1 h)
          exact hno q hq (by rw [List.getElem?_eq_getElem hq, e])
        subst hll
        clear HL hno HJ HS hm2le
        obtain ⟨b0, r0, r1, rL, rN, rL2, rN2⟩ := R.out
        obtain ⟨t, ht⟩ : ∃ t, ss[j]? = some t := ⟨ss[j]'(by have := r0.1; omega), by simp⟩
        obtain ⟨z, hz⟩ : ∃ z, zs[j]? = some z := ⟨zs[j]'(by omega), by simp⟩
        have hq : liveB t.1 z = false := by rw [← liveAt_of ht hz]; exact hlv
        have hc : ∀ w, Calls Try.prog 14 #[.agg #[.int .u8 t.1, .int .i64 t.2.1, .string t.2.2], .int .i32 z] w fun e w' => e = .returned (.bool false) ∧ Below w.heap.size w w' := fun w => by
          have := liveStep_b t.1 t.2.1 t.2.2 z w
          rw [hq] at this; exact this
        obtain ⟨b, off, e, hb, c0, c1, c2⟩ := (r0.up hbel).2 j t ht
        obtain ⟨b2, off2, e2, hb2, c3⟩ := (r1.up hbel).2 j z hz
        subst e e2
        have HB : Hid (Below w7.heap.size w7 wr) := hbel
        clear r0 r1 rL rN rL2 rN2 b0 ht hz hlv hbel hq
        go_upto_region 26 with fail
        go_cut [107] from 96 to 107 (fun sv wx => sv = .bool false ∧ Below wr.heap.size wr wx)
        case first =>
          go_region_with (go_at_call 14; refine (hc _).mono ?_; rintro e x ⟨rfl, hx⟩)
          all_goals (try go_wp2_with fail)
          all_goals go_meet
          all_goals exact ⟨rfl, below_drewM hx⟩
        case rest =>
        obtain ⟨rfl, hcb⟩ := hcut
        have HC : Hid (Below w7.heap.size w7 wc) := below_stepM HB.out hcb
        clear hcb hc c0 c1 c2 c3 HB
        go_wp2
        go_loopg [16, 17] l.length (fun k qv kv wx => ∃ n : Nat, n + k = l.length ∧ kv = .int .i64 n ∧ qv = .int .i64 n ∧ Below w7.heap.size w7 wx)
        case atStart => exact ⟨0, by omega, rfl, rfl, HC.out⟩
        case round =>
          obtain ⟨n, hnk, rfl, rfl, hbel⟩ := hrel
          cases gk with
          | zero =>
            have e : n = l.length := by omega
            have hlt : ¬ (n : Int) < (l.length : Int) := by omega
            have HB : Hid (Below w7.heap.size w7 wr) := hbel
            clear hbel
            go_wp2
            go_ret
            exact ⟨rfl, R.out.1.trans (HB.out.mono R.out.1.size)⟩
          | succ k =>
            have hlt : (n : Int) < (l.length : Int) := by omega
            have hn0 : (0 : Int) ≤ n := by omega
            have hne : ¬ (n : Int) = -1 := by omega
            obtain ⟨i, hi⟩ : ∃ i, l[n]? = some i := ⟨l[n]'(by omega), by simp⟩
            have hil := HA.out n i hi
            obtain ⟨b0, r0, r1, rL, rN, rL2, rN2⟩ := R.out
            obtain ⟨u, hu⟩ : ∃ u, ss[i]? = some u := ⟨ss[i]'(by have := r0.1; omega), by simp⟩
            obtain ⟨b3, off3, e3, hb3, d0, d1, d2⟩ := (rL.up hbel).2 n u (pickS_at hi hu)
            obtain ⟨b4, off4, e4, hb4, d3⟩ := (rN.up hbel).2 n i (by simp [hi])
            obtain ⟨b5, off5, e5, hb5, g0, g1, g2⟩ := (rL2.up hbel).2 n u (pickS_at hi hu)
            obtain ⟨b6, off6, e6, hb6, g3⟩ := (rN2.up hbel).2 n i (by simp [hi])
            subst e3 e4 e5 e6
            have hneq := run_neq_step u.1 u.2.1 u.2.2
            have HB : Hid (Below w7.heap.size w7 wr) := hbel
            clear hbel hi r0 r1 rL rN rL2 rN2 b0 hu hil
            go_wp2
            go_quiet (fail)
            go_wp2
            go_roundg k
            case measure => omega
            case rel => exact ⟨n + 1, by omega, by go_num, by go_num, below_drewN HB.out nq⟩
      · have hll : l2 = l.eraseIdx q0 := HL.out.trans (filter_one HS.out hqj)
        have hlv : liveAt ss zs j = true := HJ.out.2 (List.mem_of_getElem? hqj)
        have HLEN : Hid (((l.eraseIdx q0).length : Int) = (l.length : Int) - 1) := by
          show ((l.eraseIdx q0).length : Int) = (l.length : Int) - 1
          rw [List.length_eraseIdx, if_pos hq0]; omega
        subst hll
        clear HL HJ HS hqj
        have hq00 : (0 : Int) ≤ (q0 : Int) := by omega
        obtain ⟨b0, r0, r1, rL, rN, rL2, rN2⟩ := R.out
        obtain ⟨t, ht⟩ : ∃ t, ss[j]? = some t := ⟨ss[j]'(by have := r0.1; omega), by simp⟩
        obtain ⟨z, hz⟩ : ∃ z, zs[j]? = some z := ⟨zs[j]'(by omega), by simp⟩
        have hq : liveB t.1 z = true := by rw [← liveAt_of ht hz]; exact hlv
        have hc : ∀ w, Calls Try.prog 14 #[.agg #[.int .u8 t.1, .int .i64 t.2.1, .string t.2.2], .int .i32 z] w fun e w' => e = .returned (.bool true) ∧ Below w.heap.size w w' := fun w => by
          have := liveStep_b t.1 t.2.1 t.2.2 z w
          rw [hq] at this; exact this
        obtain ⟨b, off, e, hb, c0, c1, c2⟩ := (r0.up hbel).2 j t ht
        obtain ⟨b2, off2, e2, hb2, c3⟩ := (r1.up hbel).2 j z hz
        subst e e2
        have HB : Hid (Below w7.heap.size w7 wr) := hbel
        clear r0 r1 rL rN rL2 rN2 b0 ht hz hlv hbel hq
        go_upto_region 26 with fail
        go_cut [107] from 96 to 107 (fun sv wx => sv = .bool false ∧ Below wr.heap.size wr wx)
        case first =>
          go_region_with (go_at_call 14; refine (hc _).mono ?_; rintro e x ⟨rfl, hx⟩)
          all_goals (try go_wp2_with fail)
          all_goals go_meet
          all_goals exact ⟨rfl, below_drewM hx⟩
        case rest =>
        obtain ⟨rfl, hcb⟩ := hcut
        have HC : Hid (Below w7.heap.size w7 wc) := below_stepM HB.out hcb
        clear hcb hc c0 c1 c2 c3 HB
        have hlen2 := HLEN.out
        go_wp2
        go_loopg [16, 17] l.length (fun k qv kv wx => ∃ n q : Nat, n + k = l.length ∧ kv = .int .i64 n ∧ qv = .int .i64 q ∧ (n ≤ q0 → q = n) ∧ (q0 < n → q + 1 = n) ∧ Below w7.heap.size w7 wx)
        case atStart => exact ⟨0, 0, by omega, rfl, rfl, fun _ => rfl, fun h => by omega, HC.out⟩
        case round =>
          obtain ⟨n, q, hnk, rfl, rfl, hq1, hq2, hbel⟩ := hrel
          cases gk with
          | zero =>
            have e : n = l.length := by omega
            have hlt : ¬ (n : Int) < (l.length : Int) := by omega
            have HB : Hid (Below w7.heap.size w7 wr) := hbel
            clear hbel
            go_wp2
            go_ret
            exact ⟨rfl, R.out.1.trans (HB.out.mono R.out.1.size)⟩
          | succ k =>
            have hlt : (n : Int) < (l.length : Int) := by omega
            have hn0 : (0 : Int) ≤ n := by omega
            by_cases hnq : n = q0
            · subst hnq
              have hqn := hq1 (Nat.le_refl _)
              have HB : Hid (Below w7.heap.size w7 wr) := hbel
              clear hbel hq1 hq2
              go_wp2
              go_roundg k
              case measure => omega
              case rel => exact ⟨n + 1, q, by omega, by go_num, rfl, fun h => by omega, fun h => by omega, HB.out⟩
            · have hne : ¬ (n : Int) = (q0 : Int) := by omega
              obtain ⟨i, hi⟩ : ∃ i, l[n]? = some i := ⟨l[n]'(by omega), by simp⟩
              have hi2 := erase_at hnq hq1 hq2 hi
              have hil := HA.out n i hi
              have hql : (q : Int) < ((l.eraseIdx q0).length : Int) := by have := (List.getElem?_eq_some_iff.1 hi2).1; omega
              have hq0' : (0 : Int) ≤ q := by omega
              have hqb : q ≤ n := by omega
              obtain ⟨b0, r0, r1, rL, rN, rL2, rN2⟩ := R.out
              obtain ⟨u, hu⟩ : ∃ u, ss[i]? = some u := ⟨ss[i]'(by have := r0.1; omega), by simp⟩
              obtain ⟨b3, off3, e3, hb3, d0, d1, d2⟩ := (rL.up hbel).2 n u (pickS_at hi hu)
              obtain ⟨b4, off4, e4, hb4, d3⟩ := (rN.up hbel).2 n i (by simp [hi])
              obtain ⟨b5, off5, e5, hb5, g0, g1, g2⟩ := (rL2.up hbel).2 q u (pickS_at hi2 hu)
              obtain ⟨b6, off6, e6, hb6, g3⟩ := (rN2.up hbel).2 q i (by rw [List.getElem?_map, hi2]; rfl)
              subst e3 e4 e5 e6
              have hneq := run_neq_step u.1 u.2.1 u.2.2
              have HB : Hid (Below w7.heap.size w7 wr ∧ (n + 1 ≤ q0 → q + 1 = n + 1) ∧ (q0 < n + 1 → q + 1 + 1 = n + 1)) := ⟨hbel, fun h => by omega, fun h => by omega⟩
              clear hbel hi hi2 r0 r1 rL rN rL2 rN2 b0 hu hil hq1 hq2
              go_wp2
              go_quiet (fail)
              go_wp2
              go_roundg k
              case measure => omega
              case rel => exact ⟨n + 1, q + 1, by omega, by go_num, by go_num, HB.out.2.1, HB.out.2.2, below_drewN HB.out.1 nq⟩
    | succ k =>
      have hlt : (n : Int) < (l.length : Int) := by omega
      have hn0 : (0 : Int) ≤ n := by omega
      obtain ⟨i, hi⟩ : ∃ i, l[n]? = some i := ⟨l[n]'(by omega), by simp⟩
      obtain ⟨b0, r0, r1, rL, rN, rL2, rN2⟩ := R.out
      obtain ⟨b4, off4, e4, hb4, d3⟩ := (rN.up hbel).2 n i (by simp [hi])
      subst e4
      have HB : Hid (Below w7.heap.size w7 wr ∧ Pos l j n pz ∧ l[n]? = some i) := ⟨hbel, hpos, hi⟩
      clear hbel hpos hi r0 r1 rL rN rL2 rN2 b0
      by_cases hij : i = j
      · subst hij
        go_wp2
        go_roundg k
        case measure => omega
        case rel => exact ⟨n + 1, by omega, by go_num, HB.out.1, n, rfl, Pos.hit (pz := pz) HB.out.2.2⟩
      · have hij' : ¬ (i : Int) = (j : Int) := by omega
        go_wp2
        go_roundg k
        case measure => omega
        case rel => exact ⟨n + 1, by omega, by go_num, HB.out.1, pz, rfl, HB.out.2.1.miss HB.out.2.2 hij⟩

end Go.Proofs.Qxb6604582a
