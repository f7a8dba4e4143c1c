/-
  The walk over FnLiveStepsAreExactlyTheLiveAccesses.
-/
import Derived.Test.Qxb6604582aTools
import Derived.Deep.RegionWith
import Derived.Deep.Cut
import Derived.Deep.CutRange
namespace Go.Proofs.Qxb6604582a
open Go.RowKit
set_option linter.unusedVariables false
set_option linter.unusedSimpArgs false

theorem below_drew {w x : World} (h : Below w.drew.heap.size w.drew x) : Below w.heap.size w x := ⟨h.os, h.tape, h.output, h.size, h.block⟩
theorem below_step {w4 wr x : World} (h : Below w4.heap.size w4 wr) (hx : Below wr.heap.size wr x) : Below w4.heap.size w4 x := h.trans (hx.mono h.size)

set_option maxRecDepth 100000 in
set_option maxHeartbeats 4000000 in
theorem exact_any (a0 : Option Addr) (len0 cap0 : Nat) (ss : List SI) (a1 : Option Addr) (len1 cap1 : Nat) (zz : List Int) (w : World) (h0 : IsIn w a0 len0 cap0 ss) (h1 : IsRow .i32 w a1 len1 cap1 zz) :
    Calls Try.prog 5 #[.slice a0 len0 cap0, .slice a1 len1 cap1] w fun e w' => e = .returned (.bool true) ∧ Below w.heap.size w w' := by
  have hm1 : len1 ≤ maxLen := by
    rcases h1 with ⟨_, h, _⟩ | ⟨x, _, h, h', _⟩
    · rw [h]; exact Nat.zero_le _
    · omega
  have r0 := h0.ri
  have r1 := h1.rd
  obtain ⟨zs, hzs⟩ : ∃ zs, zs = zz.take len1 := ⟨_, rfl⟩
  rw [← hzs] at r1
  have hb8 := bytes8_any a0 len0 cap0 ss a1 len1 cap1 w h0 hm1
  have hft := fit_any a0 len0 cap0 ss a1 len1 cap1 w h0
  clear h0 h1 hm1 hzs
  go_enter Try.func5, Try.ntmps5
  go_wp2_with fail
  refine hb8.mono ?_
  rintro e w1 ⟨⟨q, rfl⟩, rfl⟩
  clear hb8
  cases q with
  | false =>
    clear hft r0 r1
    go_wp2
    go_ret
    exact ⟨rfl, Below.refl _ _⟩
  | true =>
  by_cases hl0 : len0 ≤ 65536
  rotate_left
  · have hl : (65536 : Int) < (len0 : Int) := by omega
    clear hft r0 r1
    go_wp2
    go_ret
    exact ⟨rfl, Below.refl _ _⟩
  have hln0 : ¬ (65536 : Int) < (len0 : Int) := by omega
  by_cases hl1 : len1 ≤ 65536
  rotate_left
  · have hl : (65536 : Int) < (len1 : Int) := by omega
    clear hft r0 r1
    go_wp2
    go_ret
    exact ⟨rfl, Below.refl _ _⟩
  have hln1 : ¬ (65536 : Int) < (len1 : Int) := by omega
  have hft := hft hl1 hl0
  go_wp2_with fail
  refine hft.mono ?_
  rintro e w1 ⟨⟨q, rfl⟩, rfl⟩
  clear hft
  cases q with
  | false =>
    clear r0 r1
    go_wp2
    go_ret
    exact ⟨rfl, Below.refl _ _⟩
  | true =>
  by_cases hl : len0 ≤ len1
  rotate_left
  · have hl : (len1 : Int) < (len0 : Int) := by omega
    clear r0 r1
    go_wp2
    go_ret
    exact ⟨rfl, Below.refl _ _⟩
  have hln : ¬ (len1 : Int) < (len0 : Int) := by omega
  have hcs := sclone_any (cap := cap0) r0 hl0
  go_wp2_with fail
  refine hcs.mono ?_
  rintro e w1 ⟨A, rfl, b1, o1⟩
  clear hcs r0
  have r0 := ri_of_own o1
  have hcz := zclone_any (cap := cap1) (r1.up b1) hl1
  clear o1 r1
  go_wp2_with fail
  refine hcz.mono ?_
  rintro e w2 ⟨B, rfl, b2, o2⟩
  clear hcz
  have r1 := rd_of_own o2
  have ht := turn_any (cap := len0) (r0.up b2) hl0
  clear o2
  go_wp2_with fail
  refine ht.mono ?_
  rintro e w3 ⟨T, rfl, b3, o3⟩
  clear ht
  have b13 := b2.trans (b3.mono b2.size)
  have r2 := ri_of_own o3
  have hz := zlive_any (cap1 := len0) (cap2 := len1) r2 (r1.up b3) hl0 hl hl1
  clear o3 r2
  go_wp2_with fail
  refine hz.mono ?_
  rintro e w4 ⟨p, cp, p', cp', rfl, b4, rL, rN⟩
  clear hz
  have R : Hid (Below w.heap.size w w4 ∧ Ri w4 A len0 ss ∧ Rd .i32 w4 B len1 zs ∧ Ri w4 p (lidx ss zs len0).length (pickS ss (lidx ss zs len0)) ∧ Rd .i64 w4 p' (lidx ss zs len0).length ((lidx ss zs len0).map (fun i : Nat => (i : Int)))) :=
    ⟨b1.trans ((b13.trans (b4.mono b13.size)).mono b1.size), (r0.up b13).up b4, (r1.up b3).up b4, rL, rN⟩
  clear b1 b2 b3 b4 b13 r0 r1 rL rN
  have hmle := lidx_le ss zs len0
  obtain ⟨m, hm⟩ : ∃ m, m = (lidx ss zs len0).length := ⟨_, rfl⟩
  rw [← hm] at R hmle ⊢
  have HM : Hid (m = (lidx ss zs len0).length) := hm
  clear hm
  go_wp2
  go_loopg [8, 9] len0 (fun k cv iv wr => ∃ n : Nat, n + k = len0 ∧ iv = .int .i64 n ∧ cv = .int .i64 ((lidx ss zs n).length : Nat) ∧ Below w4.heap.size w4 wr)
  case atStart => exact ⟨0, by omega, rfl, rfl, Below.refl _ _⟩
  case round =>
    obtain ⟨n, hnk, rfl, rfl, hbel⟩ := hrel
    cases gk with
    | zero =>
      have e : n = len0 := by omega
      subst e
      rw [← HM.out]
      have hlt : ¬ (n : Int) < n := by omega
      go_wp2
      go_loopg [10, 11, 12] m (fun k pv kv iv wx => ∃ j : Nat, j + k = m ∧ kv = .int .i64 j ∧ Below w4.heap.size w4 wx ∧ ∃ pr : Int, pv = .int .i64 pr ∧ -1 ≤ pr ∧ pr < n ∧ ∀ i, (lidx ss zs n)[j]? = some i → pr < (i : Int))
      case atStart => exact ⟨0, by omega, rfl, hbel, -1, rfl, by omega, by omega, fun i _ => by omega⟩
      case round =>
        obtain ⟨j, hjk, rfl, hbel, pr, rfl, hp1, hp2, hp3⟩ := hrel
        cases gk with
        | zero =>
          have e : j = m := by omega
          subst e
          have hlt : ¬ (j : Int) < j := by omega
          have HB : Hid (Below w4.heap.size w4 wr) := hbel
          clear hbel
          go_wp2
          go_ret
          exact ⟨rfl, R.out.1.trans (HB.out.mono R.out.1.size)⟩
        | succ k =>
          have hjm : j < m := by omega
          have hlt : (j : Int) < m := by omega
          have hj0 : (0 : Int) ≤ j := by omega
          obtain ⟨i, hi⟩ : ∃ i, (lidx ss zs n)[j]? = some i := ⟨(lidx ss zs n)[j]'(by rw [← HM.out]; exact hjm), by simp⟩
          obtain ⟨hin, hil⟩ := lidx_at hi
          have hpi := hp3 i hi
          obtain ⟨b0, r0, r1, rL, rN⟩ := R.out
          obtain ⟨t, ht⟩ : ∃ t, ss[i]? = some t := ⟨ss[i]'(by have := r0.1; omega), by simp⟩
          obtain ⟨z, hz⟩ : ∃ z, zs[i]? = some z := ⟨zs[i]'(by have := r1.1; omega), by simp⟩
          have hq : liveB t.1 z = true := by rw [← liveAt_of ht hz]; exact hil
          have hc : ∀ w, Calls Try.prog 14 #[.agg #[.int .u8 t.1, .int .i64 t.2.1, .string t.2.2], .int .i32 z] w fun e w' => e = .returned (.bool true) ∧ Below w.heap.size w w' := fun w => by
            have := liveStep_b t.1 t.2.1 t.2.2 z w
            rw [hq] at this; exact this
          obtain ⟨b, off, e, hb, c0, c1, c2⟩ := (r0.up hbel).2 i t ht
          obtain ⟨b2, off2, e2, hb2, c3⟩ := (r1.up hbel).2 i z hz
          obtain ⟨b3, off3, e3, hb3, d0, d1, d2⟩ := (rL.up hbel).2 j t (pickS_at hi ht)
          obtain ⟨b4, off4, e4, hb4, d3⟩ := (rN.up hbel).2 j i (by simp [hi])
          subst e e2 e3 e4
          have hlt1 : (i : Int) < n := by omega
          have hlt2 : (i : Int) < len1 := by omega
          have hi0 : (0 : Int) ≤ i := by omega
          have hle1 : ¬ (i : Int) ≤ pr := by omega
          have hle2 : ¬ (n : Int) ≤ i := by omega
          have HB : Hid (Below w4.heap.size w4 wr ∧ ∀ j', (lidx ss zs n)[j + 1]? = some j' → (i : Int) < (j' : Int)) := ⟨hbel, fun j' hj' => by have := lidx_step hi hj'; omega⟩
          clear hbel hp3 hi r0 r1 rL rN b0 ht hz hil
          go_upto_region 30 with fail
          go_cut [100] from 72 to 111 (fun sv wx => sv = .bool false ∧ Below wr.heap.size wr wx)
          case first =>
            go_region_with (go_at_call 14; refine (hc _).mono ?_; rintro e x ⟨rfl, hx⟩)
            all_goals (try go_wp2_with fail)
            all_goals go_meet
            all_goals exact ⟨rfl, below_drew hx⟩
          case rest =>
            obtain ⟨rfl, hcb⟩ := hcut
            replace c0 := (hcb.cell (p := ⟨b, off + i * 3, none⟩) hb).trans c0
            replace c1 := (hcb.cell (p := ⟨b, off + i * 3 + 1, none⟩) hb).trans c1
            replace c2 := (hcb.cell (p := ⟨b, off + i * 3 + 2, none⟩) hb).trans c2
            replace d0 := (hcb.cell (p := ⟨b3, off3 + j * 3, none⟩) hb3).trans d0
            replace d1 := (hcb.cell (p := ⟨b3, off3 + j * 3 + 1, none⟩) hb3).trans d1
            replace d2 := (hcb.cell (p := ⟨b3, off3 + j * 3 + 2, none⟩) hb3).trans d2
            have HC : Hid (Below w4.heap.size w4 wc) := below_step HB.out.1 hcb
            clear hcb hc c3 d3
            go_wp2
            go_region_with (go_at_call 15; refine (sameStep_b t.1 t.2.1 t.2.2 _).mono ?_; rintro e x ⟨rfl, hx⟩)
            all_goals go_wp2
            all_goals go_roundg k
            all_goals first
              | omega
              | exact ⟨j + 1, by omega, by go_num, below_step HC.out (below_drew hx), i, rfl, by omega, by omega, HB.out.2⟩
    | succ k =>
      have hnl : n < len0 := by omega
      have hlt : (n : Int) < len0 := by omega
      have hlt2 : (n : Int) < len1 := by omega
      have hn0 : (0 : Int) ≤ n := by omega
      obtain ⟨b0, r0, r1, _, _⟩ := R.out
      obtain ⟨t, ht⟩ : ∃ t, ss[n]? = some t := ⟨ss[n]'(by have := r0.1; omega), by simp⟩
      obtain ⟨z, hz⟩ : ∃ z, zs[n]? = some z := ⟨zs[n]'(by have := r1.1; omega), by simp⟩
      have hla := liveAt_of ht hz
      obtain ⟨b, off, e, hb, c0, c1, c2⟩ := (r0.up hbel).2 n t ht
      obtain ⟨b2, off2, e2, hb2, c3⟩ := (r1.up hbel).2 n z hz
      subst e e2
      clear r0 r1 ht hz b0
      have HB : Hid (Below w4.heap.size w4 wr) := hbel
      have hle := lidx_le ss zs n
      clear hbel
      have HLA : Hid (liveAt ss zs n = liveB t.1 z) := hla
      clear hla
      cases hq : liveB t.1 z with
      | false =>
        have hc : ∀ w, Calls Try.prog 14 #[.agg #[.int .u8 t.1, .int .i64 t.2.1, .string t.2.2], .int .i32 z] w fun e w' => e = .returned (.bool false) ∧ Below w.heap.size w w' := fun w => by
          have := liveStep_b t.1 t.2.1 t.2.2 z w
          rw [hq] at this; exact this
        have HN : Hid ((lidx ss zs (n + 1)).length = (lidx ss zs n).length) := by show _ = _; rw [lidx_no (by rw [HLA.out, hq])]
        go_wp2
        go_region_with (go_at_call 14; refine (hc _).mono ?_; rintro e x ⟨rfl, hx⟩)
        all_goals go_wp2
        all_goals go_roundg k
        all_goals first
          | omega
          | exact ⟨n + 1, by omega, by go_num, by rw [HN.out], below_step HB.out (below_drew hx)⟩
      | true =>
        have hc : ∀ w, Calls Try.prog 14 #[.agg #[.int .u8 t.1, .int .i64 t.2.1, .string t.2.2], .int .i32 z] w fun e w' => e = .returned (.bool true) ∧ Below w.heap.size w w' := fun w => by
          have := liveStep_b t.1 t.2.1 t.2.2 z w
          rw [hq] at this; exact this
        have HN : Hid ((lidx ss zs (n + 1)).length = (lidx ss zs n).length + 1) := by show _ = _; rw [lidx_yes (by rw [HLA.out, hq])]; simp
        go_wp2
        go_region_with (go_at_call 14; refine (hc _).mono ?_; rintro e x ⟨rfl, hx⟩)
        all_goals go_wp2
        all_goals go_roundg k
        all_goals first
          | omega
          | exact ⟨n + 1, by omega, by go_num, by rw [HN.out]; go_num, below_step HB.out (below_drew hx)⟩

end Go.Proofs.Qxb6604582a
