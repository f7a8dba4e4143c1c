/-
  FnInsideTellsLastFrameKind: the walk.
-/
import Derived.Test.Qxb6604576aRun
namespace Go.Proofs.Qxb6604576a
open Go.RowKit
set_option linter.unusedVariables false
set_option linter.unusedSimpArgs false

theorem sys_inside {w : World} {F : Nat → Prop} {s m : Nat} {stk fre : List Fr} {seen : List Nat} (h : Sys w F s m stk fre seen) (k : Int) :
    Calls Try.prog 29 #[.pointer (some ⟨s, 0, none⟩), .int .i64 k] w fun e w' => e = .returned (.bool (insideL stk k)) ∧ w = w' := by
  obtain ⟨Fs, Fm, fv, sv, mf, mn, hS, hM, hd, h1, h2⟩ := h.ex
  exact inside_any hS k

/-- The last frame, as the record has it. -/
theorem sys_top {w : World} {F : Nat → Prop} {s m : Nat} {f : Fr} {r fre : List Fr} {seen : List Nat} (h : Sys w F s m (f :: r) fre seen) :
    ∃ g cap, w.cell? ⟨m, 0, none⟩ = some (.slice (some ⟨g, 0, none⟩) (r.length + 1) cap) ∧ w.cell? ⟨g, r.length * 4 + 1, none⟩ = some (.int .i64 f.kind) := by
  obtain ⟨Fs, Fm, fv, sv, mf, mn, hS, hM, hd, h1, h2⟩ := h.ex
  have hlen : (f :: r).reverse.length = r.length + 1 := by simp
  obtain ⟨g, cap, hv, _⟩ := hM.srow.form (by omega)
  subst hv
  have c0 := mo0 hM.mob
  rw [hlen] at c0
  have hf : (f :: r).reverse[r.length]? = some f := by simp
  refine ⟨g, cap, c0, ?_⟩
  rw [hM.srow.cellAt (r.length * 4 + 1) (by omega)]
  exact flat_get hf 1 (by omega)

set_option maxHeartbeats 2000000 in
theorem tells_small (a0 : Option Addr) (len0 cap0 : Nat) (ss : List St) (k1 : Int) (w : World) (h0 : IsSteps w a0 len0 cap0 ss) (hl : len0 ≤ 4096) :
    Calls Try.prog 7 #[.slice a0 len0 cap0, .int .i64 k1] w fun e w' => e = .returned (.bool true) ∧ Below w.heap.size w w' := by
  have l1 : decide ((4096 : Int) < (len0 : Int)) = false := by simp; omega
  have l2 : decide ((1048576 : Int) < 32 * (len0 : Int)) = false := by simp; omega
  have hcl := sclone_any h0 (by omega)
  have hby := bytes28_yes a0 len0 cap0 k1 w (by omega)
  have hbk : Hid ((∀ (i : Nat) (t : St), ss[i]? = some t → t.2.2.1 ≤ 9223372036854775807) ∧ ss.length = len0) := ⟨fun i t ht => h0.back ht, h0.len⟩
  clear h0
  go_enter Try.func7, Try.ntmps7
  go_wp2_with fail
  refine hby.mono ?_
  rintro e wb ⟨rfl, rfl⟩
  clear hby
  go_wp2_with fail
  refine hcl.mono ?_
  rintro e wc ⟨A, cp, rfl, hbel, hown⟩
  clear hcl
  have hhd := head_new hbel hown hbk.out.1 hbk.out.2
  clear hbk hbel hown
  go_wp2_with fail
  refine (new_any _).mono ?_
  rintro e ws ⟨rfl, rfl⟩
  go_wp2_with fail
  clear l1 l2
  obtain ⟨s, hs⟩ : ∃ s, s = wc.heap.size := ⟨_, rfl⟩
  obtain ⟨w3, hw3⟩ : ∃ w3, w3 = (wc.alloc (scObj none (.slice none 0 0))).alloc (moObj (.slice none 0 0) (.slice none 0 0) (.slice none 0 0)) := ⟨_, rfl⟩
  rw [← hs, ← hw3] at hhd
  have ein := sys_inside hhd.2.sys k1
  rw [show insideL [] k1 = false from rfl] at ein
  have HH : Hid (Head w w3 s A len0 cp ss ∧ Run w3 (pair s) s (s + 1) 0 w3 [] [] []) := hhd
  clear hhd
  unfold moObj at hw3
  rw [← hs, ← hw3]
  clear hs hw3
  refine ein.mono ?_
  rintro e ws ⟨rfl, rfl⟩
  clear ein
  go_wp2_with fail
  go_loopg [7] len0 (fun k i wr => ∃ n stk fre seen, n + k = len0 ∧ i = .int .i64 n ∧ Run w3 (pair s) s (s + 1) n wr stk fre seen)
  case atStart => exact ⟨0, [], [], [], by omega, rfl, HH.out.2⟩
  case round =>
    obtain ⟨n, stk, fre, seen, hnk, rfl, R⟩ := hrel
    cases gk with
    | zero =>
      have hlt : ¬ (n : Int) < len0 := by omega
      have HB : Hid (Below w.heap.size w wr) := HH.out.1.out R.ext (pair_ge s)
      clear R
      go_wp2_with fail
      go_ret
      exact ⟨rfl, HB.out⟩
    | succ k =>
      have hnl : n < len0 := by omega
      have hlt : (n : Int) < len0 := by omega
      have hn0 : (0 : Int) ≤ n := by omega
      obtain ⟨g, t, rfl, ht, hbk, c0, c1, c2, c3⟩ := HH.out.1.at R.ext (pair_ge s) hnl
      have hst := doStep_any R.sys t.1 t.2.1 t.2.2.1 t.2.2.2 hbk (by have := R.few; omega) (by have := R.fewSeen; omega)
      have HR : Hid (Run w3 (pair s) s (s + 1) n wr stk fre seen) := R
      clear R ht hbk
      go_wp2_with fail
      refine hst.mono ?_
      rintro e w1 ⟨rfl, nb, he, hS, _⟩
      clear hst c0 c1 c2 c3
      have R1 := HR.out.step he hS
      clear he hS HR
      obtain ⟨stk1, hstk1⟩ : ∃ x, x = stkS stk nb t.1 t.2.1 t.2.2.1 t.2.2.2 := ⟨_, rfl⟩
      obtain ⟨fre1, hfre1⟩ : ∃ x, x = freS stk fre nb t.1 t.2.1 t.2.2.1 t.2.2.2 := ⟨_, rfl⟩
      rw [← hstk1, ← hfre1] at R1
      clear hstk1 hfre1
      obtain ⟨g2, t2, hg2, ht2, hbk, c0, c1, c2, c3⟩ := HH.out.1.at R1.ext (pair_ge s) hnl
      simp only [Option.some.injEq, Addr.mk.injEq, and_true] at hg2
      subst hg2
      clear c1 c2 c3 hbk ht2
      have hfew := R1.few
      cases stk1 with
      | nil =>
        obtain ⟨a, cap, d0⟩ := R1.sys.stackCell
        rw [List.length_nil] at d0
        have ein := sys_inside R1.sys
        have HR1 : Hid (Run w3 (pair s) s (s + 1) (n + 1) w1 [] fre1 (seenPush fre seen nb)) := R1
        have HI : Hid _ := ein
        clear R1 ein
        go_wp2_with fail
        refine (HI.out k1).mono ?_
        rintro e w6 ⟨rfl, rfl⟩
        rw [show insideL [] k1 = false from rfl]
        go_wp2_with fail
        refine (HI.out t2.1).mono ?_
        rintro e w6 ⟨rfl, rfl⟩
        rw [show insideL [] t2.1 = false from rfl]
        go_wp2_with fail
        go_roundg k
        case measure => omega
        case rel => exact ⟨n + 1, _, _, _, by omega, by go_num, HR1.out⟩
      | cons f r =>
        obtain ⟨gs, cap, d0, d1⟩ := sys_top R1.sys
        rw [List.length_cons] at hfew
        have i0 : (0 : Int) ≤ r.length := by omega
        have i1 : (r.length : Int) < r.length + 1 := by omega
        have HR1 : Hid (Run w3 (pair s) s (s + 1) (n + 1) w1 (f :: r) fre1 (seenPush fre seen nb)) := R1
        obtain ⟨z, hz⟩ : ∃ z, z = f.kind := ⟨_, rfl⟩
        rw [← hz] at d1
        have HZ : Hid (z = f.kind) := hz
        clear R1 hz c0
        go_wp2_with fail
        go_quiet (fail)
        go_wp2_with fail
        obtain ⟨w5, hw5⟩ : ∃ w5, w5 = w1.drewN nq := ⟨_, rfl⟩
        have hs5 : Same w5 w1 := by rw [hw5]; exact ⟨rfl, rfl, rfl, rfl⟩
        rw [← hw5]
        have R5 := HR1.out.same hs5
        have ein := fun k => sys_inside R5.sys k
        simp only [insideL] at ein
        rw [← HZ.out] at ein
        have HI : Hid _ := ein
        have HR5 : Hid (Run w3 (pair s) s (s + 1) (n + 1) w5 (f :: r) fre1 (seenPush fre seen nb)) := R5
        clear hw5 hs5 R5 ein d0 d1 HR1
        refine (HI.out z).mono ?_
        rintro e w6 ⟨rfl, rfl⟩
        rw [beq_self_eq_true]
        go_wp2_with fail
        refine (HI.out _).mono ?_
        rintro e w6 ⟨rfl, rfl⟩
        rw [show (z == bits BinOp.xor IntKind.i64 z 1) = false from beq_eq_false_iff_ne.2 (Ne.symm (xor_one_ne z))]
        go_wp2_with fail
        refine (HI.out _).mono ?_
        rintro e w6 ⟨rfl, rfl⟩
        obtain ⟨q, hq1, hq2⟩ : ∃ q, (z == k1) = q ∧ (k1 == z) = q := ⟨z == k1, rfl, by
          by_cases h : z = k1
          · subst h; rfl
          · rw [beq_eq_false_iff_ne.2 h, beq_eq_false_iff_ne.2 (Ne.symm h)]⟩
        rw [hq1]
        go_wp2_with fail
        go_roundg k
        case measure => omega
        case rel => exact ⟨n + 1, _, _, _, by omega, by go_num, HR5.out⟩

set_option maxHeartbeats 400000 in
theorem tells_great (a0 : Option Addr) (len0 cap0 : Nat) (k1 : Int) (w : World) (hl : 4096 < len0) :
    Calls Try.prog 7 #[.slice a0 len0 cap0, .int .i64 k1] w fun e w' => e = .returned (.bool true) ∧ Below w.heap.size w w' := by
  by_cases hb : len0 ≤ 1048576
  · have l1 : decide ((4096 : Int) < (len0 : Int)) = true := by simp; omega
    have hby := bytes28_yes a0 len0 cap0 k1 w hb
    go_enter Try.func7, Try.ntmps7
    go_wp2_with fail
    refine hby.mono ?_
    rintro e wb ⟨rfl, rfl⟩
    clear hby
    go_wp2_with fail
    go_ret
    exact ⟨rfl, Below.refl _ _⟩
  · have hby := bytes28_no a0 len0 cap0 k1 w (by omega)
    go_enter Try.func7, Try.ntmps7
    go_wp2_with fail
    refine hby.mono ?_
    rintro e wb ⟨rfl, rfl⟩
    clear hby
    go_wp2_with fail
    go_ret
    exact ⟨rfl, Below.refl _ _⟩

theorem tells_walk (a0 : Option Addr) (len0 cap0 : Nat) (ss : List St) (k1 : Int) (w : World) (h0 : IsSteps w a0 len0 cap0 ss) :
    Calls Try.prog 7 #[.slice a0 len0 cap0, .int .i64 k1] w fun e w' => e = .returned (.bool true) ∧ Below w.heap.size w w' := by
  by_cases hl : len0 ≤ 4096
  · exact tells_small a0 len0 cap0 ss k1 w h0 hl
  · exact tells_great a0 len0 cap0 k1 w (by omega)

end Go.Proofs.Qxb6604576a
