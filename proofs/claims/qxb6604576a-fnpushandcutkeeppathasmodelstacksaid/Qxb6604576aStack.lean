/-
  FnPushAndCutKeepPathAsModelStack: the walk.
-/
import Derived.Test.Qxb6604576aTells
namespace Go.Proofs.Qxb6604576a
open Go.RowKit
set_option linter.unusedVariables false
set_option linter.unusedSimpArgs false

set_option maxHeartbeats 2000000 in
theorem stack_small (a0 : Option Addr) (len0 cap0 : Nat) (ss : List St) (w : World) (h0 : IsSteps w a0 len0 cap0 ss) (hl : len0 ≤ 4096) :
    Calls Try.prog 3 #[.slice a0 len0 cap0] w fun e w' => e = .returned (.bool true) ∧ Below w.heap.size w w' := by
  have l1 : decide ((4096 : Int) < (len0 : Int)) = false := by simp; omega
  have l2 : decide ((1048576 : Int) < 32 * (len0 : Int)) = false := by simp; omega
  have hcl := sclone_any h0 (by omega)
  have hby := bytes9_yes a0 len0 cap0 w (by omega)
  have hbk : Hid ((∀ (i : Nat) (t : St), ss[i]? = some t → t.2.2.1 ≤ 9223372036854775807) ∧ ss.length = len0) := ⟨fun i t ht => h0.back ht, h0.len⟩
  clear h0
  go_enter Try.func3, Try.ntmps3
  go_wp2_with fail
  refine hby.mono ?_
  rintro e wb ⟨rfl, rfl⟩
  clear hby
  go_wp2_with fail
  refine hcl.mono ?_
  rintro e wc ⟨A, cp, rfl, hbel, hown⟩
  clear hcl
  have hhd := head_new hbel hown hbk.out.1 hbk.out.2
  clear hbk hbel hown
  go_wp2_with fail
  refine (new_any _).mono ?_
  rintro e ws ⟨rfl, rfl⟩
  go_wp2_with fail
  clear l1 l2
  obtain ⟨s, hs⟩ : ∃ s, s = wc.heap.size := ⟨_, rfl⟩
  obtain ⟨w3, hw3⟩ : ∃ w3, w3 = (wc.alloc (scObj none (.slice none 0 0))).alloc (moObj (.slice none 0 0) (.slice none 0 0) (.slice none 0 0)) := ⟨_, rfl⟩
  rw [← hs, ← hw3] at hhd
  have HH : Hid (Head w w3 s A len0 cp ss ∧ Run w3 (pair s) s (s + 1) 0 w3 [] [] []) := hhd
  clear hhd
  unfold moObj at hw3
  rw [← hs, ← hw3]
  clear hs hw3
  refine (same_any HH.out.2.sys (by simp)).mono ?_
  rintro e w4 ⟨rfl, hb4⟩
  have HR4 : Hid (Run w3 (pair s) s (s + 1) 0 w4 [] [] []) := HH.out.2.below hb4
  clear hb4
  go_wp2_with fail
  go_loopg [5] len0 (fun k i wr => ∃ n stk fre seen, n + k = len0 ∧ i = .int .i64 n ∧ Run w3 (pair s) s (s + 1) n wr stk fre seen)
  case atStart => exact ⟨0, [], [], [], by omega, rfl, HR4.out⟩
  case round =>
    obtain ⟨n, stk, fre, seen, hnk, rfl, R⟩ := hrel
    cases gk with
    | zero =>
      have hlt : ¬ (n : Int) < len0 := by omega
      have HB : Hid (Below w.heap.size w wr) := HH.out.1.out R.ext (pair_ge s)
      clear R
      go_wp2_with fail
      go_ret
      exact ⟨rfl, HB.out⟩
    | succ k =>
      have hnl : n < len0 := by omega
      have hlt : (n : Int) < len0 := by omega
      have hn0 : (0 : Int) ≤ n := by omega
      obtain ⟨g, t, rfl, ht, hbk, c0, c1, c2, c3⟩ := HH.out.1.at R.ext (pair_ge s) hnl
      have hst := doStep_any R.sys t.1 t.2.1 t.2.2.1 t.2.2.2 hbk (by have := R.few; omega) (by have := R.fewSeen; omega)
      have HR : Hid (Run w3 (pair s) s (s + 1) n wr stk fre seen) := R
      clear R ht hbk
      go_wp2_with fail
      refine hst.mono ?_
      rintro e w1 ⟨rfl, nb, he, hS, _⟩
      clear hst c0 c1 c2 c3
      have R1 := HR.out.step he hS
      clear he hS HR
      have hsm := same_any R1.sys (by have := R1.few; omega)
      have HR1 : Hid (Run w3 (pair s) s (s + 1) (n + 1) w1 (stkS stk nb t.1 t.2.1 t.2.2.1 t.2.2.2) (freS stk fre nb t.1 t.2.1 t.2.2.1 t.2.2.2) (seenPush fre seen nb)) := R1
      clear R1
      go_wp2_with fail
      refine hsm.mono ?_
      rintro e w2 ⟨rfl, hb2⟩
      clear hsm
      have HR1 : Hid (Run w3 (pair s) s (s + 1) (n + 1) w2 (stkS stk nb t.1 t.2.1 t.2.2.1 t.2.2.2) (freS stk fre nb t.1 t.2.1 t.2.2.1 t.2.2.2) (seenPush fre seen nb)) := HR1.out.below hb2
      clear hb2
      go_wp2_with fail
      go_roundg k
      case measure => omega
      case rel => exact ⟨n + 1, _, _, _, by omega, by go_num, HR1.out⟩

set_option maxHeartbeats 400000 in
theorem stack_great (a0 : Option Addr) (len0 cap0 : Nat) (w : World) (hl : 4096 < len0) :
    Calls Try.prog 3 #[.slice a0 len0 cap0] w fun e w' => e = .returned (.bool true) ∧ Below w.heap.size w w' := by
  by_cases hb : len0 ≤ 1048576
  · have l1 : decide ((4096 : Int) < (len0 : Int)) = true := by simp; omega
    have hby := bytes9_yes a0 len0 cap0 w hb
    go_enter Try.func3, Try.ntmps3
    go_wp2_with fail
    refine hby.mono ?_
    rintro e wb ⟨rfl, rfl⟩
    clear hby
    go_wp2_with fail
    go_ret
    exact ⟨rfl, Below.refl _ _⟩
  · have hby := bytes9_no a0 len0 cap0 w (by omega)
    go_enter Try.func3, Try.ntmps3
    go_wp2_with fail
    refine hby.mono ?_
    rintro e wb ⟨rfl, rfl⟩
    clear hby
    go_wp2_with fail
    go_ret
    exact ⟨rfl, Below.refl _ _⟩

theorem stack_walk (a0 : Option Addr) (len0 cap0 : Nat) (ss : List St) (w : World) (h0 : IsSteps w a0 len0 cap0 ss) :
    Calls Try.prog 3 #[.slice a0 len0 cap0] w fun e w' => e = .returned (.bool true) ∧ Below w.heap.size w w' := by
  by_cases hl : len0 ≤ 4096
  · exact stack_small a0 len0 cap0 ss w h0 hl
  · exact stack_great a0 len0 cap0 w (by omega)

end Go.Proofs.Qxb6604576a
