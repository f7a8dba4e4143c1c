/-
  FnCutFreesExactlyUnkeptFramesAbove: the walk.
-/
import Derived.Test.Qxb6604576aTells
namespace Go.Proofs.Qxb6604576a
open Go.RowKit
set_option linter.unusedVariables false
set_option linter.unusedSimpArgs false


/-- Behind a cut the frames are no more than they were. -/
theorem cut_few {stk fre : List Fr} {j N : Nat} (h : stk.length + fre.length ≤ N) : (stk.drop j).length + (fre ++ cutL stk j).length ≤ N := by
  have h1 : (cutL stk j).length ≤ (stk.take j).length := by unfold cutL; exact List.length_filter_le _ _
  rw [List.length_drop, List.length_append]
  rw [List.length_take] at h1
  omega

theorem Run.cut {w3 wr x : World} {F0 : Nat → Prop} {s m n : Nat} {stk fre stk' fre' : List Fr} {seen seen' : List Nat} (R : Run w3 F0 s m n wr stk fre seen) {N : Nat}
    (he : Ext (grow F0 w3 wr) wr x) (hS : Sys x (grow (grow F0 w3 wr) wr x) s m stk' fre' seen') (hN : stk'.length + fre'.length ≤ N) (hN2 : seen'.length ≤ N) : Run w3 F0 s m N x stk' fre' seen' :=
  have h := sys_trans R.lt0 R.ext he hS
  ⟨h.1, h.2, R.lt0, hN, hN2⟩

set_option maxHeartbeats 2000000 in
theorem frees_small (a0 : Option Addr) (len0 cap0 : Nat) (ss : List St) (k1 : Int) (w : World) (h0 : IsSteps w a0 len0 cap0 ss) (hl : len0 ≤ 4096) :
    Calls Try.prog 5 #[.slice a0 len0 cap0, .int .i64 k1] w fun e w' => e = .returned (.bool true) ∧ Below w.heap.size w w' := by
  have l1 : decide ((4096 : Int) < (len0 : Int)) = false := by simp; omega
  have l2 : decide ((1048576 : Int) < 32 * (len0 : Int)) = false := by simp; omega
  have hcl := sclone_any h0 (by omega)
  have hby := bytes22_yes a0 len0 cap0 k1 w (by omega)
  have hbk : Hid ((∀ (i : Nat) (t : St), ss[i]? = some t → t.2.2.1 ≤ 9223372036854775807) ∧ ss.length = len0) := ⟨fun i t ht => h0.back ht, h0.len⟩
  clear h0
  go_enter Try.func5, Try.ntmps5
  go_wp2_with fail
  refine hby.mono ?_
  rintro e wb ⟨rfl, rfl⟩
  clear hby
  go_wp2_with fail
  refine hcl.mono ?_
  rintro e wc ⟨A, cp, rfl, hbel, hown⟩
  clear hcl
  have hhd := head_new hbel hown hbk.out.1 hbk.out.2
  clear hbk hbel hown
  go_wp2_with fail
  refine (new_any _).mono ?_
  rintro e ws ⟨rfl, rfl⟩
  go_wp2_with fail
  clear l1 l2
  obtain ⟨s, hs⟩ : ∃ s, s = wc.heap.size := ⟨_, rfl⟩
  obtain ⟨w3, hw3⟩ : ∃ w3, w3 = (wc.alloc (scObj none (.slice none 0 0))).alloc (moObj (.slice none 0 0) (.slice none 0 0) (.slice none 0 0)) := ⟨_, rfl⟩
  rw [← hs, ← hw3] at hhd
  have HH : Hid (Head w w3 s A len0 cp ss ∧ Run w3 (pair s) s (s + 1) 0 w3 [] [] []) := hhd
  clear hhd
  unfold moObj at hw3
  rw [← hs, ← hw3]
  clear hs hw3
  go_loopg [7] len0 (fun k i wr => ∃ n stk fre seen, n + k = len0 ∧ i = .int .i64 n ∧ Run w3 (pair s) s (s + 1) n wr stk fre seen)
  case atStart => exact ⟨0, [], [], [], by omega, rfl, HH.out.2⟩
  case round =>
    obtain ⟨n, stk, fre, seen, hnk, rfl, R⟩ := hrel
    cases gk with
    | zero =>
      have hlt : ¬ (n : Int) < len0 := by omega
      have hfew : stk.length + fre.length ≤ 4096 := by have := R.few; omega
      have hfs : seen.length ≤ 4096 := by have := R.fewSeen; omega
      have hsm := same_any R.sys (by omega)
      have HR : Hid (Run w3 (pair s) s (s + 1) n wr stk fre seen) := R
      clear R
      go_wp2_with fail
      refine hsm.mono ?_
      rintro e w2 ⟨rfl, hb2⟩
      clear hsm
      have R2 := HR.out.below hb2
      obtain ⟨a, cap, c0⟩ := R2.sys.stackCell
      have HR2 : Hid (Run w3 (pair s) s (s + 1) n w2 stk fre seen) := R2
      clear R2 hb2 HR
      go_wp2_with fail
      refine (clamp_any k1 stk.length _).mono ?_
      rintro e w6 ⟨rfl, rfl⟩
      have hcut := doCut_any HR2.out.sys (clampN k1 stk.length) (clampN_le _ _) (by omega)
      clear c0
      go_wp2_with fail
      refine hcut.mono ?_
      rintro e w5 ⟨rfl, he, hS⟩
      clear hcut
      have R5 := HR2.out.cut he hS (cut_few hfew) (N := 4096) (by omega)
      have hsm := same_any R5.sys (by have := R5.few; omega)
      have HR5 : Hid (Ext (pair s) w3 w5) := R5.ext
      clear R5 he hS HR2
      go_wp2_with fail
      refine hsm.mono ?_
      rintro e w6 ⟨rfl, hb6⟩
      have HB : Hid (Below w.heap.size w w6) := HH.out.1.out (HR5.out.step (Ext.of_below (F := fun _ => False) hb6) (fun _ h => h.elim)) (pair_ge s)
      clear hsm hb6 HR5
      go_wp2_with fail
      go_ret
      exact ⟨rfl, HB.out⟩
    | succ k =>
      have hnl : n < len0 := by omega
      have hlt : (n : Int) < len0 := by omega
      have hn0 : (0 : Int) ≤ n := by omega
      obtain ⟨g, t, rfl, ht, hbk, c0, c1, c2, c3⟩ := HH.out.1.at R.ext (pair_ge s) hnl
      have hst := doStep_any R.sys t.1 t.2.1 t.2.2.1 t.2.2.2 hbk (by have := R.few; omega) (by have := R.fewSeen; omega)
      have HR : Hid (Run w3 (pair s) s (s + 1) n wr stk fre seen) := R
      clear R ht hbk
      go_wp2_with fail
      refine hst.mono ?_
      rintro e w1 ⟨rfl, nb, he, hS, _⟩
      clear hst c0 c1 c2 c3
      have R1 := HR.out.step he hS
      clear he hS HR
      have HR1 : Hid (Run w3 (pair s) s (s + 1) (n + 1) w1 (stkS stk nb t.1 t.2.1 t.2.2.1 t.2.2.2) (freS stk fre nb t.1 t.2.1 t.2.2.1 t.2.2.2) (seenPush fre seen nb)) := R1
      clear R1
      go_wp2_with fail
      go_roundg k
      case measure => omega
      case rel => exact ⟨n + 1, _, _, _, by omega, by go_num, HR1.out⟩

set_option maxHeartbeats 400000 in
theorem frees_great (a0 : Option Addr) (len0 cap0 : Nat) (k1 : Int) (w : World) (hl : 4096 < len0) :
    Calls Try.prog 5 #[.slice a0 len0 cap0, .int .i64 k1] w fun e w' => e = .returned (.bool true) ∧ Below w.heap.size w w' := by
  by_cases hb : len0 ≤ 1048576
  · have l1 : decide ((4096 : Int) < (len0 : Int)) = true := by simp; omega
    have hby := bytes22_yes a0 len0 cap0 k1 w hb
    go_enter Try.func5, Try.ntmps5
    go_wp2_with fail
    refine hby.mono ?_
    rintro e wb ⟨rfl, rfl⟩
    clear hby
    go_wp2_with fail
    go_ret
    exact ⟨rfl, Below.refl _ _⟩
  · have hby := bytes22_no a0 len0 cap0 k1 w (by omega)
    go_enter Try.func5, Try.ntmps5
    go_wp2_with fail
    refine hby.mono ?_
    rintro e wb ⟨rfl, rfl⟩
    clear hby
    go_wp2_with fail
    go_ret
    exact ⟨rfl, Below.refl _ _⟩

theorem frees_walk (a0 : Option Addr) (len0 cap0 : Nat) (ss : List St) (k1 : Int) (w : World) (h0 : IsSteps w a0 len0 cap0 ss) :
    Calls Try.prog 5 #[.slice a0 len0 cap0, .int .i64 k1] w fun e w' => e = .returned (.bool true) ∧ Below w.heap.size w w' := by
  by_cases hl : len0 ≤ 4096
  · exact frees_small a0 len0 cap0 ss k1 w h0 hl
  · exact frees_great a0 len0 cap0 k1 w (by omega)

end Go.Proofs.Qxb6604576a
