/-
  FnPushCutBackPushReusesTheFrame: the walk.
-/
import Derived.Test.Qxb6604576aFrees
namespace Go.Proofs.Qxb6604576a
open Go.RowKit
set_option linter.unusedVariables false
set_option linter.unusedSimpArgs false


theorem drewN_same (w : World) (n : Nat) : Same (w.drewN n) w := ⟨rfl, rfl, rfl, rfl⟩

theorem sys_topPtr {w : World} {F : Nat → Prop} {s m : Nat} {stk fre : List Fr} {seen : List Nat} (h : Sys w F s m stk fre seen) (hn : stk.length ≤ 5000) :
    Calls Try.prog 15 #[.pointer (some ⟨m, 0, none⟩)] w fun e w' => e = .returned (.pointer (topA stk)) ∧ Same w' w := by
  obtain ⟨Fs, Fm, fv, sv, mf, mn, hS, hM, hd, h1, h2⟩ := h.ex
  exact top_any hM hn
theorem sys_path {w : World} {F : Nat → Prop} {s m : Nat} {stk fre : List Fr} {seen : List Nat} (h : Sys w F s m stk fre seen) :
    Calls Try.prog 18 #[.pointer (some ⟨s, 0, none⟩)] w fun e w' => e = .returned (.pointer (topA stk)) ∧ w = w' := by
  obtain ⟨Fs, Fm, fv, sv, mf, mn, hS, hM, hd, h1, h2⟩ := h.ex
  exact path_any s _ w (sc7 hS.scb)
theorem sys_freeLen {w : World} {F : Nat → Prop} {s m : Nat} {stk fre : List Fr} {seen : List Nat} (h : Sys w F s m stk fre seen) :
    Calls Try.prog 19 #[.pointer (some ⟨s, 0, none⟩)] w fun e w' => e = .returned (.int .i64 fre.length) ∧ w = w' := by
  obtain ⟨Fs, Fm, fv, sv, mf, mn, hS, hM, hd, h1, h2⟩ := h.ex
  obtain ⟨a, cap, hv, _⟩ := hS.form
  exact freeLen_any s a fre.length cap w (by rw [sc8 hS.scb, hv])
theorem sys_freeAt {w : World} {F : Nat → Prop} {s m : Nat} {stk fre : List Fr} {seen : List Nat} (h : Sys w F s m stk fre seen) {n : Nat} {f : Fr} (hf : fre[n]? = some f) :
    Calls Try.prog 20 #[.pointer (some ⟨s, 0, none⟩), .int .i64 n] w fun e w' => e = .returned (.pointer (some ⟨f.b, 0, none⟩)) ∧ w = w' := by
  obtain ⟨Fs, Fm, fv, sv, mf, mn, hS, hM, hd, h1, h2⟩ := h.ex
  have hn : n < fre.length := (List.getElem?_eq_some_iff.1 hf).1
  obtain ⟨a, cap, hv, hlc, hcm⟩ := hS.form
  obtain ⟨g, cap2, hv2, _⟩ := hS.row.form (by omega)
  subst hv
  simp only [Value.slice.injEq] at hv2
  obtain ⟨rfl, _, rfl⟩ := hv2
  refine freeAt_any s g fre.length cap n f.b w hn (by unfold maxLen at hcm; omega) hlc (sc8 hS.scb) ?_
  rw [hS.row.cellAt n (by omega)]
  unfold ptrB
  rw [List.getElem?_map, hf]; rfl
theorem sys_up {w : World} {F : Nat → Prop} {s m : Nat} {f : Fr} {r fre : List Fr} {seen : List Nat} (h : Sys w F s m (f :: r) fre seen) :
    Calls Try.prog 21 #[.pointer (some ⟨f.b, 0, none⟩)] w fun e w' => e = .returned (.pointer (topA r)) ∧ w = w' := by
  obtain ⟨Fs, Fm, fv, sv, mf, mn, hS, hM, hd, h1, h2⟩ := h.ex
  exact frameUp_any f.b _ w (fr3 hS.linked.1)
theorem Sys.freeCell {w : World} {F : Nat → Prop} {s m : Nat} {stk fre : List Fr} {seen : List Nat} (h : Sys w F s m stk fre seen) : ∃ a cap, w.cell? ⟨m, 1, none⟩ = some (.slice a fre.length cap) := by
  obtain ⟨Fs, Fm, fv, sv, mf, mn, hS, hM, hd, h1, h2⟩ := h.ex
  obtain ⟨a, cap, hv, _⟩ := row_form hM.frow
  exact ⟨a, cap, by rw [mo1 hM.mob, hv]; simp⟩
/-- The last frame is none of those beneath it. -/
theorem sys_neq {w : World} {F : Nat → Prop} {s m : Nat} {f : Fr} {r fre : List Fr} {seen : List Nat} (h : Sys w F s m (f :: r) fre seen) :
    (binOp .eql 37 (.pointer (some ⟨f.b, 0, none⟩)) (.pointer (topA r))).run Try.prog w = .ok (.bool false) w := by
  obtain ⟨Fs, Fm, fv, sv, mf, mn, hS, hM, hd, h1, h2⟩ := h.ex
  have hne : topA (f :: r) ≠ topA r := by
    have nd := hS.nodup
    simp only [List.cons_append, List.map_cons, List.nodup_cons, List.map_append] at nd
    exact topA_ne (fun hm => nd.1 (List.mem_append_left _ hm)) (fun x hx => hx)
  have hr := run_eql_frames (topA_ok (l := f :: r) hS.linked) (topA_ok hS.linked.2)
  rw [topA_cons] at hr
  rw [hr]
  have : (some (⟨f.b, 0, none⟩ : Addr) : Option Addr) ≠ topA r := hne
  simp [this]
theorem cutL_one (f : Fr) (r : List Fr) (h : f.kept = false) : cutL (f :: r) 1 = [f] := by simp [cutL, h]

set_option maxHeartbeats 4000000 in
theorem reuse_small (a0 : Option Addr) (len0 cap0 : Nat) (ss : List St) (k1 k2 k3 k4 : Int) (w : World) (h0 : IsSteps w a0 len0 cap0 ss) (hl : len0 ≤ 4096) :
    Calls Try.prog 4 #[.slice a0 len0 cap0, .int .i64 k1, .int .i64 k2, .int .i64 k3, .int .i64 k4] w fun e w' => e = .returned (.bool true) ∧ Below w.heap.size w w' := by
  have l1 : decide ((4096 : Int) < (len0 : Int)) = false := by simp; omega
  have l2 : decide ((1048576 : Int) < 32 * (len0 : Int)) = false := by simp; omega
  have hcl := sclone_any h0 (by omega)
  have hby := bytes14_yes a0 len0 cap0 k1 k2 k3 k4 w (by omega)
  have hbk : Hid ((∀ (i : Nat) (t : St), ss[i]? = some t → t.2.2.1 ≤ 9223372036854775807) ∧ ss.length = len0) := ⟨fun i t ht => h0.back ht, h0.len⟩
  clear h0
  go_enter Try.func4, Try.ntmps4
  go_wp2_with fail
  refine hby.mono ?_
  rintro e wb ⟨rfl, rfl⟩
  clear hby
  go_wp2_with fail
  refine hcl.mono ?_
  rintro e wc ⟨A, cp, rfl, hbel, hown⟩
  clear hcl
  have hhd := head_new hbel hown hbk.out.1 hbk.out.2
  clear hbk hbel hown
  go_wp2_with fail
  refine (new_any _).mono ?_
  rintro e ws ⟨rfl, rfl⟩
  go_wp2_with fail
  clear l1 l2
  obtain ⟨s, hs⟩ : ∃ s, s = wc.heap.size := ⟨_, rfl⟩
  obtain ⟨w3, hw3⟩ : ∃ w3, w3 = (wc.alloc (scObj none (.slice none 0 0))).alloc (moObj (.slice none 0 0) (.slice none 0 0) (.slice none 0 0)) := ⟨_, rfl⟩
  rw [← hs, ← hw3] at hhd
  have HH : Hid (Head w w3 s A len0 cp ss ∧ Run w3 (pair s) s (s + 1) 0 w3 [] [] []) := hhd
  clear hhd
  unfold moObj at hw3
  rw [← hs, ← hw3]
  clear hs hw3
  go_loopg [13] len0 (fun k i wr => ∃ n stk fre seen, n + k = len0 ∧ i = .int .i64 n ∧ Run w3 (pair s) s (s + 1) n wr stk fre seen)
  case atStart => exact ⟨0, [], [], [], by omega, rfl, HH.out.2⟩
  case round =>
    obtain ⟨n, stk, fre, seen, hnk, rfl, R⟩ := hrel
    cases gk with
    | zero =>
      have hlt : ¬ (n : Int) < len0 := by omega
      have hfew : stk.length + fre.length ≤ 4096 := by have := R.few; omega
      have hfs : seen.length ≤ 4096 := by have := R.fewSeen; omega
      have hsm := same_any R.sys (by omega)
      have HR : Hid (Run w3 (pair s) s (s + 1) n wr stk fre seen) := R
      clear R
      go_wp2_with fail
      refine hsm.mono ?_
      rintro e w2 ⟨rfl, hb2⟩
      clear hsm
      have HR2 : Hid (Run w3 (pair s) s (s + 1) n w2 stk fre seen) := HR.out.below hb2
      clear hb2 HR
      -- prev
      have htp := sys_topPtr HR2.out.sys (by omega)
      go_wp2_with fail
      refine htp.mono ?_
      rintro e w4 ⟨rfl, hs4⟩
      have HR4 : Hid (Run w3 (pair s) s (s + 1) n w4 stk fre seen) := HR2.out.same hs4
      clear htp hs4 HR2
      obtain ⟨p, hp⟩ : ∃ p, p = topA stk := ⟨_, rfl⟩
      rw [← hp]
      have HP : Hid (p = topA stk) := hp
      clear hp
      -- the first push
      have hpu := doPush_any HR4.out.sys k1 k2 (by omega) (by omega) (by omega)
      go_wp2_with fail
      refine hpu.mono ?_
      rintro e w5 ⟨rfl, nb, he5, hS5, _⟩
      clear hpu
      have hl5 : fre.dropLast.length ≤ 4096 := by rw [List.length_dropLast]; omega
      have HR5 : Hid (Run w3 (pair s) s (s + 1) 5000 w5 (⟨nb, k1, k2, false⟩ :: stk) fre.dropLast (seenPush fre seen nb)) := HR4.out.cut he5 hS5 (by rw [List.length_cons, List.length_dropLast]; omega) (by have := seenPush_length fre seen nb; omega)
      clear he5 hS5 HR4
      -- f
      have htp := sys_topPtr HR5.out.sys (by rw [List.length_cons]; omega)
      rw [topA_cons] at htp
      go_wp2_with fail
      refine htp.mono ?_
      rintro e w6 ⟨rfl, hs6⟩
      have HR6 : Hid (Run w3 (pair s) s (s + 1) 5000 w6 (⟨nb, k1, k2, false⟩ :: stk) fre.dropLast (seenPush fre seen nb)) := HR5.out.same hs6
      clear htp hs6 HR5
      have hq := sys_neq HR6.out.sys
      rw [← HP.out] at hq
      obtain ⟨a, cap, c0⟩ := HR6.out.sys.stackCell
      rw [List.length_cons] at c0
      have hcut := doCut_any HR6.out.sys stk.length (by simp) (by rw [List.length_cons, List.length_dropLast]; omega)
      have ej : (⟨nb, k1, k2, false⟩ :: stk : List Fr).length - stk.length = 1 := by simp
      rw [ej, List.drop_one, List.tail_cons, cutL_one _ _ rfl] at hcut
      clear ej
      go_wp2_with fail
      refine hcut.mono ?_
      rintro e w7 ⟨rfl, he7, hS7⟩
      clear hcut hq c0
      have HR7 : Hid (Run w3 (pair s) s (s + 1) 5000 w7 stk (fre.dropLast ++ [⟨nb, k1, k2, false⟩]) (seenPush fre seen nb)) := HR6.out.cut he7 hS7 (by rw [List.length_append, List.length_dropLast, List.length_singleton]; omega) HR6.out.fewSeen
      clear he7 hS7 HR6
      -- the great test
      obtain ⟨a, cap, c1⟩ := HR7.out.sys.freeCell
      obtain ⟨N, hNN⟩ : ∃ N, N = fre.dropLast.length := ⟨_, rfl⟩
      have hlN : (fre.dropLast ++ [⟨nb, k1, k2, false⟩] : List Fr).length = N + 1 := by rw [List.length_append, List.length_singleton, hNN]
      rw [hlN] at c1
      have hn5 : N ≤ 4096 := by omega
      have I18 : Hid (∀ q, Calls Try.prog 18 #[.pointer (some ⟨s, 0, none⟩)] (w7.drewN q) fun e w' => e = .returned (.pointer p) ∧ w7.drewN q = w') := fun q => by
        have := sys_path (HR7.out.sys.same (drewN_same w7 q)); rwa [← HP.out] at this
      have I19 : Hid (∀ q, Calls Try.prog 19 #[.pointer (some ⟨s, 0, none⟩)] (w7.drewN q) fun e w' => e = .returned (.int .i64 ((N : Int) + 1)) ∧ w7.drewN q = w') := fun q => by
        have := sys_freeLen (HR7.out.sys.same (drewN_same w7 q)); rw [hlN] at this; exact this
      have I20 : Hid (∀ q, Calls Try.prog 20 #[.pointer (some ⟨s, 0, none⟩), .int .i64 (N : Int)] (w7.drewN q) fun e w' => e = .returned (.pointer (some ⟨nb, 0, none⟩)) ∧ w7.drewN q = w') := fun q =>
        sys_freeAt (HR7.out.sys.same (drewN_same w7 q)) (f := ⟨nb, k1, k2, false⟩) (by rw [hNN, List.getElem?_append_right (Nat.le_refl _)]; simp)
      have hq1 := run_neq_self p
      have hq2 := run_neq_self (some ⟨nb, 0, none⟩)
      have hz : ((N : Int) + 1 == 0) = false := beq_eq_false_iff_ne.2 (by omega)
      clear hNN hlN hl5
      go_wp2_with fail
      go_quiet (first | (go_at_call 18; exact qsame (I18.out _)) | (go_at_call 19; exact qsame (I19.out _)) | (go_at_call 20; exact qsame (I20.out _)))
      go_wp2_with fail
      obtain ⟨w8, hw8⟩ : ∃ w8, w8 = w7.drewN nq := ⟨_, rfl⟩
      have HR8 : Hid (Run w3 (pair s) s (s + 1) 5000 w8 stk (fre.dropLast ++ [⟨nb, k1, k2, false⟩]) (seenPush fre seen nb)) := HR7.out.same (by rw [hw8]; exact ⟨rfl, rfl, rfl, rfl⟩)
      rw [← hw8]
      clear hw8 I18 I19 I20 c1 HR7
      -- the second push
      have hpu := doPush_any HR8.out.sys k3 k4 (by omega) (by rw [List.length_append, List.length_dropLast, List.length_singleton]; omega) HR8.out.fewSeen
      refine hpu.mono ?_
      rintro e w9 ⟨rfl, nb2, he9, hS9, hT9⟩
      clear hpu
      have enb : nb2 = nb := by
        rcases hT9 with ⟨hT, _⟩ | ⟨x, hT, hx⟩
        · simp at hT
        · simp at hT; rw [hx, ← hT]
      subst enb
      rw [List.dropLast_concat] at hS9
      have HR9 : Hid (Run w3 (pair s) s (s + 1) 10000 w9 (⟨nb2, k3, k4, false⟩ :: stk) fre.dropLast (seenPush (fre.dropLast ++ [⟨nb2, k1, k2, false⟩]) (seenPush fre seen nb2) nb2)) := HR8.out.cut he9 hS9 (by rw [List.length_cons, List.length_dropLast]; omega) (by have := seenPush_length (fre.dropLast ++ [⟨nb2, k1, k2, false⟩]) (seenPush fre seen nb2) nb2; have := HR8.out.fewSeen; omega)
      clear he9 hS9 hT9 HR8
      have hpt := sys_path HR9.out.sys
      rw [topA_cons] at hpt
      have hup := sys_up HR9.out.sys
      rw [← HP.out] at hup
      have hsm := same_any HR9.out.sys (by rw [List.length_cons, List.length_dropLast]; omega)
      go_wp2_with fail
      refine hpt.mono ?_
      rintro e w10 ⟨rfl, rfl⟩
      clear hpt
      go_wp2_with fail
      refine hup.mono ?_
      rintro e w10 ⟨rfl, rfl⟩
      clear hup
      go_wp2_with fail
      refine hsm.mono ?_
      rintro e w11 ⟨rfl, hb11⟩
      have HB : Hid (Below w.heap.size w w11) := HH.out.1.out (HR9.out.ext.step (Ext.of_below (F := fun _ => False) hb11) (fun _ h => h.elim)) (pair_ge s)
      clear hsm hb11 HR9
      go_wp2_with fail
      go_ret
      exact ⟨rfl, HB.out⟩
    | succ k =>
      have hnl : n < len0 := by omega
      have hlt : (n : Int) < len0 := by omega
      have hn0 : (0 : Int) ≤ n := by omega
      obtain ⟨g, t, rfl, ht, hbk, c0, c1, c2, c3⟩ := HH.out.1.at R.ext (pair_ge s) hnl
      have hst := doStep_any R.sys t.1 t.2.1 t.2.2.1 t.2.2.2 hbk (by have := R.few; omega) (by have := R.fewSeen; omega)
      have HR : Hid (Run w3 (pair s) s (s + 1) n wr stk fre seen) := R
      clear R ht hbk
      go_wp2_with fail
      refine hst.mono ?_
      rintro e w1 ⟨rfl, nb, he, hS, _⟩
      clear hst c0 c1 c2 c3
      have R1 := HR.out.step he hS
      clear he hS HR
      have HR1 : Hid (Run w3 (pair s) s (s + 1) (n + 1) w1 (stkS stk nb t.1 t.2.1 t.2.2.1 t.2.2.2) (freS stk fre nb t.1 t.2.1 t.2.2.1 t.2.2.2) (seenPush fre seen nb)) := R1
      clear R1
      go_wp2_with fail
      go_roundg k
      case measure => omega
      case rel => exact ⟨n + 1, _, _, _, by omega, by go_num, HR1.out⟩

set_option maxHeartbeats 400000 in
theorem reuse_great (a0 : Option Addr) (len0 cap0 : Nat) (k1 k2 k3 k4 : Int) (w : World) (hl : 4096 < len0) :
    Calls Try.prog 4 #[.slice a0 len0 cap0, .int .i64 k1, .int .i64 k2, .int .i64 k3, .int .i64 k4] w fun e w' => e = .returned (.bool true) ∧ Below w.heap.size w w' := by
  by_cases hb : len0 ≤ 1048576
  · have l1 : decide ((4096 : Int) < (len0 : Int)) = true := by simp; omega
    have hby := bytes14_yes a0 len0 cap0 k1 k2 k3 k4 w hb
    go_enter Try.func4, Try.ntmps4
    go_wp2_with fail
    refine hby.mono ?_
    rintro e wb ⟨rfl, rfl⟩
    clear hby
    go_wp2_with fail
    go_ret
    exact ⟨rfl, Below.refl _ _⟩
  · have hby := bytes14_no a0 len0 cap0 k1 k2 k3 k4 w (by omega)
    go_enter Try.func4, Try.ntmps4
    go_wp2_with fail
    refine hby.mono ?_
    rintro e wb ⟨rfl, rfl⟩
    clear hby
    go_wp2_with fail
    go_ret
    exact ⟨rfl, Below.refl _ _⟩

theorem reuse_walk (a0 : Option Addr) (len0 cap0 : Nat) (ss : List St) (k1 k2 k3 k4 : Int) (w : World) (h0 : IsSteps w a0 len0 cap0 ss) :
    Calls Try.prog 4 #[.slice a0 len0 cap0, .int .i64 k1, .int .i64 k2, .int .i64 k3, .int .i64 k4] w fun e w' => e = .returned (.bool true) ∧ Below w.heap.size w w' := by
  by_cases hl : len0 ≤ 4096
  · exact reuse_small a0 len0 cap0 ss k1 k2 k3 k4 w h0 hl
  · exact reuse_great a0 len0 cap0 k1 k2 k3 k4 w (by omega)

end Go.Proofs.Qxb6604576a
