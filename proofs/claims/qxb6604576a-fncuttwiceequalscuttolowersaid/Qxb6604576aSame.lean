/-
  sameState.
-/
import Derived.Test.Qxb6604576aSteps
namespace Go.Proofs.Qxb6604576a
open Go.RowKit
set_option linter.unusedVariables false
set_option linter.unusedSimpArgs false

theorem qsame {P : Program} {f : FuncId} {args : Array Value} {w : World} {n : Nat} {v : Value}
    (h : Calls P f args (w.drewN n) fun e w' => e = .returned v ∧ w.drewN n = w') : Calls P f args (w.drewN n) fun e w'' => e = .returned v ∧ ∃ m, w'' = w.drewN m :=
  h.mono fun _ _ ⟨he, hm⟩ => ⟨he, n, hm.symm⟩

set_option maxHeartbeats 2000000 in
theorem same_any {w : World} {F : Nat → Prop} {s m : Nat} {stk fre : List Fr} {seen : List Nat} (h : Sys w F s m stk fre seen) (hN : stk.length + fre.length ≤ 5000) :
    Calls Try.prog 12 #[.pointer (some ⟨s, 0, none⟩), .pointer (some ⟨m, 0, none⟩)] w fun e w' => e = .returned (.bool true) ∧ Below w.heap.size w w' := by
  obtain ⟨Fs, Fm, fv, sv, mf, mn, hS, hM, hd, h1, h2⟩ := h.ex
  have h7 := sc7 hS.scb
  obtain ⟨a, cap, hsv, hlc, hcm⟩ := row_form hM.srow
  subst hsv
  have c0 := mo0 hM.mob
  rw [List.length_reverse] at c0
  have HS : Hid (Sys w F s m stk fre seen) := h
  clear hS hM hd h1 h2 h hlc
  go_enter Try.func12, Try.ntmps12
  go_wp2_with fail
  refine (path_any s _ _ h7).mono ?_
  rintro e w6 ⟨rfl, rfl⟩
  go_wp2_with fail
  clear c0 h7
  go_loopg [5, 6] stk.length (fun k f j wr => ∃ i : Nat, i + k = stk.length ∧ f = .pointer (topA (stk.drop i)) ∧ j = .int .i64 ((k : Int) - 1) ∧ Below w.heap.size w wr)
  case atStart => exact ⟨0, by omega, rfl, rfl, Below.refl _ _⟩
  case round =>
    obtain ⟨i, hik, rfl, rfl, hbel⟩ := hrel
    have S := HS.out.below hbel
    obtain ⟨Fs, Fm, fv, sv, mf, mn, hS, hM, hd, h1, h2⟩ := S.ex
    cases gk with
    | zero =>
      have hlt : ¬ (0 : Int) ≤ ((0 : Nat) : Int) - 1 := by omega
      have et : topA (stk.drop i) = none := by rw [List.drop_of_length_le (by omega)]; rfl
      rw [et]
      obtain ⟨a2, cap2, hmf, _⟩ := row_form hM.frow
      subst hmf
      rw [List.length_map] at hM
      have c1 := mo1 hM.mob
      obtain ⟨a3, cap3, hfv, _⟩ := hS.form
      subst hfv
      have c8 := sc8 hS.scb
      have HB : Hid (Below w.heap.size w wr) := hbel
      clear hbel et hS hM hd h1 h2 S
      go_wp2_with fail
      go_quiet ((go_at_call 19; exact qsame (freeLen_any s _ _ _ _ (by exact c8))))
      go_wp2_with fail
      have HB2 : Hid (Below w.heap.size w (wr.drewN nq)) := HB.out.trans ⟨rfl, rfl, rfl, Nat.le_refl _, fun _ _ => rfl⟩
      obtain ⟨w3, hw3⟩ : ∃ w3, w3 = wr.drewN nq := ⟨_, rfl⟩
      rw [← hw3] at HB2 ⊢
      clear hw3 c1 c8 HB
      go_loopg [8] fre.length (fun k j wr => ∃ n : Nat, n + k = fre.length ∧ j = .int .i64 n ∧ Below w.heap.size w wr)
      case atStart => exact ⟨0, by omega, rfl, HB2.out⟩
      case round =>
        obtain ⟨n, hnk, rfl, hbel⟩ := hrel
        have S := HS.out.below hbel
        obtain ⟨Fs, Fm, fv, sv, mf, mn, hS, hM, hd, h1, h2⟩ := S.ex
        obtain ⟨a2, cap2, hmf, _⟩ := row_form hM.frow
        subst hmf
        rw [List.length_map] at hM
        have c1 := mo1 hM.mob
        have HB : Hid (Below w.heap.size w wr) := hbel
        cases gk with
        | zero =>
          have hlt : ¬ (n : Int) < fre.length := by omega
          clear hbel hS hM hd h1 h2 S
          go_wp2_with fail
          go_ret
          exact ⟨rfl, HB.out⟩
        | succ k =>
          have hnl : n < fre.length := by omega
          have hlt : (n : Int) < fre.length := by omega
          have hn0 : (0 : Int) ≤ n := by omega
          obtain ⟨g, hg⟩ : ∃ g, a2 = some ⟨g, 0, none⟩ := by
            obtain ⟨g, cap, hv, _⟩ := hM.frow.form (by rw [List.length_map]; omega)
            simp only [Value.slice.injEq] at hv
            exact ⟨g, hv.1⟩
          subst hg
          obtain ⟨f, hf⟩ : ∃ f, fre[n]? = some f := ⟨fre[n], by simp⟩
          have hMr := hM.frow
          rw [List.length_map] at hMr
          have cm : wr.cell? ⟨g, n, none⟩ = some (.pointer (some ⟨f.b, 0, none⟩)) := by
            rw [hMr.cellAt n (by omega)]
            unfold bptrs ptrB
            rw [List.getElem?_map, List.getElem?_map, hf]; rfl
          obtain ⟨a3, cap3, hfv, hlc3, hcm3⟩ := hS.form
          subst hfv
          obtain ⟨g3, hg3⟩ : ∃ g, a3 = some ⟨g, 0, none⟩ := by
            obtain ⟨g, cap, hv, _⟩ := hS.row.form (by omega)
            simp only [Value.slice.injEq] at hv
            exact ⟨g, hv.1⟩
          subst hg3
          have c8 := sc8 hS.scb
          have cs : wr.cell? ⟨g3, n, none⟩ = some (.pointer (some ⟨f.b, 0, none⟩)) := by
            rw [hS.row.cellAt n (by omega)]
            unfold ptrB
            rw [List.getElem?_map, hf]; rfl
          have hneq := run_neq_self (some ⟨f.b, 0, none⟩)
          have hat : ∀ nq, Calls Try.prog 20 #[.pointer (some ⟨s, 0, none⟩), .int .i64 n] (wr.drewN nq) fun e w' => e = .returned (.pointer (some ⟨f.b, 0, none⟩)) ∧ wr.drewN nq = w' := fun nq => freeAt_any s g3 fre.length cap3 n f.b (wr.drewN nq) hnl (by unfold maxLen at hcm3; omega) hlc3 c8 cs
          have HA : Hid _ := hat
          clear hbel hS hM hd h1 h2 S hMr cs c8 hat hf hcm3 hlc3
          go_wp2_with fail
          go_quiet ((go_at_call 20; exact qsame (HA.out _)))
          go_wp2_with fail
          go_roundg k
          case measure => omega
          case rel => exact ⟨n + 1, by omega, by go_num, HB.out.trans ⟨rfl, rfl, rfl, Nat.le_refl _, fun _ _ => rfl⟩⟩
    | succ k =>
      have hil : i < stk.length := by omega
      obtain ⟨f, hdr, hf⟩ := drop_cons hil
      have hr := rev_get hf
      rw [show stk.length - 1 - i = k from by omega] at hr
      have hl := hS.linked.drop i
      rw [hdr] at hl
      rw [hdr, topA_cons]
      rw [show (((k + 1 : Nat)) : Int) - 1 = (k : Int) from by omega]
      have k0 : (0 : Int) ≤ k := by omega
      have k1 : (k : Int) < stk.length := by omega
      obtain ⟨a2, cap2, hsv, _⟩ := row_form hM.srow
      subst hsv
      obtain ⟨g, hg⟩ : ∃ g, a2 = some ⟨g, 0, none⟩ := by
        obtain ⟨g, cap, hv, _⟩ := hM.srow.form (by rw [List.length_reverse]; omega)
        simp only [Value.slice.injEq] at hv
        exact ⟨g, hv.1⟩
      subst hg
      have hMr := hM.srow
      have c0 := mo0 hM.mob
      rw [List.length_reverse] at c0
      have e0 : wr.cell? ⟨g, k * 4, none⟩ = some (.pointer (some ⟨f.b, 0, none⟩)) := by
        rw [hMr.cellAt (k * 4) (by rw [List.length_reverse]; omega)]; exact flat_get hr 0 (by omega)
      have e1 : wr.cell? ⟨g, k * 4 + 1, none⟩ = some (.int .i64 f.kind) := by
        rw [hMr.cellAt (k * 4 + 1) (by rw [List.length_reverse]; omega)]; exact flat_get hr 1 (by omega)
      have e2 : wr.cell? ⟨g, k * 4 + 2, none⟩ = some (.int .i64 f.col) := by
        rw [hMr.cellAt (k * 4 + 2) (by rw [List.length_reverse]; omega)]; exact flat_get hr 2 (by omega)
      have e3 : wr.cell? ⟨g, k * 4 + 3, none⟩ = some (.bool f.kept) := by
        rw [hMr.cellAt (k * 4 + 3) (by rw [List.length_reverse]; omega)]; exact flat_get hr 3 (by omega)
      have hflt := lt_of_block hl.1
      have u0 := fr0 hl.1
      have u2 := fr2 hl.1
      have u3 := fr3 hl.1
      have u5 := fr5 hl.1
      have hneq := run_neq_self (some ⟨f.b, 0, none⟩)
      have HB : Hid (Below w.heap.size w wr) := hbel
      have hsz := hbel.size
      obtain ⟨kd, hkd⟩ : ∃ kd, kd = f.kind := ⟨_, rfl⟩
      obtain ⟨cl, hcl⟩ : ∃ cl, cl = f.col := ⟨_, rfl⟩
      obtain ⟨kp, hkp⟩ : ∃ kp, kp = f.kept := ⟨_, rfl⟩
      obtain ⟨u, hu⟩ : ∃ u, u = topA (stk.drop (i + 1)) := ⟨_, rfl⟩
      rw [← hkd] at e1 u0
      rw [← hcl] at e2 u2
      rw [← hkp] at e3 u5
      rw [← hu] at u3
      have HU : Hid (u = topA (stk.drop (i + 1))) := hu
      clear hbel hS hM hd h1 h2 S hMr hl hr hdr hf hkd hcl hkp hu
      go_wp2_with fail
      obtain ⟨w4, hw4⟩ : ∃ w4, w4 = wr.alloc (.cells #[.pointer (some ⟨f.b, 0, none⟩), .int .i64 kd, .int .i64 cl, .bool kp] 52) := ⟨_, rfl⟩
      have HB4 : Hid (Below w.heap.size w w4) := by rw [hw4]; exact HB.out.alloc hsz _
      obtain ⟨bx, hbx⟩ : ∃ bx, bx = wr.heap.size := ⟨_, rfl⟩
      have hblk : w4.heap[bx]? = some (.cells #[.pointer (some ⟨f.b, 0, none⟩), .int .i64 kd, .int .i64 cl, .bool kp] 52) := by rw [hw4, hbx]; exact halloc_new _ _
      have b1 : w4.cell? ⟨bx, 1, none⟩ = some (.int .i64 kd) := by simp [World.cell?, hblk]
      have b2 : w4.cell? ⟨bx, 2, none⟩ = some (.int .i64 cl) := by simp [World.cell?, hblk]
      have b3 : w4.cell? ⟨bx, 3, none⟩ = some (.bool kp) := by simp [World.cell?, hblk]
      have U0 : Hid (w4.cell? ⟨f.b, 0, none⟩ = some (.int .i64 kd)) := by rw [hw4]; exact (World.cell?_alloc_past _ _ _ hflt).trans u0
      have U2 : Hid (w4.cell? ⟨f.b, 2, none⟩ = some (.int .i64 cl)) := by rw [hw4]; exact (World.cell?_alloc_past _ _ _ hflt).trans u2
      have U3 : Hid (w4.cell? ⟨f.b, 3, none⟩ = some (.pointer u)) := by rw [hw4]; exact (World.cell?_alloc_past _ _ _ hflt).trans u3
      have U5 : Hid (w4.cell? ⟨f.b, 5, none⟩ = some (.bool kp)) := by rw [hw4]; exact (World.cell?_alloc_past _ _ _ hflt).trans u5
      rw [← hw4, ← hbx]
      clear hw4 hbx hblk u0 u2 u3 u5 e0 e1 e2 e3 c0 HB hneq
      go_quiet (first | (go_at_call 25; exact qsame (frameKind_any f.b kd _ (by exact U0.out))) | (go_at_call 26; exact qsame (frameCol_any f.b cl _ (by exact U2.out))) | (go_at_call 27; exact qsame (frameKept_any f.b kp _ (by exact U5.out))))
      go_wp2_with fail
      refine (frameUp_any f.b u _ (by exact U3.out)).mono ?_
      rintro e w6 ⟨rfl, rfl⟩
      go_wp2_with fail
      go_roundg k
      case measure => omega
      case rel => exact ⟨i + 1, by omega, by rw [HU.out], rfl, HB4.out.trans ⟨rfl, rfl, rfl, Nat.le_refl _, fun _ _ => rfl⟩⟩

end Go.Proofs.Qxb6604576a
