/-
  doStep.
-/
import Derived.Test.Qxb6604576aDoCut
import Derived.Deep.QuietTactic
import Derived.BigQuiet
namespace Go.Proofs.Qxb6604576a
open Go.RowKit
set_option linter.unusedVariables false
set_option linter.unusedSimpArgs false

/-- How many frames a step cuts off a path of len. -/
def backN (len : Nat) (back : Int) : Nat := if 0 < back then min len back.toNat else 0
/-- The path behind a push and, maybe, a keep. -/
def stkP (stk : List Fr) (nb : Nat) (kind col : Int) (keep : Bool) : List Fr := if keep then keepL (⟨nb, kind, col, false⟩ :: stk) else ⟨nb, kind, col, false⟩ :: stk
/-- The path and the free frames behind a whole step. -/
def stkS (stk : List Fr) (nb : Nat) (kind col back : Int) (keep : Bool) : List Fr := (stkP stk nb kind col keep).drop (backN (stk.length + 1) back)
def freS (stk fre : List Fr) (nb : Nat) (kind col back : Int) (keep : Bool) : List Fr := fre.dropLast ++ cutL (stkP stk nb kind col keep) (backN (stk.length + 1) back)

theorem stkP_length (stk : List Fr) (nb : Nat) (kind col : Int) (keep : Bool) : (stkP stk nb kind col keep).length = stk.length + 1 := by
  unfold stkP
  split
  · rw [keepL_length]; simp
  · simp
theorem backN_le (len : Nat) (back : Int) : backN len back ≤ len := by unfold backN; split <;> omega

theorem Sys.below {w x : World} {F : Nat → Prop} {s m : Nat} {stk fre : List Fr} {seen : List Nat} (h : Sys w F s m stk fre seen) (e : Below w.heap.size w x) : Sys x F s m stk fre seen :=
  h.frame (Ext.of_below (F := fun _ => False) e) (fun _ _ q => q)

/-- The length of the record's stack, as a cell. -/
theorem Sys.stackCell {w : World} {F : Nat → Prop} {s m : Nat} {stk fre : List Fr} {seen : List Nat} (h : Sys w F s m stk fre seen) : ∃ a cap, w.cell? ⟨m, 0, none⟩ = some (.slice a stk.length cap) := by
  obtain ⟨Fs, Fm, fv, sv, mf, mn, hS, hM, hd, h1, h2⟩ := h.ex
  obtain ⟨a, cap, hv, _⟩ := row_form hM.srow
  exact ⟨a, cap, by rw [mo0 hM.mob, hv]; simp⟩

/-- Two steps, one behind the other. -/
theorem sys_trans {w x y : World} {F : Nat → Prop} {s m : Nat} {stk fre : List Fr} {seen : List Nat} (hF : ∀ k, F k → k < w.heap.size) (h : Ext F w x) (k : Ext (grow F w x) x y) (S : Sys y (grow (grow F w x) x y) s m stk fre seen) : Ext F w y ∧ Sys y (grow F w y) s m stk fre seen :=
  ⟨h.trans k, S.mono (grow_grow h.size k.size) (grow_lt hF (Nat.le_trans h.size k.size))⟩

theorem boxed {F : Nat → Prop} {w x : World} {o : Obj} (hF : ∀ k, F k → k < w.heap.size) (h : Ext F (w.alloc o) x) : x.heap[w.heap.size]? = some o := by
  rw [h.block w.heap.size (by rw [size_alloc]; omega) (fun q => by have := hF _ q; omega)]
  exact halloc_new _ _

def stObj (kind col back : Int) (keep : Bool) : Obj := .cells #[.int .i64 kind, .int .i64 col, .int .i64 back, .bool keep] 35
theorem st2 {w : World} {b : Nat} {kind col back : Int} {keep : Bool} (h : w.heap[b]? = some (stObj kind col back keep)) : w.cell? ⟨b, 2, none⟩ = some (.int .i64 back) := by simp [World.cell?, h, stObj]
theorem st3 {w : World} {b : Nat} {kind col back : Int} {keep : Bool} (h : w.heap[b]? = some (stObj kind col back keep)) : w.cell? ⟨b, 3, none⟩ = some (.bool keep) := by simp [World.cell?, h, stObj]


theorem step_done {w x : World} {F : Nat → Prop} {o : Obj} {s m : Nat} {stk fre : List Fr} {seen : List Nat} (hF : ∀ k, F k → k < w.heap.size) (E : Ext F (w.alloc o) x) (S : Sys x (grow F (w.alloc o) x) s m stk fre seen) : Ext F w x ∧ Sys x (grow F w x) s m stk fre seen := by
  have hE : Ext F w x := ((Ext.refl F w).alloc o).step E (fun b hb => .inl hb)
  refine ⟨hE, S.mono (fun k hk => ?_) (grow_lt hF hE.size)⟩
  rcases hk with hk | hk
  · exact .inl hk
  · exact .inr ⟨by have := hk.1; rw [size_alloc] at this; omega, hk.2⟩

theorem step_cut {w x y z : World} {F : Nat → Prop} {o : Obj} {s m : Nat} {stk fre : List Fr} {seen : List Nat} (hF : ∀ k, F k → k < w.heap.size) (E : Ext F (w.alloc o) x) (hs : Same y x) (E2 : Ext (grow F (w.alloc o) x) y z) (S : Sys z (grow (grow F (w.alloc o) x) y z) s m stk fre seen) : Ext F w z ∧ Sys z (grow F w z) s m stk fre seen := by
  rw [← grow_same hs] at E2 S
  have := sys_trans (w := w.alloc o) (fun k hk => by rw [size_alloc]; have := hF k hk; omega) (E.same hs) E2 S
  exact step_done hF this.1 this.2

set_option maxHeartbeats 2000000 in
theorem doStep_any {w : World} {F : Nat → Prop} {s m : Nat} {stk fre : List Fr} {seen : List Nat} (h : Sys w F s m stk fre seen) (kind col back : Int) (keep : Bool) (hback : back ≤ 9223372036854775807) (hN : stk.length + fre.length ≤ 4500) (hn3 : seen.length ≤ 4500) :
    Calls Try.prog 13 #[.pointer (some ⟨s, 0, none⟩), .pointer (some ⟨m, 0, none⟩), .agg #[.int .i64 kind, .int .i64 col, .int .i64 back, .bool keep]] w fun e w' => e = .returned (.bool true) ∧
      ∃ nb, Ext F w w' ∧ Sys w' (grow F w w') s m (stkS stk nb kind col back keep) (freS stk fre nb kind col back keep) (seenPush fre seen nb) ∧ (fre = [] → w.heap.size ≤ nb) := by
  have hF := h.lt
  have h0 : Sys (w.alloc (stObj kind col back keep)) F s m stk fre seen := h.below ((Below.refl _ _).alloc (Nat.le_refl _) _)
  have hp := doPush_any h0 kind col (by omega) (by omega) (by omega)
  have HL : Hid (stk.length + fre.length ≤ 4500 ∧ ∀ k, F k → k < w.heap.size) := ⟨hN, hF⟩
  clear h h0 hF
  unfold stObj at hp
  go_enter Try.func13, Try.ntmps13
  go_wp2_with fail
  refine hp.mono ?_
  rintro e w1 ⟨rfl, nb, he, hS, hT⟩
  clear hp
  have HT : Hid (fre = [] → w.heap.size ≤ nb) := fun h0 => by
    rcases hT with ⟨_, hT⟩ | ⟨f, hT, _⟩
    · rw [size_alloc] at hT; omega
    · rw [h0] at hT; simp at hT
  cases keep with
  | false =>
    have hbx : w1.heap[w.heap.size]? = some (stObj kind col back false) := boxed HL.out.2 he
    have c3 := st3 hbx
    have c2 := st2 hbx
    obtain ⟨a, cap, c0⟩ := hS.stackCell
    rw [List.length_cons] at c0
    obtain ⟨w2, hw2⟩ : ∃ w2, w2 = w1 := ⟨_, rfl⟩
    rw [← hw2] at c0 c2 c3 hbx he hS ⊢
    have HS2 : Hid (Ext F (w.alloc (stObj kind col back false)) w2 ∧ Sys w2 (grow F (w.alloc (stObj kind col back false)) w2) s m (⟨nb, kind, col, false⟩ :: stk) fre.dropLast (seenPush fre seen nb)) := ⟨he, hS⟩
    have HP : Hid (stkP stk nb kind col false = ⟨nb, kind, col, false⟩ :: stk) := rfl
    clear hS he hT hbx hw2

    by_cases hb0 : 0 < back
    · have hlen2 : Hid ((⟨nb, kind, col, false⟩ :: stk : List Fr).length = stk.length + 1) := by show _ = _; simp [keepL_length]
      by_cases hbl : back ≤ (stk.length : Int) + 1
      · have hnn : ¬ (stk.length : Int) + 1 - back < 0 := by omega
        go_wp2_with fail
        go_quiet (fail)
        go_wp2_with fail
        obtain ⟨w3, hw3⟩ : ∃ w3, w3 = w2.drewN nq := ⟨_, rfl⟩
        have hs3 : Same w3 w2 := by rw [hw3]; exact ⟨rfl, rfl, rfl, rfl⟩
        rw [← hw3]
        have hcut := doCut_any (HS2.out.2.same hs3) (stk.length + 1 - back.toNat) (by rw [hlen2.out]; omega) (by rw [hlen2.out]; have := List.length_dropLast (xs := fre); omega)
        rw [show ((stk.length + 1 - back.toNat : Nat) : Int) = (stk.length : Int) + 1 - back from by omega] at hcut
        rw [show (⟨nb, kind, col, false⟩ :: stk : List Fr).length - (stk.length + 1 - back.toNat) = backN (stk.length + 1) back from by unfold backN; rw [if_pos hb0, hlen2.out]; omega] at hcut
        refine hcut.mono ?_
        rintro e w4 ⟨rfl, he4, hS4⟩
        clear hcut
        go_wp2_with fail
        go_ret
        have hfin := step_cut HL.out.2 HS2.out.1 hs3 he4 hS4
        refine ⟨rfl, nb, hfin.1, ?_, HT.out⟩
        unfold stkS freS
        rw [HP.out]
        exact hfin.2
      · have hnn : (stk.length : Int) + 1 - back < 0 := by omega
        have hnw : -9223372036854775808 ≤ (stk.length : Int) + 1 - back := by omega
        go_wp2_with fail
        go_quiet (fail)
        go_wp2_with fail
        obtain ⟨w3, hw3⟩ : ∃ w3, w3 = w2.drewN nq := ⟨_, rfl⟩
        have hs3 : Same w3 w2 := by rw [hw3]; exact ⟨rfl, rfl, rfl, rfl⟩
        rw [← hw3]
        have hcut := doCut_any (HS2.out.2.same hs3) 0 (by omega) (by rw [hlen2.out]; have := List.length_dropLast (xs := fre); omega)
        rw [show (⟨nb, kind, col, false⟩ :: stk : List Fr).length - 0 = backN (stk.length + 1) back from by unfold backN; rw [if_pos hb0, hlen2.out]; omega] at hcut
        refine hcut.mono ?_
        rintro e w4 ⟨rfl, he4, hS4⟩
        clear hcut
        go_wp2_with fail
        go_ret
        have hfin := step_cut HL.out.2 HS2.out.1 hs3 he4 hS4
        refine ⟨rfl, nb, hfin.1, ?_, HT.out⟩
        unfold stkS freS
        rw [HP.out]
        exact hfin.2
    · go_wp2_with fail
      go_ret
      have hfin := step_done HL.out.2 HS2.out.1 HS2.out.2
      have e0 : backN (stk.length + 1) back = 0 := by unfold backN; rw [if_neg (by omega)]
      refine ⟨rfl, nb, hfin.1, ?_, HT.out⟩
      unfold stkS freS
      rw [HP.out, e0, List.drop_zero, cutL_zero, List.append_nil]
      exact hfin.2
  | true =>
    have hbx : w1.heap[w.heap.size]? = some (stObj kind col back true) := boxed HL.out.2 he
    have c3 := st3 hbx
    have hkp := doKeep_any hS (by rw [List.length_cons]; omega)
    have HS1 : Hid (Ext F (w.alloc (stObj kind col back true)) w1) := he
    clear hS he hT hbx
    go_wp2_with fail
    refine hkp.mono ?_
    rintro e w2 ⟨rfl, he2, hS2⟩
    clear hkp c3
    have hst := sys_trans (w := w.alloc (stObj kind col back true)) (fun k hk => by rw [size_alloc]; have := HL.out.2 k hk; omega) HS1.out he2 hS2
    have hbx : w2.heap[w.heap.size]? = some (stObj kind col back true) := boxed HL.out.2 hst.1
    have c2 := st2 hbx
    obtain ⟨a, cap, c0⟩ := hS2.stackCell
    rw [keepL_length, List.length_cons] at c0
    have HS2 : Hid (Ext F (w.alloc (stObj kind col back true)) w2 ∧ Sys w2 (grow F (w.alloc (stObj kind col back true)) w2) s m (keepL (⟨nb, kind, col, false⟩ :: stk)) fre.dropLast (seenPush fre seen nb)) := hst
    have HP : Hid (stkP stk nb kind col true = keepL (⟨nb, kind, col, false⟩ :: stk)) := rfl
    clear hst hS2 he2 hbx HS1

    by_cases hb0 : 0 < back
    · have hlen2 : Hid ((keepL (⟨nb, kind, col, false⟩ :: stk)).length = stk.length + 1) := by show _ = _; simp [keepL_length]
      by_cases hbl : back ≤ (stk.length : Int) + 1
      · have hnn : ¬ (stk.length : Int) + 1 - back < 0 := by omega
        go_wp2_with fail
        go_quiet (fail)
        go_wp2_with fail
        obtain ⟨w3, hw3⟩ : ∃ w3, w3 = w2.drewN nq := ⟨_, rfl⟩
        have hs3 : Same w3 w2 := by rw [hw3]; exact ⟨rfl, rfl, rfl, rfl⟩
        rw [← hw3]
        have hcut := doCut_any (HS2.out.2.same hs3) (stk.length + 1 - back.toNat) (by rw [hlen2.out]; omega) (by rw [hlen2.out]; have := List.length_dropLast (xs := fre); omega)
        rw [show ((stk.length + 1 - back.toNat : Nat) : Int) = (stk.length : Int) + 1 - back from by omega] at hcut
        rw [show (keepL (⟨nb, kind, col, false⟩ :: stk)).length - (stk.length + 1 - back.toNat) = backN (stk.length + 1) back from by unfold backN; rw [if_pos hb0, hlen2.out]; omega] at hcut
        refine hcut.mono ?_
        rintro e w4 ⟨rfl, he4, hS4⟩
        clear hcut
        go_wp2_with fail
        go_ret
        have hfin := step_cut HL.out.2 HS2.out.1 hs3 he4 hS4
        refine ⟨rfl, nb, hfin.1, ?_, HT.out⟩
        unfold stkS freS
        rw [HP.out]
        exact hfin.2
      · have hnn : (stk.length : Int) + 1 - back < 0 := by omega
        have hnw : -9223372036854775808 ≤ (stk.length : Int) + 1 - back := by omega
        go_wp2_with fail
        go_quiet (fail)
        go_wp2_with fail
        obtain ⟨w3, hw3⟩ : ∃ w3, w3 = w2.drewN nq := ⟨_, rfl⟩
        have hs3 : Same w3 w2 := by rw [hw3]; exact ⟨rfl, rfl, rfl, rfl⟩
        rw [← hw3]
        have hcut := doCut_any (HS2.out.2.same hs3) 0 (by omega) (by rw [hlen2.out]; have := List.length_dropLast (xs := fre); omega)
        rw [show (keepL (⟨nb, kind, col, false⟩ :: stk)).length - 0 = backN (stk.length + 1) back from by unfold backN; rw [if_pos hb0, hlen2.out]; omega] at hcut
        refine hcut.mono ?_
        rintro e w4 ⟨rfl, he4, hS4⟩
        clear hcut
        go_wp2_with fail
        go_ret
        have hfin := step_cut HL.out.2 HS2.out.1 hs3 he4 hS4
        refine ⟨rfl, nb, hfin.1, ?_, HT.out⟩
        unfold stkS freS
        rw [HP.out]
        exact hfin.2
    · go_wp2_with fail
      go_ret
      have hfin := step_done HL.out.2 HS2.out.1 HS2.out.2
      have e0 : backN (stk.length + 1) back = 0 := by unfold backN; rw [if_neg (by omega)]
      refine ⟨rfl, nb, hfin.1, ?_, HT.out⟩
      unfold stkS freS
      rw [HP.out, e0, List.drop_zero, cutL_zero, List.append_nil]
      exact hfin.2

end Go.Proofs.Qxb6604576a
