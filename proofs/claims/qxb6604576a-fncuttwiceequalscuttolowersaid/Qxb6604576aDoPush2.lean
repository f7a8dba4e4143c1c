/-
  doPush where a frame is free; both ways.
-/
import Derived.Test.Qxb6604576aDoPush
import Derived.Deep.RegionLaw
import Derived.Deep.DrawnRows
import Derived.BigRegion
namespace Go.Proofs.Qxb6604576a
open Go.RowKit
set_option linter.unusedVariables false
set_option linter.unusedSimpArgs false

set_option maxHeartbeats 1000000 in
theorem doPush_old {w : World} {F : Nat → Prop} {s m : Nat} {stk fre : List Fr} {f : Fr} {seen : List Nat} (h : Sys w F s m stk (fre ++ [f]) seen) (kind col : Int) (hn : stk.length ≤ 5000) (hn2 : fre.length ≤ 5000) :
    Calls Try.prog 16 #[.pointer (some ⟨s, 0, none⟩), .pointer (some ⟨m, 0, none⟩), .int .i64 kind, .int .i64 col] w fun e w' => e = .returned (.bool true) ∧
      Ext F w w' ∧ Sys w' (grow F w w') s m (⟨f.b, kind, col, false⟩ :: stk) fre seen := by
  have D := h.duo
  obtain ⟨Fs, Fm, fv, sv, mf, mn, hS, hM, hd, h1, h2⟩ := D.ex
  obtain ⟨i52, hi52, hz520, hz521, hz522⟩ := info_parts Try.info52
  have hmap : (fre ++ [f]).map Fr.b = fre.map Fr.b ++ [f.b] := by simp
  rw [hmap] at hM D
  obtain ⟨g, cap, hmf, _, hglt⟩ := hM.frow.form (by simp)
  obtain ⟨a2, cap2, hmf2, hlc, hcm⟩ := row_form hM.frow
  rw [hmf] at hmf2
  simp only [Value.slice.injEq] at hmf2
  obtain ⟨rfl, _, rfl⟩ := hmf2
  subst hmf
  obtain ⟨n, hnn⟩ : ∃ n, n = fre.length := ⟨_, rfl⟩
  have hlen : (fre.map Fr.b ++ [f.b]).length = n + 1 := by simp [hnn]
  rw [hlen] at hlc
  have c1 := mo1 hM.mob
  rw [hlen] at c1
  have f1 := mof hM.mob 1
  have cg : w.cell? ⟨g, n, none⟩ = some (.pointer (some ⟨f.b, 0, none⟩)) := by
    rw [hM.frow.cellAt n (by rw [hlen]; omega)]
    simp [bptrs, ptrB, hnn]
  have hmg : m ≠ g := fun e => mo_ne_row hM.mob hM.frow (by decide) (by rw [e]; rfl)
  have hmlt := lt_of_block hM.mob
  have hcap : cap ≤ 9223372036854775807 := by unfold maxLen at hcm; omega
  have HD0 : Hid (Duo w F w s m stk (fre ++ [f]) stk.reverse (fre.map Fr.b ++ [f.b]) seen ∧ Scan w Fs s stk (fre ++ [f]) fv ∧ Mod w Fm m stk.reverse (fre.map Fr.b ++ [f.b]) seen sv (.slice (some ⟨g, 0, none⟩) (fre.map Fr.b ++ [f.b]).length cap) mn ∧ (∀ k, Fs k → ¬ Fm k) ∧ (∀ k, Fs k → grow F w w k) ∧ (∀ k, Fm k → grow F w w k) ∧ n = fre.length) := ⟨D, hS, hM, hd, h1, h2, hnn⟩
  have hneq := run_neq_self (topA stk)
  have hneq2 := run_neq_self (some ⟨f.b, 0, none⟩)
  have i1 : (0 : Int) ≤ n := by omega
  have i2 : (n : Int) < n + 1 := by omega
  have hn5 : n ≤ 5000 := by omega
  clear h hS hM hd h1 h2 D hlen hmap hnn hcm hglt
  go_enter Try.func16, Try.ntmps16
  go_wp2_with fail
  go_quiet (fail)
  go_wp2_with fail
  go_region
  go_wp2_with fail
  obtain ⟨w1, hw1⟩ : ∃ w1, w1 = (w.drewN (nq + 1)).setCell ⟨m, 1, none⟩ (.slice (some ⟨g, 0, none⟩) n cap) := ⟨_, rfl⟩
  rw [← hw1]
  have D1 : Duo w F w1 s m stk (fre ++ [f]) stk.reverse (fre.map Fr.b) seen := by
    obtain ⟨D, hS, hM, hd, h1, h2, hnn⟩ := HD0.out
    have hp := mod_pop hM (by simp)
    have e : (fre.map Fr.b).length = n := by simp [hnn]
    rw [e] at hp
    have D' : Duo w F (w.setCell ⟨m, 1, none⟩ (.slice (some ⟨g, 0, none⟩) n cap)) s m stk (fre ++ [f]) stk.reverse (fre.map Fr.b) seen :=
      duo_mod D hS hd h1 h2 hp.1 (hp.2.mono (fun k hk => .inl hk) (grow_lt hM.lt hp.1.size)) (fun b hb => hp.1.frs b (D.seenOk b hb))
    exact D'.same (by rw [hw1]; exact ⟨rfl, rfl, rfl, rfl⟩)
  clear hw1 c1 f1 cg hmg hmlt hlc hcap HD0 i1 i2
  obtain ⟨Fs, Fm, fv, sv, mf, mn, hS, hM, hd, h1, h2⟩ := D1.ex
  have htop := top_any hM hn
  clear hS hM hd h1 h2
  refine htop.mono ?_
  rintro e w2 ⟨rfl, hw2⟩
  clear htop
  have D2 := D1.same hw2
  clear hw2 D1
  obtain ⟨Fs, Fm, fv, sv, mf, mn, hS, hM, hd, h1, h2⟩ := D2.ex
  have hp := zpush_any hS kind col
  have H2 : Hid (Duo w F w2 s m stk (fre ++ [f]) stk.reverse (fre.map Fr.b) seen ∧ Mod w2 Fm m stk.reverse (fre.map Fr.b) seen sv mf mn ∧ (∀ k, Fs k → ¬ Fm k) ∧ (∀ k, Fs k → grow F w w2 k) ∧ (∀ k, Fm k → grow F w w2 k)) := ⟨D2, hM, hd, h1, h2⟩
  clear hS hM hd h1 h2 D2
  go_wp2_with fail
  refine hp.mono ?_
  rintro e w3 ⟨rfl, nb, fv', he2, hS2, hT⟩
  clear hp
  have enb : nb = f.b := by
    rcases hT with ⟨hT, _⟩ | ⟨x, hT, hx⟩
    · simp at hT
    · simp at hT; rw [hx, ← hT]
  subst enb
  have D3 : Duo w F w3 s m (⟨f.b, kind, col, false⟩ :: stk) fre stk.reverse (fre.map Fr.b) seen := by
    obtain ⟨D2, hM, hd, h1, h2⟩ := H2.out
    have := duo_scan (fv := fv) D2 hM hd h1 h2 he2 hS2
    rwa [List.dropLast_concat] at this
  clear H2 hT hS2 he2
  obtain ⟨Fs, Fm, fv, sv, mf, mn, hS, hM, hd, h1, h2⟩ := D3.ex
  have h7 := sc7 hS.scb
  rw [topA_cons] at h7
  have u3 := fr3 hS.linked.1
  have u0 := fr0 hS.linked.1
  have u2 := fr2 hS.linked.1
  have u5 := fr5 hS.linked.1
  obtain ⟨a0, cap0, hsv, hlc0, _⟩ := row_form hM.srow
  subst hsv
  have hlen : stk.reverse.length = stk.length := by simp
  rw [hlen] at hlc0
  have c0 := mo0 hM.mob
  have f0 := mof hM.mob 0
  have hmlt := lt_of_block hM.mob
  have hmr := mo_ne_row hM.mob hM.srow (by decide)
  rw [hlen] at c0 hmr
  obtain ⟨nb, hnb⟩ : ∃ nb, nb = f.b := ⟨_, rfl⟩
  rw [← hnb] at u0 u2 u3 u5 h7
  have H3 : Hid (Duo w F w3 s m (⟨f.b, kind, col, false⟩ :: stk) fre stk.reverse (fre.map Fr.b) seen ∧ Scan w3 Fs s (⟨f.b, kind, col, false⟩ :: stk) fre fv ∧ Mod w3 Fm m stk.reverse (fre.map Fr.b) seen (.slice a0 stk.reverse.length cap0) mf mn ∧ (∀ k, Fs k → ¬ Fm k) ∧ (∀ k, Fs k → grow F w w3 k) ∧ (∀ k, Fm k → grow F w w3 k) ∧ nb = f.b) := ⟨D3, hS, hM, hd, h1, h2, hnb⟩
  have X2 : Hid ((w3.alloc (.cells #[.pointer (some ⟨nb, 0, none⟩), .int .i64 kind, .int .i64 col, .bool false] 52)).cell? ⟨m, 0, none⟩ = some (.slice a0 stk.length cap0)) := (World.cell?_alloc_past _ _ _ hmlt).trans c0
  have X3 : Hid ((w3.alloc (.cells #[.pointer (some ⟨nb, 0, none⟩), .int .i64 kind, .int .i64 col, .bool false] 52)).frozen? ⟨m, 0, none⟩ = false) := (World.frozen?_alloc_past _ _ _ hmlt).trans f0
  have X4 : Hid (m < (w3.alloc (.cells #[.pointer (some ⟨nb, 0, none⟩), .int .i64 kind, .int .i64 col, .bool false] 52)).heap.size) := by show m < _; rw [size_alloc]; omega
  have Hown : Hid ((w3.alloc (.cells #[.pointer (some ⟨nb, 0, none⟩), .int .i64 kind, .int .i64 col, .bool false] 52)).ownsRow 0 52 4 (.slice a0 stk.length cap0) stk.length (flat stk.reverse)) := by
    have := hM.srow.alloc (.cells #[.pointer (some ⟨nb, 0, none⟩), .int .i64 kind, .int .i64 col, .bool false] 52)
    rwa [hlen] at this
  have Hnews : Hid _ := mfs_news w3 nb kind col
  have Hone : Hid _ := mfs_one nb kind col
  rw [← hnb] at hneq2
  clear hS hM hd h1 h2 D3 hlen
  rw [← hnb]
  clear hnb
  go_wp2_with fail
  refine (path_any s _ _ h7).mono ?_
  rintro e w6 ⟨rfl, rfl⟩
  clear h7
  go_wp2_with fail
  refine (frameUp_any nb _ _ u3).mono ?_
  rintro e w6 ⟨rfl, rfl⟩
  go_wp2_with fail
  refine (frameKind_any nb _ _ u0).mono ?_
  rintro e w6 ⟨rfl, rfl⟩
  go_wp2_with fail
  refine (frameCol_any nb _ _ u2).mono ?_
  rintro e w6 ⟨rfl, rfl⟩
  go_wp2_with fail
  refine (frameKept_any nb _ _ u5).mono ?_
  rintro e w6 ⟨rfl, rfl⟩
  clear u0 u2 u3 u5
  go_wp2_with (at_builtin; refine wpList_append_lies _ rfl (.tmp 99) (.tmp 104) 28 rfl 0 52 i52 (.agg #[.pointer none, .int .i64 0, .int .i64 0, .bool false]) 4 32 Try.underlying28 hi52 hz520 hz521 hz522 rfl (by omega) (.slice a0 stk.length cap0) stk.length (flat stk.reverse) rfl (by exact Hown.out) ⟨w3.heap.size, 0, none⟩ 1 1 [.pointer (some ⟨nb, 0, none⟩), .int .i64 kind, .int .i64 col, .bool false] rfl rfl (by exact Hnews.out) (by exact Hone.out) (by omega) (by unfold maxLen; omega) (by omega) (Nat.zero_le _) (w3.heap.size + 1) (by simp) ?_; intro g cap3 x hown hgrow hat hlt; have k2 := hgrow.cell X2.out hmr; have e2 := (hgrow.frozen_far ⟨m, 0, none⟩ X4.out hmr).trans X3.out; have HO : Hid (x.ownsRow 0 52 4 (.slice (some ⟨g, 0, none⟩) (stk.length + 1) cap3) (stk.length + 1) (flat stk.reverse ++ [.pointer (some ⟨nb, 0, none⟩), .int .i64 kind, .int .i64 col, .bool false]) ∧ ((Value.slice a0 stk.length cap0).ownBlock = some g ∨ g = w3.heap.size + 1)) := ⟨hown, hat⟩; clear hown hat)
  go_ret
  refine ⟨rfl, ?_⟩
  obtain ⟨w4, hw4⟩ : ∃ w4, w4 = x.setCell ⟨m, 0, none⟩ (.slice (some ⟨g, 0, none⟩) (stk.length + 1) cap3) := ⟨_, rfl⟩
  have D4 : Duo w F w4 s m (⟨f.b, kind, col, false⟩ :: stk) fre (stk.reverse ++ [⟨f.b, kind, col, false⟩]) (fre.map Fr.b) seen := by
    obtain ⟨D3, hS, hM, hd, h1, h2, hnb⟩ := H3.out
    have hlen : stk.length = stk.reverse.length := by simp
    have ho := HO.out
    subst hnb
    rw [hlen] at hgrow ho hw4
    have := mod_stack (f := ⟨f.b, kind, col, false⟩) hM hgrow ho.1 ho.2 hlt
    rw [← hw4] at this
    exact duo_mod D3 hS hd h1 h2 this.1 this.2 (fun b hb => this.1.frs b (D3.seenOk b hb))
  rw [← hw4]
  have e : (⟨f.b, kind, col, false⟩ :: stk : List Fr).reverse = stk.reverse ++ [⟨f.b, kind, col, false⟩] := by simp
  rw [← e] at D4
  exact ⟨D4.ext, D4.sys⟩

/-- What a push does to the frames ever seen. -/
def seenPush (fre : List Fr) (seen : List Nat) (nb : Nat) : List Nat := if fre.isEmpty then seen ++ [nb] else seen

theorem doPush_any {w : World} {F : Nat → Prop} {s m : Nat} {stk fre : List Fr} {seen : List Nat} (h : Sys w F s m stk fre seen) (kind col : Int) (hn : stk.length ≤ 5000) (hn2 : fre.length ≤ 5000) (hn3 : seen.length ≤ 5000) :
    Calls Try.prog 16 #[.pointer (some ⟨s, 0, none⟩), .pointer (some ⟨m, 0, none⟩), .int .i64 kind, .int .i64 col] w fun e w' => e = .returned (.bool true) ∧
      ∃ nb, Ext F w w' ∧ Sys w' (grow F w w') s m (⟨nb, kind, col, false⟩ :: stk) fre.dropLast (seenPush fre seen nb) ∧ Taken w fre nb := by
  rcases List.eq_nil_or_concat fre with e | ⟨init, f, e⟩
  · subst e
    refine (doPush_new h kind col hn hn3).mono ?_
    rintro e w' ⟨rfl, nb, h1, h2, h3⟩
    exact ⟨rfl, nb, h1, h2, .inl ⟨rfl, h3⟩⟩
  · rw [List.concat_eq_append] at e
    subst e
    refine (doPush_old h kind col hn (by rw [List.length_append] at hn2; omega)).mono ?_
    rintro e w' ⟨rfl, h1, h2⟩
    refine ⟨rfl, f.b, h1, ?_, .inr ⟨f, by simp, rfl⟩⟩
    have e1 : seenPush (init ++ [f]) seen f.b = seen := by simp [seenPush]
    rw [List.dropLast_concat, e1]
    exact h2

end Go.Proofs.Qxb6604576a
