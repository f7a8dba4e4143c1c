/-
  doCut.
-/
import Derived.Test.Qxb6604576aKeep
import Derived.Deep.RegionLaw
import Derived.Deep.DrawnRows
namespace Go.Proofs.Qxb6604576a
open Go.RowKit
set_option linter.unusedVariables false
set_option linter.unusedSimpArgs false

theorem run_eql_self (p : Option Addr) (w : World) : (binOp .eql 37 (.pointer p) (.pointer p)).run Try.prog w = .ok (.bool true) w := by
  obtain ⟨i0, hi, hz0, hz1, hz2⟩ := info_parts Try.info74
  have h : ∀ d : Nat, (Op.equalIn (d + 1) 37 (.pointer p) (.pointer p)).run Try.prog w = .ok true w := fun d => by
    cases p <;> simp [Op.equalIn, run_underlying Try.underlying37, sizeOf, typeInfo, hi, run_sameAddr_same]
  simp only [binOp]
  simp [Op.equal, Op.maxDepth, h 9999]

theorem rev_get {stk : List Fr} {i : Nat} {f : Fr} (h : stk[i]? = some f) : stk.reverse[stk.length - 1 - i]? = some f := by
  have hi : i < stk.length := (List.getElem?_eq_some_iff.1 h).1
  rw [List.getElem?_reverse (by omega)]
  rw [show stk.length - 1 - (stk.length - 1 - i) = i from by omega]
  exact h

attribute [local go_sem ↓] Go.wp_at_zero Go.wp_at_succ

/-- The relation of doCut's loop. -/
def CutRel (w : World) (F : Nat → Prop) (s m : Nat) (stk fre : List Fr) (seen : List Nat) (j i : Nat) (wr : World) : Prop :=
  Duo w F wr s m (stk.drop j) (fre ++ cutL stk j) stk.reverse ((fre ++ cutL stk i).map Fr.b) seen

/-! ### The rounds -/
theorem mod_cut_nil {w : World} {F : Nat → Prop} {m : Nat} {ms : List Fr} {fr seen : List Nat} {fv nv : Value} (h : Mod w F m ms fr seen (.slice none 0 0) fv nv) (h0 : ms.length = 0) :
    Ext F w (w.setCell ⟨m, 0, none⟩ (.slice none 0 0)) ∧ Mod (w.setCell ⟨m, 0, none⟩ (.slice none 0 0)) F m ms fr seen (.slice none 0 0) fv nv :=
  ⟨(Ext.refl F w).setCell (.inl h.Fm) _ (fun q => absurd q (mo_not_fr h.mob)), h.setStack (fun _ _ _ => rfl) h.srow (fun _ hk => hk) (fun k hk => h.Fsv k hk) h.lt⟩

theorem cutrel_kept {w wr : World} {F : Nat → Prop} {s m : Nat} {stk fre : List Fr} {seen : List Nat} {j i : Nat} {f : Fr} (R : CutRel w F s m stk fre seen j i wr) (hf : stk[i]? = some f) (hk : f.kept = true) : CutRel w F s m stk fre seen j (i + 1) wr := by
  unfold CutRel at R ⊢
  rw [cutL_succ hf, hk, if_pos rfl, List.append_nil]
  exact R

theorem cutrel_free {w wr x : World} {F Fs Fm : Nat → Prop} {s m : Nat} {stk fre : List Fr} {seen : List Nat} {j i : Nat} {f : Fr} {fv sv mf mn : Value} {o : Obj} {g cap N : Nat} (R : CutRel w F s m stk fre seen j i wr)
    (hS : Scan wr Fs s (stk.drop j) (fre ++ cutL stk j) fv) (hM : Mod wr Fm m stk.reverse ((fre ++ cutL stk i).map Fr.b) seen sv mf mn) (hd : ∀ k, Fs k → ¬ Fm k) (h1 : ∀ k, Fs k → grow F w wr k) (h2 : ∀ k, Fm k → grow F w wr k)
    (hf : stk[i]? = some f) (hk : f.kept = false) (hN : N = ((fre ++ cutL stk i).map Fr.b).length)
    (hg : ((wr.alloc o).drew).grownBy x mf.ownBlock) (hown : x.ownsRow 0 37 1 (.slice (some ⟨g, 0, none⟩) (N + 1) cap) (N + 1) (bptrs ((fre ++ cutL stk i).map Fr.b) ++ [.pointer (some ⟨f.b, 0, none⟩)])) (hat : mf.ownBlock = some g ∨ g = wr.heap.size + 1) (hlt : g < x.heap.size) :
    CutRel w F s m stk fre seen j (i + 1) (x.setCell ⟨m, 1, none⟩ (.slice (some ⟨g, 0, none⟩) (N + 1) cap)) := by
  subst hN
  have := mod_free (nb := f.b) hM (undrew hg) hown hat hlt
  unfold CutRel at R ⊢
  have e : (fre ++ cutL stk (i + 1)).map Fr.b = (fre ++ cutL stk i).map Fr.b ++ [f.b] := by
    rw [cutL_succ hf, hk, if_neg (by simp)]; simp
  rw [e]
  exact duo_mod R hS hd h1 h2 this.1 this.2 (fun b hb => this.1.frs b (R.seenOk b hb))

theorem cut_end {stk : List Fr} {j d : Nat} (h : j + d = stk.length) : stk.reverse.take d = (stk.drop j).reverse := by
  rw [List.take_reverse, show stk.length - d = j from by omega]

theorem cutrel_done {w wr x : World} {F Fs Fm : Nat → Prop} {s m : Nat} {stk fre : List Fr} {seen : List Nat} {j d : Nat} {fv sv sv' mf mn : Value} (R : CutRel w F s m stk fre seen j j wr)
    (hS : Scan wr Fs s (stk.drop j) (fre ++ cutL stk j) fv) (hd : ∀ k, Fs k → ¬ Fm k) (h1 : ∀ k, Fs k → grow F w wr k) (h2 : ∀ k, Fm k → grow F w wr k) (hjd : j + d = stk.length)
    (he : Ext Fm wr x) (hlt : ∀ k, Fm k → k < wr.heap.size) (hM' : Mod x Fm m (stk.reverse.take d) ((fre ++ cutL stk j).map Fr.b) seen sv' mf mn) :
    x.cell? ⟨s, 7, none⟩ = some (.pointer (topA (stk.drop j))) ∧ Ext F w x ∧ Sys x (grow F w x) s m (stk.drop j) (fre ++ cutL stk j) seen := by
  rw [cut_end hjd] at hM'
  have D := duo_mod R hS hd h1 h2 he (hM'.mono (fun k hk => .inl hk) (grow_lt hlt he.size)) (fun b hb => he.frs b (R.seenOk b hb))
  refine ⟨?_, D.ext, D.sys⟩
  exact sc7 (hS.frame he (fun k hk hk2 => hd k hk hk2)).scb

set_option maxHeartbeats 2000000 in
theorem doCut_any {w : World} {F : Nat → Prop} {s m : Nat} {stk fre : List Fr} {seen : List Nat} (h : Sys w F s m stk fre seen) (d : Nat) (hd : d ≤ stk.length) (hN : stk.length + fre.length ≤ 5000) :
    Calls Try.prog 17 #[.pointer (some ⟨s, 0, none⟩), .pointer (some ⟨m, 0, none⟩), .int .i64 d] w fun e w' => e = .returned (.bool true) ∧ Ext F w w' ∧ Sys w' (grow F w w') s m (stk.drop (stk.length - d)) (fre ++ cutL stk (stk.length - d)) seen := by
  obtain ⟨i37, hi37, hz370, hz371, hz372⟩ := info_parts Try.info37
  have D := h.duo
  obtain ⟨Fs, Fm, fv, sv, mf, mn, hS, hM, hdj, h1, h2⟩ := D.ex
  obtain ⟨j, hj⟩ : ∃ j, j = stk.length - d := ⟨_, rfl⟩
  obtain ⟨t, ht⟩ : ∃ t, t = topA (stk.drop j) := ⟨_, rfl⟩
  have hcut := zcut_any hS j (by omega) hN t ht
  obtain ⟨a0, cap0, hsv, hlc0, hcm0⟩ := row_form hM.srow
  rw [List.length_reverse] at hsv hlc0
  subst hsv
  have c0 := mo0 hM.mob
  have heq := run_eql_self t
  -- the target, as the record has it
  have ctgt : 0 < d → ∃ g, a0 = some ⟨g, 0, none⟩ ∧ w.cell? ⟨g, (d - 1) * 4, none⟩ = some (.pointer t) := fun hd0 => by
    obtain ⟨g, cap, hv, _⟩ := hM.srow.form (by rw [List.length_reverse]; omega)
    simp only [Value.slice.injEq] at hv
    obtain ⟨e1, _, _⟩ := hv
    obtain ⟨f, hdr, hf⟩ := drop_cons (stk := stk) (i := j) (by omega)
    refine ⟨g, e1, ?_⟩
    have hr := rev_get hf
    rw [show stk.length - 1 - j = d - 1 from by omega] at hr
    have hM2 := hM.srow
    rw [e1, ← List.length_reverse] at hM2
    rw [hM2.cellAt ((d - 1) * 4) (by rw [List.length_reverse]; omega), ht, hdr]
    exact flat_get hr 0 (by omega)
  have HD0 : Hid (Duo w F w s m stk fre stk.reverse (fre.map Fr.b) seen ∧ Mod w Fm m stk.reverse (fre.map Fr.b) seen (.slice a0 stk.length cap0) mf mn ∧ (∀ k, Fs k → ¬ Fm k) ∧ (∀ k, Fs k → grow F w w k) ∧ (∀ k, Fm k → grow F w w k) ∧ t = topA (stk.drop j)) := ⟨D, hM, hdj, h1, h2, ht⟩
  clear h D hS hM hdj h1 h2 ht
  rw [← hj]
  have hjd : j + d = stk.length := by omega
  have i3 : (d : Int) ≤ stk.length := by omega
  clear hj
  by_cases hd0 : d = 0
  · have i2 : ¬ (0 : Int) < (d : Int) := by omega
    have et : t = none := by
      rw [HD0.out.2.2.2.2.2, show j = stk.length from by omega, List.drop_length]; rfl
    subst et
    clear hd0 ctgt
    go_enter Try.func17, Try.ntmps17
    go_wp2_with fail
    refine hcut.mono ?_
    rintro e w1 ⟨rfl, fv', he, hS1⟩
    clear hcut c0
    have D1 : CutRel w F s m stk fre seen j 0 w1 := by
      obtain ⟨D, hM, hdj, h1, h2, ht⟩ := HD0.out
      have := duo_scan (fv := fv) D hM hdj h1 h2 he hS1
      unfold CutRel
      rw [cutL_zero, List.append_nil]
      exact this
    have HT : Hid (none = topA (stk.drop j)) := HD0.out.2.2.2.2.2
    clear HD0 he hS1
    have c0 : ∃ a cap, w1.cell? ⟨m, 0, none⟩ = some (.slice a stk.length cap) := by
      obtain ⟨Fs, Fm, fv, sv, mf, mn, hS, hM, hd, h1, h2⟩ := D1.ex
      obtain ⟨a, cap, hv, _⟩ := row_form hM.srow
      exact ⟨a, cap, by rw [mo0 hM.mob, hv]; simp⟩
    obtain ⟨a, cap, c0⟩ := c0
    have HD1 : Hid (CutRel w F s m stk fre seen j 0 w1) := D1
    clear D1
    go_wp2_with fail
    clear c0
    go_loopg [8] j (fun k jv wr => ∃ i : Nat, i + k = j ∧ jv = .int .i64 ((stk.length : Int) - 1 - i) ∧ CutRel w F s m stk fre seen j i wr)
    case atStart => exact ⟨0, by omega, by simp, HD1.out⟩
    case round =>
      obtain ⟨i, hik, rfl, R⟩ := hrel
      obtain ⟨Fs, Fm, fv, sv, mf, mn, hS, hM, hdj, h1, h2⟩ := R.ex
      have c0 := mo0 hM.mob
      have f0 := mof hM.mob 0
      have hmlt := lt_of_block hM.mob
      cases gk with
      | zero =>
        have e : i = j := by omega
        subst e
        have hlt : ¬ (d : Int) ≤ (stk.length : Int) - 1 - i := by omega
        rcases hM.srow.2 with ⟨hv, h0⟩ | ⟨g, cap, cur, hv, _, _, hlc, hcm, _⟩
        · subst hv
          rw [List.length_reverse] at h0
          have hd0 : d = 0 := by omega
          have hx := mod_cut_nil hM (by simpa using h0)
          have hdone := cutrel_done (d := d) (sv := mf) R hS hdj h1 h2 hjd hx.1 hM.lt (by
            rw [List.take_of_length_le (by simp; omega)]; exact hx.2)
          rw [← HT.out] at hdone
          have HE : Hid _ := hdone
          have h7 := hdone.1
          clear hdone hx hS hM hdj h1 h2 R
          subst hd0
          go_wp2_with fail
          refine (path_any s _ _ h7).mono ?_
          rintro e w6 ⟨rfl, rfl⟩
          go_wp2_with fail
          go_ret
          exact ⟨rfl, HE.out.2⟩
        · subst hv
          have hx := mod_cut (d := d) hM (by simp; omega)
          have hdone := cutrel_done (d := d) (sv := mf) R hS hdj h1 h2 hjd hx.1 hM.lt hx.2
          rw [← HT.out] at hdone
          have HE : Hid _ := hdone
          have h7 := hdone.1
          rw [List.length_reverse] at c0 hlc
          have hcap : cap ≤ 9223372036854775807 := by unfold maxLen at hcm; omega
          have hdl : d ≤ cap := by omega
          have hdl2 : (d : Int) ≤ cap := by omega
          clear hdone hx hS hM hdj h1 h2 R hcm
          go_wp2_with fail
          refine (path_any s _ _ h7).mono ?_
          rintro e w6 ⟨rfl, rfl⟩
          go_wp2_with fail
          go_ret
          exact ⟨rfl, HE.out.2⟩
      | succ k =>
        have hil : i < stk.length := by omega
        obtain ⟨f, hdr, hf⟩ := drop_cons hil
        have hr := rev_get hf
        obtain ⟨n, hn⟩ : ∃ n, n = stk.length - 1 - i := ⟨_, rfl⟩
        rw [← hn] at hr
        rw [show (stk.length : Int) - 1 - i = (n : Int) from by omega]
        have i0 : (0 : Int) ≤ n := by omega
        have i1 : (n : Int) < stk.length := by omega
        have i2 : (d : Int) ≤ n := by omega
        obtain ⟨g, cap, hv, _⟩ := hM.srow.form (by rw [List.length_reverse]; omega)
        obtain ⟨a2, cap2, hv2, hlc, hcm⟩ := row_form hM.srow
        rw [hv] at hv2
        simp only [Value.slice.injEq] at hv2
        obtain ⟨rfl, _, rfl⟩ := hv2
        subst hv
        have c3 : wr.cell? ⟨g, n * 4 + 3, none⟩ = some (.bool f.kept) := by
          rw [hM.srow.cellAt (n * 4 + 3) (by rw [List.length_reverse]; omega)]
          exact flat_get hr 3 (by omega)
        have cp : wr.cell? ⟨g, n * 4, none⟩ = some (.pointer (some ⟨f.b, 0, none⟩)) := by
          rw [hM.srow.cellAt (n * 4) (by rw [List.length_reverse]; omega)]
          exact flat_get hr 0 (by omega)
        rw [List.length_reverse] at c0 hlc
        have HR : Hid (CutRel w F s m stk fre seen j i wr ∧ Scan wr Fs s (stk.drop j) (fre ++ cutL stk j) fv ∧ Mod wr Fm m stk.reverse ((fre ++ cutL stk i).map Fr.b) seen (.slice (some ⟨g, 0, none⟩) stk.reverse.length cap) mf mn ∧ (∀ k, Fs k → ¬ Fm k) ∧ (∀ k, Fs k → grow F w wr k) ∧ (∀ k, Fm k → grow F w wr k) ∧ stk[i]? = some f ∧ n = stk.length - 1 - i) := ⟨R, hS, hM, hdj, h1, h2, hf, hn⟩
        cases hkf : f.kept with
        | true =>
          rw [hkf] at c3
          clear R hS hM hdj h1 h2 hr hdr hn hf hcm
          go_wp2_with fail
          go_roundg k
          case measure => omega
          case rel =>
            have hn := HR.out.2.2.2.2.2.2.2
            exact ⟨i + 1, by omega, by congr 1; omega, cutrel_kept HR.out.1 HR.out.2.2.2.2.2.2.1 hkf⟩
        | false =>
          rw [hkf] at c3
          obtain ⟨fa, fcap, hmf, hflc, hfcm⟩ := row_form hM.frow
          subst hmf
          obtain ⟨N, hNN⟩ : ∃ N, N = ((fre ++ cutL stk i).map Fr.b).length := ⟨_, rfl⟩
          obtain ⟨xs, hxs⟩ : ∃ xs, xs = bptrs ((fre ++ cutL stk i).map Fr.b) := ⟨_, rfl⟩
          have hN5 : N ≤ 5000 := by
            have := cutL_le stk i
            rw [hNN, List.length_map, List.length_append]; omega
          have c1 := mo1 hM.mob
          have f1 := mof hM.mob 1
          have hrow := hM.frow
          have hmr := mo_ne_row hM.mob hM.frow (by decide)
          rw [← hNN, ← hxs] at hrow
          rw [← hNN] at c1 hmr
          have HR : Hid (CutRel w F s m stk fre seen j i wr ∧ Scan wr Fs s (stk.drop j) (fre ++ cutL stk j) fv ∧ Mod wr Fm m stk.reverse ((fre ++ cutL stk i).map Fr.b) seen (.slice (some ⟨g, 0, none⟩) stk.reverse.length cap) (.slice fa ((fre ++ cutL stk i).map Fr.b).length fcap) mn ∧ (∀ k, Fs k → ¬ Fm k) ∧ (∀ k, Fs k → grow F w wr k) ∧ (∀ k, Fm k → grow F w wr k) ∧ stk[i]? = some f ∧ n = stk.length - 1 - i ∧ N = ((fre ++ cutL stk i).map Fr.b).length ∧ xs = bptrs ((fre ++ cutL stk i).map Fr.b)) := ⟨R, hS, hM, hdj, h1, h2, hf, hn, hNN, hxs⟩
          have X1 : Hid (((wr.alloc (.cells #[.pointer (some ⟨f.b, 0, none⟩)] 37)).drew).cell? ⟨m, 1, none⟩ = some (.slice fa N fcap)) := (World.cell?_alloc_past _ _ _ hmlt).trans c1
          have X3 : Hid (((wr.alloc (.cells #[.pointer (some ⟨f.b, 0, none⟩)] 37)).drew).frozen? ⟨m, 1, none⟩ = false) := (World.frozen?_alloc_past _ _ _ hmlt).trans f1
          have X4 : Hid (m < ((wr.alloc (.cells #[.pointer (some ⟨f.b, 0, none⟩)] 37)).drew).heap.size) := by show m < (wr.alloc _).heap.size; rw [size_alloc]; omega
          have Hown : Hid (((wr.alloc (.cells #[.pointer (some ⟨f.b, 0, none⟩)] 37)).drew).ownsRow 0 37 1 (.slice fa N fcap) N xs) := (hrow.alloc _).drew
          have Hnews : Hid (∀ j u, [Value.pointer (some ⟨f.b, 0, none⟩)][j]? = some u → ((wr.alloc (.cells #[.pointer (some ⟨f.b, 0, none⟩)] 37)).drew).cell? ((⟨wr.heap.size, 0, none⟩ : Addr).add j) = some u) := World.news_of_block (cs := #[.pointer (some ⟨f.b, 0, none⟩)]) (w := (wr.alloc (.cells #[.pointer (some ⟨f.b, 0, none⟩)] 37)).drew) (halloc_new wr _)
          clear R hS hM hdj h1 h2 hr hdr hn hf hcm hrow hNN hxs hflc hfcm
          go_wp2_with fail
          go_region_law ((refine step_append_lies _ (by rfl) _ _ _ (by rfl) 0 37 i37 (.pointer none) 1 8 Try.underlying29 hi37 hz370 hz371 hz372 rfl (by omega) (.slice fa N fcap) N xs (by rfl) (by exact Hown.out) ⟨wr.heap.size, 0, none⟩ 1 1 [.pointer (some ⟨f.b, 0, none⟩)] (by rfl) rfl (by exact Hnews.out) (by intro u hu; simp at hu; subst hu; rfl) (by omega) (by unfold maxLen; omega) (by omega) (Nat.zero_le _) (wr.heap.size + 1) (by simp) ?_; intro g2 cap1 x hown hgrow hat hlt; have k1 := hgrow.cell X1.out hmr; have e1 := (hgrow.frozen_far ⟨m, 1, none⟩ X4.out hmr).trans X3.out; have HO : Hid (x.ownsRow 0 37 1 (.slice (some ⟨g2, 0, none⟩) (N + 1) cap1) (N + 1) (xs ++ [.pointer (some ⟨f.b, 0, none⟩)]) ∧ ((Value.slice fa N fcap).ownBlock = some g2 ∨ g2 = wr.heap.size + 1)) := ⟨hown, hat⟩; clear hown hat))
          all_goals go_wp2_with fail
          all_goals go_roundg k
          all_goals first
            | omega
            | (obtain ⟨R, hS, hM, hdj, h1, h2, hf, hn, hNN, hxs⟩ := HR.out; exact ⟨i + 1, by omega, by congr 1; omega, cutrel_free R hS hM hdj h1 h2 hf hkf hNN (hNN ▸ hgrow) (hxs ▸ HO.out.1) (hNN ▸ HO.out.2) hlt⟩)
  · obtain ⟨g, rfl, ct⟩ := ctgt (by omega)
    have i0 : (0 : Int) ≤ (d : Int) - 1 := by omega
    have i1 : (d : Int) - 1 < stk.length := by omega
    have i2 : (0 : Int) < (d : Int) := by omega
    clear hd0 ctgt
    go_enter Try.func17, Try.ntmps17
    go_wp2_with fail
    refine hcut.mono ?_
    rintro e w1 ⟨rfl, fv', he, hS1⟩
    clear hcut c0 ct i0 i1
    have D1 : CutRel w F s m stk fre seen j 0 w1 := by
      obtain ⟨D, hM, hdj, h1, h2, ht⟩ := HD0.out
      have := duo_scan (fv := fv) D hM hdj h1 h2 he hS1
      unfold CutRel
      rw [cutL_zero, List.append_nil]
      exact this
    have HT : Hid (t = topA (stk.drop j)) := HD0.out.2.2.2.2.2
    clear HD0 he hS1
    have c0 : ∃ a cap, w1.cell? ⟨m, 0, none⟩ = some (.slice a stk.length cap) := by
      obtain ⟨Fs, Fm, fv, sv, mf, mn, hS, hM, hd, h1, h2⟩ := D1.ex
      obtain ⟨a, cap, hv, _⟩ := row_form hM.srow
      exact ⟨a, cap, by rw [mo0 hM.mob, hv]; simp⟩
    obtain ⟨a, cap, c0⟩ := c0
    have HD1 : Hid (CutRel w F s m stk fre seen j 0 w1) := D1
    clear D1
    go_wp2_with fail
    clear c0
    go_loopg [8] j (fun k jv wr => ∃ i : Nat, i + k = j ∧ jv = .int .i64 ((stk.length : Int) - 1 - i) ∧ CutRel w F s m stk fre seen j i wr)
    case atStart => exact ⟨0, by omega, by simp, HD1.out⟩
    case round =>
      obtain ⟨i, hik, rfl, R⟩ := hrel
      obtain ⟨Fs, Fm, fv, sv, mf, mn, hS, hM, hdj, h1, h2⟩ := R.ex
      have c0 := mo0 hM.mob
      have f0 := mof hM.mob 0
      have hmlt := lt_of_block hM.mob
      cases gk with
      | zero =>
        have e : i = j := by omega
        subst e
        have hlt : ¬ (d : Int) ≤ (stk.length : Int) - 1 - i := by omega
        rcases hM.srow.2 with ⟨hv, h0⟩ | ⟨g, cap, cur, hv, _, _, hlc, hcm, _⟩
        · rw [List.length_reverse] at h0
          omega
        · subst hv
          have hx := mod_cut (d := d) hM (by simp; omega)
          have hdone := cutrel_done (d := d) (sv := mf) R hS hdj h1 h2 hjd hx.1 hM.lt hx.2
          rw [← HT.out] at hdone
          have HE : Hid _ := hdone
          have h7 := hdone.1
          rw [List.length_reverse] at c0 hlc
          have hcap : cap ≤ 9223372036854775807 := by unfold maxLen at hcm; omega
          have hdl : d ≤ cap := by omega
          have hdl2 : (d : Int) ≤ cap := by omega
          clear hdone hx hS hM hdj h1 h2 R hcm
          go_wp2_with fail
          refine (path_any s _ _ h7).mono ?_
          rintro e w6 ⟨rfl, rfl⟩
          go_wp2_with fail
          go_ret
          exact ⟨rfl, HE.out.2⟩
      | succ k =>
        have hil : i < stk.length := by omega
        obtain ⟨f, hdr, hf⟩ := drop_cons hil
        have hr := rev_get hf
        obtain ⟨n, hn⟩ : ∃ n, n = stk.length - 1 - i := ⟨_, rfl⟩
        rw [← hn] at hr
        rw [show (stk.length : Int) - 1 - i = (n : Int) from by omega]
        have i0 : (0 : Int) ≤ n := by omega
        have i1 : (n : Int) < stk.length := by omega
        have i2 : (d : Int) ≤ n := by omega
        obtain ⟨g, cap, hv, _⟩ := hM.srow.form (by rw [List.length_reverse]; omega)
        obtain ⟨a2, cap2, hv2, hlc, hcm⟩ := row_form hM.srow
        rw [hv] at hv2
        simp only [Value.slice.injEq] at hv2
        obtain ⟨rfl, _, rfl⟩ := hv2
        subst hv
        have c3 : wr.cell? ⟨g, n * 4 + 3, none⟩ = some (.bool f.kept) := by
          rw [hM.srow.cellAt (n * 4 + 3) (by rw [List.length_reverse]; omega)]
          exact flat_get hr 3 (by omega)
        have cp : wr.cell? ⟨g, n * 4, none⟩ = some (.pointer (some ⟨f.b, 0, none⟩)) := by
          rw [hM.srow.cellAt (n * 4) (by rw [List.length_reverse]; omega)]
          exact flat_get hr 0 (by omega)
        rw [List.length_reverse] at c0 hlc
        have HR : Hid (CutRel w F s m stk fre seen j i wr ∧ Scan wr Fs s (stk.drop j) (fre ++ cutL stk j) fv ∧ Mod wr Fm m stk.reverse ((fre ++ cutL stk i).map Fr.b) seen (.slice (some ⟨g, 0, none⟩) stk.reverse.length cap) mf mn ∧ (∀ k, Fs k → ¬ Fm k) ∧ (∀ k, Fs k → grow F w wr k) ∧ (∀ k, Fm k → grow F w wr k) ∧ stk[i]? = some f ∧ n = stk.length - 1 - i) := ⟨R, hS, hM, hdj, h1, h2, hf, hn⟩
        cases hkf : f.kept with
        | true =>
          rw [hkf] at c3
          clear R hS hM hdj h1 h2 hr hdr hn hf hcm
          go_wp2_with fail
          go_roundg k
          case measure => omega
          case rel =>
            have hn := HR.out.2.2.2.2.2.2.2
            exact ⟨i + 1, by omega, by congr 1; omega, cutrel_kept HR.out.1 HR.out.2.2.2.2.2.2.1 hkf⟩
        | false =>
          rw [hkf] at c3
          obtain ⟨fa, fcap, hmf, hflc, hfcm⟩ := row_form hM.frow
          subst hmf
          obtain ⟨N, hNN⟩ : ∃ N, N = ((fre ++ cutL stk i).map Fr.b).length := ⟨_, rfl⟩
          obtain ⟨xs, hxs⟩ : ∃ xs, xs = bptrs ((fre ++ cutL stk i).map Fr.b) := ⟨_, rfl⟩
          have hN5 : N ≤ 5000 := by
            have := cutL_le stk i
            rw [hNN, List.length_map, List.length_append]; omega
          have c1 := mo1 hM.mob
          have f1 := mof hM.mob 1
          have hrow := hM.frow
          have hmr := mo_ne_row hM.mob hM.frow (by decide)
          rw [← hNN, ← hxs] at hrow
          rw [← hNN] at c1 hmr
          have HR : Hid (CutRel w F s m stk fre seen j i wr ∧ Scan wr Fs s (stk.drop j) (fre ++ cutL stk j) fv ∧ Mod wr Fm m stk.reverse ((fre ++ cutL stk i).map Fr.b) seen (.slice (some ⟨g, 0, none⟩) stk.reverse.length cap) (.slice fa ((fre ++ cutL stk i).map Fr.b).length fcap) mn ∧ (∀ k, Fs k → ¬ Fm k) ∧ (∀ k, Fs k → grow F w wr k) ∧ (∀ k, Fm k → grow F w wr k) ∧ stk[i]? = some f ∧ n = stk.length - 1 - i ∧ N = ((fre ++ cutL stk i).map Fr.b).length ∧ xs = bptrs ((fre ++ cutL stk i).map Fr.b)) := ⟨R, hS, hM, hdj, h1, h2, hf, hn, hNN, hxs⟩
          have X1 : Hid (((wr.alloc (.cells #[.pointer (some ⟨f.b, 0, none⟩)] 37)).drew).cell? ⟨m, 1, none⟩ = some (.slice fa N fcap)) := (World.cell?_alloc_past _ _ _ hmlt).trans c1
          have X3 : Hid (((wr.alloc (.cells #[.pointer (some ⟨f.b, 0, none⟩)] 37)).drew).frozen? ⟨m, 1, none⟩ = false) := (World.frozen?_alloc_past _ _ _ hmlt).trans f1
          have X4 : Hid (m < ((wr.alloc (.cells #[.pointer (some ⟨f.b, 0, none⟩)] 37)).drew).heap.size) := by show m < (wr.alloc _).heap.size; rw [size_alloc]; omega
          have Hown : Hid (((wr.alloc (.cells #[.pointer (some ⟨f.b, 0, none⟩)] 37)).drew).ownsRow 0 37 1 (.slice fa N fcap) N xs) := (hrow.alloc _).drew
          have Hnews : Hid (∀ j u, [Value.pointer (some ⟨f.b, 0, none⟩)][j]? = some u → ((wr.alloc (.cells #[.pointer (some ⟨f.b, 0, none⟩)] 37)).drew).cell? ((⟨wr.heap.size, 0, none⟩ : Addr).add j) = some u) := World.news_of_block (cs := #[.pointer (some ⟨f.b, 0, none⟩)]) (w := (wr.alloc (.cells #[.pointer (some ⟨f.b, 0, none⟩)] 37)).drew) (halloc_new wr _)
          clear R hS hM hdj h1 h2 hr hdr hn hf hcm hrow hNN hxs hflc hfcm
          go_wp2_with fail
          go_region_law ((refine step_append_lies _ (by rfl) _ _ _ (by rfl) 0 37 i37 (.pointer none) 1 8 Try.underlying29 hi37 hz370 hz371 hz372 rfl (by omega) (.slice fa N fcap) N xs (by rfl) (by exact Hown.out) ⟨wr.heap.size, 0, none⟩ 1 1 [.pointer (some ⟨f.b, 0, none⟩)] (by rfl) rfl (by exact Hnews.out) (by intro u hu; simp at hu; subst hu; rfl) (by omega) (by unfold maxLen; omega) (by omega) (Nat.zero_le _) (wr.heap.size + 1) (by simp) ?_; intro g2 cap1 x hown hgrow hat hlt; have k1 := hgrow.cell X1.out hmr; have e1 := (hgrow.frozen_far ⟨m, 1, none⟩ X4.out hmr).trans X3.out; have HO : Hid (x.ownsRow 0 37 1 (.slice (some ⟨g2, 0, none⟩) (N + 1) cap1) (N + 1) (xs ++ [.pointer (some ⟨f.b, 0, none⟩)]) ∧ ((Value.slice fa N fcap).ownBlock = some g2 ∨ g2 = wr.heap.size + 1)) := ⟨hown, hat⟩; clear hown hat))
          all_goals go_wp2_with fail
          all_goals go_roundg k
          all_goals first
            | omega
            | (obtain ⟨R, hS, hM, hdj, h1, h2, hf, hn, hNN, hxs⟩ := HR.out; exact ⟨i + 1, by omega, by congr 1; omega, cutrel_free R hS hM hdj h1 h2 hf hkf hNN (hNN ▸ hgrow) (hxs ▸ HO.out.1) (hNN ▸ HO.out.2) hlt⟩)

end Go.Proofs.Qxb6604576a
