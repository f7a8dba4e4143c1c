/-
  FnInsideFollowsUnwinding: the walk.
-/
import Derived.Test.Qxb6604576aUp
import Derived.Deep.QuietTactic
import Derived.BigQuiet
import Derived.Deep.LoopGhost
namespace Go.Proofs.Qxb6604576a
open Go.RowKit
set_option linter.unusedVariables false
set_option linter.unusedSimpArgs false

theorem quiet_same {P : Program} {f : FuncId} {args : Array Value} {w : World} {n : Nat} {v : Value}
    (h : Calls P f args (w.drewN n) fun e w' => e = .returned v ∧ w.drewN n = w') : Calls P f args (w.drewN n) fun e w'' => e = .returned v ∧ ∃ m, w'' = w.drewN m :=
  h.mono fun _ _ ⟨he, hm⟩ => ⟨he, n, hm.symm⟩
theorem Same.drewN (w : World) (n : Nat) : Same (w.drewN n) w := ⟨rfl, rfl, rfl, rfl⟩

theorem run_neq_same (b : Nat) (w : World) : (binOp .neq 37 (.pointer (some ⟨b, 0, none⟩)) (.pointer (some ⟨b, 0, none⟩))).run Try.prog w = .ok (.bool false) w := by
  obtain ⟨i0, hi, hz0, hz1, hz2⟩ := info_parts Try.info74
  have h : ∀ d : Nat, (Op.equalIn (d + 1) 37 (.pointer (some ⟨b, 0, none⟩)) (.pointer (some ⟨b, 0, none⟩))).run Try.prog w = .ok true w := fun d => by
    simp [Op.equalIn, run_underlying Try.underlying37, sizeOf, typeInfo, hi, run_sameAddr_same]
  simp only [binOp]
  simp [Op.equal, Op.maxDepth, h 9999]

theorem Below.ofExt {F : Nat → Prop} {w w3 x : World} (h : Below w.heap.size w w3) (e : Ext F w3 x) (hF : ∀ k, F k → w.heap.size ≤ k) : Below w.heap.size w x :=
  h.trans ⟨e.os, e.tape, e.output, e.size, fun k hk => e.block k (Nat.lt_of_lt_of_le hk h.size) (fun g => by have := hF k g; omega)⟩

theorem Down.same {w3 wr wd : World} {s gp len m : Nat} {zs : List Int} {bs fre : List Fr} {fv : Value} (D : Down w3 s gp len zs m wr bs fre fv) (e : Same wd wr) : Down w3 s gp len zs m wd bs fre fv :=
  ⟨D.num, D.kinds, D.ext.same e, by rw [grow_same e]; exact D.scan.same e, ownsRow_block D.row (fun g _ => by rw [e.heap]), D.few, D.le⟩

theorem inside_down {w3 wr : World} {s gp len m : Nat} {zs : List Int} {bs fre : List Fr} {fv : Value} (D : Down w3 s gp len zs (m + 1) wr bs fre fv) {z : Int} (hz : zs[m]? = some z) (hm : m < len) (k : Int) (wd : World) (hd : Same wd wr) :
    Calls Try.prog 29 #[.pointer (some ⟨s, 0, none⟩), .int .i64 k] wd fun e w' => e = .returned (.bool (z == k)) ∧ wd = w' := by
  obtain ⟨f, hf⟩ : ∃ f, bs[m]? = some f := ⟨bs[m]'(by rw [D.num]; omega), by simp⟩
  have hk : f.kind = z := by
    have h1 := congrArg (fun l => l[m]?) D.kinds
    simp only [List.getElem?_map, hf, List.getElem?_take, if_pos hm, hz, Option.map_some, Option.some.injEq] at h1
    exact h1
  have := inside_any (D.scan.same hd) k
  rw [topA_take bs m f hf] at this
  simp only [insideL, hk] at this
  exact this

theorem inside_root {w3 wr : World} {s gp len : Nat} {zs : List Int} {bs fre : List Fr} {fv : Value} (D : Down w3 s gp len zs 0 wr bs fre fv) (k : Int) :
    Calls Try.prog 29 #[.pointer (some ⟨s, 0, none⟩), .int .i64 k] wr fun e w' => e = .returned (.bool false) ∧ wr = w' := by
  have := inside_any D.scan k
  simpa [insideL] using this

set_option maxHeartbeats 2000000 in
theorem walk_small (a0 : Option Addr) (len0 cap0 : Nat) (z0 : List Int) (a1 : Int) (w : World) (w0 : IsRow .i64 w a0 len0 cap0 z0) (hl : len0 ≤ 4096) :
    Calls Try.prog 8 #[.slice a0 len0 cap0, .int .i64 a1] w fun e w' => e = .returned (.bool true) ∧ Below w.heap.size w w' := by
  have hz0 : len0 ≤ z0.length := by
    rcases w0 with ⟨_, h, _, _⟩ | ⟨x, _, h1, _, h2, _⟩ <;> omega
  have l1 : decide ((4096 : Int) < (len0 : Int)) = false := by simp; omega
  have l2 : decide ((1048576 : Int) < 8 * (len0 : Int)) = false := by simp; omega
  have hcl := clone_any w0 (by omega)
  have hby := bytes_any a0 len0 cap0 a1 w (by omega)
  have hmk := run_make_row' (P := Try.prog) 29 37 (.pointer none) 8 Try.underlying29 Try.info37 rfl .i64 .i64 len0 (by omega) (by omega)
  go_enter Try.func8, Try.ntmps8
  go_wp2_with fail
  refine hby.mono ?_
  rintro e wb ⟨rfl, rfl⟩
  clear hby
  go_wp2_with fail
  refine hcl.mono ?_
  rintro e wc ⟨A, cp, rfl, hbel, hown⟩
  clear hcl
  go_wp2_with fail
  refine (new_any _).mono ?_
  rintro e ws ⟨rfl, rfl⟩
  have hS0 := scan_new wc
  go_wp2_with fail
  refine (inside_any hS0 a1).mono ?_
  rintro e ws ⟨rfl, rfl⟩
  simp only [insideL]
  go_wp2_with fail
  clear hmk l1 l2
  -- what lies at the first loop's head
  obtain ⟨s, hs⟩ : ∃ s, s = wc.heap.size := ⟨_, rfl⟩
  obtain ⟨w3, hw3⟩ : ∃ w3, w3 = (wc.alloc (scObj none (.slice none 0 0))).alloc (.cells (madeCells #[.pointer none] len0) 37) := ⟨_, rfl⟩
  have hsz3 : w3.heap.size = wc.heap.size + 2 := by rw [hw3, size_alloc, size_alloc]
  have hU0 : Up w3 s (s + 1) len0 z0 0 w3 [] (.slice none 0 0) := by
    refine ⟨rfl, by simp, Ext.refl _ _, ?_, ?_⟩
    · rw [hs]
      refine hS0.moved (fun k hk => ?_) (fun k hk => .inl hk) (grow_lt (fun k hk => by cases hk; omega) (Nat.le_refl _))
      rw [hw3]
      cases hk
      exact halloc_old _ _ _ (by rw [size_alloc]; omega)
    · have := World.ownsRow_lit (base := 0) (e := 37) (size := 1) (wc.alloc (scObj none (.slice none 0 0))) (madeCells #[.pointer none] len0) len0 (Nat.zero_le _) (by unfold maxLen; omega) (by rw [size_madeCells]; omega)
      rw [toList_madeCells_one, size_alloc] at this
      rw [hw3, hs]
      simpa [ptrs, nils] using this
  have hK3 : w3.ownsRow w.heap.size 3 1 (.slice A len0 cp) len0 (ints (z0.take len0)) := by
    rw [hw3]; exact (hown.alloc _).alloc _
  have hKlt : ∀ g, (Value.slice A len0 cp).ownBlock = some g → g < wc.heap.size := fun g hg => (hown.lt g hg).2
  have hB3 : Below w.heap.size w w3 := by
    rw [hw3]; exact (hbel.alloc hbel.size _).alloc (by have := hbel.size; rw [size_alloc]; omega) _
  have hsw : w.heap.size ≤ s := by rw [hs]; exact hbel.size
  rw [← hs, ← hw3]
  rw [← hs] at hKlt hsz3
  have hs3 : s < w3.heap.size := by omega
  have hg3 : s + 1 < w3.heap.size := by omega
  have HH : Hid (Up w3 s (s + 1) len0 z0 0 w3 [] (.slice none 0 0) ∧ w3.ownsRow w.heap.size 3 1 (.slice A len0 cp) len0 (ints (z0.take len0)) ∧ (∀ g, (Value.slice A len0 cp).ownBlock = some g → g < s) ∧ Below w.heap.size w w3 ∧ w.heap.size ≤ s) := ⟨hU0, hK3, hKlt, hB3, hsw⟩
  clear hU0 hK3 hKlt hB3 hsw hS0 hbel hown hs hw3 w0 hsz3
  go_loopg [7] len0 (fun k i wr => ∃ n bs fv, n + k = len0 ∧ i = .int .i64 n ∧ Up w3 s (s + 1) len0 z0 n wr bs fv)
  case atStart => exact ⟨0, [], _, by omega, rfl, HH.out.1⟩
  case round =>
    obtain ⟨n, bs, fv, hnk, rfl, U⟩ := hrel
    cases gk with
    | zero =>
      have e : n = len0 := by omega
      subst e
      have hlt : ¬ (n : Int) < n := by omega
      have HU : Hid (Up w3 s (s + 1) n z0 n wr bs fv) := U
      clear U
      go_wp2_with fail
      go_loopg [8] n (fun k j wr => ∃ m' fre fv, k ≤ m' ∧ j = .int .i64 ((k : Int) - 1) ∧ Down w3 s (s + 1) n z0 m' wr bs fre fv)
      case atStart => exact ⟨n, [], fv, Nat.le_refl _, rfl, HU.out.down⟩
      case round =>
        obtain ⟨m', fre, fv, hkm, rfl, D⟩ := hrel
        have hm' := D.le
        have hN : (bs.take m').reverse.length + fre.length ≤ 5000 := by
          have := D.few
          have := List.length_take_le m' bs
          rw [List.length_reverse]; omega
        have hbl : (bs.take m').reverse.length = m' := by rw [List.length_reverse, List.length_take, D.num]; omega
        cases gk with
        | zero =>
          have hlt : ¬ (0 : Int) ≤ ((0 : Nat) : Int) - 1 := by omega
          have hcut := zcut_any D.scan m' (by omega) hN none (by show none = _; rw [List.drop_of_length_le (by omega)]; rfl)
          have HD : Hid (Down w3 s (s + 1) n z0 m' wr bs fre fv) := D
          clear D hN hbl
          go_wp2_with fail
          refine hcut.mono ?_
          rintro e w4 ⟨rfl, fv', he, hS⟩
          clear hcut
          have D4 := HD.out.cut hg3 hs3 (by omega) 0 (Nat.zero_le _) he hS
          have i4 := inside_root D4
          have HB : Hid (Below w.heap.size w w4) := Below.ofExt HH.out.2.2.2.1 D4.ext (fun k hk => by have := HH.out.2.2.2.2; rcases hk with h | h <;> omega)
          have hK4 : w4.ownsRow w.heap.size 3 1 (.slice A n cp) n (ints (z0.take n)) := D4.ext.row HH.out.2.1 (fun g hg hF => by
            have := HH.out.2.2.1 g hg
            rcases hF with h | h <;> omega)
          clear D4 hS he
          go_wp2_with fail
          refine (i4 _).mono ?_
          rintro e w6 ⟨rfl, rfl⟩
          by_cases hn0 : n = 0
          · subst hn0
            clear hK4 i4
            go_wp2_with fail
            go_ret
            exact ⟨rfl, HB.out⟩
          · obtain ⟨gk, rfl, hgs⟩ : ∃ gk, A = some ⟨gk, 0, none⟩ ∧ gk < s := by
              obtain ⟨g, cap, hv, _, hlt⟩ := HH.out.2.1.form (by omega)
              simp only [Value.slice.injEq] at hv
              exact ⟨g, hv.1, HH.out.2.2.1 g (by rw [hv.1]; rfl)⟩
            obtain ⟨z, hz⟩ : ∃ z, z0[0]? = some z := ⟨z0[0]'(by omega), by simp⟩
            have c1 : w4.cell? ⟨gk, 0, none⟩ = some (.int .i64 z) := by
              rw [hK4.cellAt 0 (by omega)]
              unfold ints
              rw [List.getElem?_map, List.getElem?_take, if_pos (by omega), hz]; rfl
            have hpos : (0 : Int) < n := by omega
            clear hz hK4
            go_wp2_with fail
            refine (i4 _).mono ?_
            rintro e w6 ⟨rfl, rfl⟩
            go_wp2_with fail
            go_ret
            exact ⟨rfl, HB.out⟩
        | succ k =>
          obtain ⟨f, hf⟩ : ∃ f, bs[k]? = some f := ⟨bs[k]'(by rw [D.num]; omega), by simp⟩
          obtain ⟨z, hz⟩ : ∃ z, z0[k]? = some z := ⟨z0[k]'(by omega), by simp⟩
          have hkn : k < n := by omega
          have hlt : (0 : Int) ≤ ((k + 1 : Nat) : Int) - 1 := by omega
          have ek : ((k + 1 : Nat) : Int) - 1 = k := by omega
          rw [ek]
          have hk0 : (0 : Int) ≤ k := by omega
          have hk1 : (k : Int) < n := by omega
          have hrb : (ptrs bs)[k]? = some (.pointer (some ⟨f.b, 0, none⟩)) := by
            unfold ptrs; rw [List.getElem?_map, hf]; rfl
          have c1 : wr.cell? ⟨s + 1, k, none⟩ = some (.pointer (some ⟨f.b, 0, none⟩)) := by rw [D.row.cellAt k (by omega)]; exact hrb
          have hcut := zcut_any D.scan (m' - (k + 1)) (by omega) hN (some ⟨f.b, 0, none⟩) (by
            show _ = _
            rw [take_rev_drop bs m' (k + 1) (by rw [D.num]; omega) hkm, topA_take bs k f hf]; rfl)
          have hneq := run_neq_same f.b
          obtain ⟨gk, rfl, hgs⟩ : ∃ gk, A = some ⟨gk, 0, none⟩ ∧ gk < s := by
            obtain ⟨g, cap, hv, _, hlt⟩ := HH.out.2.1.form (by omega)
            simp only [Value.slice.injEq] at hv
            exact ⟨g, hv.1, HH.out.2.2.1 g (by rw [hv.1]; rfl)⟩
          have HD : Hid (Down w3 s (s + 1) n z0 m' wr bs fre fv ∧ bs[k]? = some f ∧ z0[k]? = some z ∧ (ptrs bs)[k]? = some (.pointer (some ⟨f.b, 0, none⟩))) := ⟨D, hf, hz, hrb⟩
          clear D hN hbl hf hz hrb ek
          go_wp2_with fail
          refine hcut.mono ?_
          rintro e w4 ⟨rfl, fv', he, hS⟩
          clear hcut
          have D4 := HD.out.1.cut hg3 hs3 (by omega) (k + 1) hkm he hS
          have i4 := inside_down D4 HD.out.2.2.1 hkn
          have hK4 : w4.ownsRow w.heap.size 3 1 (.slice (some ⟨gk, 0, none⟩) n cp) n (ints (z0.take n)) := D4.ext.row HH.out.2.1 (fun g hg hF => by
            have := HH.out.2.2.1 g hg
            rcases hF with h | h <;> omega)
          have c2 : w4.cell? ⟨gk, k, none⟩ = some (.int .i64 z) := by
            rw [hK4.cellAt k (by omega)]
            unfold ints
            rw [List.getElem?_map, List.getElem?_take, if_pos (by omega), HD.out.2.2.1]; rfl
          have c3 : w4.cell? ⟨s + 1, k, none⟩ = some (.pointer (some ⟨f.b, 0, none⟩)) := by rw [D4.row.cellAt k (by omega)]; exact HD.out.2.2.2
          have h7 : w4.cell? ⟨s, 7, none⟩ = some (.pointer (some ⟨f.b, 0, none⟩)) := by
            have := sc7 D4.scan.scb
            rw [topA_take bs k f HD.out.2.1] at this
            exact this
          have HD4 : Hid (Down w3 s (s + 1) n z0 (k + 1) w4 bs (fre ++ cutL (bs.take m').reverse (m' - (k + 1))) fv') := D4
          have HI : Hid (∀ (k : Int) (wd : World), Same wd w4 → Calls Try.prog 29 #[.pointer (some ⟨s, 0, none⟩), .int .i64 k] wd fun e w' => e = .returned (.bool (z == k)) ∧ wd = w') := i4
          clear D4 hK4 hS he c1 i4
          go_wp2_with fail
          go_quiet ((go_at_call 18; exact quiet_same (path_any s _ _ (by exact h7))))
          go_wp2_with fail
          obtain ⟨w5, hw5⟩ : ∃ w5, w5 = w4.drewN nq := ⟨_, rfl⟩
          rw [← hw5]
          have c2 : w5.cell? ⟨gk, k, none⟩ = some (.int .i64 z) := by rw [hw5]; exact c2
          have HI5 : Hid (∀ (k : Int) (wd : World), Same wd w5 → Calls Try.prog 29 #[.pointer (some ⟨s, 0, none⟩), .int .i64 k] wd fun e w' => e = .returned (.bool (z == k)) ∧ wd = w') := fun k wd h => HI.out k wd (by rw [hw5] at h; exact ⟨h.heap, h.os, h.tape, h.output⟩)
          have HS5 : Hid (Same w5 w4) := by rw [hw5]; exact Same.drewN _ _
          clear hw5 h7 c3 HI
          refine (HI5.out z _ (Same.refl _)).mono ?_
          rintro e w6 ⟨rfl, rfl⟩
          rw [beq_self_eq_true]
          go_wp2_with fail
          refine (HI5.out _ _ (Same.refl _)).mono ?_
          rintro e w6 ⟨rfl, rfl⟩
          rw [show (z == bits BinOp.xor IntKind.i64 z 1) = false from beq_eq_false_iff_ne.2 (Ne.symm (xor_one_ne z))]
          go_wp2_with fail
          obtain ⟨q, hq1, hq2⟩ : ∃ q, (z == a1) = q ∧ (a1 == z) = q := ⟨z == a1, rfl, by
            by_cases h : z = a1
            · subst h; rfl
            · rw [beq_eq_false_iff_ne.2 h, beq_eq_false_iff_ne.2 (Ne.symm h)]⟩
          have ia := fun nq => HI5.out a1 (w5.drewN nq) (Same.drewN _ _)
          rw [hq1] at ia
          go_quiet ((go_at_call 29; exact quiet_same (ia _)))
          go_wp2_with fail
          go_roundg k
          case measure => omega
          case rel => exact ⟨k + 1, _, _, by omega, rfl, HD4.out.same ⟨HS5.out.heap, HS5.out.os, HS5.out.tape, HS5.out.output⟩⟩
    | succ k =>
      have hnl : n < len0 := by omega
      have hlt : (n : Int) < len0 := by omega
      have hn0 : (0 : Int) ≤ n := by omega
      have HU : Hid (Up w3 s (s + 1) len0 z0 n wr bs fv) := U
      obtain ⟨z, hz⟩ : ∃ z, z0[n]? = some z := ⟨z0[n]'(by omega), by simp⟩
      -- the kinds' row
      obtain ⟨gk, rfl, hgs⟩ : ∃ gk, A = some ⟨gk, 0, none⟩ ∧ gk < s := by
        obtain ⟨g, cap, hv, _, hlt⟩ := HH.out.2.1.form (by omega)
        simp only [Value.slice.injEq] at hv
        exact ⟨g, hv.1, HH.out.2.2.1 g (by rw [hv.1]; rfl)⟩
      have hKr : wr.ownsRow w.heap.size 3 1 (.slice (some ⟨gk, 0, none⟩) len0 cp) len0 (ints (z0.take len0)) := U.ext.row HH.out.2.1 (fun g hg hF => by
        simp only [Value.ownBlock, Option.some.injEq] at hg
        rcases hF with h | h <;> omega)
      have hkz : (ints (z0.take len0))[n]? = some (.int .i64 z) := by
        unfold ints
        rw [List.getElem?_map, List.getElem?_take, if_pos hnl, hz]; rfl
      have c1 : wr.cell? ⟨gk, n, none⟩ = some (.int .i64 z) := by rw [hKr.cellAt n (by omega)]; exact hkz
      have hp := zpush_any U.scan z n
      have HZ : Hid (z0[n]? = some z ∧ (ints (z0.take len0))[n]? = some (.int .i64 z) ∧ wr.ownsRow w.heap.size 3 1 (.slice (some ⟨gk, 0, none⟩) len0 cp) len0 (ints (z0.take len0))) := ⟨hz, hkz, hKr⟩
      clear hz U hkz hKr
      go_wp2_with fail
      refine hp.mono ?_
      rintro e w4 ⟨rfl, nb, fv', he, hS, _⟩
      clear hp
      have h7 := sc7 hS.scb
      rw [topA_cons] at h7
      have hrow4 := HU.out.rowAfter hg3 (by omega) he
      have f2 := hrow4.frozenAt n
      obtain ⟨v0, c2⟩ : ∃ v0, w4.cell? ⟨s + 1, n, none⟩ = some v0 := by
        rw [hrow4.cellAt n (by omega)]
        exact ⟨_, List.getElem?_eq_getElem (by rw [hrow4.1]; omega)⟩
      have U5 := HU.out.pushed hg3 hs3 (by omega) he hS HZ.out.1 hnl
      have hle3 := HU.out.ext.size
      have hK5 : (w4.setCell ⟨s + 1, n, none⟩ (ptrB nb)).ownsRow w.heap.size 3 1 (.slice (some ⟨gk, 0, none⟩) len0 cp) len0 (ints (z0.take len0)) := U5.ext.row HH.out.2.1 (fun g hg hF => by
        simp only [Value.ownBlock, Option.some.injEq] at hg
        rcases hF with h | h <;> omega)
      have c5 : (w4.setCell ⟨s + 1, n, none⟩ (ptrB nb)).cell? ⟨gk, n, none⟩ = some (.int .i64 z) := by rw [hK5.cellAt n (by omega)]; exact HZ.out.2.1
      have d5 : (w4.setCell ⟨s + 1, n, none⟩ (ptrB nb)).cell? ⟨s + 1, n, none⟩ = some (ptrB nb) := by
        rw [U5.row.cellAt n (by omega)]
        have := HU.out.num
        simp [ptrs, this]
      have i5 := inside_any U5.scan
      rw [List.reverse_append] at i5
      simp only [insideL, List.reverse_cons, List.reverse_nil, List.nil_append, List.cons_append] at i5
      have HU5 : Hid (Up w3 s (s + 1) len0 z0 (n + 1) (w4.setCell ⟨s + 1, n, none⟩ (ptrB nb)) (bs ++ [⟨nb, z, n, false⟩]) fv') := U5
      clear U5 hK5 hrow4 hS he
      unfold ptrB at *
      go_wp2_with fail
      refine (path_any s _ _ h7).mono ?_
      rintro e w6 ⟨rfl, rfl⟩
      go_wp2_with fail
      refine (i5 z).mono ?_
      rintro e w6 ⟨rfl, rfl⟩
      rw [beq_self_eq_true]
      go_wp2_with fail
      refine (i5 _).mono ?_
      rintro e w6 ⟨rfl, rfl⟩
      rw [show (z == bits BinOp.xor IntKind.i64 z 1) = false from beq_eq_false_iff_ne.2 (Ne.symm (xor_one_ne z))]
      clear i5 c5 d5 c2 c1 f2 h7
      go_wp2_with fail
      go_roundg k
      case measure => omega
      case rel => exact ⟨n + 1, _, _, by omega, by go_num, HU5.out⟩

set_option maxHeartbeats 400000 in
theorem walk_great (a0 : Option Addr) (len0 cap0 : Nat) (a1 : Int) (w : World) (hl : 4096 < len0) :
    Calls Try.prog 8 #[.slice a0 len0 cap0, .int .i64 a1] w fun e w' => e = .returned (.bool true) ∧ Below w.heap.size w w' := by
  by_cases hb : len0 ≤ 1048576
  · have l1 : decide ((4096 : Int) < (len0 : Int)) = true := by simp; omega
    have hby := bytes_any a0 len0 cap0 a1 w hb
    go_enter Try.func8, Try.ntmps8
    go_wp2_with fail
    refine hby.mono ?_
    rintro e wb ⟨rfl, rfl⟩
    clear hby
    go_wp2_with fail
    go_ret
    exact ⟨rfl, Below.refl _ _⟩
  · have hby := bytes_no a0 len0 cap0 a1 w (by omega)
    go_enter Try.func8, Try.ntmps8
    go_wp2_with fail
    refine hby.mono ?_
    rintro e wb ⟨rfl, rfl⟩
    clear hby
    go_wp2_with fail
    go_ret
    exact ⟨rfl, Below.refl _ _⟩

theorem unwinding_walk (a0 : Option Addr) (len0 cap0 : Nat) (z0 : List Int) (a1 : Int) (w : World) (w0 : IsRow .i64 w a0 len0 cap0 z0) :
    Calls Try.prog 8 #[.slice a0 len0 cap0, .int .i64 a1] w fun e w' => e = .returned (.bool true) ∧ Below w.heap.size w w' := by
  by_cases hl : len0 ≤ 4096
  · exact walk_small a0 len0 cap0 z0 a1 w w0 hl
  · exact walk_great a0 len0 cap0 a1 w (by omega)

end Go.Proofs.Qxb6604576a
