/-
  doPush.
-/
import Derived.Test.Qxb6604576aDuo
import Derived.Deep.RegionLaw
import Derived.Deep.DrawnRows
namespace Go.Proofs.Qxb6604576a
open Go.RowKit
set_option linter.unusedVariables false
set_option linter.unusedSimpArgs false

theorem Try.info52 : (Try.prog.info? 52).map (fun i => (i.zero, i.size, i.bytes)) = some (some (.agg #[.pointer none, .int .i64 0, .int .i64 0, .bool false]), 4, 32) := by kernel_rfl

theorem run_neq_self (p : Option Addr) (w : World) : (binOp .neq 37 (.pointer p) (.pointer p)).run Try.prog w = .ok (.bool false) w := by
  obtain ⟨i0, hi, hz0, hz1, hz2⟩ := info_parts Try.info74
  have h : ∀ d : Nat, (Op.equalIn (d + 1) 37 (.pointer p) (.pointer p)).run Try.prog w = .ok true w := fun d => by
    cases p <;> simp [Op.equalIn, run_underlying Try.underlying37, sizeOf, typeInfo, hi, run_sameAddr_same]
  simp only [binOp]
  simp [Op.equal, Op.maxDepth, h 9999]


theorem mfs_news (w : World) (nb : Nat) (kind col : Int) : ∀ j u, [Value.pointer (some ⟨nb, 0, none⟩), .int .i64 kind, .int .i64 col, .bool false][j]? = some u → (w.alloc (.cells #[.pointer (some ⟨nb, 0, none⟩), .int .i64 kind, .int .i64 col, .bool false] 52)).cell? ((⟨w.heap.size, 0, none⟩ : Addr).add j) = some u :=
  World.news_of_block (cs := #[.pointer (some ⟨nb, 0, none⟩), .int .i64 kind, .int .i64 col, .bool false]) (halloc_new _ _)
theorem mfs_one (nb : Nat) (kind col : Int) : ∀ u ∈ [Value.pointer (some ⟨nb, 0, none⟩), .int .i64 kind, .int .i64 col, .bool false], u.oneCell' = true := by
  intro u hu
  simp only [List.mem_cons, List.not_mem_nil, or_false] at hu
  rcases hu with rfl | rfl | rfl | rfl <;> rfl

set_option maxHeartbeats 1000000 in
theorem doPush_new {w : World} {F : Nat → Prop} {s m : Nat} {stk : List Fr} {seen : List Nat} (h : Sys w F s m stk [] seen) (kind col : Int) (hn : stk.length ≤ 5000) (hn2 : seen.length ≤ 5000) :
    Calls Try.prog 16 #[.pointer (some ⟨s, 0, none⟩), .pointer (some ⟨m, 0, none⟩), .int .i64 kind, .int .i64 col] w fun e w' => e = .returned (.bool true) ∧
      ∃ nb, Ext F w w' ∧ Sys w' (grow F w w') s m (⟨nb, kind, col, false⟩ :: stk) [] (seen ++ [nb]) ∧ w.heap.size ≤ nb := by
  have D := h.duo
  obtain ⟨Fs, Fm, fv, sv, mf, mn, hS, hM, hd, h1, h2⟩ := D.ex
  obtain ⟨i37, hi37, hz370, hz371, hz372⟩ := info_parts Try.info37
  obtain ⟨i52, hi52, hz520, hz521, hz522⟩ := info_parts Try.info52
  obtain ⟨a, cap, hmf, _⟩ := row_form hM.frow
  have c1 : w.cell? ⟨m, 1, none⟩ = some (.slice a 0 cap) := by rw [mo1 hM.mob, hmf]; rfl
  have htop := top_any hM hn
  have HD0 : Hid (Duo w F w s m stk [] stk.reverse [] seen) := D
  have hneq := run_neq_self (topA stk)
  clear h hS hM hd h1 h2 hmf D
  go_enter Try.func16, Try.ntmps16
  go_wp2_with fail
  refine htop.mono ?_
  rintro e w1 ⟨rfl, hw1⟩
  clear htop c1
  have D1 := HD0.out.same hw1
  obtain ⟨Fs, Fm, fv, sv, mf, mn, hS, hM, hd, h1, h2⟩ := D1.ex
  have hp := zpush_any hS kind col
  go_wp2_with fail
  refine hp.mono ?_
  rintro e w2 ⟨rfl, nb, fv', he2, hS2, hT⟩
  clear hp
  have D2 := duo_scan (fv := fv) D1 hM hd h1 h2 he2 hS2
  have h7 := sc7 hS2.scb
  rw [topA_cons] at h7
  have hnb : w.heap.size ≤ nb := by
    rcases hT with ⟨_, hT⟩ | ⟨f, hT, _⟩
    · rw [hw1.heap] at hT; exact hT
    · simp at hT
  have hfr2 : ∀ b ∈ seen, IsFr w2 b ∧ b ≠ nb := fun b hb => by
    refine ⟨D2.seenOk b hb, ?_⟩
    have := (HD0.out.seenOk b hb).lt
    omega
  have hnbF : IsFr w2 nb := ⟨_, _, _, _, hS2.linked.1⟩
  clear hS hM hd h1 h2 hS2 he2 hw1 hT
  obtain ⟨Fs, Fm, fv, sv, mf, mn, hS, hM, hd, h1, h2⟩ := D2.ex
  obtain ⟨a2, cap2, hmn, _⟩ := row_form hM.nrow
  subst hmn
  have hh := holds_no w2 a2 cap2 seen nb hM.nrow (by omega) hfr2 hnbF
  have c2 := mo2 hM.mob
  have f2 := mof hM.mob 2
  have hmlt := lt_of_block hM.mob
  have hmr := mo_ne_row hM.mob hM.nrow (by decide)
  have H2 : Hid (Duo w F w2 s m (⟨nb, kind, col, false⟩ :: stk) [].dropLast stk.reverse [] seen ∧ Scan w2 Fs s (⟨nb, kind, col, false⟩ :: stk) [].dropLast fv ∧ Mod w2 Fm m stk.reverse [] seen sv mf (.slice a2 seen.length cap2) ∧ (∀ k, Fs k → ¬ Fm k) ∧ (∀ k, Fs k → grow F w w2 k) ∧ (∀ k, Fm k → grow F w w2 k) ∧ IsFr w2 nb) := ⟨D2, hS, hM, hd, h1, h2, hnbF⟩
  have X2 : Hid ((w2.alloc (.cells #[.pointer (some ⟨nb, 0, none⟩)] 37)).cell? ⟨m, 2, none⟩ = some (.slice a2 seen.length cap2)) := (World.cell?_alloc_past _ _ _ hmlt).trans c2
  have X3 : Hid ((w2.alloc (.cells #[.pointer (some ⟨nb, 0, none⟩)] 37)).frozen? ⟨m, 2, none⟩ = false) := (World.frozen?_alloc_past _ _ _ hmlt).trans f2
  have X4 : Hid (m < (w2.alloc (.cells #[.pointer (some ⟨nb, 0, none⟩)] 37)).heap.size) := by show m < _; rw [size_alloc]; omega
  have Hown : Hid ((w2.alloc (.cells #[.pointer (some ⟨nb, 0, none⟩)] 37)).ownsRow 0 37 1 (.slice a2 seen.length cap2) seen.length (bptrs seen)) := hM.nrow.alloc _
  have Hnews : Hid (∀ j u, [Value.pointer (some ⟨nb, 0, none⟩)][j]? = some u → (w2.alloc (.cells #[.pointer (some ⟨nb, 0, none⟩)] 37)).cell? ((⟨w2.heap.size, 0, none⟩ : Addr).add j) = some u) := World.news_of_block (cs := #[.pointer (some ⟨nb, 0, none⟩)]) (halloc_new _ _)
  clear hfr2 hnbF hS hM hd h1 h2 D1 D2
  go_wp2_with fail
  refine (path_any s _ _ h7).mono ?_
  rintro e w6 ⟨rfl, rfl⟩
  clear h7
  go_wp2_with fail
  refine hh.mono ?_
  rintro e w6 ⟨rfl, rfl⟩
  clear hh
  go_wp2_with (at_builtin; refine wpList_append_lies _ rfl (.tmp 69) (.tmp 71) 29 rfl 0 37 i37 (.pointer none) 1 8 Try.underlying29 hi37 hz370 hz371 hz372 rfl (by omega) (.slice a2 seen.length cap2) seen.length (bptrs seen) rfl (by exact Hown.out) ⟨w2.heap.size, 0, none⟩ 1 1 [.pointer (some ⟨nb, 0, none⟩)] rfl rfl (by exact Hnews.out) (by intro u hu; simp at hu; subst hu; rfl) (by omega) (by unfold maxLen; omega) (by omega) (Nat.zero_le _) (w2.heap.size + 1) (by simp) ?_; intro g cap3 x hown hgrow hat hlt; have k2 := hgrow.cell X2.out hmr; have e2 := (hgrow.frozen_far ⟨m, 2, none⟩ X4.out hmr).trans X3.out; have HO : Hid (x.ownsRow 0 37 1 (.slice (some ⟨g, 0, none⟩) (seen.length + 1) cap3) (seen.length + 1) (bptrs seen ++ [.pointer (some ⟨nb, 0, none⟩)]) ∧ ((Value.slice a2 seen.length cap2).ownBlock = some g ∨ g = w2.heap.size + 1)) := ⟨hown, hat⟩; clear hown hat)
  -- behind the store
  obtain ⟨w3, hw3⟩ : ∃ w3, w3 = x.setCell ⟨m, 2, none⟩ (.slice (some ⟨g, 0, none⟩) (seen.length + 1) cap3) := ⟨_, rfl⟩
  have D3 : Duo w F w3 s m (⟨nb, kind, col, false⟩ :: stk) [] stk.reverse [] (seen ++ [nb]) := by
    obtain ⟨D2, hS, hM, hd, h1, h2, hnbF⟩ := H2.out
    have := mod_seen hM hgrow HO.out.1 HO.out.2 hlt
    rw [← hw3] at this
    refine duo_mod D2 hS hd h1 h2 this.1 this.2 (fun b hb => ?_)
    rcases List.mem_append.1 hb with hb | hb
    · exact this.1.frs b (D2.seenOk b hb)
    · simp only [List.mem_singleton] at hb
      subst hb
      exact this.1.frs b hnbF
  rw [← hw3]
  clear hw3 k2 e2 HO H2 hgrow hlt X2 X3 X4 Hown Hnews c2 f2 hmlt hmr
  obtain ⟨Fs, Fm, fv, sv, mf, mn, hS, hM, hd, h1, h2⟩ := D3.ex
  have u3 := fr3 hS.linked.1
  have u0 := fr0 hS.linked.1
  have u2 := fr2 hS.linked.1
  have u5 := fr5 hS.linked.1
  obtain ⟨a0, cap0, hsv, hlc0, _⟩ := row_form hM.srow
  subst hsv
  have hlen : stk.reverse.length = stk.length := by simp
  rw [hlen] at hlc0
  have c0 := mo0 hM.mob
  have f0 := mof hM.mob 0
  have hmlt := lt_of_block hM.mob
  have hmr := mo_ne_row hM.mob hM.srow (by decide)
  rw [hlen] at c0 hmr
  have H3 : Hid (Duo w F w3 s m (⟨nb, kind, col, false⟩ :: stk) [] stk.reverse [] (seen ++ [nb]) ∧ Scan w3 Fs s (⟨nb, kind, col, false⟩ :: stk) [] fv ∧ Mod w3 Fm m stk.reverse [] (seen ++ [nb]) (.slice a0 stk.reverse.length cap0) mf mn ∧ (∀ k, Fs k → ¬ Fm k) ∧ (∀ k, Fs k → grow F w w3 k) ∧ (∀ k, Fm k → grow F w w3 k)) := ⟨D3, hS, hM, hd, h1, h2⟩
  have X2 : Hid ((w3.alloc (.cells #[.pointer (some ⟨nb, 0, none⟩), .int .i64 kind, .int .i64 col, .bool false] 52)).cell? ⟨m, 0, none⟩ = some (.slice a0 stk.length cap0)) := (World.cell?_alloc_past _ _ _ hmlt).trans c0
  have X3 : Hid ((w3.alloc (.cells #[.pointer (some ⟨nb, 0, none⟩), .int .i64 kind, .int .i64 col, .bool false] 52)).frozen? ⟨m, 0, none⟩ = false) := (World.frozen?_alloc_past _ _ _ hmlt).trans f0
  have X4 : Hid (m < (w3.alloc (.cells #[.pointer (some ⟨nb, 0, none⟩), .int .i64 kind, .int .i64 col, .bool false] 52)).heap.size) := by show m < _; rw [size_alloc]; omega
  have Hown : Hid ((w3.alloc (.cells #[.pointer (some ⟨nb, 0, none⟩), .int .i64 kind, .int .i64 col, .bool false] 52)).ownsRow 0 52 4 (.slice a0 stk.length cap0) stk.length (flat stk.reverse)) := by
    have := hM.srow.alloc (.cells #[.pointer (some ⟨nb, 0, none⟩), .int .i64 kind, .int .i64 col, .bool false] 52)
    rwa [hlen] at this
  have Hnews : Hid _ := mfs_news w3 nb kind col
  have Hone : Hid _ := mfs_one nb kind col
  clear hS hM hd h1 h2 D3 hlen
  refine (frameUp_any nb _ _ u3).mono ?_
  rintro e w6 ⟨rfl, rfl⟩
  go_wp2_with fail
  refine (frameKind_any nb _ _ u0).mono ?_
  rintro e w6 ⟨rfl, rfl⟩
  go_wp2_with fail
  refine (frameCol_any nb _ _ u2).mono ?_
  rintro e w6 ⟨rfl, rfl⟩
  go_wp2_with fail
  refine (frameKept_any nb _ _ u5).mono ?_
  rintro e w6 ⟨rfl, rfl⟩
  clear u0 u2 u3 u5
  go_wp2_with (at_builtin; refine wpList_append_lies _ rfl (.tmp 99) (.tmp 104) 28 rfl 0 52 i52 (.agg #[.pointer none, .int .i64 0, .int .i64 0, .bool false]) 4 32 Try.underlying28 hi52 hz520 hz521 hz522 rfl (by omega) (.slice a0 stk.length cap0) stk.length (flat stk.reverse) rfl (by exact Hown.out) ⟨w3.heap.size, 0, none⟩ 1 1 [.pointer (some ⟨nb, 0, none⟩), .int .i64 kind, .int .i64 col, .bool false] rfl rfl (by exact Hnews.out) (by exact Hone.out) (by omega) (by unfold maxLen; omega) (by omega) (Nat.zero_le _) (w3.heap.size + 1) (by simp) ?_; intro g cap3 x hown hgrow hat hlt; have k2 := hgrow.cell X2.out hmr; have e2 := (hgrow.frozen_far ⟨m, 0, none⟩ X4.out hmr).trans X3.out; have HO : Hid (x.ownsRow 0 52 4 (.slice (some ⟨g, 0, none⟩) (stk.length + 1) cap3) (stk.length + 1) (flat stk.reverse ++ [.pointer (some ⟨nb, 0, none⟩), .int .i64 kind, .int .i64 col, .bool false]) ∧ ((Value.slice a0 stk.length cap0).ownBlock = some g ∨ g = w3.heap.size + 1)) := ⟨hown, hat⟩; clear hown hat)
  go_ret
  refine ⟨rfl, nb, ?_⟩
  obtain ⟨w4, hw4⟩ : ∃ w4, w4 = x.setCell ⟨m, 0, none⟩ (.slice (some ⟨g, 0, none⟩) (stk.length + 1) cap3) := ⟨_, rfl⟩
  have D4 : Duo w F w4 s m (⟨nb, kind, col, false⟩ :: stk) [] (stk.reverse ++ [⟨nb, kind, col, false⟩]) [] (seen ++ [nb]) := by
    obtain ⟨D3, hS, hM, hd, h1, h2⟩ := H3.out
    have hlen : stk.length = stk.reverse.length := by simp
    have ho := HO.out
    rw [hlen] at hgrow ho hw4
    have := mod_stack (f := ⟨nb, kind, col, false⟩) hM hgrow ho.1 ho.2 hlt
    rw [← hw4] at this
    exact duo_mod D3 hS hd h1 h2 this.1 this.2 (fun b hb => this.1.frs b (D3.seenOk b hb))
  rw [← hw4]
  have e : (⟨nb, kind, col, false⟩ :: stk : List Fr).reverse = stk.reverse ++ [⟨nb, kind, col, false⟩] := by simp
  rw [← e] at D4
  exact ⟨D4.ext, D4.sys, hnb⟩

end Go.Proofs.Qxb6604576a
