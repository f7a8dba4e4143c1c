/-
  keep, ZZkeep, doKeep.
-/
import Derived.Test.Qxb6604576aDoPush2
namespace Go.Proofs.Qxb6604576a
open Go.RowKit
set_option linter.unusedVariables false
set_option linter.unusedSimpArgs false

def markF (f : Fr) : Fr := { f with kept := true }
/-- From the last frame down to the first that is kept already, all are marked. -/
def keepL : List Fr → List Fr
  | [] => []
  | f :: r => if f.kept then f :: r else markF f :: keepL r

theorem keepL_split (a b : List Fr) (ha : ∀ f ∈ a, f.kept = false) : keepL (a ++ b) = a.map markF ++ keepL b := by
  induction a with
  | nil => rfl
  | cons f r ih =>
    have hf := ha f (by simp)
    simp only [List.cons_append, keepL, hf, Bool.false_eq_true, if_false, List.map_cons]
    rw [ih (fun x hx => ha x (by simp [hx]))]
theorem keepL_length (l : List Fr) : (keepL l).length = l.length := by
  induction l with
  | nil => rfl
  | cons f r ih => unfold keepL; split <;> simp [ih]
theorem mk_b (l : List Fr) : (l.map markF).map Fr.b = l.map Fr.b := by
  rw [List.map_map]; rfl
theorem keepL_b (l : List Fr) : (keepL l).map Fr.b = l.map Fr.b := by
  induction l with
  | nil => rfl
  | cons f r ih => unfold keepL; split <;> simp [ih, markF]

theorem topA_mk (a : List Fr) (f : Fr) (r : List Fr) : topA (a ++ markF f :: r) = topA (a ++ f :: r) := by
  cases a <;> rfl

theorem linked_mark {w : World} {a r : List Fr} {f : Fr} (h : Linked w (a ++ f :: r)) (hn : f.b ∉ (a ++ r).map Fr.b) : Linked (w.setCell ⟨f.b, 5, none⟩ (.bool true)) (a ++ markF f :: r) := by
  induction a with
  | nil =>
    refine ⟨fr_set5 h.1 true, h.2.congr (fun x hx => hset_other _ _ _ _ (fun e => hn ?_))⟩
    exact List.mem_map.2 ⟨x, by simpa using hx, e⟩
  | cons x a ih =>
    have hne : x.b ≠ f.b := fun e => hn (List.mem_map.2 ⟨x, by simp, e⟩)
    refine ⟨?_, ih h.2 (fun hm => hn ?_)⟩
    · show _ = some (frObj x.kind x.col (topA (a ++ markF f :: r)) x.kept)
      rw [topA_mk]
      exact (hset_other _ _ _ _ hne).trans h.1
    · simp only [List.cons_append, List.map_cons, List.mem_cons]
      exact .inr hm

theorem Scan.markOne {w : World} {F : Nat → Prop} {s : Nat} {a r fre : List Fr} {f : Fr} {fv : Value} (h : Scan w F s (a ++ f :: r) fre fv) :
    Ext F w (w.setCell ⟨f.b, 5, none⟩ (.bool true)) ∧ Scan (w.setCell ⟨f.b, 5, none⟩ (.bool true)) F s (a ++ markF f :: r) fre fv := by
  have hmem : f ∈ (a ++ f :: r) ++ fre := by simp
  obtain ⟨up, hu⟩ := h.linked.some (f := f) (by simp)
  have nd := h.nodup
  have hn1 : f.b ∉ (a ++ r).map Fr.b := by
    simp only [List.map_append, List.map_cons, List.nodup_append, List.nodup_cons] at nd
    intro hm
    rw [List.map_append] at hm
    rcases List.mem_append.1 hm with hm | hm
    · exact nd.1.2.2 _ hm _ (by simp) rfl
    · exact nd.1.2.1.1 hm
  have hn2 : ∀ x ∈ fre, x.b ≠ f.b := fun x hx e => by
    simp only [List.map_append, List.map_cons, List.nodup_append] at nd
    exact nd.2.2 f.b (by simp) x.b (List.mem_map.2 ⟨x, hx, rfl⟩) e.symm
  refine ⟨(Ext.refl F w).setCell (.inl (h.Ffr f hmem)) _ (fun _ => ⟨_, _, _, _, fr_set5 hu true⟩), ?_⟩
  refine ⟨?_, ?_, linked_mark h.linked hn1, ?_, ?_, h.Fs, h.Frow, ?_, fun k hk => by rw [size_setCell]; exact h.lt k hk⟩
  · rw [topA_mk]
    exact (hset_other _ _ _ _ (h.ne_fr hmem).symm).trans h.scb
  · exact ownsRow_setCell_other (a := ⟨f.b, 5, none⟩) h.row (fun e => h.row_ne_fr hmem e.symm) _
  · intro x hx
    obtain ⟨up, hux⟩ := h.frees x hx
    exact ⟨up, (hset_other _ _ _ _ (hn2 x hx)).trans hux⟩
  · have e : ((a ++ markF f :: r) ++ fre).map Fr.b = ((a ++ f :: r) ++ fre).map Fr.b := by simp [markF]
    rw [e]; exact nd
  · intro x hx
    simp only [List.mem_append, List.mem_cons] at hx
    rcases hx with (hx | hx | hx) | hx
    · exact h.Ffr x (by simp [hx])
    · subst hx; exact h.Ffr f hmem
    · exact h.Ffr x (by simp [hx])
    · exact h.Ffr x (by simp [hx])

set_option maxHeartbeats 400000 in
theorem keep_any {w : World} {F : Nat → Prop} {s : Nat} {stk fre : List Fr} {fv : Value} (h : Scan w F s stk fre fv) (t : Option Addr) (Ht : Hid (t = topA stk)) :
    Calls Try.prog 40 #[.pointer t] w fun e w' => e = .returned (.pointer t) ∧ Ext F w w' ∧ Scan w' F s (keepL stk) fre fv := by
  go_enter Try.func40, Try.ntmps40
  go_wp2
  go_loopg [3] stk.length (fun k g wr => ∃ a b, b.length = k ∧ stk = a ++ b ∧ (∀ f ∈ a, f.kept = false) ∧ g = .pointer (topA b) ∧ Ext F w wr ∧ Scan wr F s (a.map markF ++ b) fre fv)
  case atStart => exact ⟨[], stk, rfl, rfl, by simp, by rw [Ht.out], Ext.refl _ _, h⟩
  case round =>
    obtain ⟨a, b, hk, hstk, ha, rfl, hext, hS⟩ := hrel
    have HH : Hid (b.length = gk ∧ stk = a ++ b ∧ (∀ f ∈ a, f.kept = false) ∧ Ext F w wr ∧ Scan wr F s (a.map markF ++ b) fre fv) := ⟨hk, hstk, ha, hext, hS⟩
    cases b with
    | nil =>
      rw [show topA [] = none from rfl]
      clear hk hstk ha hext hS h
      go_wp2
      go_ret
      obtain ⟨hk, hstk, ha, hext, hS⟩ := HH.out
      refine ⟨rfl, hext, ?_⟩
      rw [hstk, keepL_split a [] ha]; exact hS
    | cons f r =>
      have hb : IsFr wr f.b ∧ wr.cell? ⟨f.b, 5, none⟩ = some (.bool f.kept) ∧ wr.cell? ⟨f.b, 3, none⟩ = some (.pointer (topA r)) ∧ wr.frozen? ⟨f.b, 5, none⟩ = false := by
        have hl : Linked wr (f :: r) := by
          have := hS.linked.drop (a.map markF).length
          rwa [List.drop_left] at this
        exact ⟨⟨_, _, _, _, hl.1⟩, fr5 hl.1, fr3 hl.1, frf hl.1 5⟩
      obtain ⟨_, c5, c3, f5⟩ := hb
      rw [topA_cons]
      clear hk hstk ha hext hS h
      obtain ⟨u, hu⟩ : ∃ u, u = topA r := ⟨_, rfl⟩
      rw [← hu] at c3
      have Hu : Hid (u = topA r) := hu
      clear hu
      cases hkf : f.kept with
      | true =>
        rw [hkf] at c5
        go_wp2
        go_ret
        obtain ⟨hk, hstk, ha, hext, hS⟩ := HH.out
        refine ⟨rfl, hext, ?_⟩
        rw [hstk, keepL_split a _ ha]
        simp only [keepL, hkf, if_true]
        exact hS
      | false =>
        rw [hkf] at c5
        go_wp2
        go_roundg r.length
        case measure => have := HH.out.1; simp at this; omega
        case rel =>
          obtain ⟨hk, hstk, ha, hext, hS⟩ := HH.out
          have hm := hS.markOne
          refine ⟨a ++ [f], r, rfl, by rw [hstk]; simp, ?_, by rw [Hu.out], hext.step hm.1 (fun _ h => .inl h), ?_⟩
          · intro x hx
            rcases List.mem_append.1 hx with hx | hx
            · exact ha x hx
            · simp at hx; subst hx; exact hkf
          · have e : (a ++ [f]).map markF ++ r = a.map markF ++ markF f :: r := by simp
            rw [e]; exact hm.2

theorem zkeep_any {w : World} {F : Nat → Prop} {s : Nat} {stk fre : List Fr} {fv : Value} (h : Scan w F s stk fre fv) :
    Calls Try.prog 39 #[.pointer (some ⟨s, 0, none⟩)] w fun e w' => e = .returned (.tuple #[]) ∧ Ext F w w' ∧ Scan w' F s (keepL stk) fre fv := by
  have h7 := sc7 h.scb
  obtain ⟨t, ht⟩ : ∃ t, t = topA stk := ⟨_, rfl⟩
  have hp := keep_any h t ht
  rw [← ht] at h7
  clear h ht
  go_enter Try.func39, Try.ntmps39
  go_wp2_with (go_at_call 40; refine hp.mono ?_; rintro e w' ⟨rfl, hw⟩)
  go_end0
  exact ⟨rfl, hw⟩

set_option maxHeartbeats 1000000 in
theorem doKeep_any {w : World} {F : Nat → Prop} {s m : Nat} {stk fre : List Fr} {seen : List Nat} (h : Sys w F s m stk fre seen) (hn : stk.length ≤ 5000) :
    Calls Try.prog 34 #[.pointer (some ⟨s, 0, none⟩), .pointer (some ⟨m, 0, none⟩)] w fun e w' => e = .returned (.tuple #[]) ∧ Ext F w w' ∧ Sys w' (grow F w w') s m (keepL stk) fre seen := by
  have D := h.duo
  obtain ⟨Fs, Fm, fv, sv, mf, mn, hS, hM, hd, h1, h2⟩ := D.ex
  have hp := zkeep_any hS
  have HD0 : Hid (Duo w F w s m stk fre stk.reverse (fre.map Fr.b) seen ∧ Mod w Fm m stk.reverse (fre.map Fr.b) seen sv mf mn ∧ (∀ k, Fs k → ¬ Fm k) ∧ (∀ k, Fs k → grow F w w k) ∧ (∀ k, Fm k → grow F w w k) ∧ (∀ k, Fs k → k < w.heap.size)) := ⟨D, hM, hd, h1, h2, hS.lt⟩
  clear h D hS hM hd h1 h2
  go_enter Try.func34, Try.ntmps34
  go_wp2_with fail
  refine hp.mono ?_
  rintro e w1 ⟨rfl, he, hS⟩
  clear hp
  have D1 : Duo w F w1 s m (keepL stk) fre stk.reverse (fre.map Fr.b) seen := by
    obtain ⟨D, hM, hd, h1, h2, hlt⟩ := HD0.out
    exact duo_scan (fv := fv) D hM hd h1 h2 he (hS.mono (fun k hk => .inl hk) (grow_lt hlt he.size))
  clear HD0 he hS
  have c0 : ∃ a cap, w1.cell? ⟨m, 0, none⟩ = some (.slice a stk.length cap) := by
    obtain ⟨Fs, Fm, fv, sv, mf, mn, hS, hM, hd, h1, h2⟩ := D1.ex
    obtain ⟨a, cap, hv, _⟩ := row_form hM.srow
    exact ⟨a, cap, by rw [mo0 hM.mob, hv]; simp⟩
  obtain ⟨a, cap, c0⟩ := c0
  have HD1 : Hid (Duo w F w1 s m (keepL stk) fre stk.reverse (fre.map Fr.b) seen) := D1
  clear D1
  go_wp2_with fail
  clear c0
  go_loopg [4] stk.length (fun k j wr => ∃ a b, b.length = k ∧ stk = a ++ b ∧ (∀ f ∈ a, f.kept = false) ∧ j = .int .i64 ((k : Int) - 1) ∧ Duo w F wr s m (keepL stk) fre (a.map markF ++ b).reverse (fre.map Fr.b) seen)
  case atStart => exact ⟨[], stk, rfl, rfl, by simp, rfl, HD1.out⟩
  case round =>
    obtain ⟨a, b, hk, hstk, ha, rfl, D⟩ := hrel
    have HH : Hid (b.length = gk ∧ stk = a ++ b ∧ (∀ f ∈ a, f.kept = false) ∧ Duo w F wr s m (keepL stk) fre (a.map markF ++ b).reverse (fre.map Fr.b) seen) := ⟨hk, hstk, ha, D⟩
    cases b with
    | nil =>
      subst hk
      have hlt : ¬ (0 : Int) ≤ (([] : List Fr).length : Int) - 1 := by simp
      clear hstk ha D
      go_wp2
      go_end0
      obtain ⟨hk, hstk, ha, D⟩ := HH.out
      have e : keepL stk = a.map markF ++ [] := by rw [hstk, keepL_split a [] ha]; rfl
      rw [← e] at D
      exact ⟨rfl, D.ext, D.sys⟩
    | cons f r =>
      subst hk
      obtain ⟨Fs, Fm, fv, sv, mf, mn, hS, hM, hd, h1, h2⟩ := D.ex
      have hj : (a.map markF ++ f :: r).reverse[r.length]? = some f := by simp
      have hlen : (a.map markF ++ f :: r).reverse.length = stk.length := by rw [hstk]; simp; omega
      obtain ⟨g, cap, hv, _⟩ := hM.srow.form (by simp; omega)
      subst hv
      rw [hlen] at hM
      have c0 := mo0 hM.mob
      have hrl : r.length < stk.length := by rw [hstk]; simp; omega
      have c3 : wr.cell? ⟨g, r.length * 4 + 3, none⟩ = some (.bool f.kept) := by
        rw [← hlen] at hM
        rw [hM.srow.cellAt (r.length * 4 + 3) (by rw [hlen]; omega)]
        exact flat_get hj 3 (by omega)
      have f3 : wr.frozen? ⟨g, r.length * 4 + 3, none⟩ = false := by
        rw [← hlen] at hM
        exact hM.srow.frozenAt _
      obtain ⟨n, hnn⟩ : ∃ n, n = r.length := ⟨_, rfl⟩
      rw [← hnn] at c3 f3 hrl
      have ej : (((f :: r).length : Nat) : Int) - 1 = n := by simp [hnn]
      rw [ej]
      have i0 : (0 : Int) ≤ n := by omega
      have i1 : (n : Int) < stk.length := by omega
      have HM : Hid (Scan wr Fs s (keepL stk) fre fv ∧ Mod wr Fm m (a.map markF ++ f :: r).reverse (fre.map Fr.b) seen (.slice (some ⟨g, 0, none⟩) (a.map markF ++ f :: r).reverse.length cap) mf mn ∧ (∀ k, Fs k → ¬ Fm k) ∧ (∀ k, Fs k → grow F w wr k) ∧ (∀ k, Fm k → grow F w wr k) ∧ n = r.length ∧ (a.map markF ++ f :: r).reverse[r.length]? = some f) := ⟨hS, by rw [hlen]; exact hM, hd, h1, h2, hnn, hj⟩
      clear hS hM hd h1 h2 hnn hj hlen D hstk ha ej
      cases hkf : f.kept with
      | true =>
        rw [hkf] at c3
        go_wp2
        go_end0
        obtain ⟨hk, hstk, ha, D⟩ := HH.out
        have e : keepL stk = a.map markF ++ f :: r := by rw [hstk, keepL_split a _ ha]; simp [keepL, hkf]
        rw [← e] at D
        exact ⟨rfl, D.ext, D.sys⟩
      | false =>
        rw [hkf] at c3
        go_wp2
        go_roundg n
        case measure => have := HM.out.2.2.2.2.2.1; simp; omega
        case rel =>
          obtain ⟨hk, hstk, ha, D⟩ := HH.out
          obtain ⟨hS, hM, hd, h1, h2, hnn, hj⟩ := HM.out
          refine ⟨a ++ [f], r, hnn.symm, by rw [hstk]; simp, ?_, rfl, ?_⟩
          · intro x hx
            rcases List.mem_append.1 hx with hx | hx
            · exact ha x hx
            · simp at hx; subst hx; exact hkf
          · have hm := hM.mark hj
            rw [← hnn] at hm
            have e : (a.map markF ++ f :: r).reverse.set n (markF f) = ((a ++ [f]).map markF ++ r).reverse := by
              rw [hnn]
              simp only [List.reverse_append, List.reverse_cons, List.map_append, List.map_cons, List.map_nil, List.append_assoc, List.reverse_nil, List.nil_append, List.singleton_append, List.cons_append]
              rw [List.set_append_right _ _ (by simp)]
              simp
            have hE : Ext Fm wr (wr.setCell ⟨g, n * 4 + 3, none⟩ (.bool true)) := (Ext.refl _ _).setCell (.inl (hM.Fsv g rfl)) _ (fun q => absurd q (rowv_not_fr hM.srow (by decide) g rfl))
            refine duo_mod D hS hd h1 h2 hE ?_ (fun b hb => hE.frs b (D.seenOk b hb)) (sv' := .slice (some ⟨g, 0, none⟩) (a.map markF ++ f :: r).reverse.length cap) (mf' := mf) (mn' := mn)
            rw [← e]
            exact hm.mono (fun k hk => .inl hk) (grow_lt hM.lt hE.size)

end Go.Proofs.Qxb6604576a
