/-
  cut: the walk and what becomes of the scanner.
-/
import Derived.Test.Qxb6604576aPtr
import Derived.Deep.LoopGhost
import Derived.Deep.RegionLaw
import Derived.Deep.DrawnRows
namespace Go.Proofs.Qxb6604576a
open Go.RowKit
set_option linter.unusedVariables false
set_option linter.unusedSimpArgs false

/-- Of the first i frames those that nothing keeps. -/
def cutL (stk : List Fr) (i : Nat) : List Fr := (stk.take i).filter (fun f => !f.kept)

theorem cutL_zero (stk : List Fr) : cutL stk 0 = [] := by simp [cutL]
theorem cutL_succ {stk : List Fr} {i : Nat} {f : Fr} (h : stk[i]? = some f) : cutL stk (i + 1) = cutL stk i ++ (if f.kept then [] else [f]) := by
  unfold cutL
  rw [List.take_add_one, h, List.filter_append]
  cases hk : f.kept <;> simp [hk]
theorem cutL_le (stk : List Fr) (i : Nat) : (cutL stk i).length ≤ i := by
  unfold cutL
  exact Nat.le_trans (List.length_filter_le _ _) (List.length_take_le _ _)

theorem topA_cons (f : Fr) (r : List Fr) : topA (f :: r) = some ⟨f.b, 0, none⟩ := rfl

theorem topA_ok {w : World} {l : List Fr} (h : Linked w l) : PtrOk w (topA l) := by
  intro a ha
  cases l with
  | nil => cases ha
  | cons f r =>
    cases ha
    exact ⟨_, _, _, _, h.1⟩

theorem drop_cons {stk : List Fr} {i : Nat} (hi : i < stk.length) : ∃ f, stk.drop i = f :: stk.drop (i + 1) ∧ stk[i]? = some f :=
  ⟨stk[i], List.drop_eq_getElem_cons hi, by simp [hi]⟩

theorem topA_ne {f : Fr} {r l : List Fr} (hn : f.b ∉ r.map Fr.b) (hl : ∀ x ∈ l, x ∈ r) : topA (f :: r) ≠ topA l := by
  cases l with
  | nil => simp [topA]
  | cons x y =>
    intro e
    simp only [topA, Option.some.injEq, Addr.mk.injEq] at e
    exact hn (List.mem_map.2 ⟨x, hl x (by simp), e.1.symm⟩)

theorem Scan.row_ne {w : World} {F : Nat → Prop} {s : Nat} {stk fre : List Fr} {fv : Value} (h : Scan w F s stk fre fv) : some s ≠ fv.ownBlock := by
  rcases h.row.2 with ⟨e, _⟩ | ⟨g, cap, cur, e, _, hh, _⟩
  · rw [e]; simp [Value.ownBlock]
  · rw [e]; simp only [Value.ownBlock, ne_eq, Option.some.injEq]; exact sc_ne_row h.scb hh

theorem Scan.row_ne_fr {w : World} {F : Nat → Prop} {s : Nat} {stk fre : List Fr} {fv : Value} (h : Scan w F s stk fre fv) {f : Fr} (hf : f ∈ stk ++ fre) : some f.b ≠ fv.ownBlock := by
  have : ∃ up, w.heap[f.b]? = some (frObj f.kind f.col up f.kept) := by
    rcases List.mem_append.1 hf with hf | hf
    · exact h.linked.some hf
    · exact h.frees f hf
  obtain ⟨up, hu⟩ := this
  rcases h.row.2 with ⟨e, _⟩ | ⟨g, cap, cur, e, _, hh, _⟩
  · rw [e]; simp [Value.ownBlock]
  · rw [e]; simp only [Value.ownBlock, ne_eq, Option.some.injEq]; exact fr_ne_row hu hh

theorem Scan.ne_fr {w : World} {F : Nat → Prop} {s : Nat} {stk fre : List Fr} {fv : Value} (h : Scan w F s stk fre fv) {f : Fr} (hf : f ∈ stk ++ fre) : f.b ≠ s := by
  rcases List.mem_append.1 hf with hf | hf
  · obtain ⟨up, hu⟩ := h.linked.some hf
    exact (sc_ne_fr h.scb hu).symm
  · obtain ⟨up, hu⟩ := h.frees f hf
    exact (sc_ne_fr h.scb hu).symm

/-- A kept frame is taken off the path. -/
theorem scan_cut_kept {w : World} {G : Nat → Prop} {s : Nat} {f : Fr} {r fre : List Fr} {fv : Value} (h : Scan w G s (f :: r) fre fv) :
    Scan (w.setCell ⟨s, 7, none⟩ (.pointer (topA r))) G s r fre fv where
  scb := sc_set7 h.scb _
  row := ownsRow_setCell_other h.row (fun e => h.row_ne e.symm) _
  linked := h.linked.2.congr (fun x hx => hset_other _ _ _ _ (h.ne_fr (f := x) (by simp [hx])))
  frees := fun x hx => by
    obtain ⟨up, hu⟩ := h.frees x hx
    exact ⟨up, (hset_other _ _ _ _ (h.ne_fr (f := x) (by simp [hx]))).trans hu⟩
  nodup := by
    have := h.nodup
    simp only [List.cons_append, List.map_cons, List.nodup_cons] at this
    exact this.2
  Fs := h.Fs
  Frow := h.Frow
  Ffr := fun x hx => h.Ffr x (by simp only [List.cons_append, List.mem_cons]; exact .inr hx)
  lt := fun k hk => by rw [size_setCell]; exact h.lt k hk

/-- A frame that nothing keeps is taken off the path and joins the free ones. -/
theorem scan_cut_free {w w1 : World} {G G' : Nat → Prop} {s : Nat} {f : Fr} {r fre : List Fr} {fv : Value} (h : Scan w G s (f :: r) fre fv) {g cap : Nat}
    (hown : w1.ownsRow 0 37 1 (.slice (some ⟨g, 0, none⟩) (fre.length + 1) cap) (fre.length + 1) (fre.map (fun f => ptrB f.b) ++ [ptrB f.b]))
    (hold : ∀ k, k < w.heap.size → some k ≠ fv.ownBlock → w1.heap[k]? = w.heap[k]?)
    (hsz : w.heap.size ≤ w1.heap.size) (hGG : ∀ k, G k → G' k) (hg : G' g) (hlt : ∀ k, G' k → k < w1.heap.size) :
    Scan ((w1.setCell ⟨s, 8, none⟩ (.slice (some ⟨g, 0, none⟩) (fre.length + 1) cap)).setCell ⟨s, 7, none⟩ (.pointer (topA r))) G' s r (fre ++ [f]) (.slice (some ⟨g, 0, none⟩) (fre.length + 1) cap) := by
  have hs1 : w1.heap[s]? = some (scObj (topA (f :: r)) fv) := (hold s (h.lt s h.Fs) h.row_ne).trans h.scb
  have hgs : s ≠ g := by
    obtain ⟨cur, hcur⟩ := row_block hown
    exact sc_ne_row hs1 hcur
  have keep : ∀ x ∈ (f :: r) ++ fre, ((w1.setCell ⟨s, 8, none⟩ (.slice (some ⟨g, 0, none⟩) (fre.length + 1) cap)).setCell ⟨s, 7, none⟩ (.pointer (topA r))).heap[x.b]? = w.heap[x.b]? := fun x hx => by
    rw [hset_other _ _ _ _ (h.ne_fr hx), hset_other _ _ _ _ (h.ne_fr hx)]
    exact hold _ (h.lt _ (h.Ffr x hx)) (h.row_ne_fr hx)
  refine ⟨?_, ?_, ?_, ?_, ?_, hGG _ h.Fs, ?_, ?_, ?_⟩
  · exact sc_set7 (sc_set8 hs1 _) _
  · have e1 : (fre ++ [f]).length = fre.length + 1 := by simp
    have e2 : (fre ++ [f]).map (fun f => ptrB f.b) = fre.map (fun f => ptrB f.b) ++ [ptrB f.b] := by simp
    rw [e1, e2]
    refine ownsRow_setCell_other (ownsRow_setCell_other hown ?_ _) ?_ _
    · simp only [Value.ownBlock, ne_eq, Option.some.injEq]; exact fun e => hgs e.symm
    · simp only [Value.ownBlock, ne_eq, Option.some.injEq]; exact fun e => hgs e.symm
  · exact h.linked.2.congr (fun x hx => keep x (by simp [hx]))
  · intro x hx
    rcases List.mem_append.1 hx with hx | hx
    · obtain ⟨up, hu⟩ := h.frees x hx
      exact ⟨up, (keep x (by simp [hx])).trans hu⟩
    · simp only [List.mem_singleton] at hx
      subst hx
      exact ⟨_, (keep x (by simp)).trans h.linked.1⟩
  · have := h.nodup
    simp only [List.cons_append, List.map_cons, List.nodup_cons] at this
    rw [← List.append_assoc, List.map_append, List.nodup_append]
    refine ⟨this.2, by simp, ?_⟩
    intro a ha b hb e
    simp only [List.map_cons, List.map_nil, List.mem_singleton] at hb
    subst hb; subst e
    exact this.1 ha
  · intro k hk
    simp only [Value.ownBlock, Option.some.injEq] at hk
    subst hk
    exact hg
  · intro x hx
    refine hGG _ (h.Ffr x ?_)
    simp only [List.mem_append, List.mem_cons, List.mem_singleton] at hx ⊢
    rcases hx with hx | hx | hx
    · exact .inl (.inr hx)
    · exact .inr hx
    · exact .inl (.inl (by simpa using hx))
  · intro k hk
    rw [size_setCell, size_setCell]
    exact hlt k hk

/-! ### The two ways of a round -/
theorem cut_rel_kept {w wr : World} {F : Nat → Prop} {s : Nat} {stk fre : List Fr} {f : Fr} {i k j : Nat} {fv : Value} {u : Option Addr} (hik : i + (k + 1) = j) (hf : stk[i]? = some f) (hk : f.kept = true)
    (hext : Ext F w wr) (hS : Scan wr (grow F w wr) s (f :: stk.drop (i + 1)) (fre ++ cutL stk i) fv) (Fs : F s) (Flt : ∀ k, F k → k < w.heap.size) (hu : u = topA (stk.drop (i + 1))) :
    ∃ i' fv', i' + k = j ∧ Ext F w (wr.setCell ⟨s, 7, none⟩ (.pointer u)) ∧ Scan (wr.setCell ⟨s, 7, none⟩ (.pointer u)) (grow F w (wr.setCell ⟨s, 7, none⟩ (.pointer u))) s (stk.drop i') (fre ++ cutL stk i') fv' := by
  refine ⟨i + 1, fv, by omega, hext.setCell (.inl Fs) _ (fun h => absurd h (sc_not_fr hS.scb)), ?_⟩
  rw [hu, cutL_succ hf, hk, if_pos rfl, List.append_nil]
  exact (scan_cut_kept hS).mono (fun k hk => by rcases hk with hk | ⟨h1, h2⟩; exact .inl hk; exact .inr ⟨h1, by rw [size_setCell]; exact h2⟩) (grow_lt Flt (by rw [size_setCell]; exact hext.size))

theorem cut_rel_free {w wr w1 : World} {F : Nat → Prop} {s : Nat} {stk fre : List Fr} {f : Fr} {i k j n g cap : Nat} {fv : Value} {u : Option Addr} {o : Obj} {xs : List Value} (hik : i + (k + 1) = j) (hf : stk[i]? = some f) (hk : f.kept = false)
    (hext : Ext F w wr) (hS : Scan wr (grow F w wr) s (f :: stk.drop (i + 1)) (fre ++ cutL stk i) fv) (Fs : F s) (Flt : ∀ k, F k → k < w.heap.size) (hu : u = topA (stk.drop (i + 1)))
    (hn : n = (fre ++ cutL stk i).length) (hxs : xs = (fre ++ cutL stk i).map (fun f => ptrB f.b))
    (hown : w1.ownsRow 0 37 1 (.slice (some ⟨g, 0, none⟩) (n + 1) cap) (n + 1) (xs ++ [.pointer (some ⟨f.b, 0, none⟩)])) (hgrow : ((wr.alloc o).drew).grownBy w1 fv.ownBlock) (hat : fv.ownBlock = some g ∨ g = wr.heap.size + 1) (hlt : g < w1.heap.size) :
    ∃ i' fv', i' + k = j ∧ Ext F w ((w1.setCell ⟨s, 8, none⟩ (.slice (some ⟨g, 0, none⟩) (n + 1) cap)).setCell ⟨s, 7, none⟩ (.pointer u)) ∧
      Scan ((w1.setCell ⟨s, 8, none⟩ (.slice (some ⟨g, 0, none⟩) (n + 1) cap)).setCell ⟨s, 7, none⟩ (.pointer u)) (grow F w ((w1.setCell ⟨s, 8, none⟩ (.slice (some ⟨g, 0, none⟩) (n + 1) cap)).setCell ⟨s, 7, none⟩ (.pointer u))) s (stk.drop i') (fre ++ cutL stk i') fv' := by
  have hsz0 : wr.heap.size + 1 ≤ w1.heap.size := by have := hgrow.size; rw [show ((wr.alloc o).drew).heap.size = wr.heap.size + 1 from size_alloc _ _] at this; exact this
  have hle := hext.size
  have hrowF : ∀ k, fv.ownBlock = some k → F k ∨ w.heap.size ≤ k := fun k hk => by
    rcases hS.Frow k hk with h | h
    · exact .inl h
    · exact .inr h.1
  have hrowN : ∀ k, fv.ownBlock = some k → ¬ IsFr ((wr.alloc o).drew) k := fun k hk h => by
    rcases hS.row.2 with ⟨e, _⟩ | ⟨g', cap', cur, e, _, hh, _⟩
    · rw [e] at hk; cases hk
    · rw [e] at hk
      simp only [Value.ownBlock, Option.some.injEq] at hk
      subst hk
      exact row_not_fr (show ((wr.alloc o).drew).heap[g']? = some (.cells cur 37 (0, 0)) from (halloc_old _ _ _ (lt_of_block hh)).trans hh) (by decide) h
  have hs1 : w1.heap[s]? = some (scObj (topA (f :: stk.drop (i + 1))) fv) := (hgrow.block s (by show s < (wr.alloc o).heap.size; rw [size_alloc]; have := lt_of_block hS.scb; omega) hS.row_ne).trans ((halloc_old _ _ _ (lt_of_block hS.scb)).trans hS.scb)
  refine ⟨i + 1, .slice (some ⟨g, 0, none⟩) (n + 1) cap, by omega, (((hext.alloc o).drew.grown hgrow hrowF hrowN).setCell (.inl Fs) _ (fun h => absurd h (sc_not_fr hs1))).setCell (.inl Fs) _ (fun h => absurd h (sc_not_fr (sc_set8 hs1 _))), ?_⟩
  rw [hu, cutL_succ hf, hk, if_neg (by simp), ← List.append_assoc]
  subst hn hxs
  refine scan_cut_free hS hown (fun k hk hr => ?_) (by omega) (fun k hk => ?_) ?_ ?_
  · rw [hgrow.block k (by show k < (wr.alloc o).heap.size; rw [size_alloc]; omega) hr]
    exact halloc_old _ _ _ hk
  · rcases hk with hk | ⟨h1, h2⟩
    · exact .inl hk
    · exact .inr ⟨h1, by rw [size_setCell, size_setCell]; omega⟩
  · rcases hat with h | h
    · rcases hrowF g h with h | h
      · exact .inl h
      · exact .inr ⟨h, by rw [size_setCell, size_setCell]; exact hlt⟩
    · exact .inr ⟨by omega, by rw [size_setCell, size_setCell]; exact hlt⟩
  · intro k hk
    have := grow_lt Flt (x := (w1.setCell ⟨s, 8, none⟩ (.slice (some ⟨g, 0, none⟩) ((fre ++ cutL stk i).length + 1) cap)).setCell ⟨s, 7, none⟩ (.pointer (topA (List.drop (i + 1) stk)))) (by rw [size_setCell, size_setCell]; omega) k hk
    rwa [size_setCell, size_setCell] at this

attribute [local go_sem ↓] Go.wp_at_zero Go.wp_at_succ

set_option maxHeartbeats 1000000 in
theorem cut_any (s : Nat) (w : World) (F : Nat → Prop) (stk fre : List Fr) (fv : Value) (h : Scan w F s stk fre fv) (j : Nat) (hj : j ≤ stk.length) (hN : stk.length + fre.length ≤ 5000) (t : Option Addr) (Ht : Hid (t = topA (stk.drop j))) :
    Calls Try.prog 38 #[.pointer (some ⟨s, 0, none⟩), .pointer t] w fun e w' => e = .returned (.tuple #[]) ∧ ∃ fv', Ext F w w' ∧ Scan w' (grow F w w') s (stk.drop j) (fre ++ cutL stk j) fv' := by
  obtain ⟨i0, hi, hz0, hz1, hz2⟩ := info_parts Try.info37
  go_enter Try.func38, Try.ntmps38
  go_wp2
  go_loopg [] j (fun k wr => ∃ i fv', i + k = j ∧ Ext F w wr ∧ Scan wr (grow F w wr) s (stk.drop i) (fre ++ cutL stk i) fv')
  case atStart =>
    refine ⟨0, fv, by omega, Ext.refl _ _, ?_⟩
    rw [cutL_zero, List.append_nil, List.drop_zero]
    exact h.mono (fun k hk => .inl hk) (grow_lt h.lt (Nat.le_refl _))
  case round =>
    obtain ⟨i, fv', hik, hext, hS⟩ := hrel
    have hq : (binOp .neq 37 (.pointer (topA (stk.drop i))) (.pointer t)).run Try.prog wr = .ok (.bool (!decide (topA (stk.drop i) = t))) wr := run_neq_frames (topA_ok hS.linked) (Ht.out ▸ topA_ok (by have := hS.linked.drop (j - i); rw [List.drop_drop] at this; rwa [show i + (j - i) = j from by omega] at this))
    have Fs : F s := h.Fs
    have Flt := h.lt
    cases gk with
    | zero =>
      have e : i = j := by omega
      subst e
      have h7 := sc7 hS.scb
      rw [show (!decide (topA (List.drop i stk) = t)) = false by simp [Ht.out]] at hq
      obtain ⟨p, hp⟩ : ∃ p, p = topA (List.drop i stk) := ⟨_, rfl⟩
      rw [← hp] at h7 hq
      have HS : Hid (Ext F w wr ∧ Scan wr (grow F w wr) s (stk.drop i) (fre ++ cutL stk i) fv') := ⟨hext, hS⟩
      clear hS hext hp h Flt
      go_wp2
      go_end0
      exact ⟨rfl, fv', HS.out⟩
    | succ k =>
      have hil : i < stk.length := by omega
      obtain ⟨f, hdr, hf⟩ := drop_cons hil
      rw [hdr] at hS
      have hl := hS.linked
      have h7 := sc7 hS.scb
      rw [hdr] at hq
      have hne : (!decide (topA (f :: List.drop (i + 1) stk) = t)) = true := by
        have nd := hS.nodup
        simp only [List.cons_append, List.map_cons, List.nodup_cons, List.map_append] at nd
        have : topA (f :: List.drop (i + 1) stk) ≠ topA (stk.drop j) := topA_ne (fun hm => nd.1 (List.mem_append_left _ hm)) (fun x hx => by
          have e : stk.drop j = (stk.drop (i + 1)).drop k := by rw [List.drop_drop, show i + 1 + k = j from by omega]
          rw [e] at hx
          exact List.mem_of_mem_drop hx)
        rw [← Ht.out] at this
        simp [this]
      rw [hne] at hq
      obtain ⟨a, cap, hfv, hlc, hcm⟩ := hS.form
      subst hfv
      have h8 := sc8 hS.scb
      have f7 := scf hS.scb 7
      have f8 := scf hS.scb 8
      have h5 := fr5 hl.1
      have h3 := fr3 hl.1
      rw [topA_cons] at h7 hq
      have hrow := hS.row
      have hsr := hS.row_ne
      have hfr := hS.row_ne_fr (f := f) (by simp)
      obtain ⟨n, hn⟩ : ∃ n, n = (fre ++ cutL stk i).length := ⟨_, rfl⟩
      obtain ⟨xs, hxs⟩ : ∃ xs, xs = (fre ++ cutL stk i).map (fun f => ptrB f.b) := ⟨_, rfl⟩
      obtain ⟨u, hu⟩ : ∃ u, u = topA (stk.drop (i + 1)) := ⟨_, rfl⟩
      have hn5 : n ≤ 5000 := by
        have := cutL_le stk i
        rw [hn, List.length_append]; omega
      rw [← hn, ← hxs] at hrow
      rw [← hn] at h8 hlc hsr hfr
      rw [← hu] at h3
      have hslt := lt_of_block hS.scb
      have hflt := lt_of_block hl.1
      have hsf : s ≠ f.b := sc_ne_fr hS.scb hl.1
      have HH : Hid (stk[i]? = some f ∧ n = (fre ++ cutL stk i).length ∧ xs = (fre ++ cutL stk i).map (fun f => ptrB f.b) ∧ u = topA (stk.drop (i + 1)) ∧ Ext F w wr ∧ Scan wr (grow F w wr) s (f :: stk.drop (i + 1)) (fre ++ cutL stk i) (Value.slice a (fre ++ cutL stk i).length cap) ∧ F s ∧ ∀ k, F k → k < w.heap.size) := ⟨hf, hn, hxs, hu, hext, hS, Fs, Flt⟩
      clear hdr hf hne hn hxs hu hS hext hl h Fs Flt
      cases hk : f.kept with
      | true =>
        rw [hk] at h5
        go_wp2
        go_roundg k
        case measure => omega
        case rel =>
          obtain ⟨hf, hn, hxs, hu, hext, hS, Fs, Flt⟩ := HH.out
          exact cut_rel_kept hik hf hk hext hS Fs Flt hu
      | false =>
        rw [hk] at h5
        have X7 : Hid (((wr.alloc (.cells #[.pointer (some ⟨f.b, 0, none⟩)] 37)).drew).cell? ⟨s, 7, none⟩ = some (.pointer (some ⟨f.b, 0, none⟩))) := (World.cell?_alloc_past _ _ _ hslt).trans h7
        have X8 : Hid (((wr.alloc (.cells #[.pointer (some ⟨f.b, 0, none⟩)] 37)).drew).cell? ⟨s, 8, none⟩ = some (.slice a n cap)) := (World.cell?_alloc_past _ _ _ hslt).trans h8
        have X3 : Hid (((wr.alloc (.cells #[.pointer (some ⟨f.b, 0, none⟩)] 37)).drew).cell? ⟨f.b, 3, none⟩ = some (.pointer u)) := (World.cell?_alloc_past _ _ _ hflt).trans h3
        have X9 : Hid (s < ((wr.alloc (.cells #[.pointer (some ⟨f.b, 0, none⟩)] 37)).drew).heap.size) := by show s < _; simp; omega
        have X10 : Hid (∀ o, ((wr.alloc (.cells #[.pointer (some ⟨f.b, 0, none⟩)] 37)).drew).frozen? ⟨s, o, none⟩ = false) := fun o => (World.frozen?_alloc_past _ _ _ hslt).trans (scf HH.out.2.2.2.2.2.1.scb o)
        have Hown : Hid (((wr.alloc (.cells #[.pointer (some ⟨f.b, 0, none⟩)] 37)).drew).ownsRow 0 37 1 (.slice a n cap) n xs) := (hrow.alloc _).drew
        have Hnews : Hid (∀ j u, [Value.pointer (some ⟨f.b, 0, none⟩)][j]? = some u → ((wr.alloc (.cells #[.pointer (some ⟨f.b, 0, none⟩)] 37)).drew).cell? ((⟨wr.heap.size, 0, none⟩ : Addr).add j) = some u) := by
          intro j u hj
          match j, hj with
          | 0, hj => simp at hj; subst hj; simp [Addr.add]
        clear hrow
        go_wp2
        go_region_law ((refine step_append_lies _ (by rfl) _ _ _ (by rfl) 0 37 i0 (.pointer none) 1 8 Try.underlying29 hi hz0 hz1 hz2 rfl (by omega) (.slice a n cap) n xs (by rfl) (by exact Hown.out) ⟨wr.heap.size, 0, none⟩ 1 1 [.pointer (some ⟨f.b, 0, none⟩)] (by rfl) rfl (by exact Hnews.out) (by intro u hu; simp at hu; subst hu; rfl) (by omega) (by unfold maxLen; omega) (by omega) (Nat.zero_le _) (wr.heap.size + 1) (by simp) ?_; intro g cap1 w1 hown hgrow hat hlt; have k7 := hgrow.cell X7.out hsr; have k8 := hgrow.cell X8.out hsr; have k3 := hgrow.cell X3.out hfr; have e8 := (hgrow.frozen_far ⟨s, 8, none⟩ X9.out hsr).trans (X10.out 8); have e7 := (hgrow.frozen_far ⟨s, 7, none⟩ X9.out hsr).trans (X10.out 7); have HO : Hid (w1.ownsRow 0 37 1 (.slice (some ⟨g, 0, none⟩) (n + 1) cap1) (n + 1) (xs ++ [.pointer (some ⟨f.b, 0, none⟩)]) ∧ ((Value.slice a n cap).ownBlock = some g ∨ g = wr.heap.size + 1)) := ⟨hown, hat⟩; clear hown hat))
        all_goals go_wp2
        all_goals go_roundg k
        all_goals first
          | omega
          | (obtain ⟨hf, hn, hxs, hu, hext, hS, Fs, Flt⟩ := HH.out; exact cut_rel_free hik hf hk hext hS Fs Flt hu hn hxs HO.out.1 (hn ▸ hgrow) (hn ▸ HO.out.2) hlt)

end Go.Proofs.Qxb6604576a
