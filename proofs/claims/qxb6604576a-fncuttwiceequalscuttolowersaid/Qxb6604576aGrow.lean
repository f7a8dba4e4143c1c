/-
  What an append does to the record, and the scanner and the record side by side.
-/
import Derived.Test.Qxb6604576aModel
namespace Go.Proofs.Qxb6604576a
open Go.RowKit
set_option linter.unusedVariables false
set_option linter.unusedSimpArgs false

theorem undrew {x y : World} {row : Option Nat} (h : x.drew.grownBy y row) : x.grownBy y row := ⟨h.os, h.tape, h.output, h.size, h.block⟩
theorem app_hold {w x : World} {o : Obj} {row : Option Nat} (hg : (w.alloc o).grownBy x row) : ∀ k, k < w.heap.size → some k ≠ row → x.heap[k]? = w.heap[k]? := fun k hk hr => by
  rw [hg.block k (by rw [size_alloc]; omega) hr]; exact halloc_old _ _ _ hk
theorem app_size {w x : World} {o : Obj} {row : Option Nat} (hg : (w.alloc o).grownBy x row) : w.heap.size + 1 ≤ x.heap.size := by
  have := hg.size; rwa [size_alloc] at this
theorem mo_not_fr {w : World} {m : Nat} {a b c : Value} (h : w.heap[m]? = some (moObj a b c)) : ¬ IsFr w m := row_not_fr (e := 31) h (by decide)
theorem rowv_not_fr {w : World} {base : Nat} {e : TypeId} {size : Nat} {v : Value} {n : Nat} {xs : List Value} (h : w.ownsRow base e size v n xs) (he : e ≠ 74) : ∀ k, v.ownBlock = some k → ¬ IsFr w k := fun k hk => by
  obtain ⟨cur, hc⟩ := row_obj h hk
  exact row_not_fr hc he

/-- The world behind an append onto one of the record's rows and the store of the new slice. -/
theorem app_ext {w x : World} {F : Nat → Prop} {m off : Nat} {o : Obj} {v V a b c : Value} {base : Nat} {e : TypeId} {size n : Nat} {xs : List Value} (hm : w.heap[m]? = some (moObj a b c)) (Fm : F m)
    (hrow : w.ownsRow base e size v n xs) (he : e ≠ 74) (he2 : e ≠ 31) (hF : ∀ g, v.ownBlock = some g → F g) (hg : (w.alloc o).grownBy x v.ownBlock) : Ext F w (x.setCell ⟨m, off, none⟩ V) := by
  have hm1 : x.heap[m]? = some (moObj a b c) := (app_hold hg m (lt_of_block hm) (mo_ne_row hm hrow he2)).trans hm
  exact (((Ext.refl F w).alloc o).grown hg (fun k hk => .inl (hF k hk)) (rowv_not_fr (hrow.alloc o) he)).setCell (.inl Fm) _ (fun h => absurd h (mo_not_fr hm1))

theorem app_foot {w x : World} {F : Nat → Prop} {m off g n cap : Nat} {V v : Value} {o : Obj} {row : Option Nat} (hg : (w.alloc o).grownBy x row) (hF : ∀ g, row = some g → F g) (hat : row = some g ∨ g = w.heap.size + 1) (hlt : g < x.heap.size) : grow F w (x.setCell ⟨m, off, none⟩ V) g := by
  rcases hat with h | h
  · exact .inl (hF g h)
  · exact .inr ⟨by omega, by rw [size_setCell]; exact hlt⟩

theorem app_lt {w x : World} {F : Nat → Prop} {m off : Nat} {V : Value} {o : Obj} {row : Option Nat} (hF : ∀ k, F k → k < w.heap.size) (hg : (w.alloc o).grownBy x row) : ∀ k, grow F w (x.setCell ⟨m, off, none⟩ V) k → k < x.heap.size := fun k hk => by
  have := app_size hg
  have := grow_lt hF (x := x.setCell ⟨m, off, none⟩ V) (by rw [size_setCell]; omega) k hk
  rwa [size_setCell] at this

theorem mod_seen {w x : World} {F : Nat → Prop} {m : Nat} {ms : List Fr} {fr seen : List Nat} {sv fv nv : Value} (h : Mod w F m ms fr seen sv fv nv) {o : Obj} (hg : (w.alloc o).grownBy x nv.ownBlock) {g cap nb : Nat}
    (hown : x.ownsRow 0 37 1 (.slice (some ⟨g, 0, none⟩) (seen.length + 1) cap) (seen.length + 1) (bptrs seen ++ [ptrB nb])) (hat : nv.ownBlock = some g ∨ g = w.heap.size + 1) (hlt : g < x.heap.size) :
    Ext F w (x.setCell ⟨m, 2, none⟩ (.slice (some ⟨g, 0, none⟩) (seen.length + 1) cap)) ∧
    Mod (x.setCell ⟨m, 2, none⟩ (.slice (some ⟨g, 0, none⟩) (seen.length + 1) cap)) (grow F w (x.setCell ⟨m, 2, none⟩ (.slice (some ⟨g, 0, none⟩) (seen.length + 1) cap))) m ms fr (seen ++ [nb]) sv fv (.slice (some ⟨g, 0, none⟩) (seen.length + 1) cap) := by
  refine ⟨app_ext h.mob h.Fm h.nrow (by decide) (by decide) h.Fnv hg, ?_⟩
  refine h.setSeen (app_hold hg) ?_ (fun k hk e => ?_) (fun k hk => .inl hk) (fun k hk => ?_) (app_lt h.lt hg)
  · have e1 : (seen ++ [nb]).length = seen.length + 1 := by simp
    have e2 : bptrs (seen ++ [nb]) = bptrs seen ++ [ptrB nb] := by simp [bptrs]
    rw [e1, e2]; exact hown
  · simp only [Value.ownBlock, Option.some.injEq] at e
    subst e
    rcases hat with h2 | h2
    · exact h.ne _ hk h2
    · have := h.lt _ (h.Ffv _ hk); omega
  · simp only [Value.ownBlock, Option.some.injEq] at hk
    subst hk
    exact app_foot (n := 0) (cap := 0) (v := nv) hg h.Fnv hat hlt

theorem mod_free {w x : World} {F : Nat → Prop} {m : Nat} {ms : List Fr} {fr seen : List Nat} {sv fv nv : Value} (h : Mod w F m ms fr seen sv fv nv) {o : Obj} (hg : (w.alloc o).grownBy x fv.ownBlock) {g cap nb : Nat}
    (hown : x.ownsRow 0 37 1 (.slice (some ⟨g, 0, none⟩) (fr.length + 1) cap) (fr.length + 1) (bptrs fr ++ [ptrB nb])) (hat : fv.ownBlock = some g ∨ g = w.heap.size + 1) (hlt : g < x.heap.size) :
    Ext F w (x.setCell ⟨m, 1, none⟩ (.slice (some ⟨g, 0, none⟩) (fr.length + 1) cap)) ∧
    Mod (x.setCell ⟨m, 1, none⟩ (.slice (some ⟨g, 0, none⟩) (fr.length + 1) cap)) (grow F w (x.setCell ⟨m, 1, none⟩ (.slice (some ⟨g, 0, none⟩) (fr.length + 1) cap))) m ms (fr ++ [nb]) seen sv (.slice (some ⟨g, 0, none⟩) (fr.length + 1) cap) nv := by
  refine ⟨app_ext h.mob h.Fm h.frow (by decide) (by decide) h.Ffv hg, ?_⟩
  refine h.setFree (app_hold hg) ?_ (fun k hk e => ?_) (fun k hk => .inl hk) (fun k hk => ?_) (app_lt h.lt hg)
  · have e1 : (fr ++ [nb]).length = fr.length + 1 := by simp
    have e2 : bptrs (fr ++ [nb]) = bptrs fr ++ [ptrB nb] := by simp [bptrs]
    rw [e1, e2]; exact hown
  · simp only [Value.ownBlock, Option.some.injEq] at hk
    subst hk
    rcases hat with h2 | h2
    · exact h.ne _ h2 e
    · have := h.lt _ (h.Fnv _ e); omega
  · simp only [Value.ownBlock, Option.some.injEq] at hk
    subst hk
    exact app_foot (n := 0) (cap := 0) (v := fv) hg h.Ffv hat hlt

theorem mod_stack {w x : World} {F : Nat → Prop} {m : Nat} {ms : List Fr} {fr seen : List Nat} {sv fv nv : Value} (h : Mod w F m ms fr seen sv fv nv) {o : Obj} (hg : (w.alloc o).grownBy x sv.ownBlock) {g cap : Nat} {f : Fr}
    (hown : x.ownsRow 0 52 4 (.slice (some ⟨g, 0, none⟩) (ms.length + 1) cap) (ms.length + 1) (flat ms ++ mfCells f)) (hat : sv.ownBlock = some g ∨ g = w.heap.size + 1) (hlt : g < x.heap.size) :
    Ext F w (x.setCell ⟨m, 0, none⟩ (.slice (some ⟨g, 0, none⟩) (ms.length + 1) cap)) ∧
    Mod (x.setCell ⟨m, 0, none⟩ (.slice (some ⟨g, 0, none⟩) (ms.length + 1) cap)) (grow F w (x.setCell ⟨m, 0, none⟩ (.slice (some ⟨g, 0, none⟩) (ms.length + 1) cap))) m (ms ++ [f]) fr seen (.slice (some ⟨g, 0, none⟩) (ms.length + 1) cap) fv nv := by
  refine ⟨app_ext h.mob h.Fm h.srow (by decide) (by decide) h.Fsv hg, ?_⟩
  refine h.setStack (app_hold hg) ?_ (fun k hk => .inl hk) (fun k hk => ?_) (app_lt h.lt hg)
  · have e1 : (ms ++ [f]).length = ms.length + 1 := by simp
    rw [e1, flat_append, flat_one]; exact hown
  · simp only [Value.ownBlock, Option.some.injEq] at hk
    subst hk
    exact app_foot (n := 0) (cap := 0) (v := sv) hg h.Fsv hat hlt

/-- The free list's last element is taken away. -/
theorem mod_pop {w : World} {F : Nat → Prop} {m : Nat} {ms : List Fr} {fr seen : List Nat} {nb g cap n : Nat} {sv nv : Value} (h : Mod w F m ms (fr ++ [nb]) seen sv (.slice (some ⟨g, 0, none⟩) n cap) nv) (hn : n = fr.length + 1) :
    Ext F w (w.setCell ⟨m, 1, none⟩ (.slice (some ⟨g, 0, none⟩) fr.length cap)) ∧ Mod (w.setCell ⟨m, 1, none⟩ (.slice (some ⟨g, 0, none⟩) fr.length cap)) F m ms fr seen sv (.slice (some ⟨g, 0, none⟩) fr.length cap) nv := by
  subst hn
  refine ⟨(Ext.refl F w).setCell (.inl h.Fm) _ (fun q => absurd q (mo_not_fr h.mob)), ?_⟩
  refine h.setFree (fun _ _ _ => rfl) ?_ (fun k hk => h.ne k hk) (fun _ hk => hk) (fun k hk => h.Ffv k hk) h.lt
  have hr := h.frow
  rw [List.length_append] at hr
  have := ownsRow_cut hr (m := fr.length) (by simp)
  have e : (bptrs (fr ++ [nb])).take (fr.length * 1) = bptrs fr := by
    unfold bptrs
    rw [Nat.mul_one, List.map_append]; exact List.take_left' (by simp)
  rwa [e] at this

/-- The stack is cut to its first d frames. -/
theorem mod_cut {w : World} {F : Nat → Prop} {m : Nat} {ms : List Fr} {fr seen : List Nat} {g cap d : Nat} {fv nv : Value} (h : Mod w F m ms fr seen (.slice (some ⟨g, 0, none⟩) ms.length cap) fv nv) (hd : d ≤ ms.length) :
    Ext F w (w.setCell ⟨m, 0, none⟩ (.slice (some ⟨g, 0, none⟩) d cap)) ∧ Mod (w.setCell ⟨m, 0, none⟩ (.slice (some ⟨g, 0, none⟩) d cap)) F m (ms.take d) fr seen (.slice (some ⟨g, 0, none⟩) d cap) fv nv := by
  refine ⟨(Ext.refl F w).setCell (.inl h.Fm) _ (fun q => absurd q (mo_not_fr h.mob)), ?_⟩
  refine h.setStack (fun _ _ _ => rfl) ?_ (fun _ hk => hk) (fun k hk => h.Fsv k hk) h.lt
  have := ownsRow_cut h.srow hd
  rw [flat_take] at this
  rw [List.length_take, Nat.min_eq_left hd]
  exact this

/-! ### The scanner and the record, side by side -/
structure Sys (w : World) (F : Nat → Prop) (s m : Nat) (stk fre : List Fr) (seen : List Nat) : Prop where
  ex : ∃ Fs Fm fv sv mf mn, Scan w Fs s stk fre fv ∧ Mod w Fm m stk.reverse (fre.map Fr.b) seen sv mf mn ∧ (∀ k, Fs k → ¬ Fm k) ∧ (∀ k, Fs k → F k) ∧ (∀ k, Fm k → F k)
  lt : ∀ k, F k → k < w.heap.size
  seenOk : ∀ b ∈ seen, IsFr w b

theorem Sys.same {w x : World} {F : Nat → Prop} {s m : Nat} {stk fre : List Fr} {seen : List Nat} (h : Sys x F s m stk fre seen) (e : Same w x) : Sys w F s m stk fre seen := by
  obtain ⟨Fs, Fm, fv, sv, mf, mn, hS, hM, hd, h1, h2⟩ := h.ex
  exact ⟨⟨Fs, Fm, fv, sv, mf, mn, hS.same e, hM.same e, hd, h1, h2⟩, fun k hk => by rw [e.heap]; exact h.lt k hk, fun b hb => (h.seenOk b hb).of_block (by rw [e.heap])⟩

/-- What another part of memory does leaves all of it as it was. -/
theorem Sys.frame {w w' : World} {F G : Nat → Prop} {s m : Nat} {stk fre : List Fr} {seen : List Nat} (h : Sys w F s m stk fre seen) (e : Ext G w w') (hd : ∀ k, F k → ¬ G k) : Sys w' F s m stk fre seen := by
  obtain ⟨Fs, Fm, fv, sv, mf, mn, hS, hM, hdd, h1, h2⟩ := h.ex
  exact ⟨⟨Fs, Fm, fv, sv, mf, mn, hS.frame e (fun k hk => hd k (h1 k hk)), hM.frame e (fun k hk => hd k (h2 k hk)), hdd, h1, h2⟩, fun k hk => Nat.lt_of_lt_of_le (h.lt k hk) e.size, fun b hb => e.frs b (h.seenOk b hb)⟩

theorem Sys.mono {w : World} {F F' : Nat → Prop} {s m : Nat} {stk fre : List Fr} {seen : List Nat} (h : Sys w F s m stk fre seen) (hF : ∀ k, F k → F' k) (hlt : ∀ k, F' k → k < w.heap.size) : Sys w F' s m stk fre seen := by
  obtain ⟨Fs, Fm, fv, sv, mf, mn, hS, hM, hd, h1, h2⟩ := h.ex
  exact ⟨⟨Fs, Fm, fv, sv, mf, mn, hS, hM, hd, fun k hk => hF k (h1 k hk), fun k hk => hF k (h2 k hk)⟩, hlt, h.seenOk⟩

theorem grow_grow {F : Nat → Prop} {w x y : World} (h : w.heap.size ≤ x.heap.size) (h2 : x.heap.size ≤ y.heap.size) : ∀ k, grow (grow F w x) x y k → grow F w y k := by
  intro k hk
  rcases hk with (hk | hk) | hk
  · exact .inl hk
  · exact .inr ⟨hk.1, by omega⟩
  · exact .inr ⟨by omega, hk.2⟩

end Go.Proofs.Qxb6604576a
