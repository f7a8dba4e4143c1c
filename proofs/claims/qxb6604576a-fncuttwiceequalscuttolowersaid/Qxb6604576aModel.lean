/-
  The laws' own record of the path: three slices behind a pointer. What each step does to it.
-/
import Derived.Test.Qxb6604576aPlay
namespace Go.Proofs.Qxb6604576a
open Go.RowKit
set_option linter.unusedVariables false
set_option linter.unusedSimpArgs false

def mfCells (f : Fr) : List Value := [ptrB f.b, .int .i64 f.kind, .int .i64 f.col, .bool f.kept]
def flat (l : List Fr) : List Value := l.flatMap mfCells
def bptrs (l : List Nat) : List Value := l.map ptrB
def moObj (a b c : Value) : Obj := .cells #[a, b, c] 31 (0, 0)

theorem flat_nil : flat [] = [] := rfl
theorem flat_append (a b : List Fr) : flat (a ++ b) = flat a ++ flat b := by simp [flat]
theorem flat_one (f : Fr) : flat [f] = mfCells f := by simp [flat]
theorem flat_length (l : List Fr) : (flat l).length = l.length * 4 := by
  induction l with
  | nil => rfl
  | cons f r ih => simp [flat, mfCells] at ih ⊢; omega
theorem flat_get {l : List Fr} {j : Nat} {f : Fr} (hf : l[j]? = some f) (o : Nat) (ho : o < 4) : (flat l)[j * 4 + o]? = (mfCells f)[o]? := by
  induction l generalizing j with
  | nil => simp at hf
  | cons g r ih =>
    cases j with
    | zero =>
      simp at hf; subst hf
      show (mfCells g ++ flat r)[_]? = _
      rw [List.getElem?_append_left (by simp [mfCells]; omega)]
      simp
    | succ j =>
      simp at hf
      show (mfCells g ++ flat r)[_]? = _
      rw [List.getElem?_append_right (by simp [mfCells]; omega)]
      have e : (j + 1) * 4 + o - (mfCells g).length = j * 4 + o := by simp [mfCells]; omega
      rw [e]
      exact ih hf
theorem flat_take (l : List Fr) (d : Nat) : (flat l).take (d * 4) = flat (l.take d) := by
  induction l generalizing d with
  | nil => simp [flat]
  | cons g r ih =>
    cases d with
    | zero => simp [flat]
    | succ d =>
      show (mfCells g ++ flat r).take _ = _
      have e : (d + 1) * 4 = (mfCells g).length + d * 4 := by simp [mfCells]; omega
      rw [e, List.take_length_add_append, ih]
      rfl
theorem flat_set {l : List Fr} {j : Nat} {f : Fr} (hf : l[j]? = some f) : (flat l).set (j * 4 + 3) (.bool true) = flat (l.set j { f with kept := true }) := by
  induction l generalizing j with
  | nil => simp at hf
  | cons g r ih =>
    cases j with
    | zero =>
      simp at hf; subst hf
      rfl
    | succ j =>
      simp at hf
      show (mfCells g ++ flat r).set _ _ = _
      rw [List.set_append_right _ _ (by simp [mfCells]; omega)]
      have e : (j + 1) * 4 + 3 - (mfCells g).length = j * 4 + 3 := by simp [mfCells]; omega
      rw [e, ih hf]
      rfl

structure Mod (w : World) (F : Nat → Prop) (m : Nat) (ms : List Fr) (fr seen : List Nat) (sv fv nv : Value) : Prop where
  mob : w.heap[m]? = some (moObj sv fv nv)
  srow : w.ownsRow 0 52 4 sv ms.length (flat ms)
  frow : w.ownsRow 0 37 1 fv fr.length (bptrs fr)
  nrow : w.ownsRow 0 37 1 nv seen.length (bptrs seen)
  ne : ∀ g, fv.ownBlock = some g → nv.ownBlock ≠ some g
  Fm : F m
  Fsv : ∀ g, sv.ownBlock = some g → F g
  Ffv : ∀ g, fv.ownBlock = some g → F g
  Fnv : ∀ g, nv.ownBlock = some g → F g
  lt : ∀ k, F k → k < w.heap.size

theorem mo0 {w : World} {m : Nat} {a b c : Value} (h : w.heap[m]? = some (moObj a b c)) : w.cell? ⟨m, 0, none⟩ = some a := by simp [World.cell?, h, moObj]
theorem mo1 {w : World} {m : Nat} {a b c : Value} (h : w.heap[m]? = some (moObj a b c)) : w.cell? ⟨m, 1, none⟩ = some b := by simp [World.cell?, h, moObj]
theorem mo2 {w : World} {m : Nat} {a b c : Value} (h : w.heap[m]? = some (moObj a b c)) : w.cell? ⟨m, 2, none⟩ = some c := by simp [World.cell?, h, moObj]
theorem mof {w : World} {m : Nat} {a b c : Value} (h : w.heap[m]? = some (moObj a b c)) (o : Nat) : w.frozen? ⟨m, o, none⟩ = false := by simp [World.frozen?, h, moObj]
theorem mo_set0 {w : World} {m : Nat} {a b c : Value} (h : w.heap[m]? = some (moObj a b c)) (v : Value) : (w.setCell ⟨m, 0, none⟩ v).heap[m]? = some (moObj v b c) := by
  rw [hset_same (c := _) (e := 31) (fr := (0, 0)) h]; rfl
theorem mo_set1 {w : World} {m : Nat} {a b c : Value} (h : w.heap[m]? = some (moObj a b c)) (v : Value) : (w.setCell ⟨m, 1, none⟩ v).heap[m]? = some (moObj a v c) := by
  rw [hset_same (c := _) (e := 31) (fr := (0, 0)) h]; rfl
theorem mo_set2 {w : World} {m : Nat} {a b c : Value} (h : w.heap[m]? = some (moObj a b c)) (v : Value) : (w.setCell ⟨m, 2, none⟩ v).heap[m]? = some (moObj a b v) := by
  rw [hset_same (c := _) (e := 31) (fr := (0, 0)) h]; rfl

/-- A block of the record is no row's. -/
theorem row_obj {w : World} {base : Nat} {e : TypeId} {size : Nat} {v : Value} {n : Nat} {xs : List Value} (h : w.ownsRow base e size v n xs) {g : Nat} (hg : v.ownBlock = some g) : ∃ cur, w.heap[g]? = some (.cells cur e (0, 0)) := by
  rcases h.2 with ⟨h2, _⟩ | ⟨g', cap', cur, hv, _, hh, _⟩
  · rw [h2] at hg; cases hg
  · rw [hv] at hg
    simp only [Value.ownBlock, Option.some.injEq] at hg
    subst hg
    exact ⟨cur, hh⟩
theorem mo_ne_row {w : World} {m : Nat} {a b c : Value} (h : w.heap[m]? = some (moObj a b c)) {base : Nat} {e : TypeId} {size : Nat} {v : Value} {n : Nat} {xs : List Value} (hr : w.ownsRow base e size v n xs) (he : e ≠ 31) : some m ≠ v.ownBlock := by
  intro hm
  obtain ⟨cur, hc⟩ := row_obj hr hm.symm
  rw [h] at hc
  simp only [moObj, Option.some.injEq, Obj.cells.injEq] at hc
  exact he hc.2.1.symm
theorem rows_ne {w : World} {base base' : Nat} {e e' : TypeId} {size size' : Nat} {v v' : Value} {n n' : Nat} {xs xs' : List Value} (h : w.ownsRow base e size v n xs) (h' : w.ownsRow base' e' size' v' n' xs') (he : e ≠ e') {g : Nat} (hg : v.ownBlock = some g) : some g ≠ v'.ownBlock := by
  intro hm
  obtain ⟨cur, hc⟩ := row_obj h hg
  obtain ⟨cur', hc'⟩ := row_obj h' hm.symm
  rw [hc] at hc'
  simp only [Option.some.injEq, Obj.cells.injEq] at hc'
  exact he hc'.2.1

theorem Mod.moved {w w' : World} {F F' : Nat → Prop} {m : Nat} {ms : List Fr} {fr seen : List Nat} {sv fv nv : Value} (h : Mod w F m ms fr seen sv fv nv)
    (hb : ∀ k, F k → w'.heap[k]? = w.heap[k]?) (hF : ∀ k, F k → F' k) (hlt : ∀ k, F' k → k < w'.heap.size) : Mod w' F' m ms fr seen sv fv nv where
  mob := (hb m h.Fm).trans h.mob
  srow := ownsRow_block h.srow (fun g hg => hb g (h.Fsv g hg))
  frow := ownsRow_block h.frow (fun g hg => hb g (h.Ffv g hg))
  nrow := ownsRow_block h.nrow (fun g hg => hb g (h.Fnv g hg))
  ne := h.ne
  Fm := hF _ h.Fm
  Fsv := fun g hg => hF _ (h.Fsv g hg)
  Ffv := fun g hg => hF _ (h.Ffv g hg)
  Fnv := fun g hg => hF _ (h.Fnv g hg)
  lt := hlt

theorem Mod.frame {w w' : World} {F G : Nat → Prop} {m : Nat} {ms : List Fr} {fr seen : List Nat} {sv fv nv : Value} (h : Mod w F m ms fr seen sv fv nv) (e : Ext G w w') (hd : ∀ k, F k → ¬ G k) : Mod w' F m ms fr seen sv fv nv :=
  h.moved (fun k hk => e.block k (h.lt k hk) (hd k hk)) (fun _ hk => hk) (fun k hk => Nat.lt_of_lt_of_le (h.lt k hk) e.size)
theorem Mod.mono {w : World} {F F' : Nat → Prop} {m : Nat} {ms : List Fr} {fr seen : List Nat} {sv fv nv : Value} (h : Mod w F m ms fr seen sv fv nv) (hF : ∀ k, F k → F' k) (hlt : ∀ k, F' k → k < w.heap.size) : Mod w F' m ms fr seen sv fv nv :=
  h.moved (fun _ _ => rfl) hF hlt
theorem Mod.same {w x : World} {F : Nat → Prop} {m : Nat} {ms : List Fr} {fr seen : List Nat} {sv fv nv : Value} (h : Mod x F m ms fr seen sv fv nv) (e : Same w x) : Mod w F m ms fr seen sv fv nv :=
  h.moved (fun k _ => by rw [e.heap]) (fun _ hk => hk) (fun k hk => by rw [e.heap]; exact h.lt k hk)

/-- The stack's field is stored anew, its row grown or cut. -/
theorem Mod.setStack {w w1 : World} {F F' : Nat → Prop} {m : Nat} {ms ms' : List Fr} {fr seen : List Nat} {sv sv' fv nv : Value} (h : Mod w F m ms fr seen sv fv nv)
    (hold : ∀ k, k < w.heap.size → some k ≠ sv.ownBlock → w1.heap[k]? = w.heap[k]?) (hown : w1.ownsRow 0 52 4 sv' ms'.length (flat ms'))
    (hF : ∀ k, F k → F' k) (hg : ∀ g, sv'.ownBlock = some g → F' g) (hlt : ∀ k, F' k → k < w1.heap.size) :
    Mod (w1.setCell ⟨m, 0, none⟩ sv') F' m ms' fr seen sv' fv nv := by
  have hm1 : w1.heap[m]? = some (moObj sv fv nv) := (hold m (h.lt m h.Fm) (mo_ne_row h.mob h.srow (by decide))).trans h.mob
  have hf1 : w1.ownsRow 0 37 1 fv fr.length (bptrs fr) := ownsRow_block h.frow (fun g hg => hold g (h.lt g (h.Ffv g hg)) (rows_ne h.frow h.srow (by decide) hg))
  have hn1 : w1.ownsRow 0 37 1 nv seen.length (bptrs seen) := ownsRow_block h.nrow (fun g hg => hold g (h.lt g (h.Fnv g hg)) (rows_ne h.nrow h.srow (by decide) hg))
  refine ⟨mo_set0 hm1 _, ?_, ?_, ?_, h.ne, hF _ h.Fm, hg, fun g hg => hF _ (h.Ffv g hg), fun g hg => hF _ (h.Fnv g hg), fun k hk => by rw [size_setCell]; exact hlt k hk⟩
  · exact ownsRow_setCell_other hown (fun e => mo_ne_row hm1 hown (by decide) e.symm) _
  · exact ownsRow_setCell_other hf1 (fun e => mo_ne_row hm1 hf1 (by decide) e.symm) _
  · exact ownsRow_setCell_other hn1 (fun e => mo_ne_row hm1 hn1 (by decide) e.symm) _

/-- The free list's field is stored anew. -/
theorem Mod.setFree {w w1 : World} {F F' : Nat → Prop} {m : Nat} {ms : List Fr} {fr fr' seen : List Nat} {sv fv fv' nv : Value} (h : Mod w F m ms fr seen sv fv nv)
    (hold : ∀ k, k < w.heap.size → some k ≠ fv.ownBlock → w1.heap[k]? = w.heap[k]?) (hown : w1.ownsRow 0 37 1 fv' fr'.length (bptrs fr'))
    (hne : ∀ g, fv'.ownBlock = some g → nv.ownBlock ≠ some g) (hF : ∀ k, F k → F' k) (hg : ∀ g, fv'.ownBlock = some g → F' g) (hlt : ∀ k, F' k → k < w1.heap.size) :
    Mod (w1.setCell ⟨m, 1, none⟩ fv') F' m ms fr' seen sv fv' nv := by
  have hm1 : w1.heap[m]? = some (moObj sv fv nv) := (hold m (h.lt m h.Fm) (mo_ne_row h.mob h.frow (by decide))).trans h.mob
  have hs1 : w1.ownsRow 0 52 4 sv ms.length (flat ms) := ownsRow_block h.srow (fun g hg => hold g (h.lt g (h.Fsv g hg)) (rows_ne h.srow h.frow (by decide) hg))
  have hn1 : w1.ownsRow 0 37 1 nv seen.length (bptrs seen) := ownsRow_block h.nrow (fun g hg => hold g (h.lt g (h.Fnv g hg)) (fun e => h.ne g e.symm hg))
  refine ⟨mo_set1 hm1 _, ?_, ?_, ?_, hne, hF _ h.Fm, fun g hg => hF _ (h.Fsv g hg), hg, fun g hg => hF _ (h.Fnv g hg), fun k hk => by rw [size_setCell]; exact hlt k hk⟩
  · exact ownsRow_setCell_other hs1 (fun e => mo_ne_row hm1 hs1 (by decide) e.symm) _
  · exact ownsRow_setCell_other hown (fun e => mo_ne_row hm1 hown (by decide) e.symm) _
  · exact ownsRow_setCell_other hn1 (fun e => mo_ne_row hm1 hn1 (by decide) e.symm) _

/-- The field of the frames ever seen is stored anew. -/
theorem Mod.setSeen {w w1 : World} {F F' : Nat → Prop} {m : Nat} {ms : List Fr} {fr seen seen' : List Nat} {sv fv nv nv' : Value} (h : Mod w F m ms fr seen sv fv nv)
    (hold : ∀ k, k < w.heap.size → some k ≠ nv.ownBlock → w1.heap[k]? = w.heap[k]?) (hown : w1.ownsRow 0 37 1 nv' seen'.length (bptrs seen'))
    (hne : ∀ g, fv.ownBlock = some g → nv'.ownBlock ≠ some g) (hF : ∀ k, F k → F' k) (hg : ∀ g, nv'.ownBlock = some g → F' g) (hlt : ∀ k, F' k → k < w1.heap.size) :
    Mod (w1.setCell ⟨m, 2, none⟩ nv') F' m ms fr seen' sv fv nv' := by
  have hm1 : w1.heap[m]? = some (moObj sv fv nv) := (hold m (h.lt m h.Fm) (mo_ne_row h.mob h.nrow (by decide))).trans h.mob
  have hs1 : w1.ownsRow 0 52 4 sv ms.length (flat ms) := ownsRow_block h.srow (fun g hg => hold g (h.lt g (h.Fsv g hg)) (rows_ne h.srow h.nrow (by decide) hg))
  have hf1 : w1.ownsRow 0 37 1 fv fr.length (bptrs fr) := ownsRow_block h.frow (fun g hg => hold g (h.lt g (h.Ffv g hg)) (fun e => h.ne g hg e.symm))
  refine ⟨mo_set2 hm1 _, ?_, ?_, ?_, hne, hF _ h.Fm, fun g hg => hF _ (h.Fsv g hg), fun g hg => hF _ (h.Ffv g hg), hg, fun k hk => by rw [size_setCell]; exact hlt k hk⟩
  · exact ownsRow_setCell_other hs1 (fun e => mo_ne_row hm1 hs1 (by decide) e.symm) _
  · exact ownsRow_setCell_other hf1 (fun e => mo_ne_row hm1 hf1 (by decide) e.symm) _
  · exact ownsRow_setCell_other hown (fun e => mo_ne_row hm1 hown (by decide) e.symm) _

/-- The mark of one frame of the stack is set. -/
theorem Mod.mark {w : World} {F : Nat → Prop} {m : Nat} {ms : List Fr} {fr seen : List Nat} {g cap j : Nat} {fv nv : Value} {f : Fr} (h : Mod w F m ms fr seen (.slice (some ⟨g, 0, none⟩) ms.length cap) fv nv) (hf : ms[j]? = some f) :
    Mod (w.setCell ⟨g, j * 4 + 3, none⟩ (.bool true)) F m (ms.set j { f with kept := true }) fr seen (.slice (some ⟨g, 0, none⟩) ms.length cap) fv nv := by
  have hst := h.srow.stored (j * 4 + 3) (.bool true)
  rw [flat_set hf] at hst
  have hgm : m ≠ g := fun e => mo_ne_row h.mob h.srow (by decide) (by rw [e]; rfl)
  refine ⟨(hset_other _ _ _ _ hgm).trans h.mob, ?_, ?_, ?_, h.ne, h.Fm, h.Fsv, h.Ffv, h.Fnv, fun k hk => by rw [size_setCell]; exact h.lt k hk⟩
  · rw [List.length_set]; exact hst.1
  · exact ownsRow_setCell_other (a := ⟨g, j * 4 + 3, none⟩) h.frow (fun e => rows_ne h.frow h.srow (by decide) e rfl) _
  · exact ownsRow_setCell_other (a := ⟨g, j * 4 + 3, none⟩) h.nrow (fun e => rows_ne h.nrow h.srow (by decide) e rfl) _

/-- What the values of the record look like. -/
theorem row_form {w : World} {base : Nat} {e : TypeId} {size : Nat} {v : Value} {n : Nat} {xs : List Value} (h : w.ownsRow base e size v n xs) : ∃ a cap, v = .slice a n cap ∧ n ≤ cap ∧ cap ≤ maxLen := by
  rcases h.2 with ⟨e, h0⟩ | ⟨g, cap, cur, e, _, _, h1, h2, _⟩
  · exact ⟨none, 0, by rw [e, h0], by omega, by simp [maxLen]⟩
  · exact ⟨_, cap, e, h1, h2⟩

end Go.Proofs.Qxb6604576a
