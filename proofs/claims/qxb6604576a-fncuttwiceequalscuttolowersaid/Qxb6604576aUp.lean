/-
  FnInsideFollowsUnwinding: what its two loops hold on to.
-/
import Derived.Test.Qxb6604576aClone
namespace Go.Proofs.Qxb6604576a
open Go.RowKit
set_option linter.unusedVariables false
set_option linter.unusedSimpArgs false

def nils (n : Nat) : List Value := List.replicate n (.pointer none)
def only (s : Nat) : Nat → Prop := fun k => k = s
def ptrs (l : List Fr) : List Value := l.map (fun f => ptrB f.b)

/-- While kinds are pushed: n of them lie on the path, their frames' pointers in the row. -/
structure Up (w3 : World) (s gp len : Nat) (zs : List Int) (n : Nat) (wr : World) (bs : List Fr) (fv : Value) : Prop where
  num : bs.length = n
  kinds : bs.map Fr.kind = zs.take n
  ext : Ext (fun k => k = s ∨ k = gp) w3 wr
  scan : Scan wr (grow (only s) w3 wr) s bs.reverse [] fv
  row : wr.ownsRow 0 37 1 (.slice (some ⟨gp, 0, none⟩) len len) len (ptrs bs ++ nils (len - n))

/-- A row of integers that lies below is as it was. -/
theorem Ext.row {F : Nat → Prop} {w x : World} (h : Ext F w x) {base : Nat} {e : TypeId} {size : Nat} {v : Value} {n : Nat} {xs : List Value} (hr : w.ownsRow base e size v n xs) (hF : ∀ g, v.ownBlock = some g → ¬ F g) : x.ownsRow base e size v n xs :=
  ownsRow_block hr (fun g hg => h.block g (hr.lt g hg).2 (hF g hg))

theorem Up.rowAfter {w3 wr w4 : World} {s gp len n : Nat} {zs : List Int} {bs : List Fr} {fv : Value} (U : Up w3 s gp len zs n wr bs fv) (hgp : gp < w3.heap.size) (hne : gp ≠ s) (he : Ext (grow (only s) w3 wr) wr w4) :
    w4.ownsRow 0 37 1 (.slice (some ⟨gp, 0, none⟩) len len) len (ptrs bs ++ nils (len - n)) :=
  he.row U.row (fun g hg hF => by
    simp only [Value.ownBlock, Option.some.injEq] at hg
    subst hg
    rcases hF with h | h
    · exact hne h
    · omega)

theorem ptrs_set (bs : List Fr) (n len : Nat) (hn : bs.length = n) (hl : n < len) (f : Fr) : (ptrs bs ++ nils (len - n)).set n (ptrB f.b) = ptrs (bs ++ [f]) ++ nils (len - (n + 1)) := by
  have hl2 : (ptrs bs).length = n := by simp [ptrs, hn]
  rw [List.set_append_right _ _ (by omega), hl2, Nat.sub_self]
  have e1 : len - n = (len - (n + 1)) + 1 := by omega
  rw [e1]
  unfold nils ptrs
  rw [List.replicate_succ, List.set_cons_zero, List.map_append, List.append_assoc]
  rfl

theorem Up.pushed {w3 wr w4 : World} {s gp len n : Nat} {zs : List Int} {bs : List Fr} {fv fv' : Value} {nb : Nat} {kind col : Int} (U : Up w3 s gp len zs n wr bs fv) (hgp : gp < w3.heap.size) (hs : s < w3.heap.size) (hne : gp ≠ s)
    (he : Ext (grow (only s) w3 wr) wr w4) (hS : Scan w4 (grow (grow (only s) w3 wr) wr w4) s (⟨nb, kind, col, false⟩ :: bs.reverse) [] fv') (hk : zs[n]? = some kind) (hl : n < len) :
    Up w3 s gp len zs (n + 1) (w4.setCell ⟨gp, n, none⟩ (ptrB nb)) (bs ++ [⟨nb, kind, col, false⟩]) fv' where
  num := by simp [U.num]
  kinds := by rw [List.map_append, U.kinds, List.take_add_one, hk]; rfl
  ext := (U.ext.step he (fun b hb => by
    rcases hb with h | h
    · exact .inl (.inl h)
    · exact .inr h.1)).setCell (.inl (.inr rfl)) _ (fun h => absurd h (by
    obtain ⟨cur, hcur⟩ := row_block (U.rowAfter hgp hne he)
    exact row_not_fr hcur (by decide)))
  scan := by
    rw [List.reverse_append]
    have hle := U.ext.size
    have hle2 := he.size
    refine hS.moved (fun k hk => ?_) (fun k hk => ?_) ?_
    · refine hset_other _ _ _ _ (fun e => ?_)
      have e2 : k = gp := e
      rcases hk with hk | hk
      · rcases hk with hk | hk
        · exact hne (e2.symm.trans hk)
        · omega
      · omega
    · rcases hk with hk | hk
      · rcases hk with hk | hk
        · exact .inl hk
        · exact .inr ⟨hk.1, by rw [size_setCell]; omega⟩
      · exact .inr ⟨by omega, by rw [size_setCell]; omega⟩
    · exact grow_lt (fun k hk => by cases hk; exact hs) (by rw [size_setCell]; omega)
  row := by
    have := (U.rowAfter hgp hne he).stored n (ptrB nb)
    rw [ptrs_set bs n len U.num hl ⟨nb, kind, col, false⟩] at this
    exact this.1

/-- While the path is unwound: its frames are the first m that were pushed. -/
structure Down (w3 : World) (s gp len : Nat) (zs : List Int) (m : Nat) (wr : World) (bs fre : List Fr) (fv : Value) : Prop where
  num : bs.length = len
  kinds : bs.map Fr.kind = zs.take len
  ext : Ext (fun k => k = s ∨ k = gp) w3 wr
  scan : Scan wr (grow (only s) w3 wr) s (bs.take m).reverse fre fv
  row : wr.ownsRow 0 37 1 (.slice (some ⟨gp, 0, none⟩) len len) len (ptrs bs)
  few : m + fre.length ≤ len
  le : m ≤ len

theorem Up.down {w3 wr : World} {s gp len : Nat} {zs : List Int} {bs : List Fr} {fv : Value} (U : Up w3 s gp len zs len wr bs fv) : Down w3 s gp len zs len wr bs [] fv where
  num := U.num
  kinds := U.kinds
  ext := U.ext
  scan := by rw [List.take_of_length_le (by rw [U.num]; omega)]; exact U.scan
  row := by have := U.row; simpa [nils] using this
  few := by simp
  le := by omega

theorem take_rev_drop (bs : List Fr) (m n : Nat) (hm : m ≤ bs.length) (hn : n ≤ m) : (bs.take m).reverse.drop (m - n) = (bs.take n).reverse := by
  rw [List.drop_reverse, List.length_take, Nat.min_eq_left hm, show m - (m - n) = n from by omega, List.take_take, Nat.min_eq_left hn]

theorem Down.cut {w3 wr w4 : World} {s gp len m : Nat} {zs : List Int} {bs fre : List Fr} {fv fv' : Value} (D : Down w3 s gp len zs m wr bs fre fv) (hgp : gp < w3.heap.size) (hs : s < w3.heap.size) (hne : gp ≠ s) (n : Nat) (hn : n ≤ m)
    (he : Ext (grow (only s) w3 wr) wr w4) (hS : Scan w4 (grow (grow (only s) w3 wr) wr w4) s ((bs.take m).reverse.drop (m - n)) (fre ++ cutL (bs.take m).reverse (m - n)) fv') :
    Down w3 s gp len zs n w4 bs (fre ++ cutL (bs.take m).reverse (m - n)) fv' where
  num := D.num
  kinds := D.kinds
  ext := D.ext.step he (fun b hb => by
    rcases hb with h | h
    · exact .inl (.inl h)
    · exact .inr h.1)
  scan := by
    have hle := D.ext.size
    have hle2 := he.size
    rw [take_rev_drop bs m n (by have := D.num; have := D.le; omega) hn] at hS
    refine hS.mono (fun k hk => ?_) (grow_lt (fun k hk => by cases hk; exact hs) (by omega))
    rcases hk with hk | hk
    · rcases hk with hk | hk
      · exact .inl hk
      · exact .inr ⟨hk.1, by omega⟩
    · exact .inr ⟨by omega, by omega⟩
  row := he.row D.row (fun g hg hF => by
    simp only [Value.ownBlock, Option.some.injEq] at hg
    subst hg
    rcases hF with h | h
    · exact hne h
    · omega)
  few := by
    have := D.few
    have := cutL_le (bs.take m).reverse (m - n)
    rw [List.length_append]; omega
  le := by have := D.le; omega

theorem topA_take (bs : List Fr) (n : Nat) (f : Fr) (hf : bs[n]? = some f) : (bs.take (n + 1)).reverse = f :: (bs.take n).reverse := by
  rw [List.take_add_one, hf, List.reverse_append]; rfl

end Go.Proofs.Qxb6604576a
