/-
  The scanner and the record between two steps: each with its own lists.
-/
import Derived.Test.Qxb6604576aTop
namespace Go.Proofs.Qxb6604576a
open Go.RowKit
set_option linter.unusedVariables false
set_option linter.unusedSimpArgs false

structure Duo (w0 : World) (F : Nat → Prop) (w : World) (s m : Nat) (stk fre ms : List Fr) (fr seen : List Nat) : Prop where
  ex : ∃ Fs Fm fv sv mf mn, Scan w Fs s stk fre fv ∧ Mod w Fm m ms fr seen sv mf mn ∧ (∀ k, Fs k → ¬ Fm k) ∧ (∀ k, Fs k → grow F w0 w k) ∧ (∀ k, Fm k → grow F w0 w k)
  ext : Ext F w0 w
  lt0 : ∀ k, F k → k < w0.heap.size
  seenOk : ∀ b ∈ seen, IsFr w b

theorem Sys.duo {w : World} {F : Nat → Prop} {s m : Nat} {stk fre : List Fr} {seen : List Nat} (h : Sys w F s m stk fre seen) : Duo w F w s m stk fre stk.reverse (fre.map Fr.b) seen := by
  obtain ⟨Fs, Fm, fv, sv, mf, mn, hS, hM, hd, h1, h2⟩ := h.ex
  exact ⟨⟨Fs, Fm, fv, sv, mf, mn, hS, hM, hd, fun k hk => .inl (h1 k hk), fun k hk => .inl (h2 k hk)⟩, Ext.refl _ _, h.lt, h.seenOk⟩

theorem Duo.sys {w0 w : World} {F : Nat → Prop} {s m : Nat} {stk fre : List Fr} {seen : List Nat} (D : Duo w0 F w s m stk fre stk.reverse (fre.map Fr.b) seen) : Sys w (grow F w0 w) s m stk fre seen :=
  ⟨D.ex, grow_lt D.lt0 D.ext.size, D.seenOk⟩

theorem Duo.same {w0 w x : World} {F : Nat → Prop} {s m : Nat} {stk fre ms : List Fr} {fr seen : List Nat} (D : Duo w0 F w s m stk fre ms fr seen) (e : Same x w) : Duo w0 F x s m stk fre ms fr seen := by
  obtain ⟨Fs, Fm, fv, sv, mf, mn, hS, hM, hd, h1, h2⟩ := D.ex
  refine ⟨⟨Fs, Fm, fv, sv, mf, mn, hS.same e, hM.same e, hd, ?_, ?_⟩, D.ext.same e, D.lt0, fun b hb => (D.seenOk b hb).of_block (by rw [e.heap])⟩
  · rw [grow_same e]; exact h1
  · rw [grow_same e]; exact h2

/-- New blocks that are nobody's. -/
theorem Duo.below {w0 w x : World} {F : Nat → Prop} {s m : Nat} {stk fre ms : List Fr} {fr seen : List Nat} (D : Duo w0 F w s m stk fre ms fr seen) (e : Below w.heap.size w x) : Duo w0 F x s m stk fre ms fr seen := by
  obtain ⟨Fs, Fm, fv, sv, mf, mn, hS, hM, hd, h1, h2⟩ := D.ex
  have hE : Ext (fun _ => False) w x := Ext.of_below e
  refine ⟨⟨Fs, Fm, fv, sv, mf, mn, hS.frame hE (fun _ _ h => h), hM.frame hE (fun _ _ h => h), hd, fun k hk => ?_, fun k hk => ?_⟩, D.ext.step hE (fun _ h => h.elim), D.lt0, fun b hb => hE.frs b (D.seenOk b hb)⟩
  · rcases h1 k hk with h | h
    · exact .inl h
    · exact .inr ⟨h.1, Nat.lt_of_lt_of_le h.2 e.size⟩
  · rcases h2 k hk with h | h
    · exact .inl h
    · exact .inr ⟨h.1, Nat.lt_of_lt_of_le h.2 e.size⟩

theorem grow_up {F G : Nat → Prop} {w0 w x : World} (h0 : w0.heap.size ≤ w.heap.size) (hx : w.heap.size ≤ x.heap.size) (h : ∀ k, G k → grow F w0 w k) : ∀ k, grow G w x k → grow F w0 x k := by
  intro k hk
  rcases hk with hk | hk
  · rcases h k hk with g | g
    · exact .inl g
    · exact .inr ⟨g.1, by omega⟩
  · exact .inr ⟨by omega, hk.2⟩

/-- The scanner takes a step. -/
theorem duo_scan {w0 w x : World} {F Fs Fm : Nat → Prop} {s m : Nat} {stk fre stk' fre' ms : List Fr} {fr seen : List Nat} {fv fv' sv mf mn : Value} (D : Duo w0 F w s m stk fre ms fr seen)
    (hM : Mod w Fm m ms fr seen sv mf mn) (hd : ∀ k, Fs k → ¬ Fm k) (h1 : ∀ k, Fs k → grow F w0 w k) (h2 : ∀ k, Fm k → grow F w0 w k)
    (he : Ext Fs w x) (hS' : Scan x (grow Fs w x) s stk' fre' fv') : Duo w0 F x s m stk' fre' ms fr seen := by
  have hsz := D.ext.size
  have hs2 := he.size
  refine ⟨⟨grow Fs w x, Fm, fv', sv, mf, mn, hS', hM.frame he (fun k hk hk2 => hd k hk2 hk), ?_, grow_up hsz hs2 h1, ?_⟩, D.ext.step he (fun b hb => ?_), D.lt0, fun b hb => he.frs b (D.seenOk b hb)⟩
  · intro k hk hk2
    rcases hk with hk | hk
    · exact hd k hk hk2
    · have := hM.lt k hk2; omega
  · intro k hk
    rcases h2 k hk with g | g
    · exact .inl g
    · exact .inr ⟨g.1, by omega⟩
  · rcases h1 b hb with g | g
    · exact .inl g
    · exact .inr g.1

/-- The record takes a step. -/
theorem duo_mod {w0 w x : World} {F Fs Fm : Nat → Prop} {s m : Nat} {stk fre ms ms' : List Fr} {fr fr' seen seen' : List Nat} {fv sv' mf' mn' : Value} (D : Duo w0 F w s m stk fre ms fr seen)
    (hS : Scan w Fs s stk fre fv) (hd : ∀ k, Fs k → ¬ Fm k) (h1 : ∀ k, Fs k → grow F w0 w k) (h2 : ∀ k, Fm k → grow F w0 w k)
    (he : Ext Fm w x) (hM' : Mod x (grow Fm w x) m ms' fr' seen' sv' mf' mn') (hseen : ∀ b ∈ seen', IsFr x b) : Duo w0 F x s m stk fre ms' fr' seen' := by
  have hsz := D.ext.size
  have hs2 := he.size
  refine ⟨⟨Fs, grow Fm w x, fv, sv', mf', mn', hS.frame he (fun k hk hk2 => hd k hk hk2), hM', ?_, ?_, grow_up hsz hs2 h2⟩, D.ext.step he (fun b hb => ?_), D.lt0, hseen⟩
  · intro k hk hk2
    rcases hk2 with hk2 | hk2
    · exact hd k hk hk2
    · have := hS.lt k hk; omega
  · intro k hk
    rcases h1 k hk with g | g
    · exact .inl g
    · exact .inr ⟨g.1, by omega⟩
  · rcases h2 b hb with g | g
    · exact .inl g
    · exact .inr g.1

end Go.Proofs.Qxb6604576a
