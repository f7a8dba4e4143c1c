/-
  Plain facts: one step masked. No Go in sight.
-/
import Derived.Test.Qxb6604582aTools
import Derived.Laws.StructEq
namespace Go.Proofs.Qxb6604582a
open Go.RowKit
set_option linter.unusedVariables false
set_option linter.unusedSimpArgs false

theorem liveAt_mask {ss : List SI} {zs : List Int} {j : Nat} (h : j < zs.length) (i : Nat) : liveAt ss (zs.set j (-1)) i = (liveAt ss zs i && decide (i ≠ j)) := by
  unfold liveAt
  by_cases hij : i = j
  · subst hij
    rw [List.getElem?_set_self h]
    cases ss[i]? <;> simp [liveB]
  · rw [List.getElem?_set_ne (fun e => hij e.symm)]
    simp [hij]
theorem lidx_mask {ss : List SI} {zs : List Int} {j : Nat} (h : j < zs.length) (n : Nat) : lidx ss (zs.set j (-1)) n = (lidx ss zs n).filter (fun i => decide (i ≠ j)) := by
  unfold lidx
  rw [List.filter_filter]
  refine List.filter_congr (fun i _ => ?_)
  rw [liveAt_mask h, Bool.and_comm]
theorem filter_out {l : List Nat} {j : Nat} (h : ∀ q, q < l.length → l[q]? ≠ some j) : l.filter (fun i => decide (i ≠ j)) = l := by
  rw [List.filter_eq_self]
  intro i hi
  obtain ⟨q, hq, e⟩ := List.mem_iff_getElem.1 hi
  have := h q hq
  rw [List.getElem?_eq_getElem hq, e] at this
  simpa using this
theorem filter_one {l : List Nat} {j q : Nat} (hs : l.Pairwise (· < ·)) (h : l[q]? = some j) : l.filter (fun i => decide (i ≠ j)) = l.eraseIdx q := by
  induction l generalizing q with
  | nil => simp at h
  | cons a r ih =>
    rw [List.pairwise_cons] at hs
    cases q with
    | zero =>
      simp at h
      subst h
      rw [List.filter_cons_of_neg (by simp), List.eraseIdx_cons_zero, List.filter_eq_self]
      intro i hi
      have := hs.1 i hi
      simp; omega
    | succ q =>
      simp at h
      have := hs.1 j (List.mem_of_getElem? h)
      rw [List.filter_cons_of_pos (by simp; omega), List.eraseIdx_cons_succ, ih hs.2 h]

/-- Where j has been seen among the first n. -/
def Pos (l : List Nat) (j n : Nat) (pz : Int) : Prop :=
  (pz = -1 ∧ ∀ q, q < n → l[q]? ≠ some j) ∨ ∃ q : Nat, pz = q ∧ q < n ∧ l[q]? = some j
theorem Pos.zero (l : List Nat) (j : Nat) : Pos l j 0 (-1) := .inl ⟨rfl, fun q hq => by omega⟩
theorem Pos.hit {l : List Nat} {j n : Nat} {pz : Int} (hn : l[n]? = some j) : Pos l j (n + 1) n := .inr ⟨n, rfl, by omega, hn⟩
theorem Pos.miss {l : List Nat} {j n i : Nat} {pz : Int} (h : Pos l j n pz) (hn : l[n]? = some i) (hij : ¬ i = j) : Pos l j (n + 1) pz := by
  rcases h with ⟨e, h⟩ | ⟨q, e, hq, h⟩
  · refine .inl ⟨e, fun q hq => ?_⟩
    rcases Nat.lt_or_ge q n with hlt | hge
    · exact h q hlt
    · have : q = n := by omega
      rw [this, hn]
      simpa using hij
  · exact .inr ⟨q, e, by omega, h⟩

theorem erase_at {l : List Nat} {q0 n q i : Nat} (hn : ¬ n = q0) (h1 : n ≤ q0 → q = n) (h2 : q0 < n → q + 1 = n) (hi : l[n]? = some i) : (l.eraseIdx q0)[q]? = some i := by
  rcases Nat.lt_or_ge n q0 with h | h
  · have e := h1 (by omega)
    subst e
    rw [List.getElem?_eraseIdx_of_lt h]; exact hi
  · have e := h2 (by omega)
    rw [List.getElem?_eraseIdx_of_ge (by omega), e]; exact hi

theorem ints_set (zs : List Int) (j : Nat) (z : Int) : (ints .i32 zs).set j (.int .i32 z) = ints .i32 (zs.set j z) := by
  simp [ints, List.map_set]

theorem run_neq_step (a t : Int) (s : ByteArray) (w : World) : (binOp .neq 41 (.agg #[.int .u8 a, .int .i64 t, .string s]) (.agg #[.int .u8 a, .int .i64 t, .string s])).run Try.prog w = .ok (.bool false) w := by
  have u3 := Try.underlying3
  have a3 := Try.isAgg3
  have z3 := Try.sizeOf3
  have u9 := Try.underlying9
  have a9 := Try.isAgg9
  have z9 := Try.sizeOf9
  have u39 := Try.underlying39
  have a39 := Try.isAgg39
  have z39 := Try.sizeOf39
  have hS : Try.prog.underlying 41 = some (.struct (Try.prog.fieldsOf 41)) := by kernel_rfl
  have hp : Try.prog.stoodInHeld 41 = false := by kernel_rfl
  rw [run_neq_struct, show (10000 : Nat) = 9999 + 1 from rfl, run_equalIn_agg w 9999 41 _ _ hS hp]
  simp only [Program.fieldsOf, Try.underlying41]
  go_simp

end Go.Proofs.Qxb6604582a
