/-
  A slice of steps that came in, opened.
-/
import Derived.Test.Qxb6604582aTools
import Derived.Deep.Slices
import Derived.Deep.Strs
import Derived.OpenShut
namespace Go.Proofs.Qxb6604582a
open Go.RowKit Go.Deep Go.ChangeShapes Go.WideShapes
set_option linter.unusedVariables false
set_option linter.unusedSimpArgs false

theorem Try.cells37 : Try.prog.cellsOf 37 = 3 := by kernel_rfl
theorem Try.cells3 : Try.prog.cellsOf 3 = 1 := by kernel_rfl
theorem Try.cells5 : Try.prog.cellsOf 5 = 1 := by kernel_rfl
theorem Try.cells9 : Try.prog.cellsOf 9 = 1 := by kernel_rfl

theorem in_open {H : Type} {enc : TypeId × Value → H} {W : World} {fuel : Nat} {a0 : Option Addr} {len0 cap0 : Nat} {x : DataW H × List MemPlace}
    (hf : DataW.trod enc Try.prog W 0 (fun _ => true) true fuel 25 [.slice a0 len0 cap0] = some x) : ∃ ss, IsIn W a0 len0 cap0 ss := by
  rcases open_slice Try.underlying25 hf with ⟨hcs, _⟩ | ⟨a, len, cap, m, n, D, Pl, hcs, hb, hl, hm, hmm, hx, hel⟩
  · simp only [List.cons.injEq, Value.slice.injEq, and_true] at hcs
    obtain ⟨rfl, rfl, rfl⟩ := hcs
    exact ⟨[], .inl ⟨rfl, rfl, rfl, rfl⟩⟩
  · simp only [List.cons.injEq, Value.slice.injEq, and_true] at hcs
    obtain ⟨rfl, rfl, rfl⟩ := hcs
    rw [if_pos rfl] at hmm
    subst hmm
    have each : ∀ i, i < len0 → ∃ t : SI, W.cell? (a.add (i * 3)) = some (.int .u8 t.1) ∧ W.cell? (a.add (i * 3 + 1)) = some (.int .i64 t.2.1) ∧
        W.cell? (a.add (i * 3 + 2)) = some (.string t.2.2) ∧ t.2.2.size ≤ maxLen := by
      intro i hi
      obtain ⟨cs', h1, h2⟩ := hel i (by omega)
      rw [Try.cells37] at h1
      obtain ⟨_, hlen, hcell⟩ := World.cells?_some h1
      obtain ⟨y0, y1, y2, q, _, _, g0, g1, g2⟩ := trod_struct3 Try.underlying37 h2
      simp only [Try.cells3, Try.cells5, Try.cells9] at g0 g1 g2
      match cs', hlen with
      | [v0, v1, v2], _ =>
        simp only [List.drop_zero, List.drop_succ_cons, List.take_succ_cons, List.take_zero] at g0 g1 g2
        obtain ⟨n0, e0, _, _⟩ := DataW.trod_int Try.underlying5 g0
        obtain ⟨n1, e1, _, _⟩ := DataW.trod_int Try.underlying3 g1
        obtain ⟨s2, e2, _, hs⟩ := DataW.trod_string Try.underlying9 g2
        simp only [List.cons.injEq, and_true] at e0 e1 e2
        subst e0 e1 e2
        have k0 := hcell 0 (by omega)
        have k1 := hcell 1 (by omega)
        have k2 := hcell 2 (by omega)
        rw [add_add] at k0 k1 k2
        exact ⟨(n0, n1, s2), k0, k1, k2, hs⟩
    obtain ⟨q, hq⟩ := choose_lt each
    refine ⟨(List.range len0).map q, .inr ⟨a, rfl, by simp, hl, hm, fun i t ht => ?_⟩⟩
    have hi : i < len0 := by
      have := (List.getElem?_eq_some_iff.1 ht).1
      simpa using this
    have e : t = q i := by
      rw [List.getElem?_map, List.getElem?_range hi] at ht
      simpa using ht.symm
    rw [e]
    exact hq i hi

end Go.Proofs.Qxb6604582a
