/-
  What is read stays readable; ZZliveSteps; facts on the indexes that count.
-/
import Derived.Test.Qxb6604582aLive
namespace Go.Proofs.Qxb6604582a
open Go.RowKit
set_option linter.unusedVariables false
set_option linter.unusedSimpArgs false

theorem Rd.up {k : IntKind} {w x : World} {a : Option Addr} {len : Nat} {zs : List Int} (h : Rd k w a len zs) (b : Below w.heap.size w x) : Rd k x a len zs := by
  refine ⟨h.1, fun n z hz => ?_⟩
  obtain ⟨g, off, e, hg, c⟩ := h.2 n z hz
  exact ⟨g, off, e, Nat.lt_of_lt_of_le hg b.size, (b.cell (p := ⟨g, off + n, none⟩) hg).trans c⟩
theorem Ri.up {w x : World} {a : Option Addr} {len : Nat} {ss : List SI} (h : Ri w a len ss) (b : Below w.heap.size w x) : Ri x a len ss := by
  refine ⟨h.1, fun n t ht => ?_⟩
  obtain ⟨g, off, e, hg, c0, c1, c2⟩ := h.2 n t ht
  exact ⟨g, off, e, Nat.lt_of_lt_of_le hg b.size, (b.cell (p := ⟨g, off + n * 3, none⟩) hg).trans c0, (b.cell (p := ⟨g, off + n * 3 + 1, none⟩) hg).trans c1, (b.cell (p := ⟨g, off + n * 3 + 2, none⟩) hg).trans c2⟩
theorem natsV_ints (l : List Nat) : natsV l = ints .i64 (l.map (fun i : Nat => (i : Int))) := by
  simp [natsV, ints, Function.comp_def]

theorem zlive_any {a1 a2 : Option Addr} {len cap1 len2 cap2 : Nat} {ss : List SI} {zs : List Int} {w : World} (h1 : Ri w a1 len ss) (h2 : Rd .i32 w a2 len2 zs) (hl : len ≤ 65536) (hl2 : len ≤ len2) (hl3 : len2 ≤ 65536) :
    Calls Try.prog 13 #[.slice a1 len cap1, .slice a2 len2 cap2] w fun e w' => ∃ p cp p' cp', e = .returned (.tuple #[.slice p (lidx ss zs len).length cp, .slice p' (lidx ss zs len).length cp']) ∧ Below w.heap.size w w' ∧
      Ri w' p (lidx ss zs len).length (pickS ss (lidx ss zs len)) ∧ Rd .i64 w' p' (lidx ss zs len).length ((lidx ss zs len).map (fun i : Nat => (i : Int))) := by
  have hc := live_any (cap1 := cap1) (cap2 := cap2) h1 h2 hl hl2 hl3
  clear h1 h2
  go_enter Try.func13, Try.ntmps13
  go_wp2_with fail
  refine hc.mono ?_
  rintro e w1 ⟨lv, av, rfl, hI⟩
  clear hc
  obtain ⟨p4, cp4, e4, hc4, hm4⟩ := row_form hI.2.1
  obtain ⟨p5, cp5, e5, hc5, hm5⟩ := row_form hI.2.2
  subst e4 e5
  have HI : Hid (LivI w ss zs w1 len (.slice p4 (lidx ss zs len).length cp4) (.slice p5 (lidx ss zs len).length cp5)) := hI
  clear hI
  go_wp2
  go_ret2
  obtain ⟨b, r1, r2⟩ := HI.out
  rw [natsV_ints] at r2
  exact ⟨p4, cp4, p5, cp5, rfl, b, ri_of_own r1, rd_of_own r2⟩

theorem lidx_sorted (ss : List SI) (zs : List Int) (n : Nat) : (lidx ss zs n).Pairwise (· < ·) := by
  unfold lidx
  exact List.Pairwise.filter _ List.pairwise_lt_range
theorem lidx_mem {ss : List SI} {zs : List Int} {n i : Nat} : i ∈ lidx ss zs n ↔ i < n ∧ liveAt ss zs i = true := by
  unfold lidx
  rw [List.mem_filter, List.mem_range]
theorem lidx_step {ss : List SI} {zs : List Int} {n k i j : Nat} (hi : (lidx ss zs n)[k]? = some i) (hj : (lidx ss zs n)[k + 1]? = some j) : i < j := by
  have h := List.pairwise_iff_getElem.1 (lidx_sorted ss zs n)
  obtain ⟨h1, e1⟩ := List.getElem?_eq_some_iff.1 hi
  obtain ⟨h2, e2⟩ := List.getElem?_eq_some_iff.1 hj
  have := h k (k + 1) h1 h2 (by omega)
  rw [e1, e2] at this
  exact this
theorem lidx_at {ss : List SI} {zs : List Int} {n k i : Nat} (hi : (lidx ss zs n)[k]? = some i) : i < n ∧ liveAt ss zs i = true :=
  lidx_mem.1 (List.mem_of_getElem? hi)
theorem pickS_at {ss : List SI} {l : List Nat} {k i : Nat} {t : SI} (hi : l[k]? = some i) (ht : ss[i]? = some t) : (pickS ss l)[k]? = some t := by
  simp [pickS, hi, ht]

theorem liveStep_b (a t : Int) (s : ByteArray) (z : Int) (w : World) : Calls Try.prog 14 #[.agg #[.int .u8 a, .int .i64 t, .string s], .int .i32 z] w fun e w' => e = .returned (.bool (liveB a z)) ∧ Below w.heap.size w w' := by
  refine (liveStep_any a t s z w).mono ?_
  rintro e w' ⟨rfl, rfl⟩
  exact ⟨rfl, (Below.refl _ _).alloc (Nat.le_refl _) _⟩
theorem sameStep_b (a t : Int) (s : ByteArray) (w : World) : Calls Try.prog 15 #[.agg #[.int .u8 a, .int .i64 t, .string s], .agg #[.int .u8 a, .int .i64 t, .string s]] w fun e w' => e = .returned (.bool true) ∧ Below w.heap.size w w' := by
  refine (sameStep_any a t s w).mono ?_
  rintro e w' ⟨rfl, rfl⟩
  exact ⟨rfl, ((Below.refl _ _).alloc (Nat.le_refl _) _).alloc (by simp) _⟩

end Go.Proofs.Qxb6604582a
