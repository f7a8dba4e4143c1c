/-
  A script that runs: what its loop holds on to.
-/
import Derived.Test.Qxb6604576aOpen
import Derived.Test.Qxb6604576aUp
namespace Go.Proofs.Qxb6604576a
open Go.RowKit
set_option linter.unusedVariables false
set_option linter.unusedSimpArgs false

structure Run (w3 : World) (F0 : Nat → Prop) (s m n : Nat) (wr : World) (stk fre : List Fr) (seen : List Nat) : Prop where
  ext : Ext F0 w3 wr
  sys : Sys wr (grow F0 w3 wr) s m stk fre seen
  lt0 : ∀ k, F0 k → k < w3.heap.size
  few : stk.length + fre.length ≤ n
  fewSeen : seen.length ≤ n

theorem stkS_length (stk : List Fr) (nb : Nat) (kind col back : Int) (keep : Bool) : (stkS stk nb kind col back keep).length = stk.length + 1 - backN (stk.length + 1) back := by
  unfold stkS; rw [List.length_drop, stkP_length]
theorem freS_length (stk fre : List Fr) (nb : Nat) (kind col back : Int) (keep : Bool) : (freS stk fre nb kind col back keep).length ≤ fre.length - 1 + backN (stk.length + 1) back := by
  unfold freS
  rw [List.length_append, List.length_dropLast]
  have := cutL_le (stkP stk nb kind col keep) (backN (stk.length + 1) back)
  omega
theorem seenPush_length (fre : List Fr) (seen : List Nat) (nb : Nat) : (seenPush fre seen nb).length ≤ seen.length + 1 := by
  unfold seenPush; split <;> simp

theorem Run.step {w3 wr x : World} {F0 : Nat → Prop} {s m n : Nat} {stk fre : List Fr} {seen : List Nat} (R : Run w3 F0 s m n wr stk fre seen) {nb : Nat} {kind col back : Int} {keep : Bool}
    (he : Ext (grow F0 w3 wr) wr x) (hS : Sys x (grow (grow F0 w3 wr) wr x) s m (stkS stk nb kind col back keep) (freS stk fre nb kind col back keep) (seenPush fre seen nb)) :
    Run w3 F0 s m (n + 1) x (stkS stk nb kind col back keep) (freS stk fre nb kind col back keep) (seenPush fre seen nb) := by
  have h := sys_trans R.lt0 R.ext he hS
  refine ⟨h.1, h.2, R.lt0, ?_, ?_⟩
  · have h1 := stkS_length stk nb kind col back keep
    have h2 := freS_length stk fre nb kind col back keep
    have h3 := backN_le (stk.length + 1) back
    have := R.few
    omega
  · have := seenPush_length fre seen nb
    have := R.fewSeen
    omega

theorem Run.below {w3 wr x : World} {F0 : Nat → Prop} {s m n : Nat} {stk fre : List Fr} {seen : List Nat} (R : Run w3 F0 s m n wr stk fre seen) (e : Below wr.heap.size wr x) : Run w3 F0 s m n x stk fre seen := by
  have hE : Ext (fun _ => False) wr x := Ext.of_below e
  refine ⟨R.ext.step hE (fun _ h => h.elim), (R.sys.below e).mono (fun k hk => ?_) ?_, R.lt0, R.few, R.fewSeen⟩
  · rcases hk with h | h
    · exact .inl h
    · exact .inr ⟨h.1, Nat.lt_of_lt_of_le h.2 e.size⟩
  · exact grow_lt R.lt0 (Nat.le_trans R.ext.size e.size)

theorem Run.same {w3 wr x : World} {F0 : Nat → Prop} {s m n : Nat} {stk fre : List Fr} {seen : List Nat} (R : Run w3 F0 s m n wr stk fre seen) (e : Same x wr) : Run w3 F0 s m n x stk fre seen :=
  ⟨R.ext.same e, by rw [grow_same e]; exact R.sys.same e, R.lt0, R.few, R.fewSeen⟩

/-- The cells of step n, wherever the script has come to. -/
theorem step_cells {w x : World} {base g len cp : Nat} {ss : List St} (h : x.ownsRow base 35 4 (.slice (some ⟨g, 0, none⟩) len cp) len (sflat ss)) {n : Nat} {t : St} (ht : ss[n]? = some t) (hn : n < len) :
    x.cell? ⟨g, n * 4, none⟩ = some (.int .i64 t.1) ∧ x.cell? ⟨g, n * 4 + 1, none⟩ = some (.int .i64 t.2.1) ∧ x.cell? ⟨g, n * 4 + 2, none⟩ = some (.int .i64 t.2.2.1) ∧ x.cell? ⟨g, n * 4 + 3, none⟩ = some (.bool t.2.2.2) := by
  refine ⟨?_, ?_, ?_, ?_⟩
  · rw [h.cellAt (n * 4) (by omega)]; exact sflat_get ht 0 (by omega)
  · rw [h.cellAt (n * 4 + 1) (by omega)]; exact sflat_get ht 1 (by omega)
  · rw [h.cellAt (n * 4 + 2) (by omega)]; exact sflat_get ht 2 (by omega)
  · rw [h.cellAt (n * 4 + 3) (by omega)]; exact sflat_get ht 3 (by omega)

/-- What lies at the head of a script's loop. -/
structure Head (w w3 : World) (s : Nat) (A : Option Addr) (len cp : Nat) (ss : List St) : Prop where
  below : Below w.heap.size w w3
  row : w3.ownsRow w.heap.size 35 4 (.slice A len cp) len (sflat ss)
  rowlt : ∀ g, (Value.slice A len cp).ownBlock = some g → g < s
  le : w.heap.size ≤ s
  back : ∀ (i : Nat) (t : St), ss[i]? = some t → t.2.2.1 ≤ 9223372036854775807
  num : ss.length = len

theorem Head.at {w w3 wr : World} {s len cp : Nat} {A : Option Addr} {ss : List St} (H : Head w w3 s A len cp ss) {F : Nat → Prop} (he : Ext F w3 wr) (hF : ∀ k, F k → s ≤ k) {n : Nat} (hn : n < len) :
    ∃ (g : Nat) (t : St), A = some ⟨g, 0, none⟩ ∧ ss[n]? = some t ∧ t.2.2.1 ≤ 9223372036854775807 ∧ (wr.cell? ⟨g, n * 4, none⟩ = some (.int .i64 t.1) ∧ wr.cell? ⟨g, n * 4 + 1, none⟩ = some (.int .i64 t.2.1) ∧ wr.cell? ⟨g, n * 4 + 2, none⟩ = some (.int .i64 t.2.2.1) ∧ wr.cell? ⟨g, n * 4 + 3, none⟩ = some (.bool t.2.2.2)) := by
  obtain ⟨g, cap, hv, _, hlt⟩ := H.row.form (by omega)
  simp only [Value.slice.injEq] at hv
  obtain ⟨rfl, _, _⟩ := hv
  obtain ⟨t, ht⟩ : ∃ t, ss[n]? = some t := ⟨ss[n]'(by rw [H.num]; omega), by simp⟩
  have hr : wr.ownsRow w.heap.size 35 4 (.slice (some ⟨g, 0, none⟩) len cp) len (sflat ss) := he.row H.row (fun k hk hFk => by
    have := H.rowlt k hk
    have := hF k hFk
    omega)
  exact ⟨g, t, rfl, ht, H.back n t ht, step_cells (w := w) hr ht hn⟩

theorem Head.out {w w3 wr : World} {s len cp : Nat} {A : Option Addr} {ss : List St} (H : Head w w3 s A len cp ss) {F : Nat → Prop} (he : Ext F w3 wr) (hF : ∀ k, F k → s ≤ k) : Below w.heap.size w wr :=
  H.below.trans ⟨he.os, he.tape, he.output, he.size, fun k hk => he.block k (Nat.lt_of_lt_of_le hk H.below.size) (fun g => by have := hF k g; have := H.le; omega)⟩

def pair (s : Nat) : Nat → Prop := fun k => k = s ∨ k = s + 1
theorem pair_ge (s : Nat) : ∀ k, pair s k → s ≤ k := fun k hk => by rcases hk with h | h <;> omega

theorem head_new {w wc : World} {A : Option Addr} {len cp : Nat} {ss : List St} (hb : Below w.heap.size w wc) (hown : wc.ownsRow w.heap.size 35 4 (.slice A len cp) len (sflat ss)) (hback : ∀ (i : Nat) (t : St), ss[i]? = some t → t.2.2.1 ≤ 9223372036854775807) (hnum : ss.length = len) :
    Head w ((wc.alloc (scObj none (.slice none 0 0))).alloc (moObj (.slice none 0 0) (.slice none 0 0) (.slice none 0 0))) wc.heap.size A len cp ss ∧
    Run ((wc.alloc (scObj none (.slice none 0 0))).alloc (moObj (.slice none 0 0) (.slice none 0 0) (.slice none 0 0))) (pair wc.heap.size) wc.heap.size (wc.heap.size + 1) 0 ((wc.alloc (scObj none (.slice none 0 0))).alloc (moObj (.slice none 0 0) (.slice none 0 0) (.slice none 0 0))) [] [] [] := by
  have hs := sys_new wc
  refine ⟨⟨(hb.alloc hb.size _).alloc (by have := hb.size; rw [size_alloc]; omega) _, (hown.alloc _).alloc _, fun g hg => (hown.lt g hg).2, hb.size, hback, hnum⟩, ⟨Ext.refl _ _, hs.mono (fun k hk => .inl hk) (grow_lt hs.lt (Nat.le_refl _)), hs.lt, by simp, by simp⟩⟩

end Go.Proofs.Qxb6604576a
