/-
  topPtr and holds.
-/
import Derived.Test.Qxb6604576aGrow
import Derived.Deep.QuietTactic
import Derived.BigQuiet
import Derived.Deep.LoopGhost
namespace Go.Proofs.Qxb6604576a
open Go.RowKit
set_option linter.unusedVariables false
set_option linter.unusedSimpArgs false

/-- topPtr: no frame. -/
theorem top_nil (m : Nat) (a : Option Addr) (cap : Nat) (w : World) (h0 : w.cell? ⟨m, 0, none⟩ = some (.slice a 0 cap)) :
    Calls Try.prog 15 #[.pointer (some ⟨m, 0, none⟩)] w fun e w' => e = .returned (.pointer none) ∧ Same w' w := by
  go_enter Try.func15, Try.ntmps15
  go_wp2
  go_ret
  exact ⟨rfl, Same.refl _⟩

set_option maxHeartbeats 400000 in
theorem top_some (m g n cap : Nat) (p : Option Addr) (w : World) (hn : n < 1000000) (hc : n + 1 ≤ cap) (h0 : w.cell? ⟨m, 0, none⟩ = some (.slice (some ⟨g, 0, none⟩) (n + 1) cap)) (h1 : w.cell? ⟨g, n * 4, none⟩ = some (.pointer p)) :
    Calls Try.prog 15 #[.pointer (some ⟨m, 0, none⟩)] w fun e w' => e = .returned (.pointer p) ∧ Same w' w := by
  have i1 : (0 : Int) ≤ n := by omega
  have i2 : (n : Int) < n + 1 := by omega
  go_enter Try.func15, Try.ntmps15
  go_wp2
  go_quiet (fail)
  go_wp2
  go_ret
  exact ⟨rfl, rfl, rfl, rfl, rfl⟩

/-- holds: none of them. -/
theorem holds_no (w : World) (a : Option Addr) (cap : Nat) (seen : List Nat) (nb : Nat) (hrow : w.ownsRow 0 37 1 (.slice a seen.length cap) seen.length (bptrs seen)) (hn : seen.length ≤ 1000000) (hs : ∀ b ∈ seen, IsFr w b ∧ b ≠ nb) (hb : IsFr w nb) :
    Calls Try.prog 35 #[.slice a seen.length cap, .pointer (some ⟨nb, 0, none⟩)] w fun e w' => e = .returned (.bool false) ∧ w = w' := by
  go_enter Try.func35, Try.ntmps35
  go_wp2
  go_loopg [5] seen.length (fun k i wr => ∃ n : Nat, n + k = seen.length ∧ i = .int .i64 n ∧ wr = w)
  case atStart => exact ⟨0, by omega, rfl, rfl⟩
  case round =>
    obtain ⟨n, hnk, rfl, rfl⟩ := hrel
    cases gk with
    | zero =>
      have hlt : ¬ (n : Int) < seen.length := by omega
      clear hs hrow hb
      go_wp2
      go_ret
      exact ⟨rfl, rfl⟩
    | succ k =>
      have hnl : n < seen.length := by omega
      have hlt : (n : Int) < seen.length := by omega
      have hn0 : (0 : Int) ≤ n := by omega
      obtain ⟨g, rfl⟩ : ∃ g, a = some ⟨g, 0, none⟩ := by
        obtain ⟨g, cap, hv, _⟩ := hrow.form (by omega)
        simp only [Value.slice.injEq] at hv
        exact ⟨g, hv.1⟩
      have c1 : wr.cell? ⟨g, n, none⟩ = some (.pointer (some ⟨seen[n], 0, none⟩)) := by
        rw [hrow.cellAt n (by omega)]; simp [bptrs, ptrB, hnl]
      obtain ⟨b, hbb⟩ : ∃ b, b = seen[n] := ⟨_, rfl⟩
      rw [← hbb] at c1
      have hmem := hs b (by rw [hbb]; exact List.getElem_mem _)
      have hq : (binOp .eql 37 (.pointer (some ⟨b, 0, none⟩)) (.pointer (some ⟨nb, 0, none⟩))).run Try.prog wr = .ok (.bool false) wr := by
        rw [run_eql_frames (fun a ha => by cases ha; exact hmem.1) (fun a ha => by cases ha; exact hb)]
        have : (some (⟨b, 0, none⟩ : Addr) : Option Addr) ≠ some ⟨nb, 0, none⟩ := by
          intro e
          simp only [Option.some.injEq, Addr.mk.injEq] at e
          exact hmem.2 e.1
        simp [this]
      clear hs hrow hb hmem hbb
      go_wp2
      go_roundg k
      case measure => omega
      case rel => exact ⟨n + 1, by omega, by go_num, rfl⟩

theorem top_any {w : World} {F : Nat → Prop} {m : Nat} {stk : List Fr} {fr seen : List Nat} {sv fv nv : Value} (h : Mod w F m stk.reverse fr seen sv fv nv) (hn : stk.length ≤ 5000) :
    Calls Try.prog 15 #[.pointer (some ⟨m, 0, none⟩)] w fun e w' => e = .returned (.pointer (topA stk)) ∧ Same w' w := by
  cases stk with
  | nil =>
    obtain ⟨a, cap, hv, _⟩ := row_form h.srow
    exact top_nil m a cap w (by rw [mo0 h.mob, hv]; rfl)
  | cons f r =>
    have hlen : (f :: r).reverse.length = r.length + 1 := by simp
    obtain ⟨g, cap, hv, _⟩ := h.srow.form (by omega)
    obtain ⟨a2, cap2, hv2, hlc, _⟩ := row_form h.srow
    rw [hv] at hv2
    simp only [Value.slice.injEq] at hv2
    obtain ⟨_, _, rfl⟩ := hv2
    subst hv
    have hf : (f :: r).reverse[r.length]? = some f := by simp
    have h1 : w.cell? ⟨g, r.length * 4, none⟩ = some (.pointer (some ⟨f.b, 0, none⟩)) := by
      rw [h.srow.cellAt (r.length * 4) (by omega)]
      exact flat_get hf 0 (by omega)
    have h0 := mo0 h.mob
    rw [hlen] at h0 hlc
    exact top_some m g r.length cap (some ⟨f.b, 0, none⟩) w (by simp at hn; omega) hlc h0 h1

end Go.Proofs.Qxb6604576a
