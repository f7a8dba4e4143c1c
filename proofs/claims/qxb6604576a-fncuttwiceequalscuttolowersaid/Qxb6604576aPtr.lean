import Derived.Test.Qxb6604576aPrims
import Derived.LaidEqlPtr
namespace Go.Proofs.Qxb6604576a
open Go.RowKit
set_option linter.unusedVariables false
set_option linter.unusedSimpArgs false

theorem Try.info74 : (Try.prog.info? 74).map (fun i => (i.zero, i.size, i.bytes)) = some (some (frameAgg 0 0 none false), 6, 64) := by kernel_rfl
theorem Try.info37 : (Try.prog.info? 37).map (fun i => (i.zero, i.size, i.bytes)) = some (some (.pointer none), 1, 8) := by kernel_rfl

/-- A pointer to a frame, or nil. -/
def PtrOk (w : World) (p : Option Addr) : Prop := ∀ a, p = some a → IsFr w a.block

theorem run_equalIn_frames {P : Program} {tp te : TypeId} {j : TypeInfo} (ht : P.underlying tp = some (.pointer te)) (hte : P.info? te = some j) (hsz : j.size ≠ 0) {w : World} {p q : Option Addr} (hp : PtrOk w p) (hq : PtrOk w q) (d : Nat) :
    (Op.equalIn (d + 1) tp (.pointer p) (.pointer q)).run P w = .ok (decide (p = q)) w := by
  cases p with
  | none => cases q <;> simp [Op.equalIn, run_underlying ht]
  | some a =>
    cases q with
    | none => simp [Op.equalIn, run_underlying ht]
    | some b =>
      by_cases e : a = b
      · subst e
        simp [Op.equalIn, run_underlying ht, sizeOf, typeInfo, hte, run_sameAddr_same]
      · obtain ⟨_, _, _, _, ha⟩ := hp a rfl
        obtain ⟨_, _, _, _, hb⟩ := hq b rfl
        simp [Op.equalIn, run_underlying ht, sizeOf, typeInfo, hte, hsz, run_sameAddr_other w e ha hb, e]

theorem run_equal_frames {w : World} {p q : Option Addr} (hp : PtrOk w p) (hq : PtrOk w q) : (Op.equal 37 (.pointer p) (.pointer q)).run Try.prog w = .ok (decide (p = q)) w := by
  obtain ⟨i0, hi, hz0, hz1, hz2⟩ := info_parts Try.info74
  exact run_equalIn_frames Try.underlying37 hi (by omega) hp hq 9999

theorem run_eql_frames {w : World} {p q : Option Addr} (hp : PtrOk w p) (hq : PtrOk w q) : (binOp .eql 37 (.pointer p) (.pointer q)).run Try.prog w = .ok (.bool (decide (p = q))) w := by
  simp only [binOp]
  simp [run_equal_frames hp hq]

theorem run_neq_frames {w : World} {p q : Option Addr} (hp : PtrOk w p) (hq : PtrOk w q) : (binOp .neq 37 (.pointer p) (.pointer q)).run Try.prog w = .ok (.bool (!decide (p = q))) w := by
  simp only [binOp]
  simp [run_equal_frames hp hq]

end Go.Proofs.Qxb6604576a
