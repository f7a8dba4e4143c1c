/-
  Steps and nodes as plain data; the small functions.
-/
import Derived.Test.Qxb6604582aProg
import Derived.WalkKit
import Derived.WalkSpells
import Derived.Deep.LoopGhost
import Derived.Deep.OwnRows
import Derived.Deep.AppendLies
namespace Go.Proofs.Qxb6604582a
open Go.RowKit
set_option linter.unusedVariables false
set_option linter.unusedSimpArgs false

/-- One step: action, transaction, item. -/
abbrev SI := Int × Int × ByteArray
def siCells (t : SI) : List Value := [.int .u8 t.1, .int .i64 t.2.1, .string t.2.2]
def sflat (l : List SI) : List Value := l.flatMap siCells
theorem sflat_append (a b : List SI) : sflat (a ++ b) = sflat a ++ sflat b := by simp [sflat]
theorem sflat_one (t : SI) : sflat [t] = siCells t := by simp [sflat]
theorem sflat_length (l : List SI) : (sflat l).length = l.length * 3 := by
  induction l with
  | nil => rfl
  | cons f r ih => simp [sflat, siCells] at ih ⊢; omega
theorem sflat_get {l : List SI} {j : Nat} {f : SI} (hf : l[j]? = some f) (o : Nat) (ho : o < 3) : (sflat l)[j * 3 + o]? = (siCells f)[o]? := by
  induction l generalizing j with
  | nil => simp at hf
  | cons g r ih =>
    cases j with
    | zero =>
      simp at hf; subst hf
      show (siCells g ++ sflat r)[_]? = _
      rw [List.getElem?_append_left (by simp [siCells]; omega)]
      simp
    | succ j =>
      simp at hf
      show (siCells g ++ sflat r)[_]? = _
      rw [List.getElem?_append_right (by simp [siCells]; omega)]
      have e : (j + 1) * 3 + o - (siCells g).length = j * 3 + o := by simp [siCells]; omega
      rw [e]
      exact ih hf
theorem set3 (A R : List Value) (n : Nat) (hA : A.length = n * 3) (a b c r0 r1 r2 : Value) :
    (((A ++ r0 :: r1 :: r2 :: R).set (n * 3) a).set (n * 3 + 1) b).set (n * 3 + 2) c = A ++ a :: b :: c :: R := by
  rw [List.set_append_right _ _ (by omega), List.set_append_right _ _ (by omega), List.set_append_right _ _ (by omega)]
  rw [show n * 3 - A.length = 0 from by omega, show n * 3 + 1 - A.length = 1 from by omega, show n * 3 + 2 - A.length = 2 from by omega]
  rfl
theorem three {R : List Value} (h : 3 ≤ R.length) : ∃ r0 r1 r2 R', R = r0 :: r1 :: r2 :: R' := by
  match R, h with
  | r0 :: r1 :: r2 :: R', _ => exact ⟨r0, r1, r2, R', rfl⟩
def ints (k : IntKind) (zs : List Int) : List Value := zs.map (Value.int k)

theorem Try.info37 : (Try.prog.info? 37).map (fun i => (i.zero, i.size, i.bytes)) = some (some (.agg #[.int .u8 0, .int .i64 0, .string ByteArray.empty]), 3, 32) := by kernel_rfl
theorem Try.info41 : (Try.prog.info? 41).map (fun i => (i.zero, i.size, i.bytes)) = some (some (.agg #[.int .u8 0, .int .i64 0, .string ByteArray.empty]), 3, 32) := by kernel_rfl
theorem Try.info21 : (Try.prog.info? 21).map (fun i => (i.zero, i.size, i.bytes)) = some (some (.int .i32 0), 1, 4) := by kernel_rfl
theorem Try.info3 : (Try.prog.info? 3).map (fun i => (i.zero, i.size, i.bytes)) = some (some (.int .i64 0), 1, 8) := by kernel_rfl

/-- A step that counts: its node is not negative and it reads or writes. -/
def liveB (a z : Int) : Bool := decide (0 ≤ z) && (a == 0 || a == 1)

def stObj (t : TypeId) (x : SI) : Obj := .cells #[.int .u8 x.1, .int .i64 x.2.1, .string x.2.2] t

theorem accesses_any (a : Int) (w : World) : Calls Try.prog 20 #[.int .u8 a] w fun e w' => e = .returned (.bool (a == 0 || a == 1)) ∧ w = w' := by
  by_cases h0 : a = 0
  · subst h0
    go_enter Try.func20, Try.ntmps20
    go_wp2
    go_ret
    exact ⟨rfl, rfl⟩
  · have e0 : (a == 0) = false := beq_eq_false_iff_ne.2 h0
    rw [e0, Bool.false_or]
    go_enter Try.func20, Try.ntmps20
    go_wp2
    go_ret
    exact ⟨rfl, rfl⟩

theorem liveStep_any (a t : Int) (s : ByteArray) (z : Int) (w : World) : Calls Try.prog 14 #[.agg #[.int .u8 a, .int .i64 t, .string s], .int .i32 z] w fun e w' => e = .returned (.bool (liveB a z)) ∧ w' = w.alloc (stObj 37 (a, t, s)) := by
  unfold liveB
  by_cases hz : 0 ≤ z
  · by_cases h0 : a = 0
    · subst h0
      rw [decide_eq_true hz]
      go_enter Try.func14, Try.ntmps14
      go_wp2
      go_ret
      exact ⟨rfl, rfl⟩
    · have e0 : (a == 0) = false := beq_eq_false_iff_ne.2 h0
      rw [decide_eq_true hz, e0, Bool.false_or, Bool.true_and]
      go_enter Try.func14, Try.ntmps14
      go_wp2
      go_ret
      exact ⟨rfl, rfl⟩
  · rw [decide_eq_false hz, Bool.false_and]
    go_enter Try.func14, Try.ntmps14
    go_wp2
    go_ret
    exact ⟨rfl, rfl⟩

theorem sameStep_any (a t : Int) (s : ByteArray) (w : World) : Calls Try.prog 15 #[.agg #[.int .u8 a, .int .i64 t, .string s], .agg #[.int .u8 a, .int .i64 t, .string s]] w fun e w' => e = .returned (.bool true) ∧ w' = (w.alloc (stObj 41 (a, t, s))).alloc (stObj 37 (a, t, s)) := by
  go_enter Try.func15, Try.ntmps15
  go_wp2
  go_ret
  exact ⟨rfl, rfl⟩

end Go.Proofs.Qxb6604582a
