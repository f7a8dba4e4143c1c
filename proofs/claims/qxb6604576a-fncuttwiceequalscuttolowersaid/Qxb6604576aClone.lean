/-
  The slice of integers, cloned; the first guard.
-/
import Derived.Test.Qxb6604576aPlay
import Derived.WalkSpells
import Derived.Deep.OwnRows
import Derived.OpenShut
namespace Go.Proofs.Qxb6604576a
open Go.RowKit
set_option linter.unusedVariables false

theorem Try.info3 : (Try.prog.info? 3).map (fun i => (i.zero, i.size, i.bytes)) = some (some (.int .i64 0), 1, 8) := by kernel_rfl

/-- zzBytes -/
theorem bytes_any (a : Option Addr) (len cap : Nat) (k : Int) (w : World) (h : len ≤ 1048576) :
    Calls Try.prog 30 #[.slice a len cap, .int .i64 k] w fun e w' => e = .returned (.bool true) ∧ w = w' := by
  have h1 : ¬ (1048576 : Int) < (len : Int) := by omega
  go_enter Try.func30, Try.ntmps30
  go_wp2
  go_ret
  exact ⟨rfl, rfl⟩
theorem bytes_no (a : Option Addr) (len cap : Nat) (k : Int) (w : World) (h : 1048576 < len) :
    Calls Try.prog 30 #[.slice a len cap, .int .i64 k] w fun e w' => e = .returned (.bool false) ∧ w = w' := by
  have h1 : (1048576 : Int) < (len : Int) := by omega
  go_enter Try.func30, Try.ntmps30
  go_wp2
  go_ret
  exact ⟨rfl, rfl⟩

theorem run_eql_some {P : Program} (w : World) (t e : TypeId) (a : Addr) (l c : Nat) (h : P.underlying t = some (.slice e)) : (binOp .eql t (.slice (some a) l c) (.slice none 0 0)).run P w = .ok (.bool false) w := by
  have h : ∀ d : Nat, (Op.equalIn (d + 1) t (.slice (some a) l c) (.slice none 0 0)).run P w = .ok false w := fun d => by
    simp [Op.equalIn, run_underlying h]
  simp only [binOp]
  simp [Op.equal, Op.maxDepth, h 9999]

theorem run_eql_none {P : Program} (w : World) (t e : TypeId) (l c : Nat) (h : P.underlying t = some (.slice e)) : (binOp .eql t (.slice none l c) (.slice none 0 0)).run P w = .ok (.bool true) w := by
  have h : ∀ d : Nat, (Op.equalIn (d + 1) t (.slice none l c) (.slice none 0 0)).run P w = .ok true w := fun d => by
    simp [Op.equalIn, run_underlying h]
  simp only [binOp]
  simp [Op.equal, Op.maxDepth, h 9999]

/-- cloneInts -/
theorem clone_nil (w : World) : Calls Try.prog 31 #[.slice none 0 0] w fun e w' => e = .returned (.slice none 0 0) ∧ w = w' := by
  have hq := fun w => run_eql_none (P := Try.prog) w 53 3 0 0 Try.underlying53
  go_enter Try.func31, Try.ntmps31
  go_wp2
  go_ret
  exact ⟨rfl, rfl⟩

theorem clone_empty (x : Addr) (cap : Nat) (w : World) : Calls Try.prog 31 #[.slice (some x) 0 cap] w fun e w' => e = .returned (.slice (some ⟨w.heap.size, 0, none⟩) 0 0) ∧ w' = w.alloc (.cells (madeCells #[.int .i64 0] 0) 3) := by
  have hq := fun w => run_eql_some (P := Try.prog) w 53 3 x 0 cap Try.underlying53
  have hmk : ∀ w : World, (Instr.makeSlice 53 (.int .i64 0) (.int .i64 0)).run Try.prog w = .ok (.slice (some ⟨w.heap.size, 0, none⟩) 0 0) (w.alloc (.cells (madeCells #[.int .i64 0] 0) 3)) := fun w => run_make_row' (P := Try.prog) 53 3 (.int .i64 0) 8 Try.underlying53 Try.info3 rfl .i64 .i64 0 (by omega) (by omega) w
  go_enter Try.func31, Try.ntmps31
  go_wp2
  refine wp_loop_rounds 1 ?_
  rw [rounds_succ]
  go_wp2
  go_ret
  exact ⟨rfl, rfl⟩

def ints (zs : List Int) : List Value := zs.map (Value.int .i64)

theorem clone_set (zs : List Int) (len n : Nat) (hn : n < len) (hz : len ≤ zs.length) :
    (ints (zs.take n) ++ List.replicate (len - n) (Value.int .i64 0)).set n (.int .i64 (zs.getD n 0)) = ints (zs.take (n + 1)) ++ List.replicate (len - (n + 1)) (Value.int .i64 0) := by
  have hl : (ints (zs.take n)).length = n := by simp [ints]; omega
  rw [List.set_append_right _ _ (by omega), hl, Nat.sub_self]
  have e1 : len - n = (len - (n + 1)) + 1 := by omega
  rw [e1, List.replicate_succ, List.set_cons_zero]
  have e2 : ints (zs.take (n + 1)) = ints (zs.take n) ++ [.int .i64 (zs.getD n 0)] := by
    unfold ints
    rw [List.take_succ_eq_append_getElem (by omega), List.map_append]
    simp [List.getD, show n < zs.length by omega]
  rw [e2, List.append_assoc]
  rfl

set_option maxHeartbeats 400000 in
theorem clone_some (b off len cap : Nat) (zs : List Int) (w : World) (hlc : len ≤ cap) (hl : len ≤ 1048576) (hz : zs.length = cap) (hb : b < w.heap.size)
    (hc : ∀ j, j < zs.length → w.cell? ⟨b, off + j, none⟩ = some (.int .i64 (zs.getD j 0))) :
    Calls Try.prog 31 #[.slice (some ⟨b, off, none⟩) len cap] w fun e w' => e = .returned (.slice (some ⟨w.heap.size, 0, none⟩) len len) ∧ Below w.heap.size w w' ∧
      w'.ownsRow w.heap.size 3 1 (.slice (some ⟨w.heap.size, 0, none⟩) len len) len (ints (zs.take len)) := by
  have hq := fun w => run_eql_some (P := Try.prog) w 53 3 ⟨b, off, none⟩ len cap Try.underlying53
  have hmk := run_make_row' (P := Try.prog) 53 3 (.int .i64 0) 8 Try.underlying53 Try.info3 rfl .i64 .i64 len (by omega) (by omega)
  go_enter Try.func31, Try.ntmps31
  go_wp2
  go_loopg [4] len (fun k i wr => ∃ n, n + k = len ∧ i = .int .i64 n ∧ Below w.heap.size w wr ∧ wr.ownsRow w.heap.size 3 1 (.slice (some ⟨w.heap.size, 0, none⟩) len len) len (ints (zs.take n) ++ List.replicate (len - n) (.int .i64 0)))
  case atStart =>
    refine ⟨0, by omega, rfl, (Below.refl _ _).alloc (Nat.le_refl _) _, ?_⟩
    have := World.ownsRow_lit (base := w.heap.size) (e := 3) (size := 1) w (madeCells #[.int .i64 0] len) len (Nat.le_refl _) (by unfold maxLen; omega) (by rw [size_madeCells]; omega)
    rw [toList_madeCells_one] at this
    simpa [ints] using this
  case round =>
    obtain ⟨n, hnk, rfl, hbel, hown⟩ := hrel
    cases gk with
    | zero =>
      have e : n = len := by omega
      subst e
      have hlt : ¬ (n : Int) < n := by omega
      have HB : Hid (Below w.heap.size w wr ∧ wr.ownsRow w.heap.size 3 1 (.slice (some ⟨w.heap.size, 0, none⟩) n n) n (ints (zs.take n) ++ List.replicate (n - n) (.int .i64 0))) := ⟨hbel, hown⟩
      clear hbel hown
      go_wp2
      go_ret
      exact ⟨rfl, HB.out.1, by have := HB.out.2; simpa using this⟩
    | succ k =>
      have hnl : n < len := by omega
      have hlt : (n : Int) < len := by omega
      have hn0 : (0 : Int) ≤ n := by omega
      have c1 : wr.cell? ⟨b, off + n, none⟩ = some (.int .i64 (zs.getD n 0)) := (hbel.cell (p := ⟨b, off + n, none⟩) hb).trans (hc n (by omega))
      obtain ⟨z, hzz⟩ : ∃ z, z = zs.getD n 0 := ⟨_, rfl⟩
      rw [← hzz] at c1
      obtain ⟨v0, c2⟩ : ∃ v0, wr.cell? ⟨w.heap.size, n, none⟩ = some v0 := by
        rw [hown.cellAt n (by omega)]
        have hlen : n < (ints (zs.take n) ++ List.replicate (len - n) (Value.int .i64 0)).length := by rw [hown.1]; omega
        exact ⟨_, List.getElem?_eq_getElem hlen⟩
      have f2 := hown.frozenAt n
      have hst := hown.stored n (.int .i64 z)
      rw [hzz, clone_set zs len n hnl (by omega), ← hzz] at hst
      have HB : Hid (Below w.heap.size w wr ∧ z = zs.getD n 0 ∧ (wr.setCell ⟨w.heap.size, n, none⟩ (.int .i64 z)).ownsRow w.heap.size 3 1 (.slice (some ⟨w.heap.size, 0, none⟩) len len) len (ints (zs.take (n + 1)) ++ List.replicate (len - (n + 1)) (.int .i64 0))) := ⟨hbel, hzz, hst.1⟩
      clear hbel hzz hst hown hc
      go_wp2
      go_roundg k
      case measure => omega
      case rel =>
        obtain ⟨hbel, hzz, hst⟩ := HB.out
        exact ⟨n + 1, by omega, by go_num, hbel.setCell (Nat.le_refl _) _, hst⟩

/-- WHAT THE WALK IS TOLD OF A SLICE OF INTEGERS THAT CAME IN. -/
def IsRow (k : IntKind) (w : World) (a : Option Addr) (len cap : Nat) (zs : List Int) : Prop :=
  (a = none ∧ len = 0 ∧ cap = 0 ∧ zs = []) ∨
  ∃ x, a = some x ∧ len ≤ cap ∧ cap ≤ maxLen ∧ zs.length = cap ∧ (∀ i, i < zs.length → w.cell? (x.add i) = some (.int k (zs.getD i 0))) ∧ ∀ n ∈ zs, (Lit.int k n).wf = true

theorem clone_any {a : Option Addr} {len cap : Nat} {zs : List Int} {w : World} (h : IsRow .i64 w a len cap zs) (hl : len ≤ 1048576) :
    Calls Try.prog 31 #[.slice a len cap] w fun e w' => ∃ A cp, e = .returned (.slice A len cp) ∧ Below w.heap.size w w' ∧ w'.ownsRow w.heap.size 3 1 (.slice A len cp) len (ints (zs.take len)) := by
  rcases h with ⟨rfl, rfl, rfl, rfl⟩ | ⟨x, rfl, hlc, hcm, hz, hc, hwf⟩
  · refine (clone_nil w).mono ?_
    rintro e w' ⟨rfl, rfl⟩
    exact ⟨none, 0, rfl, Below.refl _ _, World.ownsRow_nil _ _ _ _⟩
  · by_cases h0 : len = 0
    · subst h0
      refine (clone_empty x cap w).mono ?_
      rintro e w' ⟨rfl, rfl⟩
      refine ⟨_, _, rfl, (Below.refl _ _).alloc (Nat.le_refl _) _, ?_⟩
      have := World.ownsRow_lit (base := w.heap.size) (e := 3) (size := 1) w (madeCells #[.int .i64 0] 0) 0 (Nat.le_refl _) (by unfold maxLen; omega) (by rw [size_madeCells])
      simpa [ints, madeCells] using this
    · obtain ⟨b, off, rfl, hcc⟩ := ints_at hc (by omega)
      have hb : b < w.heap.size := World.block_lt_of_cell? w ⟨b, off + 0, none⟩ (hcc 0 (by omega))
      refine (clone_some b off len cap zs w hlc hl hz hb hcc).mono ?_
      rintro e w' ⟨rfl, h1, h2⟩
      exact ⟨_, _, rfl, h1, h2⟩

end Go.Proofs.Qxb6604576a
