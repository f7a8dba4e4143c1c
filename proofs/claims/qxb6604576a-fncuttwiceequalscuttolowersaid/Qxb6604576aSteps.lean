/-
  The script of steps, cloned; the first guards; clampDepth.
-/
import Derived.Test.Qxb6604576aDoStep
import Derived.Test.Qxb6604576aClone
namespace Go.Proofs.Qxb6604576a
open Go.RowKit
set_option linter.unusedVariables false
set_option linter.unusedSimpArgs false

/-- One step: kind, column, back, keep. -/
abbrev St := Int × Int × Int × Bool
def stCells (t : St) : List Value := [.int .i64 t.1, .int .i64 t.2.1, .int .i64 t.2.2.1, .bool t.2.2.2]
def sflat (l : List St) : List Value := l.flatMap stCells
theorem sflat_append (a b : List St) : sflat (a ++ b) = sflat a ++ sflat b := by simp [sflat]
theorem sflat_length (l : List St) : (sflat l).length = l.length * 4 := by
  induction l with
  | nil => rfl
  | cons f r ih => simp [sflat, stCells] at ih ⊢; omega
theorem sflat_get {l : List St} {j : Nat} {f : St} (hf : l[j]? = some f) (o : Nat) (ho : o < 4) : (sflat l)[j * 4 + o]? = (stCells f)[o]? := by
  induction l generalizing j with
  | nil => simp at hf
  | cons g r ih =>
    cases j with
    | zero =>
      simp at hf; subst hf
      show (stCells g ++ sflat r)[_]? = _
      rw [List.getElem?_append_left (by simp [stCells]; omega)]
      simp
    | succ j =>
      simp at hf
      show (stCells g ++ sflat r)[_]? = _
      rw [List.getElem?_append_right (by simp [stCells]; omega)]
      have e : (j + 1) * 4 + o - (stCells g).length = j * 4 + o := by simp [stCells]; omega
      rw [e]
      exact ih hf

theorem set4 (A R : List Value) (n : Nat) (hA : A.length = n * 4) (a b c d r0 r1 r2 r3 : Value) :
    ((((A ++ r0 :: r1 :: r2 :: r3 :: R).set (n * 4) a).set (n * 4 + 1) b).set (n * 4 + 2) c).set (n * 4 + 3) d = A ++ a :: b :: c :: d :: R := by
  rw [List.set_append_right _ _ (by omega), List.set_append_right _ _ (by omega), List.set_append_right _ _ (by omega), List.set_append_right _ _ (by omega)]
  rw [show n * 4 - A.length = 0 from by omega, show n * 4 + 1 - A.length = 1 from by omega, show n * 4 + 2 - A.length = 2 from by omega, show n * 4 + 3 - A.length = 3 from by omega]
  rfl

theorem four {R : List Value} (h : 4 ≤ R.length) : ∃ r0 r1 r2 r3 R', R = r0 :: r1 :: r2 :: r3 :: R' := by
  match R, h with
  | r0 :: r1 :: r2 :: r3 :: R', _ => exact ⟨r0, r1, r2, r3, R', rfl⟩

/-- What the walk is told of the slice of steps that came in. -/
def IsSteps (w : World) (a : Option Addr) (len cap : Nat) (ss : List St) : Prop :=
  (a = none ∧ len = 0 ∧ cap = 0 ∧ ss = []) ∨
  ∃ x, a = some x ∧ ss.length = len ∧ len ≤ cap ∧ cap ≤ maxLen ∧ ∀ i t, ss[i]? = some t → w.cell? (x.add (i * 4)) = some (.int .i64 t.1) ∧ w.cell? (x.add (i * 4 + 1)) = some (.int .i64 t.2.1) ∧
    w.cell? (x.add (i * 4 + 2)) = some (.int .i64 t.2.2.1) ∧ w.cell? (x.add (i * 4 + 3)) = some (.bool t.2.2.2) ∧ t.2.2.1 ≤ 9223372036854775807

theorem Try.info35 : (Try.prog.info? 35).map (fun i => (i.zero, i.size, i.bytes)) = some (some (.agg #[.int .i64 0, .int .i64 0, .int .i64 0, .bool false]), 4, 32) := by kernel_rfl

def zero4 : Array Value := #[.int .i64 0, .int .i64 0, .int .i64 0, .bool false]

theorem make_steps (n : Nat) (hn : n ≤ 1048576) (w : World) : (Instr.makeSlice 22 (.int .i64 (n : Int)) (.int .i64 (n : Int))).run Try.prog w = .ok (.slice (some ⟨w.heap.size, 0, none⟩) n n) (w.alloc (.cells (madeCells zero4 (n * 4)) 35)) := by
  obtain ⟨i, hi, hz, hs, hb⟩ := info_parts Try.info35
  have := run_make (P := Try.prog) w 22 35 i _ Try.underlying22 hi hz .i64 .i64 n n (by omega) (Int.le_refl _) (by rw [hb]; omega) (by omega)
  rw [hs] at this
  simp only [Int.toNat_natCast] at this
  exact this

theorem sclone_nil (w : World) : Calls Try.prog 10 #[.slice none 0 0] w fun e w' => e = .returned (.slice none 0 0) ∧ w = w' := by
  have hq := fun w => run_eql_none (P := Try.prog) w 22 35 0 0 Try.underlying22
  go_enter Try.func10, Try.ntmps10
  go_wp2
  go_ret
  exact ⟨rfl, rfl⟩

theorem sclone_empty (x : Addr) (cap : Nat) (w : World) : Calls Try.prog 10 #[.slice (some x) 0 cap] w fun e w' => e = .returned (.slice (some ⟨w.heap.size, 0, none⟩) 0 0) ∧ w' = w.alloc (.cells (madeCells zero4 0) 35) := by
  have hq := fun w => run_eql_some (P := Try.prog) w 22 35 x 0 cap Try.underlying22
  have hmk : ∀ w : World, (Instr.makeSlice 22 (.int .i64 0) (.int .i64 0)).run Try.prog w = .ok (.slice (some ⟨w.heap.size, 0, none⟩) 0 0) (w.alloc (.cells (madeCells zero4 0) 35)) := fun w => make_steps 0 (by omega) w
  go_enter Try.func10, Try.ntmps10
  go_wp2
  refine wp_loop_rounds 1 ?_
  rw [rounds_succ]
  go_wp2
  go_ret
  exact ⟨rfl, rfl⟩

set_option maxHeartbeats 1000000 in
theorem sclone_some (b off len cap : Nat) (ss : List St) (w : World) (hl : len ≤ 1048576) (hz : ss.length = len) (hb : b < w.heap.size)
    (hc : ∀ i t, ss[i]? = some t → w.cell? ⟨b, off + i * 4, none⟩ = some (.int .i64 t.1) ∧ w.cell? ⟨b, off + i * 4 + 1, none⟩ = some (.int .i64 t.2.1) ∧ w.cell? ⟨b, off + i * 4 + 2, none⟩ = some (.int .i64 t.2.2.1) ∧ w.cell? ⟨b, off + i * 4 + 3, none⟩ = some (.bool t.2.2.2)) :
    Calls Try.prog 10 #[.slice (some ⟨b, off, none⟩) len cap] w fun e w' => e = .returned (.slice (some ⟨w.heap.size, 0, none⟩) len len) ∧ Below w.heap.size w w' ∧
      w'.ownsRow w.heap.size 35 4 (.slice (some ⟨w.heap.size, 0, none⟩) len len) len (sflat ss) := by
  have hq := fun w => run_eql_some (P := Try.prog) w 22 35 ⟨b, off, none⟩ len cap Try.underlying22
  have hmk := make_steps len hl
  go_enter Try.func10, Try.ntmps10
  go_wp2
  clear hmk hq
  go_loopg [4] len (fun k i wr => ∃ n rest, n + k = len ∧ i = .int .i64 n ∧ Below w.heap.size w wr ∧ wr.ownsRow w.heap.size 35 4 (.slice (some ⟨w.heap.size, 0, none⟩) len len) len (sflat (ss.take n) ++ rest))
  case atStart =>
    refine ⟨0, (madeCells zero4 (len * 4)).toList, by omega, rfl, (Below.refl _ _).alloc (Nat.le_refl _) _, ?_⟩
    have := World.ownsRow_lit (base := w.heap.size) (e := 35) (size := 4) w (madeCells zero4 (len * 4)) len (Nat.le_refl _) (by unfold maxLen; omega) (by rw [size_madeCells])
    simpa [sflat] using this
  case round =>
    obtain ⟨n, rest, hnk, rfl, hbel, hown⟩ := hrel
    cases gk with
    | zero =>
      have e : n = len := by omega
      subst e
      have hlt : ¬ (n : Int) < n := by omega
      have HB : Hid (Below w.heap.size w wr ∧ wr.ownsRow w.heap.size 35 4 (.slice (some ⟨w.heap.size, 0, none⟩) n n) n (sflat (ss.take n) ++ rest)) := ⟨hbel, hown⟩
      clear hbel hown hc
      go_wp2
      go_ret
      refine ⟨rfl, HB.out.1, ?_⟩
      have ho := HB.out.2
      have hr : rest = [] := List.eq_nil_of_length_eq_zero (by
        have := ho.1
        rw [List.length_append, sflat_length, List.length_take] at this; omega)
      rw [hr, List.append_nil, List.take_of_length_le (by omega)] at ho
      exact ho
    | succ k =>
      have hnl : n < len := by omega
      have hlt : (n : Int) < len := by omega
      have hn0 : (0 : Int) ≤ n := by omega
      obtain ⟨t, ht⟩ : ∃ t, ss[n]? = some t := ⟨ss[n]'(by omega), by simp⟩
      have cc := hc n t ht
      have c0 := (hbel.cell (p := ⟨b, off + n * 4, none⟩) hb).trans cc.1
      have c1 := (hbel.cell (p := ⟨b, off + n * 4 + 1, none⟩) hb).trans cc.2.1
      have c2 := (hbel.cell (p := ⟨b, off + n * 4 + 2, none⟩) hb).trans cc.2.2.1
      have c3 := (hbel.cell (p := ⟨b, off + n * 4 + 3, none⟩) hb).trans cc.2.2.2
      have hA : (sflat (ss.take n)).length = n * 4 := by rw [sflat_length, List.length_take]; omega
      obtain ⟨r0, r1, r2, r3, R, hR⟩ := four (R := rest) (by
        have := hown.1
        rw [List.length_append, hA] at this; omega)
      have dcell : ∀ o, o < 4 → ∃ v, wr.cell? ⟨w.heap.size, n * 4 + o, none⟩ = some v := fun o ho => by
        rw [hown.cellAt (n * 4 + o) (by omega)]
        exact ⟨_, List.getElem?_eq_getElem (by rw [hown.1]; omega)⟩
      obtain ⟨v0, d0⟩ := dcell 0 (by omega)
      obtain ⟨v1, d1⟩ := dcell 1 (by omega)
      obtain ⟨v2, d2⟩ := dcell 2 (by omega)
      obtain ⟨v3, d3⟩ := dcell 3 (by omega)
      rw [Nat.add_zero] at d0
      have f0 := hown.frozenAt (n * 4)
      have f1 := hown.frozenAt (n * 4 + 1)
      have f2 := hown.frozenAt (n * 4 + 2)
      have f3 := hown.frozenAt (n * 4 + 3)
      have hst := ((((hown.stored (n * 4) (.int .i64 t.1)).1.stored (n * 4 + 1) (.int .i64 t.2.1)).1.stored (n * 4 + 2) (.int .i64 t.2.2.1)).1.stored (n * 4 + 3) (.bool t.2.2.2)).1
      rw [hR, set4 _ R n hA] at hst
      have e : sflat (ss.take n) ++ .int .i64 t.1 :: .int .i64 t.2.1 :: .int .i64 t.2.2.1 :: .bool t.2.2.2 :: R = sflat (ss.take (n + 1)) ++ R := by
        rw [List.take_add_one, ht, sflat_append]; simp [sflat, stCells]
      rw [e] at hst
      have HB : Hid (Below w.heap.size w wr ∧ ((((wr.setCell ⟨w.heap.size, n * 4, none⟩ (.int .i64 t.1)).setCell ⟨w.heap.size, n * 4 + 1, none⟩ (.int .i64 t.2.1)).setCell ⟨w.heap.size, n * 4 + 2, none⟩ (.int .i64 t.2.2.1)).setCell ⟨w.heap.size, n * 4 + 3, none⟩ (.bool t.2.2.2)).ownsRow w.heap.size 35 4 (.slice (some ⟨w.heap.size, 0, none⟩) len len) len (sflat (ss.take (n + 1)) ++ R)) := ⟨hbel, hst⟩
      clear hbel hst hown hc cc ht hA hR dcell e
      go_wp2
      go_roundg k
      case measure => omega
      case rel =>
        obtain ⟨hbel, hst⟩ := HB.out
        exact ⟨n + 1, R, by omega, by go_num, (((hbel.setCell (Nat.le_refl _) _).setCell (Nat.le_refl _) _).setCell (Nat.le_refl _) _).setCell (Nat.le_refl _) _, hst⟩

theorem sclone_any {a : Option Addr} {len cap : Nat} {ss : List St} {w : World} (h : IsSteps w a len cap ss) (hl : len ≤ 1048576) :
    Calls Try.prog 10 #[.slice a len cap] w fun e w' => ∃ A cp, e = .returned (.slice A len cp) ∧ Below w.heap.size w w' ∧ w'.ownsRow w.heap.size 35 4 (.slice A len cp) len (sflat ss) := by
  rcases h with ⟨rfl, rfl, rfl, rfl⟩ | ⟨x, rfl, hz, hlc, hcm, hc⟩
  · refine (sclone_nil w).mono ?_
    rintro e w' ⟨rfl, rfl⟩
    exact ⟨none, 0, rfl, Below.refl _ _, World.ownsRow_nil _ _ _ _⟩
  · by_cases h0 : len = 0
    · subst h0
      refine (sclone_empty x cap w).mono ?_
      rintro e w' ⟨rfl, rfl⟩
      refine ⟨_, _, rfl, (Below.refl _ _).alloc (Nat.le_refl _) _, ?_⟩
      have := World.ownsRow_lit (base := w.heap.size) (e := 35) (size := 4) w (madeCells zero4 0) 0 (Nat.le_refl _) (by unfold maxLen; omega) (by rw [size_madeCells])
      have e : ss = [] := List.eq_nil_of_length_eq_zero hz
      rw [e]
      simpa [sflat, madeCells] using this
    · obtain ⟨t, ht⟩ : ∃ t, ss[0]? = some t := ⟨ss[0]'(by omega), by simp⟩
      have hc0 := (hc 0 t ht).1
      obtain ⟨b, off, spot⟩ := x
      have hspot : spot = none := by simpa [Addr.add] using World.cell?_spot hc0
      subst hspot
      have hb : b < w.heap.size := World.block_lt_of_cell? w _ hc0
      have add : ∀ k, (⟨b, off, none⟩ : Addr).add k = ⟨b, off + k, none⟩ := fun k => by unfold Addr.add; split <;> simp_all
      refine (sclone_some b off len cap ss w hl hz hb (fun i t ht => ?_)).mono ?_
      · have := hc i t ht
        simp only [add] at this
        exact ⟨this.1, this.2.1, this.2.2.1, this.2.2.2.1⟩
      · rintro e w' ⟨rfl, h1, h2⟩
        exact ⟨_, _, rfl, h1, h2⟩

theorem IsSteps.len {w : World} {a : Option Addr} {len cap : Nat} {ss : List St} (h : IsSteps w a len cap ss) : ss.length = len := by
  rcases h with ⟨_, h, _, h2⟩ | ⟨x, _, h, _⟩
  · rw [h2, h]; rfl
  · exact h
theorem IsSteps.back {w : World} {a : Option Addr} {len cap : Nat} {ss : List St} (h : IsSteps w a len cap ss) {i : Nat} {t : St} (ht : ss[i]? = some t) : t.2.2.1 ≤ 9223372036854775807 := by
  rcases h with ⟨_, _, _, h2⟩ | ⟨x, _, _, _, _, h⟩
  · rw [h2] at ht; simp at ht
  · exact (h i t ht).2.2.2.2

/-- clampDepth -/
def clampN (x : Int) (n : Nat) : Nat := if x < 0 then 0 else min x.toNat n
theorem clamp_any (x : Int) (n : Nat) (w : World) : Calls Try.prog 23 #[.int .i64 x, .int .i64 n] w fun e w' => e = .returned (.int .i64 (clampN x n)) ∧ w = w' := by
  by_cases h1 : x < 0
  · have e : ((clampN x n : Nat) : Int) = 0 := by unfold clampN; rw [if_pos h1]; rfl
    rw [e]
    go_enter Try.func23, Try.ntmps23
    go_wp2
    go_ret
    exact ⟨rfl, rfl⟩
  · by_cases h2 : (n : Int) < x
    · have e : ((clampN x n : Nat) : Int) = n := by unfold clampN; rw [if_neg h1]; omega
      rw [e]
      go_enter Try.func23, Try.ntmps23
      go_wp2
      go_ret
      exact ⟨rfl, rfl⟩
    · have e : ((clampN x n : Nat) : Int) = x := by unfold clampN; rw [if_neg h1]; omega
      rw [e]
      go_enter Try.func23, Try.ntmps23
      go_wp2
      go_ret
      exact ⟨rfl, rfl⟩
theorem clampN_le (x : Int) (n : Nat) : clampN x n ≤ n := by unfold clampN; split <;> omega

/-! ### The first guards -/
theorem bytes9_yes (a : Option Addr) (len cap : Nat) (w : World) (h : len ≤ 1048576) :
    Calls Try.prog 9 #[.slice a len cap] w fun e w' => e = .returned (.bool true) ∧ w = w' := by
  have h1 : ¬ (1048576 : Int) < (len : Int) := by omega
  go_enter Try.func9, Try.ntmps9
  go_wp2
  go_ret
  exact ⟨rfl, rfl⟩
theorem bytes9_no (a : Option Addr) (len cap : Nat) (w : World) (h : 1048576 < len) :
    Calls Try.prog 9 #[.slice a len cap] w fun e w' => e = .returned (.bool false) ∧ w = w' := by
  have h1 : (1048576 : Int) < (len : Int) := by omega
  go_enter Try.func9, Try.ntmps9
  go_wp2
  go_ret
  exact ⟨rfl, rfl⟩
theorem bytes14_yes (a : Option Addr) (len cap : Nat) (k1 k2 k3 k4 : Int) (w : World) (h : len ≤ 1048576) :
    Calls Try.prog 14 #[.slice a len cap, .int .i64 k1, .int .i64 k2, .int .i64 k3, .int .i64 k4] w fun e w' => e = .returned (.bool true) ∧ w = w' := by
  have h1 : ¬ (1048576 : Int) < (len : Int) := by omega
  go_enter Try.func14, Try.ntmps14
  go_wp2
  go_ret
  exact ⟨rfl, rfl⟩
theorem bytes14_no (a : Option Addr) (len cap : Nat) (k1 k2 k3 k4 : Int) (w : World) (h : 1048576 < len) :
    Calls Try.prog 14 #[.slice a len cap, .int .i64 k1, .int .i64 k2, .int .i64 k3, .int .i64 k4] w fun e w' => e = .returned (.bool false) ∧ w = w' := by
  have h1 : (1048576 : Int) < (len : Int) := by omega
  go_enter Try.func14, Try.ntmps14
  go_wp2
  go_ret
  exact ⟨rfl, rfl⟩
theorem bytes22_yes (a : Option Addr) (len cap : Nat) (k1 : Int) (w : World) (h : len ≤ 1048576) :
    Calls Try.prog 22 #[.slice a len cap, .int .i64 k1] w fun e w' => e = .returned (.bool true) ∧ w = w' := by
  have h1 : ¬ (1048576 : Int) < (len : Int) := by omega
  go_enter Try.func22, Try.ntmps22
  go_wp2
  go_ret
  exact ⟨rfl, rfl⟩
theorem bytes22_no (a : Option Addr) (len cap : Nat) (k1 : Int) (w : World) (h : 1048576 < len) :
    Calls Try.prog 22 #[.slice a len cap, .int .i64 k1] w fun e w' => e = .returned (.bool false) ∧ w = w' := by
  have h1 : (1048576 : Int) < (len : Int) := by omega
  go_enter Try.func22, Try.ntmps22
  go_wp2
  go_ret
  exact ⟨rfl, rfl⟩
theorem bytes24_yes (a : Option Addr) (len cap : Nat) (k1 k2 : Int) (w : World) (h : len ≤ 1048576) :
    Calls Try.prog 24 #[.slice a len cap, .int .i64 k1, .int .i64 k2] w fun e w' => e = .returned (.bool true) ∧ w = w' := by
  have h1 : ¬ (1048576 : Int) < (len : Int) := by omega
  go_enter Try.func24, Try.ntmps24
  go_wp2
  go_ret
  exact ⟨rfl, rfl⟩
theorem bytes24_no (a : Option Addr) (len cap : Nat) (k1 k2 : Int) (w : World) (h : 1048576 < len) :
    Calls Try.prog 24 #[.slice a len cap, .int .i64 k1, .int .i64 k2] w fun e w' => e = .returned (.bool false) ∧ w = w' := by
  have h1 : (1048576 : Int) < (len : Int) := by omega
  go_enter Try.func24, Try.ntmps24
  go_wp2
  go_ret
  exact ⟨rfl, rfl⟩
theorem bytes28_yes (a : Option Addr) (len cap : Nat) (k1 : Int) (w : World) (h : len ≤ 1048576) :
    Calls Try.prog 28 #[.slice a len cap, .int .i64 k1] w fun e w' => e = .returned (.bool true) ∧ w = w' := by
  have h1 : ¬ (1048576 : Int) < (len : Int) := by omega
  go_enter Try.func28, Try.ntmps28
  go_wp2
  go_ret
  exact ⟨rfl, rfl⟩
theorem bytes28_no (a : Option Addr) (len cap : Nat) (k1 : Int) (w : World) (h : 1048576 < len) :
    Calls Try.prog 28 #[.slice a len cap, .int .i64 k1] w fun e w' => e = .returned (.bool false) ∧ w = w' := by
  have h1 : (1048576 : Int) < (len : Int) := by omega
  go_enter Try.func28, Try.ntmps28
  go_wp2
  go_ret
  exact ⟨rfl, rfl⟩

/-! ### The scanner and the record, new -/
theorem mod_new (w : World) : Mod (w.alloc (moObj (.slice none 0 0) (.slice none 0 0) (.slice none 0 0))) (fun k => k = w.heap.size) w.heap.size [] [] [] (.slice none 0 0) (.slice none 0 0) (.slice none 0 0) where
  mob := halloc_new _ _
  srow := World.ownsRow_nil _ _ _ _
  frow := World.ownsRow_nil _ _ _ _
  nrow := World.ownsRow_nil _ _ _ _
  ne := fun g hg => by cases hg
  Fm := rfl
  Fsv := fun g hg => by cases hg
  Ffv := fun g hg => by cases hg
  Fnv := fun g hg => by cases hg
  lt := fun k hk => by subst hk; rw [size_alloc]; omega

theorem sys_new (w : World) : Sys ((w.alloc (scObj none (.slice none 0 0))).alloc (moObj (.slice none 0 0) (.slice none 0 0) (.slice none 0 0))) (fun k => k = w.heap.size ∨ k = w.heap.size + 1) w.heap.size (w.heap.size + 1) [] [] [] := by
  have hS := (scan_new w).frame (G := fun _ => False) ((Ext.refl _ _).alloc (moObj (.slice none 0 0) (.slice none 0 0) (.slice none 0 0))) (fun _ _ h => h)
  have hM := mod_new (w.alloc (scObj none (.slice none 0 0)))
  rw [size_alloc] at hM
  exact ⟨⟨_, _, _, _, _, _, hS, hM, fun k h1 h2 => by have : k = w.heap.size := h1; have : k = w.heap.size + 1 := h2; omega, fun k h => .inl h, fun k h => .inr h⟩, fun k hk => by rw [size_alloc, size_alloc]; rcases hk with h | h <;> omega, fun b hb => by simp at hb⟩

end Go.Proofs.Qxb6604576a
