/-
  The slices cloned and turned.
-/
import Derived.Test.Qxb6604582aGuard
namespace Go.Proofs.Qxb6604582a
open Go.RowKit
set_option linter.unusedVariables false
set_option linter.unusedSimpArgs false

/-- A slice of integers that can be read. -/
def Rd (k : IntKind) (w : World) (a : Option Addr) (len : Nat) (zs : List Int) : Prop :=
  zs.length = len ∧ ∀ n z, zs[n]? = some z → ∃ b off, a = some ⟨b, off, none⟩ ∧ b < w.heap.size ∧ w.cell? ⟨b, off + n, none⟩ = some (.int k z)
/-- A slice of steps that can be read. -/
def Ri (w : World) (a : Option Addr) (len : Nat) (ss : List SI) : Prop :=
  ss.length = len ∧ ∀ n t, ss[n]? = some t → ∃ b off, a = some ⟨b, off, none⟩ ∧ b < w.heap.size ∧ w.cell? ⟨b, off + n * 3, none⟩ = some (.int .u8 t.1) ∧ w.cell? ⟨b, off + n * 3 + 1, none⟩ = some (.int .i64 t.2.1) ∧ w.cell? ⟨b, off + n * 3 + 2, none⟩ = some (.string t.2.2)

theorem IsIn.ri {w : World} {a : Option Addr} {len cap : Nat} {ss : List SI} (h : IsIn w a len cap ss) : Ri w a len ss := by
  refine ⟨h.num, fun n t ht => ?_⟩
  have hn : n < len := by
    have := (List.getElem?_eq_some_iff.1 ht).1
    rw [h.num] at this; exact this
  obtain ⟨b, off, t2, e, hb, ht2, c0, c1, c2, _⟩ := h.at hn
  rw [ht] at ht2
  simp only [Option.some.injEq] at ht2
  subst ht2
  exact ⟨b, off, e, hb, c0, c1, c2⟩
theorem IsRow.rd {k : IntKind} {w : World} {a : Option Addr} {len cap : Nat} {zs : List Int} (h : IsRow k w a len cap zs) : Rd k w a len (zs.take len) := by
  rcases h with ⟨rfl, rfl, rfl, rfl⟩ | ⟨x, rfl, hlc, hcm, hz, hc, hwf⟩
  · exact ⟨rfl, fun n z hz => by simp at hz⟩
  · refine ⟨by rw [List.length_take]; omega, fun n z hzn => ?_⟩
    have hn : n < len := by
      have := (List.getElem?_eq_some_iff.1 hzn).1
      rw [List.length_take] at this; omega
    rw [List.getElem?_take, if_pos hn] at hzn
    obtain ⟨b, off, rfl, hcc⟩ := ints_at hc (by omega)
    refine ⟨b, off, rfl, World.block_lt_of_cell? w ⟨b, off + n, none⟩ (hcc n (by omega)), ?_⟩
    rw [hcc n (by omega)]
    simp [List.getD, hzn]
theorem rd_of_own {k : IntKind} {w : World} {base e : Nat} {A : Option Addr} {len cp : Nat} {zs : List Int} (h : w.ownsRow base e 1 (.slice A len cp) len (ints k zs)) : Rd k w A len zs := by
  have hl : zs.length = len := by have := h.1; simpa [ints] using this
  refine ⟨hl, fun n z hz => ?_⟩
  have hn : n < len := by
    have := (List.getElem?_eq_some_iff.1 hz).1
    omega
  obtain ⟨g, cap, hv, _, hlt⟩ := h.form (by omega)
  simp only [Value.slice.injEq] at hv
  obtain ⟨rfl, _, rfl⟩ := hv
  refine ⟨g, 0, rfl, hlt, ?_⟩
  rw [Nat.zero_add, h.cellAt n (by omega)]
  simp [ints, hz]
theorem ri_of_own {w : World} {base e : Nat} {A : Option Addr} {len cp : Nat} {ss : List SI} (h : w.ownsRow base e 3 (.slice A len cp) len (sflat ss)) : Ri w A len ss := by
  have hl : ss.length = len := by have := h.1; rw [sflat_length] at this; omega
  refine ⟨hl, fun n t ht => ?_⟩
  have hn : n < len := by
    have := (List.getElem?_eq_some_iff.1 ht).1
    omega
  obtain ⟨g, cap, hv, _, hlt⟩ := h.form (by omega)
  simp only [Value.slice.injEq] at hv
  obtain ⟨rfl, _, rfl⟩ := hv
  refine ⟨g, 0, rfl, hlt, ?_, ?_, ?_⟩
  · rw [Nat.zero_add, h.cellAt (n * 3) (by omega)]; exact sflat_get ht 0 (by omega)
  · rw [Nat.zero_add, h.cellAt (n * 3 + 1) (by omega)]; exact sflat_get ht 1 (by omega)
  · rw [Nat.zero_add, h.cellAt (n * 3 + 2) (by omega)]; exact sflat_get ht 2 (by omega)

theorem run_eql_some {P : Program} (w : World) (t e : TypeId) (a : Addr) (l c : Nat) (h : P.underlying t = some (.slice e)) : (binOp .eql t (.slice (some a) l c) (.slice none 0 0)).run P w = .ok (.bool false) w := by
  have h : ∀ d : Nat, (Op.equalIn (d + 1) t (.slice (some a) l c) (.slice none 0 0)).run P w = .ok false w := fun d => by
    simp [Op.equalIn, run_underlying h]
  simp only [binOp]
  simp [Op.equal, Op.maxDepth, h 9999]
theorem run_eql_none {P : Program} (w : World) (t e : TypeId) (l c : Nat) (h : P.underlying t = some (.slice e)) : (binOp .eql t (.slice none l c) (.slice none 0 0)).run P w = .ok (.bool true) w := by
  have h : ∀ d : Nat, (Op.equalIn (d + 1) t (.slice none l c) (.slice none 0 0)).run P w = .ok true w := fun d => by
    simp [Op.equalIn, run_underlying h]
  simp only [binOp]
  simp [Op.equal, Op.maxDepth, h 9999]

def zero3 : Array Value := #[.int .u8 0, .int .i64 0, .string ByteArray.empty]

theorem make10 (n : Nat) (hn : n ≤ 65536) (w : World) : (Instr.makeSlice 25 (.int .i64 (n : Int)) (.int .i64 (n : Int))).run Try.prog w = .ok (.slice (some ⟨w.heap.size, 0, none⟩) n n) (w.alloc (.cells (madeCells zero3 (n * 3)) 37)) := by
  obtain ⟨i, hi, hz, hs, hb⟩ := info_parts Try.info37
  have := run_make (P := Try.prog) w 25 37 i _ Try.underlying25 hi hz .i64 .i64 n n (by omega) (Int.le_refl _) (by rw [hb]; omega) (by omega)
  rw [hs] at this
  simp only [Int.toNat_natCast] at this
  exact this

theorem sclone_nil (l c : Nat) (w : World) : Calls Try.prog 10 #[.slice none l c] w fun e w' => e = .returned (.slice none 0 0) ∧ w = w' := by
  have hq := fun w => run_eql_none (P := Try.prog) w 25 37 l c Try.underlying25
  go_enter Try.func10, Try.ntmps10
  go_wp2
  go_ret
  exact ⟨rfl, rfl⟩

theorem sclone_empty (x : Addr) (cap : Nat) (w : World) : Calls Try.prog 10 #[.slice (some x) 0 cap] w fun e w' => e = .returned (.slice (some ⟨w.heap.size, 0, none⟩) 0 0) ∧ w' = w.alloc (.cells (madeCells zero3 0) 37) := by
  have hq := fun w => run_eql_some (P := Try.prog) w 25 37 x 0 cap Try.underlying25
  have hmk : ∀ w : World, (Instr.makeSlice 25 (.int .i64 0) (.int .i64 0)).run Try.prog w = .ok (.slice (some ⟨w.heap.size, 0, none⟩) 0 0) (w.alloc (.cells (madeCells zero3 0) 37)) := fun w => make10 0 (by omega) w
  go_enter Try.func10, Try.ntmps10
  go_wp2
  refine wp_loop_rounds 1 ?_
  rw [rounds_succ]
  go_wp2
  go_ret
  exact ⟨rfl, rfl⟩

set_option maxHeartbeats 1000000 in
theorem sclone_some (b off len cap : Nat) (ss : List SI) (w : World) (hl : len ≤ 65536) (hz : ss.length = len) (hb : b < w.heap.size)
    (hc : ∀ i t, ss[i]? = some t → w.cell? ⟨b, off + i * 3, none⟩ = some (.int .u8 t.1) ∧ w.cell? ⟨b, off + i * 3 + 1, none⟩ = some (.int .i64 t.2.1) ∧ w.cell? ⟨b, off + i * 3 + 2, none⟩ = some (.string t.2.2)) :
    Calls Try.prog 10 #[.slice (some ⟨b, off, none⟩) len cap] w fun e w' => e = .returned (.slice (some ⟨w.heap.size, 0, none⟩) len len) ∧ Below w.heap.size w w' ∧
      w'.ownsRow w.heap.size 37 3 (.slice (some ⟨w.heap.size, 0, none⟩) len len) len (sflat ss) := by
  have hq := fun w => run_eql_some (P := Try.prog) w 25 37 ⟨b, off, none⟩ len cap Try.underlying25
  have hmk := make10 len hl
  go_enter Try.func10, Try.ntmps10
  go_wp2
  clear hmk hq
  go_loopg [4] len (fun k i wr => ∃ n rest, n + k = len ∧ i = .int .i64 n ∧ Below w.heap.size w wr ∧ wr.ownsRow w.heap.size 37 3 (.slice (some ⟨w.heap.size, 0, none⟩) len len) len (sflat (ss.take n) ++ rest))
  case atStart =>
    refine ⟨0, (madeCells zero3 (len * 3)).toList, by omega, rfl, (Below.refl _ _).alloc (Nat.le_refl _) _, ?_⟩
    have := World.ownsRow_lit (base := w.heap.size) (e := 37) (size := 3) w (madeCells zero3 (len * 3)) len (Nat.le_refl _) (by unfold maxLen; omega) (by rw [size_madeCells])
    simpa [sflat] using this
  case round =>
    obtain ⟨n, rest, hnk, rfl, hbel, hown⟩ := hrel
    cases gk with
    | zero =>
      have e : n = len := by omega
      subst e
      have hlt : ¬ (n : Int) < n := by omega
      have HB : Hid (Below w.heap.size w wr ∧ wr.ownsRow w.heap.size 37 3 (.slice (some ⟨w.heap.size, 0, none⟩) n n) n (sflat (ss.take n) ++ rest)) := ⟨hbel, hown⟩
      clear hbel hown hc
      go_wp2
      go_ret
      refine ⟨rfl, HB.out.1, ?_⟩
      have ho := HB.out.2
      have hr : rest = [] := List.eq_nil_of_length_eq_zero (by
        have := ho.1
        rw [List.length_append, sflat_length, List.length_take] at this; omega)
      rw [hr, List.append_nil, List.take_of_length_le (by omega)] at ho
      exact ho
    | succ k =>
      have hnl : n < len := by omega
      have hlt : (n : Int) < len := by omega
      have hn0 : (0 : Int) ≤ n := by omega
      obtain ⟨t, ht⟩ : ∃ t, ss[n]? = some t := ⟨ss[n]'(by omega), by simp⟩
      have cc := hc n t ht
      have c0 := (hbel.cell (p := ⟨b, off + n * 3, none⟩) hb).trans cc.1
      have c1 := (hbel.cell (p := ⟨b, off + n * 3 + 1, none⟩) hb).trans cc.2.1
      have c2 := (hbel.cell (p := ⟨b, off + n * 3 + 2, none⟩) hb).trans cc.2.2
      have hA : (sflat (ss.take n)).length = n * 3 := by rw [sflat_length, List.length_take]; omega
      obtain ⟨r0, r1, r2, R, hR⟩ := three (R := rest) (by
        have := hown.1
        rw [List.length_append, hA] at this; omega)
      have dcell : ∀ o, o < 3 → ∃ v, wr.cell? ⟨w.heap.size, n * 3 + o, none⟩ = some v := fun o ho => by
        rw [hown.cellAt (n * 3 + o) (by omega)]
        exact ⟨_, List.getElem?_eq_getElem (by rw [hown.1]; omega)⟩
      obtain ⟨v0, d0⟩ := dcell 0 (by omega)
      obtain ⟨v1, d1⟩ := dcell 1 (by omega)
      obtain ⟨v2, d2⟩ := dcell 2 (by omega)
      rw [Nat.add_zero] at d0
      have f0 := hown.frozenAt (n * 3)
      have f1 := hown.frozenAt (n * 3 + 1)
      have f2 := hown.frozenAt (n * 3 + 2)
      have hst := (((hown.stored (n * 3) (.int .u8 t.1)).1.stored (n * 3 + 1) (.int .i64 t.2.1)).1.stored (n * 3 + 2) (.string t.2.2)).1
      rw [hR, set3 _ R n hA] at hst
      have e : sflat (ss.take n) ++ .int .u8 t.1 :: .int .i64 t.2.1 :: .string t.2.2 :: R = sflat (ss.take (n + 1)) ++ R := by
        rw [List.take_add_one, ht, sflat_append]; simp [sflat, siCells]
      rw [e] at hst
      have hbw : b ≠ w.heap.size := by omega
      have HB : Hid (Below w.heap.size w wr ∧ (((wr.setCell ⟨w.heap.size, n * 3, none⟩ (.int .u8 t.1)).setCell ⟨w.heap.size, n * 3 + 1, none⟩ (.int .i64 t.2.1)).setCell ⟨w.heap.size, n * 3 + 2, none⟩ (.string t.2.2)).ownsRow w.heap.size 37 3 (.slice (some ⟨w.heap.size, 0, none⟩) len len) len (sflat (ss.take (n + 1)) ++ R)) := ⟨hbel, hst⟩
      clear hbel hst hown hc cc ht hA hR dcell e
      go_wp2
      all_goals go_roundg k
      all_goals first
        | omega
        | (obtain ⟨hbel, hst⟩ := HB.out; exact ⟨n + 1, R, by omega, by go_num, ((((Below.refl _ _).trans hbel).setCell (Nat.le_refl _) _).setCell (Nat.le_refl _) _).setCell (Nat.le_refl _) _, hst⟩)
        | (obtain ⟨hbel, hst⟩ := HB.out; exact ⟨n + 1, R, by omega, by go_num, (((hbel.setCell (Nat.le_refl _) _).setCell (Nat.le_refl _) _).setCell (Nat.le_refl _) _).drew, hst.drew⟩)

theorem sclone_any {a : Option Addr} {len cap : Nat} {ss : List SI} {w : World} (h : Ri w a len ss) (hl : len ≤ 65536) :
    Calls Try.prog 10 #[.slice a len cap] w fun e w' => ∃ A, e = .returned (.slice A len len) ∧ Below w.heap.size w w' ∧ w'.ownsRow w.heap.size 37 3 (.slice A len len) len (sflat ss) := by
  have hlen := h.1
  cases a with
  | none =>
    have h0 : len = 0 := by
      rcases Nat.eq_zero_or_pos len with e | e
      · exact e
      · obtain ⟨b, off, e2, _⟩ := h.2 0 (ss[0]'(by omega)) (by simp)
        cases e2
    subst h0
    refine (sclone_nil 0 cap w).mono ?_
    rintro e w' ⟨rfl, rfl⟩
    have e : ss = [] := List.eq_nil_of_length_eq_zero hlen
    subst e
    exact ⟨none, rfl, Below.refl _ _, World.ownsRow_nil _ _ _ _⟩
  | some x =>
    by_cases h0 : len = 0
    · subst h0
      refine (sclone_empty x cap w).mono ?_
      rintro e w' ⟨rfl, rfl⟩
      refine ⟨_, rfl, (Below.refl _ _).alloc (Nat.le_refl _) _, ?_⟩
      have := World.ownsRow_lit (base := w.heap.size) (e := 37) (size := 3) w (madeCells zero3 0) 0 (Nat.le_refl _) (by unfold maxLen; omega) (by rw [size_madeCells])
      have e : ss = [] := List.eq_nil_of_length_eq_zero hlen
      rw [e]
      simpa [sflat, madeCells] using this
    · obtain ⟨b, off, e, hb, _⟩ := h.2 0 (ss[0]'(by omega)) (by simp)
      simp only [Option.some.injEq] at e
      subst e
      refine (sclone_some b off len cap ss w hl hlen hb (fun i t ht => ?_)).mono ?_
      · obtain ⟨b2, off2, e2, _, c⟩ := h.2 i t ht
        simp only [Option.some.injEq, Addr.mk.injEq, and_true] at e2
        obtain ⟨rfl, rfl⟩ := e2
        exact c
      · rintro e w' ⟨rfl, h1, h2⟩
        exact ⟨_, rfl, h1, h2⟩

theorem make12 (n : Nat) (hn : n ≤ 65536) (w : World) : (Instr.makeSlice 30 (.int .i64 (n : Int)) (.int .i64 (n : Int))).run Try.prog w = .ok (.slice (some ⟨w.heap.size, 0, none⟩) n n) (w.alloc (.cells (madeCells zero3 (n * 3)) 41)) := by
  obtain ⟨i, hi, hz, hs, hb⟩ := info_parts Try.info41
  have := run_make (P := Try.prog) w 30 41 i _ Try.underlying30 hi hz .i64 .i64 n n (by omega) (Int.le_refl _) (by rw [hb]; omega) (by omega)
  rw [hs] at this
  simp only [Int.toNat_natCast] at this
  exact this

theorem turn_nil (l c : Nat) (w : World) : Calls Try.prog 12 #[.slice none l c] w fun e w' => e = .returned (.slice none 0 0) ∧ w = w' := by
  have hq := fun w => run_eql_none (P := Try.prog) w 25 37 l c Try.underlying25
  go_enter Try.func12, Try.ntmps12
  go_wp2
  go_ret
  exact ⟨rfl, rfl⟩

theorem turn_empty (x : Addr) (cap : Nat) (w : World) : Calls Try.prog 12 #[.slice (some x) 0 cap] w fun e w' => e = .returned (.slice (some ⟨w.heap.size, 0, none⟩) 0 0) ∧ w' = w.alloc (.cells (madeCells zero3 0) 41) := by
  have hq := fun w => run_eql_some (P := Try.prog) w 25 37 x 0 cap Try.underlying25
  have hmk : ∀ w : World, (Instr.makeSlice 30 (.int .i64 0) (.int .i64 0)).run Try.prog w = .ok (.slice (some ⟨w.heap.size, 0, none⟩) 0 0) (w.alloc (.cells (madeCells zero3 0) 41)) := fun w => make12 0 (by omega) w
  go_enter Try.func12, Try.ntmps12
  go_wp2
  refine wp_loop_rounds 1 ?_
  rw [rounds_succ]
  go_wp2
  go_ret
  exact ⟨rfl, rfl⟩

set_option maxHeartbeats 1000000 in
theorem turn_some (b off len cap : Nat) (ss : List SI) (w : World) (hl : len ≤ 65536) (hz : ss.length = len) (hb : b < w.heap.size)
    (hc : ∀ i t, ss[i]? = some t → w.cell? ⟨b, off + i * 3, none⟩ = some (.int .u8 t.1) ∧ w.cell? ⟨b, off + i * 3 + 1, none⟩ = some (.int .i64 t.2.1) ∧ w.cell? ⟨b, off + i * 3 + 2, none⟩ = some (.string t.2.2)) :
    Calls Try.prog 12 #[.slice (some ⟨b, off, none⟩) len cap] w fun e w' => e = .returned (.slice (some ⟨w.heap.size, 0, none⟩) len len) ∧ Below w.heap.size w w' ∧
      w'.ownsRow w.heap.size 41 3 (.slice (some ⟨w.heap.size, 0, none⟩) len len) len (sflat ss) := by
  have hq := fun w => run_eql_some (P := Try.prog) w 25 37 ⟨b, off, none⟩ len cap Try.underlying25
  have hmk := make12 len hl
  go_enter Try.func12, Try.ntmps12
  go_wp2
  clear hmk hq
  go_loopg [4] len (fun k i wr => ∃ n rest, n + k = len ∧ i = .int .i64 n ∧ Below w.heap.size w wr ∧ wr.ownsRow w.heap.size 41 3 (.slice (some ⟨w.heap.size, 0, none⟩) len len) len (sflat (ss.take n) ++ rest))
  case atStart =>
    refine ⟨0, (madeCells zero3 (len * 3)).toList, by omega, rfl, (Below.refl _ _).alloc (Nat.le_refl _) _, ?_⟩
    have := World.ownsRow_lit (base := w.heap.size) (e := 41) (size := 3) w (madeCells zero3 (len * 3)) len (Nat.le_refl _) (by unfold maxLen; omega) (by rw [size_madeCells])
    simpa [sflat] using this
  case round =>
    obtain ⟨n, rest, hnk, rfl, hbel, hown⟩ := hrel
    cases gk with
    | zero =>
      have e : n = len := by omega
      subst e
      have hlt : ¬ (n : Int) < n := by omega
      have HB : Hid (Below w.heap.size w wr ∧ wr.ownsRow w.heap.size 41 3 (.slice (some ⟨w.heap.size, 0, none⟩) n n) n (sflat (ss.take n) ++ rest)) := ⟨hbel, hown⟩
      clear hbel hown hc
      go_wp2
      go_ret
      refine ⟨rfl, HB.out.1, ?_⟩
      have ho := HB.out.2
      have hr : rest = [] := List.eq_nil_of_length_eq_zero (by
        have := ho.1
        rw [List.length_append, sflat_length, List.length_take] at this; omega)
      rw [hr, List.append_nil, List.take_of_length_le (by omega)] at ho
      exact ho
    | succ k =>
      have hnl : n < len := by omega
      have hlt : (n : Int) < len := by omega
      have hn0 : (0 : Int) ≤ n := by omega
      obtain ⟨t, ht⟩ : ∃ t, ss[n]? = some t := ⟨ss[n]'(by omega), by simp⟩
      have cc := hc n t ht
      have c0 := (hbel.cell (p := ⟨b, off + n * 3, none⟩) hb).trans cc.1
      have c1 := (hbel.cell (p := ⟨b, off + n * 3 + 1, none⟩) hb).trans cc.2.1
      have c2 := (hbel.cell (p := ⟨b, off + n * 3 + 2, none⟩) hb).trans cc.2.2
      have hA : (sflat (ss.take n)).length = n * 3 := by rw [sflat_length, List.length_take]; omega
      obtain ⟨r0, r1, r2, R, hR⟩ := three (R := rest) (by
        have := hown.1
        rw [List.length_append, hA] at this; omega)
      have dcell : ∀ o, o < 3 → ∃ v, wr.cell? ⟨w.heap.size, n * 3 + o, none⟩ = some v := fun o ho => by
        rw [hown.cellAt (n * 3 + o) (by omega)]
        exact ⟨_, List.getElem?_eq_getElem (by rw [hown.1]; omega)⟩
      obtain ⟨v0, d0⟩ := dcell 0 (by omega)
      obtain ⟨v1, d1⟩ := dcell 1 (by omega)
      obtain ⟨v2, d2⟩ := dcell 2 (by omega)
      rw [Nat.add_zero] at d0
      have f0 := hown.frozenAt (n * 3)
      have f1 := hown.frozenAt (n * 3 + 1)
      have f2 := hown.frozenAt (n * 3 + 2)
      have hst := (((hown.stored (n * 3) (.int .u8 t.1)).1.stored (n * 3 + 1) (.int .i64 t.2.1)).1.stored (n * 3 + 2) (.string t.2.2)).1
      rw [hR, set3 _ R n hA] at hst
      have e : sflat (ss.take n) ++ .int .u8 t.1 :: .int .i64 t.2.1 :: .string t.2.2 :: R = sflat (ss.take (n + 1)) ++ R := by
        rw [List.take_add_one, ht, sflat_append]; simp [sflat, siCells]
      rw [e] at hst
      have hbw : b ≠ w.heap.size := by omega
      have HB : Hid (Below w.heap.size w wr ∧ (((wr.setCell ⟨w.heap.size, n * 3, none⟩ (.int .u8 t.1)).setCell ⟨w.heap.size, n * 3 + 1, none⟩ (.int .i64 t.2.1)).setCell ⟨w.heap.size, n * 3 + 2, none⟩ (.string t.2.2)).ownsRow w.heap.size 41 3 (.slice (some ⟨w.heap.size, 0, none⟩) len len) len (sflat (ss.take (n + 1)) ++ R)) := ⟨hbel, hst⟩
      clear hbel hst hown hc cc ht hA hR dcell e
      go_wp2
      go_region
      all_goals go_wp2
      all_goals go_roundg k
      all_goals first
        | omega
        | (obtain ⟨hbel, hst⟩ := HB.out; exact ⟨n + 1, R, by omega, by go_num, ((((Below.refl _ _).trans hbel).setCell (Nat.le_refl _) _).setCell (Nat.le_refl _) _).setCell (Nat.le_refl _) _, hst⟩)
        | (obtain ⟨hbel, hst⟩ := HB.out; exact ⟨n + 1, R, by omega, by go_num, (((hbel.setCell (Nat.le_refl _) _).setCell (Nat.le_refl _) _).setCell (Nat.le_refl _) _).drew, hst.drew⟩)

theorem turn_any {a : Option Addr} {len cap : Nat} {ss : List SI} {w : World} (h : Ri w a len ss) (hl : len ≤ 65536) :
    Calls Try.prog 12 #[.slice a len cap] w fun e w' => ∃ A, e = .returned (.slice A len len) ∧ Below w.heap.size w w' ∧ w'.ownsRow w.heap.size 41 3 (.slice A len len) len (sflat ss) := by
  have hlen := h.1
  cases a with
  | none =>
    have h0 : len = 0 := by
      rcases Nat.eq_zero_or_pos len with e | e
      · exact e
      · obtain ⟨b, off, e2, _⟩ := h.2 0 (ss[0]'(by omega)) (by simp)
        cases e2
    subst h0
    refine (turn_nil 0 cap w).mono ?_
    rintro e w' ⟨rfl, rfl⟩
    have e : ss = [] := List.eq_nil_of_length_eq_zero hlen
    subst e
    exact ⟨none, rfl, Below.refl _ _, World.ownsRow_nil _ _ _ _⟩
  | some x =>
    by_cases h0 : len = 0
    · subst h0
      refine (turn_empty x cap w).mono ?_
      rintro e w' ⟨rfl, rfl⟩
      refine ⟨_, rfl, (Below.refl _ _).alloc (Nat.le_refl _) _, ?_⟩
      have := World.ownsRow_lit (base := w.heap.size) (e := 41) (size := 3) w (madeCells zero3 0) 0 (Nat.le_refl _) (by unfold maxLen; omega) (by rw [size_madeCells])
      have e : ss = [] := List.eq_nil_of_length_eq_zero hlen
      rw [e]
      simpa [sflat, madeCells] using this
    · obtain ⟨b, off, e, hb, _⟩ := h.2 0 (ss[0]'(by omega)) (by simp)
      simp only [Option.some.injEq] at e
      subst e
      refine (turn_some b off len cap ss w hl hlen hb (fun i t ht => ?_)).mono ?_
      · obtain ⟨b2, off2, e2, _, c⟩ := h.2 i t ht
        simp only [Option.some.injEq, Addr.mk.injEq, and_true] at e2
        obtain ⟨rfl, rfl⟩ := e2
        exact c
      · rintro e w' ⟨rfl, h1, h2⟩
        exact ⟨_, rfl, h1, h2⟩


theorem zclone_nil (l c : Nat) (w : World) : Calls Try.prog 11 #[.slice none l c] w fun e w' => e = .returned (.slice none 0 0) ∧ w = w' := by
  have hq := fun w => run_eql_none (P := Try.prog) w 26 21 l c Try.underlying26
  go_enter Try.func11, Try.ntmps11
  go_wp2
  go_ret
  exact ⟨rfl, rfl⟩
theorem zclone_empty (x : Addr) (cap : Nat) (w : World) : Calls Try.prog 11 #[.slice (some x) 0 cap] w fun e w' => e = .returned (.slice (some ⟨w.heap.size, 0, none⟩) 0 0) ∧ w' = w.alloc (.cells (madeCells #[.int .i32 0] 0) 21) := by
  have hq := fun w => run_eql_some (P := Try.prog) w 26 21 x 0 cap Try.underlying26
  have hmk : ∀ w : World, (Instr.makeSlice 26 (.int .i64 0) (.int .i64 0)).run Try.prog w = .ok (.slice (some ⟨w.heap.size, 0, none⟩) 0 0) (w.alloc (.cells (madeCells #[.int .i32 0] 0) 21)) := fun w => run_make_row' (P := Try.prog) 26 21 (.int .i32 0) 4 Try.underlying26 Try.info21 rfl .i64 .i64 0 (by omega) (by omega) w
  go_enter Try.func11, Try.ntmps11
  go_wp2
  refine wp_loop_rounds 1 ?_
  rw [rounds_succ]
  go_wp2
  go_ret
  exact ⟨rfl, rfl⟩

theorem zset (zs : List Int) (n : Nat) (z : Int) (hz : zs[n]? = some z) (r : Value) (R : List Value) : (ints .i32 (zs.take n) ++ r :: R).set n (.int .i32 z) = ints .i32 (zs.take (n + 1)) ++ R := by
  have hn : n < zs.length := (List.getElem?_eq_some_iff.1 hz).1
  have hl : (ints .i32 (zs.take n)).length = n := by simp [ints]; omega
  rw [List.set_append_right _ _ (by omega), hl, Nat.sub_self, List.set_cons_zero]
  unfold ints
  rw [List.take_add_one, hz, List.map_append, List.append_assoc]
  rfl

set_option maxHeartbeats 1000000 in
theorem zclone_some (b off len cap : Nat) (zs : List Int) (w : World) (hl : len ≤ 65536) (hz : zs.length = len) (hb : b < w.heap.size)
    (hc : ∀ i z, zs[i]? = some z → w.cell? ⟨b, off + i, none⟩ = some (.int .i32 z)) :
    Calls Try.prog 11 #[.slice (some ⟨b, off, none⟩) len cap] w fun e w' => e = .returned (.slice (some ⟨w.heap.size, 0, none⟩) len len) ∧ Below w.heap.size w w' ∧
      w'.ownsRow w.heap.size 21 1 (.slice (some ⟨w.heap.size, 0, none⟩) len len) len (ints .i32 zs) := by
  have hq := fun w => run_eql_some (P := Try.prog) w 26 21 ⟨b, off, none⟩ len cap Try.underlying26
  have hmk := run_make_row' (P := Try.prog) 26 21 (.int .i32 0) 4 Try.underlying26 Try.info21 rfl .i64 .i64 len (by omega) (by omega)
  go_enter Try.func11, Try.ntmps11
  go_wp2
  clear hmk hq
  go_loopg [4] len (fun k i wr => ∃ n rest, n + k = len ∧ i = .int .i64 n ∧ Below w.heap.size w wr ∧ wr.ownsRow w.heap.size 21 1 (.slice (some ⟨w.heap.size, 0, none⟩) len len) len (ints .i32 (zs.take n) ++ rest))
  case atStart =>
    refine ⟨0, (madeCells #[.int .i32 0] len).toList, by omega, rfl, (Below.refl _ _).alloc (Nat.le_refl _) _, ?_⟩
    have := World.ownsRow_lit (base := w.heap.size) (e := 21) (size := 1) w (madeCells #[.int .i32 0] len) len (Nat.le_refl _) (by unfold maxLen; omega) (by rw [size_madeCells]; omega)
    simpa [ints] using this
  case round =>
    obtain ⟨n, rest, hnk, rfl, hbel, hown⟩ := hrel
    have hrl : (ints .i32 (zs.take n)).length = n := by simp [ints]; omega
    cases gk with
    | zero =>
      have e : n = len := by omega
      subst e
      have hlt : ¬ (n : Int) < n := by omega
      have HB : Hid (Below w.heap.size w wr ∧ wr.ownsRow w.heap.size 21 1 (.slice (some ⟨w.heap.size, 0, none⟩) n n) n (ints .i32 (zs.take n) ++ rest)) := ⟨hbel, hown⟩
      have HRL : Hid ((ints .i32 (zs.take n)).length = n) := hrl
      clear hbel hown hc hrl
      go_wp2
      go_ret
      refine ⟨rfl, HB.out.1, ?_⟩
      have ho := HB.out.2
      have hr : rest = [] := List.eq_nil_of_length_eq_zero (by
        have := ho.1
        rw [List.length_append, HRL.out] at this; omega)
      rw [hr, List.append_nil, List.take_of_length_le (by omega)] at ho
      exact ho
    | succ k =>
      have hnl : n < len := by omega
      have hlt : (n : Int) < len := by omega
      have hn0 : (0 : Int) ≤ n := by omega
      obtain ⟨z, ht⟩ : ∃ z, zs[n]? = some z := ⟨zs[n]'(by omega), by simp⟩
      have c0 := (hbel.cell (p := ⟨b, off + n, none⟩) hb).trans (hc n z ht)
      obtain ⟨r, R, hR⟩ : ∃ r R, rest = r :: R := by
        cases rest with
        | nil => have := hown.1; rw [List.length_append, hrl] at this; simp at this; omega
        | cons r R => exact ⟨r, R, rfl⟩
      obtain ⟨v0, d0⟩ : ∃ v, wr.cell? ⟨w.heap.size, n, none⟩ = some v := by
        rw [hown.cellAt n (by omega)]
        exact ⟨_, List.getElem?_eq_getElem (by rw [hown.1]; omega)⟩
      have f0 := hown.frozenAt n
      have hst := (hown.stored n (.int .i32 z)).1
      rw [hR, zset zs n z ht] at hst
      have HB : Hid (Below w.heap.size w wr ∧ (wr.setCell ⟨w.heap.size, n, none⟩ (.int .i32 z)).ownsRow w.heap.size 21 1 (.slice (some ⟨w.heap.size, 0, none⟩) len len) len (ints .i32 (zs.take (n + 1)) ++ R)) := ⟨hbel, hst⟩
      clear hbel hst hown hc ht hR hrl
      go_wp2
      go_roundg k
      case measure => omega
      case rel =>
        obtain ⟨hbel, hst⟩ := HB.out
        exact ⟨n + 1, R, by omega, by go_num, hbel.setCell (Nat.le_refl _) _, hst⟩

theorem zclone_any {a : Option Addr} {len cap : Nat} {zs : List Int} {w : World} (h : Rd .i32 w a len zs) (hl : len ≤ 65536) :
    Calls Try.prog 11 #[.slice a len cap] w fun e w' => ∃ A, e = .returned (.slice A len len) ∧ Below w.heap.size w w' ∧ w'.ownsRow w.heap.size 21 1 (.slice A len len) len (ints .i32 zs) := by
  have hlen := h.1
  cases a with
  | none =>
    have h0 : len = 0 := by
      rcases Nat.eq_zero_or_pos len with e | e
      · exact e
      · obtain ⟨b, off, e2, _⟩ := h.2 0 (zs[0]'(by omega)) (by simp)
        cases e2
    subst h0
    refine (zclone_nil 0 cap w).mono ?_
    rintro e w' ⟨rfl, rfl⟩
    have e : zs = [] := List.eq_nil_of_length_eq_zero hlen
    subst e
    exact ⟨none, rfl, Below.refl _ _, World.ownsRow_nil _ _ _ _⟩
  | some x =>
    by_cases h0 : len = 0
    · subst h0
      refine (zclone_empty x cap w).mono ?_
      rintro e w' ⟨rfl, rfl⟩
      refine ⟨_, rfl, (Below.refl _ _).alloc (Nat.le_refl _) _, ?_⟩
      have := World.ownsRow_lit (base := w.heap.size) (e := 21) (size := 1) w (madeCells #[.int .i32 0] 0) 0 (Nat.le_refl _) (by unfold maxLen; omega) (by rw [size_madeCells])
      have e : zs = [] := List.eq_nil_of_length_eq_zero hlen
      rw [e]
      simpa [ints, madeCells] using this
    · obtain ⟨b, off, e, hb, _⟩ := h.2 0 (zs[0]'(by omega)) (by simp)
      simp only [Option.some.injEq] at e
      subst e
      refine (zclone_some b off len cap zs w hl hlen hb (fun i z hz => ?_)).mono ?_
      · obtain ⟨b2, off2, e2, _, c⟩ := h.2 i z hz
        simp only [Option.some.injEq, Addr.mk.injEq, and_true] at e2
        obtain ⟨rfl, rfl⟩ := e2
        exact c
      · rintro e w' ⟨rfl, h1, h2⟩
        exact ⟨_, rfl, h1, h2⟩

end Go.Proofs.Qxb6604582a
