/-
  The first guards: each answers something; and the two slices that came in, cloned.
-/
import Derived.Test.Qxb6604582aBase
import Derived.OpenShut
import Derived.BigRegion
namespace Go.Proofs.Qxb6604582a
open Go.RowKit
set_option linter.unusedVariables false
set_option linter.unusedSimpArgs false

/-- What the walk is told of the slice of steps that came in. -/
def IsIn (w : World) (a : Option Addr) (len cap : Nat) (ss : List SI) : Prop :=
  (a = none ∧ len = 0 ∧ cap = 0 ∧ ss = []) ∨
  ∃ x, a = some x ∧ ss.length = len ∧ len ≤ cap ∧ cap ≤ maxLen ∧ ∀ i t, ss[i]? = some t → w.cell? (x.add (i * 3)) = some (.int .u8 t.1) ∧ w.cell? (x.add (i * 3 + 1)) = some (.int .i64 t.2.1) ∧ w.cell? (x.add (i * 3 + 2)) = some (.string t.2.2) ∧ t.2.2.size ≤ maxLen

/-- What the walk is told of the slice of nodes that came in. -/
def IsRow (k : IntKind) (w : World) (a : Option Addr) (len cap : Nat) (zs : List Int) : Prop :=
  (a = none ∧ len = 0 ∧ cap = 0 ∧ zs = []) ∨
  ∃ x, a = some x ∧ len ≤ cap ∧ cap ≤ maxLen ∧ zs.length = cap ∧ (∀ i, i < zs.length → w.cell? (x.add i) = some (.int k (zs.getD i 0))) ∧ ∀ n ∈ zs, (Lit.int k n).wf = true

/-- It answers yes or no. -/
def SomeBool (e : Ending) : Prop := ∃ q, e = .returned (.bool q)
theorem SomeBool.of (q : Bool) : SomeBool (.returned (.bool q)) := ⟨q, rfl⟩

theorem IsIn.num {w : World} {a : Option Addr} {len cap : Nat} {ss : List SI} (h : IsIn w a len cap ss) : ss.length = len := by
  rcases h with ⟨_, h, _, h2⟩ | ⟨x, _, h, _⟩
  · rw [h2, h]; rfl
  · exact h

theorem IsIn.at {w : World} {a : Option Addr} {len cap : Nat} {ss : List SI} (h : IsIn w a len cap ss) {n : Nat} (hn : n < len) :
    ∃ b off t, a = some ⟨b, off, none⟩ ∧ b < w.heap.size ∧ ss[n]? = some t ∧ w.cell? ⟨b, off + n * 3, none⟩ = some (.int .u8 t.1) ∧ w.cell? ⟨b, off + n * 3 + 1, none⟩ = some (.int .i64 t.2.1) ∧ w.cell? ⟨b, off + n * 3 + 2, none⟩ = some (.string t.2.2) ∧ t.2.2.size ≤ maxLen := by
  rcases h with ⟨_, h, _, _⟩ | ⟨x, rfl, hnum, hlc, hcm, hc⟩
  · omega
  · obtain ⟨t, ht⟩ : ∃ t, ss[n]? = some t := ⟨ss[n]'(by omega), by simp⟩
    have hc0 := hc n t ht
    obtain ⟨b, off, spot⟩ := x
    have hspot : spot = none := by
      have := World.cell?_spot hc0.1
      unfold Addr.add at this
      split at this
      · exact this
      · have h2 := World.cell?_spot hc0.2.1
        have := hc 0 (ss[0]'(by omega)) (by simp)
        simpa [Addr.add] using World.cell?_spot this.1
    subst hspot
    have add : ∀ k, (⟨b, off, none⟩ : Addr).add k = ⟨b, off + k, none⟩ := fun k => by unfold Addr.add; split <;> simp_all
    simp only [add] at hc0
    exact ⟨b, off, t, rfl, World.block_lt_of_cell? w _ hc0.1, ht, hc0.1, hc0.2.1, hc0.2.2.1, hc0.2.2.2⟩

set_option maxHeartbeats 1000000 in
theorem bytes8_any (a0 : Option Addr) (len0 cap0 : Nat) (ss : List SI) (a1 : Option Addr) (len1 cap1 : Nat) (w : World) (h : IsIn w a0 len0 cap0 ss) (h1 : len1 ≤ maxLen) :
    Calls Try.prog 8 #[.slice a0 len0 cap0, .slice a1 len1 cap1] w fun e w' => SomeBool e ∧ w = w' := by
  unfold maxLen at h1
  by_cases hl : len0 ≤ 1048576
  · have l1 : ¬ (1048576 : Int) < (len0 : Int) := by omega
    go_enter Try.func8, Try.ntmps8
    go_wp2
    go_loopg [5, 6] len0 (fun k zz i wr => ∃ (n : Nat) (z : Int), n + k = len0 ∧ i = .int .i64 n ∧ zz = .int .i64 z ∧ 0 ≤ z ∧ z ≤ 1048576 ∧ wr = w)
    case atStart => exact ⟨0, len0, by omega, rfl, rfl, by omega, by omega, rfl⟩
    case round =>
      obtain ⟨n, z, hnk, rfl, rfl, hz0, hz1, rfl⟩ := hrel
      cases gk with
      | zero =>
        have hlt : ¬ (n : Int) < len0 := by omega
        clear h
        by_cases hn : (1048576 : Int) < len1
        · go_wp2
          go_ret
          exact ⟨SomeBool.of _, rfl⟩
        · by_cases hs : (1048576 : Int) < z + len1
          · go_wp2
            go_ret
            exact ⟨SomeBool.of _, rfl⟩
          · go_wp2
            go_ret
            exact ⟨SomeBool.of _, rfl⟩
      | succ k =>
        have hnl : n < len0 := by omega
        have hlt : (n : Int) < len0 := by omega
        have hn0 : (0 : Int) ≤ n := by omega
        obtain ⟨b, off, t, rfl, _, _, _, _, c2, hsz⟩ := h.at hnl
        unfold maxLen at hsz
        clear h
        by_cases hi : (1048576 : Int) < t.2.2.size
        · go_wp2
          go_ret
          exact ⟨SomeBool.of _, rfl⟩
        · by_cases hs : (1048576 : Int) < z + t.2.2.size
          · go_wp2
            go_ret
            exact ⟨SomeBool.of _, rfl⟩
          · go_wp2
            go_roundg k
            case measure => omega
            case rel => exact ⟨n + 1, _, by omega, by go_num, rfl, by omega, by omega, rfl⟩
  · have l1 : (1048576 : Int) < (len0 : Int) := by omega
    go_enter Try.func8, Try.ntmps8
    go_wp2
    go_ret
    exact ⟨SomeBool.of _, rfl⟩

set_option maxHeartbeats 1000000 in
theorem bytes16_any (a0 : Option Addr) (len0 cap0 : Nat) (ss : List SI) (a1 : Option Addr) (len1 cap1 : Nat) (j : Int) (w : World) (h : IsIn w a0 len0 cap0 ss) (h1 : len1 ≤ maxLen) :
    Calls Try.prog 16 #[.slice a0 len0 cap0, .slice a1 len1 cap1, .int .i64 j] w fun e w' => SomeBool e ∧ w = w' := by
  unfold maxLen at h1
  by_cases hl : len0 ≤ 1048576
  · have l1 : ¬ (1048576 : Int) < (len0 : Int) := by omega
    go_enter Try.func16, Try.ntmps16
    go_wp2
    go_loopg [7, 8] len0 (fun k zz i wr => ∃ (n : Nat) (z : Int), n + k = len0 ∧ i = .int .i64 n ∧ zz = .int .i64 z ∧ 0 ≤ z ∧ z ≤ 1048576 ∧ wr = w)
    case atStart => exact ⟨0, len0, by omega, rfl, rfl, by omega, by omega, rfl⟩
    case round =>
      obtain ⟨n, z, hnk, rfl, rfl, hz0, hz1, rfl⟩ := hrel
      cases gk with
      | zero =>
        have hlt : ¬ (n : Int) < len0 := by omega
        clear h
        by_cases hn : (1048576 : Int) < len1
        · go_wp2
          go_ret
          exact ⟨SomeBool.of _, rfl⟩
        · by_cases hs : (1048576 : Int) < z + len1
          · go_wp2
            go_ret
            exact ⟨SomeBool.of _, rfl⟩
          · go_wp2
            go_ret
            exact ⟨SomeBool.of _, rfl⟩
      | succ k =>
        have hnl : n < len0 := by omega
        have hlt : (n : Int) < len0 := by omega
        have hn0 : (0 : Int) ≤ n := by omega
        obtain ⟨b, off, t, rfl, _, _, _, _, c2, hsz⟩ := h.at hnl
        unfold maxLen at hsz
        clear h
        by_cases hi : (1048576 : Int) < t.2.2.size
        · go_wp2
          go_ret
          exact ⟨SomeBool.of _, rfl⟩
        · by_cases hs : (1048576 : Int) < z + t.2.2.size
          · go_wp2
            go_ret
            exact ⟨SomeBool.of _, rfl⟩
          · go_wp2
            go_roundg k
            case measure => omega
            case rel => exact ⟨n + 1, _, by omega, by go_num, rfl, by omega, by omega, rfl⟩
  · have l1 : (1048576 : Int) < (len0 : Int) := by omega
    go_enter Try.func16, Try.ntmps16
    go_wp2
    go_ret
    exact ⟨SomeBool.of _, rfl⟩

set_option maxHeartbeats 1000000 in
theorem fit_any (a0 : Option Addr) (len0 cap0 : Nat) (ss : List SI) (a1 : Option Addr) (len1 cap1 : Nat) (w : World) (h : IsIn w a0 len0 cap0 ss) (h1 : len1 ≤ 65536) (h0 : len0 ≤ 65536) :
    Calls Try.prog 9 #[.slice a0 len0 cap0, .slice a1 len1 cap1] w fun e w' => SomeBool e ∧ w = w' := by
  have l1 : ¬ (1048576 : Int) < 4 * (len1 : Int) := by omega
  go_enter Try.func9, Try.ntmps9
  go_wp2
  go_loopg [5, 6] len0 (fun k zz i wr => ∃ (n : Nat) (z : Int), n + k = len0 ∧ i = .int .i64 n ∧ zz = .int .i64 z ∧ 0 ≤ z ∧ z ≤ 1048576 ∧ wr = w)
  case atStart => exact ⟨0, 4 * len1, by omega, rfl, rfl, by omega, by omega, rfl⟩
  case round =>
    obtain ⟨n, z, hnk, rfl, rfl, hz0, hz1, rfl⟩ := hrel
    cases gk with
    | zero =>
      have hlt : ¬ (n : Int) < len0 := by omega
      clear h
      go_wp2
      go_ret
      exact ⟨SomeBool.of _, rfl⟩
    | succ k =>
      have hnl : n < len0 := by omega
      have hlt : (n : Int) < len0 := by omega
      have hn0 : (0 : Int) ≤ n := by omega
      obtain ⟨b, off, t, rfl, _, _, _, _, c2, hsz⟩ := h.at hnl
      unfold maxLen at hsz
      clear h
      by_cases hi : (1048576 : Int) < t.2.2.size
      · go_wp2
        go_ret
        exact ⟨SomeBool.of _, rfl⟩
      · by_cases hs : (1048576 : Int) < z + (32 + t.2.2.size)
        · go_wp2
          go_ret
          exact ⟨SomeBool.of _, rfl⟩
        · go_wp2
          go_roundg k
          case measure => omega
          case rel => exact ⟨n + 1, _, by omega, by go_num, rfl, by omega, by omega, rfl⟩

end Go.Proofs.Qxb6604582a
