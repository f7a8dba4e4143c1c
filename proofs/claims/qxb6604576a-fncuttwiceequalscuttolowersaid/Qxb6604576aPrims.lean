/-
  The scanner's small functions: what each answers. And push by the scanner's own words.
-/
import Derived.Test.Qxb6604576aPush
namespace Go.Proofs.Qxb6604576a
open Go.RowKit
set_option linter.unusedVariables false

/-- ZZpath -/
theorem path_any (s : Nat) (p : Option Addr) (w : World) (h7 : w.cell? ⟨s, 7, none⟩ = some (.pointer p)) :
    Calls Try.prog 18 #[.pointer (some ⟨s, 0, none⟩)] w fun e w' => e = .returned (.pointer p) ∧ w = w' := by
  go_enter Try.func18, Try.ntmps18
  go_wp2
  go_ret
  exact ⟨rfl, rfl⟩

/-- ZZfreeLen -/
theorem freeLen_any (s : Nat) (a : Option Addr) (n cap : Nat) (w : World) (h8 : w.cell? ⟨s, 8, none⟩ = some (.slice a n cap)) :
    Calls Try.prog 19 #[.pointer (some ⟨s, 0, none⟩)] w fun e w' => e = .returned (.int .i64 n) ∧ w = w' := by
  go_enter Try.func19, Try.ntmps19
  go_wp2
  go_ret
  exact ⟨rfl, rfl⟩

/-- ZZfreeAt -/
theorem freeAt_any (s g n cap i : Nat) (b : Nat) (w : World) (hi : i < n) (hcap : cap ≤ 9223372036854775807) (hn : n ≤ cap) (h8 : w.cell? ⟨s, 8, none⟩ = some (.slice (some ⟨g, 0, none⟩) n cap)) (hg : w.cell? ⟨g, i, none⟩ = some (.pointer (some ⟨b, 0, none⟩))) :
    Calls Try.prog 20 #[.pointer (some ⟨s, 0, none⟩), .int .i64 i] w fun e w' => e = .returned (.pointer (some ⟨b, 0, none⟩)) ∧ w = w' := by
  have i1 : (0 : Int) ≤ i := by omega
  have i2 : (i : Int) < n := by omega
  go_enter Try.func20, Try.ntmps20
  go_wp2
  go_ret
  exact ⟨rfl, rfl⟩

/-- ZZframeUp, Kind, Col, Kept -/
theorem frameUp_any (b : Nat) (p : Option Addr) (w : World) (h : w.cell? ⟨b, 3, none⟩ = some (.pointer p)) :
    Calls Try.prog 21 #[.pointer (some ⟨b, 0, none⟩)] w fun e w' => e = .returned (.pointer p) ∧ w = w' := by
  go_enter Try.func21, Try.ntmps21
  go_wp2
  go_ret
  exact ⟨rfl, rfl⟩
theorem frameKind_any (b : Nat) (k : Int) (w : World) (h : w.cell? ⟨b, 0, none⟩ = some (.int .i64 k)) :
    Calls Try.prog 25 #[.pointer (some ⟨b, 0, none⟩)] w fun e w' => e = .returned (.int .i64 k) ∧ w = w' := by
  go_enter Try.func25, Try.ntmps25
  go_wp2
  go_ret
  exact ⟨rfl, rfl⟩
theorem frameCol_any (b : Nat) (k : Int) (w : World) (h : w.cell? ⟨b, 2, none⟩ = some (.int .i64 k)) :
    Calls Try.prog 26 #[.pointer (some ⟨b, 0, none⟩)] w fun e w' => e = .returned (.int .i64 k) ∧ w = w' := by
  go_enter Try.func26, Try.ntmps26
  go_wp2
  go_ret
  exact ⟨rfl, rfl⟩
theorem frameKept_any (b : Nat) (k : Bool) (w : World) (h : w.cell? ⟨b, 5, none⟩ = some (.bool k)) :
    Calls Try.prog 27 #[.pointer (some ⟨b, 0, none⟩)] w fun e w' => e = .returned (.bool k) ∧ w = w' := by
  go_enter Try.func27, Try.ntmps27
  go_wp2
  go_ret
  exact ⟨rfl, rfl⟩

/-- ZZinside: no frame. -/
theorem inside_nil (s : Nat) (k : Int) (w : World) (h7 : w.cell? ⟨s, 7, none⟩ = some (.pointer none)) :
    Calls Try.prog 29 #[.pointer (some ⟨s, 0, none⟩), .int .i64 k] w fun e w' => e = .returned (.bool false) ∧ w = w' := by
  go_enter Try.func29, Try.ntmps29
  go_wp2
  go_ret
  exact ⟨rfl, rfl⟩
theorem inside_some (s b : Nat) (k q : Int) (w : World) (h7 : w.cell? ⟨s, 7, none⟩ = some (.pointer (some ⟨b, 0, none⟩))) (h0 : w.cell? ⟨b, 0, none⟩ = some (.int .i64 q)) :
    Calls Try.prog 29 #[.pointer (some ⟨s, 0, none⟩), .int .i64 k] w fun e w' => e = .returned (.bool (q == k)) ∧ w = w' := by
  go_enter Try.func29, Try.ntmps29
  go_wp2
  all_goals go_ret
  all_goals exact ⟨rfl, rfl⟩

/-- ZZnewScanner -/
theorem new_any (w : World) :
    Calls Try.prog 11 #[] w fun e w' => e = .returned (.pointer (some ⟨w.heap.size, 0, none⟩)) ∧ w' = w.alloc (scObj none (.slice none 0 0)) := by
  go_enter Try.func11, Try.ntmps11
  go_wp2
  go_ret
  exact ⟨rfl, rfl⟩

theorem scan_new (w : World) : Scan (w.alloc (scObj none (.slice none 0 0))) (fun k => k = w.heap.size) w.heap.size [] [] (.slice none 0 0) where
  scb := halloc_new _ _
  row := World.ownsRow_nil _ _ _ _
  linked := trivial
  frees := fun f hf => by simp at hf
  nodup := by simp
  Fs := rfl
  Frow := fun g hg => by cases hg
  Ffr := fun f hf => by simp at hf
  lt := fun k hk => by subst hk; simp

/-- What inside answers, in the scanner's own words. -/
def insideL (stk : List Fr) (k : Int) : Bool :=
  match stk with
  | [] => false
  | f :: _ => f.kind == k

theorem inside_any {w : World} {F : Nat → Prop} {s : Nat} {stk fre : List Fr} {fv : Value} (h : Scan w F s stk fre fv) (k : Int) :
    Calls Try.prog 29 #[.pointer (some ⟨s, 0, none⟩), .int .i64 k] w fun e w' => e = .returned (.bool (insideL stk k)) ∧ w = w' := by
  cases stk with
  | nil => exact inside_nil s k w (sc7 h.scb)
  | cons f r => exact inside_some s f.b k f.kind w (sc7 h.scb) (fr0 h.linked.1)

/-- The value of the scanner's free list. -/
theorem Scan.form {w : World} {F : Nat → Prop} {s : Nat} {stk fre : List Fr} {fv : Value} (h : Scan w F s stk fre fv) : ∃ a cap, fv = .slice a fre.length cap ∧ fre.length ≤ cap ∧ cap ≤ maxLen := by
  rcases h.row.2 with ⟨e, h0⟩ | ⟨g, cap, cur, e, _, _, h1, h2, _⟩
  · exact ⟨none, 0, by rw [e, h0], by omega, by simp [maxLen]⟩
  · exact ⟨_, cap, e, h1, h2⟩

theorem ptrs_get (fre : List Fr) (i : Nat) (hi : i < fre.length) : (fre.map fun f => ptrB f.b)[i]? = some (ptrB fre[i].b) := by simp [hi]

/-- The cells of an owned row of pointers. -/
theorem row_cell {w : World} {g n cap : Nat} {xs : List Value} {e : TypeId} (h : w.ownsRow 0 e 1 (.slice (some ⟨g, 0, none⟩) n cap) n xs) {i : Nat} {v : Value} (hi : xs[i]? = some v) : w.cell? ⟨g, i, none⟩ = some v := by
  have := h.cells (g := g) rfl i v hi
  have hadd : (⟨g, 0, none⟩ : Addr).add i = ⟨g, i, none⟩ := by unfold Addr.add; split <;> simp_all
  rwa [hadd] at this

theorem row_block {w : World} {base g n cap size : Nat} {xs : List Value} {e : TypeId} (h : w.ownsRow base e size (.slice (some ⟨g, 0, none⟩) n cap) n xs) : ∃ cur, w.heap[g]? = some (.cells cur e (0, 0)) := by
  rcases h.2 with ⟨h2, _⟩ | ⟨g', cap', cur, hv, _, hh, _⟩
  · cases h2
  · simp only [Value.slice.injEq, Option.some.injEq, Addr.mk.injEq] at hv
    obtain ⟨⟨e1, _, _⟩, _, e2⟩ := hv
    subst e1
    exact ⟨cur, hh⟩

/-- ZZpush. -/
theorem zpush_new {w : World} {F : Nat → Prop} {s : Nat} {stk : List Fr} {fv : Value} (h : Scan w F s stk [] fv) (kind col : Int) :
    Calls Try.prog 32 #[.pointer (some ⟨s, 0, none⟩), .int .i64 kind, .int .i64 col] w fun e w' => e = .returned (.tuple #[]) ∧ Same w' (pushNewW w s kind col (topA stk)) := by
  obtain ⟨a, cap, hfv, _, _⟩ := h.form
  subst hfv
  have h7 := sc7 h.scb
  have h8 := sc8 h.scb
  have f7 := scf h.scb 7
  have hs := h.lt s h.Fs
  have hp := push_new s kind col (topA stk) a cap w hs h7 f7 h8
  clear h7 h8 f7 h
  go_enter Try.func32, Try.ntmps32
  go_wp2_with (go_at_call 37; refine hp.mono ?_; rintro e w' ⟨rfl, hw⟩)
  go_end0
  exact ⟨rfl, hw⟩

end Go.Proofs.Qxb6604576a
