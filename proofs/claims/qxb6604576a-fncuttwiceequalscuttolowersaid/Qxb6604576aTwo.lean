/-
  FnCutTwiceEqualsCutToLower: two scanners side by side.
-/
import Derived.Test.Qxb6604576aReuse
namespace Go.Proofs.Qxb6604576a
open Go.RowKit
set_option linter.unusedVariables false
set_option linter.unusedSimpArgs false

/-! ### What two runs of one script have in common -/
def sig (f : Fr) : Int × Int × Bool := (f.kind, f.col, f.kept)
def Sim (a b : List Fr) : Prop := a.map sig = b.map sig

theorem Sim.len {a b : List Fr} (h : Sim a b) : a.length = b.length := by
  have := congrArg List.length h
  simpa using this
theorem Sim.get {a b : List Fr} (h : Sim a b) {i : Nat} {f g : Fr} (hf : a[i]? = some f) (hg : b[i]? = some g) : f.kind = g.kind ∧ f.col = g.col ∧ f.kept = g.kept := by
  have := congrArg (fun l => l[i]?) h
  simp only [List.getElem?_map, hf, hg, Option.map_some, Option.some.injEq, sig, Prod.mk.injEq] at this
  exact this
theorem Sim.append {a b c d : List Fr} (h : Sim a b) (k : Sim c d) : Sim (a ++ c) (b ++ d) := by
  unfold Sim at *; rw [List.map_append, List.map_append, h, k]
theorem Sim.drop {a b : List Fr} (h : Sim a b) (i : Nat) : Sim (a.drop i) (b.drop i) := by
  unfold Sim at *; rw [List.map_drop, List.map_drop, h]
theorem Sim.dropLast {a b : List Fr} (h : Sim a b) : Sim a.dropLast b.dropLast := by
  unfold Sim at *
  rw [List.map_dropLast, List.map_dropLast, h]
theorem Sim.cut {a b : List Fr} (h : Sim a b) (i : Nat) : Sim (cutL a i) (cutL b i) := by
  have e : ∀ l : List Fr, (cutL l i).map sig = ((l.map sig).take i).filter (fun x => !x.2.2) := fun l => by
    unfold cutL
    rw [← List.map_take, List.filter_map]
    rfl
  unfold Sim at *
  rw [e, e, h]
theorem Sim.keep {a b : List Fr} (h : Sim a b) : Sim (keepL a) (keepL b) := by
  induction a generalizing b with
  | nil =>
    cases b with
    | nil => rfl
    | cons g r => simp [Sim] at h
  | cons f r ih =>
    cases b with
    | nil => simp [Sim] at h
    | cons g q =>
      simp only [Sim, List.map_cons, List.cons.injEq] at h
      have hs : f.kind = g.kind ∧ f.col = g.col ∧ f.kept = g.kept := by simpa [sig] using h.1
      unfold keepL
      rw [hs.2.2]
      split
      · show Sim (f :: r) (g :: q)
        simp only [Sim, List.map_cons, h.1, h.2]
      · have := ih h.2
        simp only [Sim, List.map_cons] at this ⊢
        rw [this]
        simp [sig, markF, hs.1, hs.2.1]
theorem Sim.stk {a b : List Fr} (h : Sim a b) (n1 n2 : Nat) (kind col back : Int) (keep : Bool) : Sim (stkS a n1 kind col back keep) (stkS b n2 kind col back keep) := by
  have h0 : Sim (⟨n1, kind, col, false⟩ :: a) (⟨n2, kind, col, false⟩ :: b) := by
    unfold Sim at *; rw [List.map_cons, List.map_cons, h]; rfl
  have h1 : Sim (stkP a n1 kind col keep) (stkP b n2 kind col keep) := by
    unfold stkP
    split
    · exact h0.keep
    · exact h0
  unfold stkS
  rw [h.len]
  exact h1.drop _
theorem Sim.fre {a b c d : List Fr} (h : Sim a b) (k : Sim c d) (n1 n2 : Nat) (kind col back : Int) (keep : Bool) : Sim (freS a c n1 kind col back keep) (freS b d n2 kind col back keep) := by
  have h0 : Sim (⟨n1, kind, col, false⟩ :: a) (⟨n2, kind, col, false⟩ :: b) := by
    unfold Sim at *; rw [List.map_cons, List.map_cons, h]; rfl
  have h1 : Sim (stkP a n1 kind col keep) (stkP b n2 kind col keep) := by
    unfold stkP
    split
    · exact h0.keep
    · exact h0
  unfold freS
  rw [h.len]
  exact k.dropLast.append (h1.cut _)

theorem cutL_add (stk : List Fr) (i j : Nat) : cutL stk (i + j) = cutL stk i ++ cutL (stk.drop i) j := by
  unfold cutL
  rw [List.take_add, List.filter_append]

/-! ### Two systems side by side -/
structure Two (w3 : World) (F0 : Nat → Prop) (s1 m1 s2 m2 : Nat) (wr : World) (k1 f1 k2 f2 : List Fr) (e1 e2 : List Nat) : Prop where
  ex : ∃ G1 G2, Sys wr G1 s1 m1 k1 f1 e1 ∧ Sys wr G2 s2 m2 k2 f2 e2 ∧ (∀ k, G1 k → ¬ G2 k) ∧ (∀ k, G1 k → grow F0 w3 wr k) ∧ (∀ k, G2 k → grow F0 w3 wr k)
  ext : Ext F0 w3 wr

theorem two_one {w3 wr x : World} {F0 G1 G2 : Nat → Prop} {s1 m1 s2 m2 : Nat} {k1 f1 k2 f2 k1' f1' : List Fr} {e1 e2 e1' : List Nat} (T : Ext F0 w3 wr) (S2 : Sys wr G2 s2 m2 k2 f2 e2) (hd : ∀ k, G1 k → ¬ G2 k) (h1 : ∀ k, G1 k → grow F0 w3 wr k) (h2 : ∀ k, G2 k → grow F0 w3 wr k)
    (he : Ext G1 wr x) (S1 : Sys x (grow G1 wr x) s1 m1 k1' f1' e1') : Two w3 F0 s1 m1 s2 m2 x k1' f1' k2 f2 e1' e2 := by
  have a := T.size
  have b := he.size
  refine ⟨⟨grow G1 wr x, G2, S1, S2.frame he (fun k hk hk1 => hd k hk1 hk), ?_, grow_up a b h1, ?_⟩, T.step he (fun k hk => ?_)⟩
  · intro k hk hk2
    rcases hk with hk | hk
    · exact hd k hk hk2
    · have := S2.lt k hk2; omega
  · intro k hk
    rcases h2 k hk with g | g
    · exact .inl g
    · exact .inr ⟨g.1, by omega⟩
  · rcases h1 k hk with g | g
    · exact .inl g
    · exact .inr g.1

theorem two_two {w3 wr x : World} {F0 G1 G2 : Nat → Prop} {s1 m1 s2 m2 : Nat} {k1 f1 k2 f2 k2' f2' : List Fr} {e1 e2 e2' : List Nat} (T : Ext F0 w3 wr) (S1 : Sys wr G1 s1 m1 k1 f1 e1) (hd : ∀ k, G1 k → ¬ G2 k) (h1 : ∀ k, G1 k → grow F0 w3 wr k) (h2 : ∀ k, G2 k → grow F0 w3 wr k)
    (he : Ext G2 wr x) (S2 : Sys x (grow G2 wr x) s2 m2 k2' f2' e2') : Two w3 F0 s1 m1 s2 m2 x k1 f1 k2' f2' e1 e2' := by
  have := two_one (s1 := s2) (m1 := m2) (s2 := s1) (m2 := m1) (k1 := k2') (f1 := f2') (e1 := e2') T S1 (fun k a b => hd k b a) h2 h1 he S2
  obtain ⟨⟨A, B, a, b, c, d, e⟩, f⟩ := this
  exact ⟨⟨B, A, b, a, fun k p q => c k q p, e, d⟩, f⟩

theorem Two.below {w3 wr x : World} {F0 : Nat → Prop} {s1 m1 s2 m2 : Nat} {k1 f1 k2 f2 : List Fr} {e1 e2 : List Nat} (T : Two w3 F0 s1 m1 s2 m2 wr k1 f1 k2 f2 e1 e2) (e : Below wr.heap.size wr x) : Two w3 F0 s1 m1 s2 m2 x k1 f1 k2 f2 e1 e2 := by
  obtain ⟨G1, G2, S1, S2, hd, h1, h2⟩ := T.ex
  refine ⟨⟨G1, G2, S1.below e, S2.below e, hd, fun k hk => ?_, fun k hk => ?_⟩, T.ext.step (Ext.of_below (F := fun _ => False) e) (fun _ h => h.elim)⟩
  · rcases h1 k hk with g | g
    · exact .inl g
    · exact .inr ⟨g.1, Nat.lt_of_lt_of_le g.2 e.size⟩
  · rcases h2 k hk with g | g
    · exact .inl g
    · exact .inr ⟨g.1, Nat.lt_of_lt_of_le g.2 e.size⟩

def four4 (s : Nat) : Nat → Prop := fun k => s ≤ k ∧ k ≤ s + 3
theorem four4_ge (s : Nat) : ∀ k, four4 s k → s ≤ k := fun k hk => hk.1

/-- Both, new. -/
theorem two_new (wc : World) : Two ((((wc.alloc (scObj none (.slice none 0 0))).alloc (moObj (.slice none 0 0) (.slice none 0 0) (.slice none 0 0))).alloc (scObj none (.slice none 0 0))).alloc (moObj (.slice none 0 0) (.slice none 0 0) (.slice none 0 0))) (four4 wc.heap.size) wc.heap.size (wc.heap.size + 1) (wc.heap.size + 2) (wc.heap.size + 3)
    ((((wc.alloc (scObj none (.slice none 0 0))).alloc (moObj (.slice none 0 0) (.slice none 0 0) (.slice none 0 0))).alloc (scObj none (.slice none 0 0))).alloc (moObj (.slice none 0 0) (.slice none 0 0) (.slice none 0 0))) [] [] [] [] [] [] := by
  have h1 := sys_new wc
  have h2 := sys_new ((wc.alloc (scObj none (.slice none 0 0))).alloc (moObj (.slice none 0 0) (.slice none 0 0) (.slice none 0 0)))
  have hsz : ((wc.alloc (scObj none (.slice none 0 0))).alloc (moObj (.slice none 0 0) (.slice none 0 0) (.slice none 0 0))).heap.size = wc.heap.size + 2 := by rw [size_alloc, size_alloc]
  rw [hsz] at h2
  refine ⟨⟨_, _, h1.below (((Below.refl _ _).alloc (Nat.le_refl _) _).alloc (by simp only [size_alloc]; omega) _), h2, fun k a b => ?_, fun k a => .inl ?_, fun k a => .inl ?_⟩, Ext.refl _ _⟩
  · rcases a with a | a <;> rcases b with b | b <;> omega
  · rcases a with a | a <;> exact ⟨by omega, by omega⟩
  · rcases a with a | a <;> exact ⟨by omega, by omega⟩

theorem head2_new {w wc : World} {A : Option Addr} {len cp : Nat} {ss : List St} (hb : Below w.heap.size w wc) (hown : wc.ownsRow w.heap.size 35 4 (.slice A len cp) len (sflat ss)) (hback : ∀ (i : Nat) (t : St), ss[i]? = some t → t.2.2.1 ≤ 9223372036854775807) (hnum : ss.length = len) :
    Head w ((((wc.alloc (scObj none (.slice none 0 0))).alloc (moObj (.slice none 0 0) (.slice none 0 0) (.slice none 0 0))).alloc (scObj none (.slice none 0 0))).alloc (moObj (.slice none 0 0) (.slice none 0 0) (.slice none 0 0))) wc.heap.size A len cp ss :=
  ⟨(((hb.alloc hb.size _).alloc (by have := hb.size; rw [size_alloc]; omega) _).alloc (by have := hb.size; rw [size_alloc, size_alloc]; omega) _).alloc (by have := hb.size; rw [size_alloc, size_alloc, size_alloc]; omega) _, (((hown.alloc _).alloc _).alloc _).alloc _, fun g hg => (hown.lt g hg).2, hb.size, hback, hnum⟩

theorem Sys.linked {w : World} {F : Nat → Prop} {s m : Nat} {stk fre : List Fr} {seen : List Nat} (h : Sys w F s m stk fre seen) : Linked w stk := by
  obtain ⟨Fs, Fm, fv, sv, mf, mn, hS, hM, hd, h1, h2⟩ := h.ex
  exact hS.linked
theorem Sys.frees {w : World} {F : Nat → Prop} {s m : Nat} {stk fre : List Fr} {seen : List Nat} (h : Sys w F s m stk fre seen) {f : Fr} (hf : f ∈ fre) : ∃ up, w.heap[f.b]? = some (frObj f.kind f.col up f.kept) := by
  obtain ⟨Fs, Fm, fv, sv, mf, mn, hS, hM, hd, h1, h2⟩ := h.ex
  exact hS.frees f hf

end Go.Proofs.Qxb6604576a
