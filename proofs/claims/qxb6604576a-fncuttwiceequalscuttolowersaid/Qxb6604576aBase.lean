/-
  THE MEMORY OF THE PROGRAM, IN PLAIN WORDS: frames, the scanner, footprints. No program is named here.
-/
import Derived.WalkKit
import Derived.Deep.AppendLies
namespace Go.Proofs.Qxb6604576a
open Go.RowKit
set_option linter.unusedVariables false

/-- One frame: its block, its kind, its column, its mark. -/
structure Fr where
  b : Nat
  kind : Int
  col : Int
  kept : Bool

def ptrB (b : Nat) : Value := .pointer (some ⟨b, 0, none⟩)
def topA : List Fr → Option Addr
  | [] => none
  | f :: _ => some ⟨f.b, 0, none⟩

def scObj (p : Option Addr) (f : Value) : Obj :=
  .cells #[.slice none 0 0, .int .i64 0, .int .i64 0, .int .i64 0, .int .i64 0, .slice none 0 0, .slice none 0 0, .pointer p, f, .int .i64 0, .bool false, .int .i64 0, .bool false, .map none, .slice none 0 0, .slice none 0 0, .slice none 0 0, .int .i64 0, .bool false, .slice none 0 0] 68 (0, 0)
def frObj (kind col : Int) (up : Option Addr) (kept : Bool) : Obj :=
  .cells #[.int .i64 kind, .slice none 0 0, .int .i64 col, .pointer up, .pointer none, .bool kept] 74 (0, 0)

/-! ### Worlds that part in draws alone -/
structure Same (w' w : World) : Prop where
  heap : w'.heap = w.heap
  os : w'.os = w.os
  tape : w'.tape = w.tape
  output : w'.output = w.output

theorem Same.refl (w : World) : Same w w := ⟨rfl, rfl, rfl, rfl⟩
theorem Same.drew {w' w : World} (h : Same w' w) : Same w'.drew w := ⟨h.heap, h.os, h.tape, h.output⟩

/-! ### Blocks behind a store, a new block -/
theorem hset_same {w : World} {b o : Nat} {c : Array Value} {e : TypeId} {fr : Nat × Nat} (h : w.heap[b]? = some (.cells c e fr)) (v : Value) :
    (w.setCell ⟨b, o, none⟩ v).heap[b]? = some (.cells (c.setIfInBounds o v) e fr) := by
  have hlt := lt_of_block h
  have h' : w.heap[b] = .cells c e fr := by simpa [Array.getElem?_eq_getElem hlt] using h
  show (w.heap.modify b _)[b]? = _
  rw [Array.getElem?_eq_getElem (by simpa using hlt), Array.getElem_modify_self, h']
  rfl
theorem hset_other (w : World) (a : Addr) (v : Value) (k : Nat) (h : k ≠ a.block) : (w.setCell a v).heap[k]? = w.heap[k]? := Below.heap_setCell w a v k h
theorem size_setCell (w : World) (a : Addr) (v : Value) : (w.setCell a v).heap.size = w.heap.size := by simp [World.setCell]
theorem halloc_old (w : World) (o : Obj) (k : Nat) (h : k < w.heap.size) : (w.alloc o).heap[k]? = w.heap[k]? := Below.heap_alloc w o k h
theorem halloc_new (w : World) (o : Obj) : (w.alloc o).heap[w.heap.size]? = some o := heap_alloc_new w o
theorem size_alloc (w : World) (o : Obj) : (w.alloc o).heap.size = w.heap.size + 1 := by simp

/-- A block that holds a frame. -/
def IsFr (w : World) (b : Nat) : Prop := ∃ k c u q, w.heap[b]? = some (frObj k c u q)

theorem IsFr.lt {w : World} {b : Nat} (h : IsFr w b) : b < w.heap.size := by
  obtain ⟨_, _, _, _, h⟩ := h
  exact lt_of_block h
theorem IsFr.of_block {w x : World} {b : Nat} (h : IsFr w b) (e : x.heap[b]? = w.heap[b]?) : IsFr x b := by
  obtain ⟨k, c, u, q, h⟩ := h
  exact ⟨k, c, u, q, e.trans h⟩
theorem sc_not_fr {w : World} {s : Nat} {p : Option Addr} {f : Value} (h : w.heap[s]? = some (scObj p f)) : ¬ IsFr w s := by
  rintro ⟨k, c, u, q, h2⟩
  rw [h] at h2; simp [scObj, frObj] at h2
theorem row_not_fr {w : World} {g : Nat} {cur : Array Value} {e : TypeId} {z : Nat × Nat} (h : w.heap[g]? = some (.cells cur e z)) (he : e ≠ 74) : ¬ IsFr w g := by
  rintro ⟨k, c, u, q, h2⟩
  rw [h] at h2
  simp only [frObj, Option.some.injEq, Obj.cells.injEq] at h2
  exact he h2.2.1

/-! ### What a call may turn: the blocks of F, and new ones; a frame stays a frame -/
structure Ext (F : Nat → Prop) (w w' : World) : Prop where
  os : w'.os = w.os
  tape : w'.tape = w.tape
  output : w'.output = w.output
  size : w.heap.size ≤ w'.heap.size
  block : ∀ k, k < w.heap.size → ¬ F k → w'.heap[k]? = w.heap[k]?
  frs : ∀ b, IsFr w b → IsFr w' b

def grow (F : Nat → Prop) (w w' : World) : Nat → Prop := fun k => F k ∨ (w.heap.size ≤ k ∧ k < w'.heap.size)

theorem Ext.refl (F : Nat → Prop) (w : World) : Ext F w w := ⟨rfl, rfl, rfl, Nat.le_refl _, fun _ _ _ => rfl, fun _ h => h⟩
theorem Ext.step {F G : Nat → Prop} {w x y : World} (h : Ext F w x) (k : Ext G x y) (hG : ∀ b, G b → F b ∨ w.heap.size ≤ b) : Ext F w y :=
  ⟨k.os.trans h.os, k.tape.trans h.tape, k.output.trans h.output, Nat.le_trans h.size k.size, fun i hi hf =>
    (k.block i (Nat.lt_of_lt_of_le hi h.size) (fun g => by rcases hG i g with g | g; exact hf g; omega)).trans (h.block i hi hf), fun b hb => k.frs b (h.frs b hb)⟩
theorem Ext.same {F : Nat → Prop} {w x y : World} (h : Ext F w x) (k : Same y x) : Ext F w y :=
  ⟨k.os.trans h.os, k.tape.trans h.tape, k.output.trans h.output, by rw [k.heap]; exact h.size, fun i hi hf => by rw [k.heap]; exact h.block i hi hf, fun b hb => (h.frs b hb).of_block (by rw [k.heap])⟩
theorem Ext.alloc {F : Nat → Prop} {w x : World} (h : Ext F w x) (o : Obj) : Ext F w (x.alloc o) :=
  ⟨h.os, h.tape, h.output, by have := h.size; rw [size_alloc]; omega, fun i hi hf => by rw [halloc_old _ _ _ (Nat.lt_of_lt_of_le hi h.size)]; exact h.block i hi hf, fun b hb => (h.frs b hb).of_block (halloc_old _ _ _ (h.frs b hb).lt)⟩
theorem Ext.drew {F : Nat → Prop} {w x : World} (h : Ext F w x) : Ext F w x.drew := ⟨h.os, h.tape, h.output, h.size, h.block, h.frs⟩
theorem Ext.setCell {F : Nat → Prop} {w x : World} (h : Ext F w x) {a : Addr} (ha : F a.block ∨ w.heap.size ≤ a.block) (v : Value) (hfr : IsFr x a.block → IsFr (x.setCell a v) a.block) : Ext F w (x.setCell a v) :=
  ⟨h.os, h.tape, h.output, by rw [size_setCell]; exact h.size, fun i hi hf => by
    rw [hset_other _ _ _ _ (fun e => by subst e; rcases ha with g | g; exact hf g; omega)]; exact h.block i hi hf, fun b hb => by
    by_cases e : b = a.block
    · subst e; exact hfr (h.frs _ hb)
    · exact (h.frs b hb).of_block (hset_other _ _ _ _ e)⟩
theorem Ext.grown {F : Nat → Prop} {w x y : World} {row : Option Nat} (h : Ext F w x) (hg : x.grownBy y row) (hr : ∀ k, row = some k → F k ∨ w.heap.size ≤ k) (hfr : ∀ k, row = some k → ¬ IsFr x k) : Ext F w y :=
  ⟨hg.os.trans h.os, hg.tape.trans h.tape, hg.output.trans h.output, Nat.le_trans h.size hg.size, fun i hi hf =>
    (hg.block i (Nat.lt_of_lt_of_le hi h.size) (fun e => by rcases hr i e.symm with g | g; exact hf g; omega)).trans (h.block i hi hf), fun b hb =>
    (h.frs b hb).of_block (hg.block b (h.frs b hb).lt (fun e => hfr b e.symm (h.frs b hb)))⟩
theorem Ext.mono {F G : Nat → Prop} {w x : World} (h : Ext F w x) (hG : ∀ b, F b → G b) : Ext G w x :=
  ⟨h.os, h.tape, h.output, h.size, fun i hi hf => h.block i hi (fun g => hf (hG i g)), h.frs⟩
theorem Ext.trans {F : Nat → Prop} {w x y : World} (h : Ext F w x) (k : Ext (grow F w x) x y) : Ext F w y :=
  h.step k (fun b hb => by rcases hb with g | ⟨g, _⟩; exact .inl g; exact .inr g)
theorem Ext.below {w x : World} (h : Ext (fun _ => False) w x) : Below w.heap.size w x :=
  ⟨h.os, h.tape, h.output, h.size, fun k hk => h.block k hk (fun g => g)⟩
theorem Ext.of_below {F : Nat → Prop} {w x : World} (h : Below w.heap.size w x) : Ext F w x :=
  ⟨h.os, h.tape, h.output, h.size, fun k hk _ => h.block k hk, fun b hb => hb.of_block (h.block b hb.lt)⟩
theorem grow_old {F : Nat → Prop} {w x : World} {k : Nat} (h : F k) : grow F w x k := .inl h
theorem grow_new {F : Nat → Prop} {w x : World} {k : Nat} (h : w.heap.size ≤ k) (h2 : k < x.heap.size) : grow F w x k := .inr ⟨h, h2⟩
theorem grow_lt {F : Nat → Prop} {w x : World} (hF : ∀ k, F k → k < w.heap.size) (hs : w.heap.size ≤ x.heap.size) : ∀ k, grow F w x k → k < x.heap.size := by
  intro k hk
  rcases hk with g | ⟨_, g⟩
  · exact Nat.lt_of_lt_of_le (hF k g) hs
  · exact g

/-! ### The path: frames, each leading to the next -/
def Linked (w : World) : List Fr → Prop
  | [] => True
  | f :: r => w.heap[f.b]? = some (frObj f.kind f.col (topA r) f.kept) ∧ Linked w r

theorem Linked.congr {w w' : World} {l : List Fr} (h : Linked w l) (hc : ∀ f ∈ l, w'.heap[f.b]? = w.heap[f.b]?) : Linked w' l := by
  induction l with
  | nil => trivial
  | cons f r ih => exact ⟨(hc f (by simp)).trans h.1, ih h.2 (fun g hg => hc g (by simp [hg]))⟩

theorem Linked.drop {w : World} {l : List Fr} (h : Linked w l) (i : Nat) : Linked w (l.drop i) := by
  induction i generalizing l with
  | zero => exact h
  | succ i ih =>
    cases l with
    | nil => trivial
    | cons f r => exact ih h.2

theorem Linked.some {w : World} {l : List Fr} (h : Linked w l) {f : Fr} (hf : f ∈ l) : ∃ up, w.heap[f.b]? = some (frObj f.kind f.col up f.kept) := by
  induction l with
  | nil => simp at hf
  | cons g r ih =>
    rcases List.mem_cons.1 hf with e | e
    · subst e; exact ⟨_, h.1⟩
    · exact ih h.2 e

/-! ### The scanner: its path, its free frames -/
structure Scan (w : World) (F : Nat → Prop) (s : Nat) (stk fre : List Fr) (fv : Value) : Prop where
  scb : w.heap[s]? = some (scObj (topA stk) fv)
  row : w.ownsRow 0 37 1 fv fre.length (fre.map fun f => ptrB f.b)
  linked : Linked w stk
  frees : ∀ f ∈ fre, ∃ up, w.heap[f.b]? = some (frObj f.kind f.col up f.kept)
  nodup : ((stk ++ fre).map Fr.b).Nodup
  Fs : F s
  Frow : ∀ g, fv.ownBlock = some g → F g
  Ffr : ∀ f ∈ stk ++ fre, F f.b
  lt : ∀ k, F k → k < w.heap.size

theorem ownsRow_block {w w' : World} {base : Nat} {e : TypeId} {size : Nat} {v : Value} {n : Nat} {xs : List Value} (h : w.ownsRow base e size v n xs)
    (hb : ∀ g, v.ownBlock = some g → w'.heap[g]? = w.heap[g]?) : w'.ownsRow base e size v n xs := by
  obtain ⟨h1, h2⟩ := h
  refine ⟨h1, ?_⟩
  rcases h2 with h2 | ⟨g, cap, cur, hv, hg, hh, r⟩
  · exact Or.inl h2
  · exact Or.inr ⟨g, cap, cur, hv, hg, by rw [hb g (by rw [hv]; rfl)]; exact hh, r⟩

theorem Scan.moved {w w' : World} {F F' : Nat → Prop} {s : Nat} {stk fre : List Fr} {fv : Value} (h : Scan w F s stk fre fv)
    (hb : ∀ k, F k → w'.heap[k]? = w.heap[k]?) (hF : ∀ k, F k → F' k) (hlt : ∀ k, F' k → k < w'.heap.size) : Scan w' F' s stk fre fv where
  scb := (hb s h.Fs).trans h.scb
  row := ownsRow_block h.row (fun g hg => hb g (h.Frow g hg))
  linked := h.linked.congr (fun f hf => hb _ (h.Ffr f (by simp [hf])))
  frees := fun f hf => by
    obtain ⟨up, hu⟩ := h.frees f hf
    exact ⟨up, (hb _ (h.Ffr f (by simp [hf]))).trans hu⟩
  nodup := h.nodup
  Fs := hF _ h.Fs
  Frow := fun g hg => hF _ (h.Frow g hg)
  Ffr := fun f hf => hF _ (h.Ffr f hf)
  lt := hlt

/-- What another part of memory does leaves the scanner as it was. -/
theorem Scan.frame {w w' : World} {F G : Nat → Prop} {s : Nat} {stk fre : List Fr} {fv : Value} (h : Scan w F s stk fre fv) (e : Ext G w w') (hd : ∀ k, F k → ¬ G k) : Scan w' F s stk fre fv :=
  h.moved (fun k hk => e.block k (h.lt k hk) (hd k hk)) (fun _ hk => hk) (fun k hk => Nat.lt_of_lt_of_le (h.lt k hk) e.size)

theorem Scan.mono {w : World} {F F' : Nat → Prop} {s : Nat} {stk fre : List Fr} {fv : Value} (h : Scan w F s stk fre fv) (hF : ∀ k, F k → F' k) (hlt : ∀ k, F' k → k < w.heap.size) : Scan w F' s stk fre fv :=
  h.moved (fun _ _ => rfl) hF hlt

/-! ### Cells out of blocks -/
theorem sc7 {w : World} {s : Nat} {p : Option Addr} {f : Value} (h : w.heap[s]? = some (scObj p f)) : w.cell? ⟨s, 7, none⟩ = some (.pointer p) := by simp [World.cell?, h, scObj]
theorem sc8 {w : World} {s : Nat} {p : Option Addr} {f : Value} (h : w.heap[s]? = some (scObj p f)) : w.cell? ⟨s, 8, none⟩ = some f := by simp [World.cell?, h, scObj]
theorem scf {w : World} {s : Nat} {p : Option Addr} {f : Value} (h : w.heap[s]? = some (scObj p f)) (o : Nat) : w.frozen? ⟨s, o, none⟩ = false := by simp [World.frozen?, h, scObj]
theorem fr0 {w : World} {b : Nat} {k c : Int} {u : Option Addr} {q : Bool} (h : w.heap[b]? = some (frObj k c u q)) : w.cell? ⟨b, 0, none⟩ = some (.int .i64 k) := by simp [World.cell?, h, frObj]
theorem fr1 {w : World} {b : Nat} {k c : Int} {u : Option Addr} {q : Bool} (h : w.heap[b]? = some (frObj k c u q)) : w.cell? ⟨b, 1, none⟩ = some (.slice none 0 0) := by simp [World.cell?, h, frObj]
theorem fr2 {w : World} {b : Nat} {k c : Int} {u : Option Addr} {q : Bool} (h : w.heap[b]? = some (frObj k c u q)) : w.cell? ⟨b, 2, none⟩ = some (.int .i64 c) := by simp [World.cell?, h, frObj]
theorem fr3 {w : World} {b : Nat} {k c : Int} {u : Option Addr} {q : Bool} (h : w.heap[b]? = some (frObj k c u q)) : w.cell? ⟨b, 3, none⟩ = some (.pointer u) := by simp [World.cell?, h, frObj]
theorem fr4 {w : World} {b : Nat} {k c : Int} {u : Option Addr} {q : Bool} (h : w.heap[b]? = some (frObj k c u q)) : w.cell? ⟨b, 4, none⟩ = some (.pointer none) := by simp [World.cell?, h, frObj]
theorem fr5 {w : World} {b : Nat} {k c : Int} {u : Option Addr} {q : Bool} (h : w.heap[b]? = some (frObj k c u q)) : w.cell? ⟨b, 5, none⟩ = some (.bool q) := by simp [World.cell?, h, frObj]
theorem frf {w : World} {b : Nat} {k c : Int} {u : Option Addr} {q : Bool} (h : w.heap[b]? = some (frObj k c u q)) (o : Nat) : w.frozen? ⟨b, o, none⟩ = false := by simp [World.frozen?, h, frObj]

theorem sc_ne_fr {w : World} {s b : Nat} {p : Option Addr} {f : Value} {k c : Int} {u : Option Addr} {q : Bool} (h : w.heap[s]? = some (scObj p f)) (h2 : w.heap[b]? = some (frObj k c u q)) : s ≠ b := by
  intro e; subst e; rw [h] at h2; simp [scObj, frObj] at h2
theorem sc_ne_row {w : World} {s g : Nat} {p : Option Addr} {f : Value} {cur : Array Value} {z : Nat × Nat} (h : w.heap[s]? = some (scObj p f)) (h2 : w.heap[g]? = some (.cells cur 37 z)) : s ≠ g := by
  intro e; subst e; rw [h] at h2; simp [scObj] at h2
theorem fr_ne_row {w : World} {b g : Nat} {k c : Int} {u : Option Addr} {q : Bool} {cur : Array Value} {z : Nat × Nat} (h : w.heap[b]? = some (frObj k c u q)) (h2 : w.heap[g]? = some (.cells cur 37 z)) : b ≠ g := by
  intro e; subst e; rw [h] at h2; simp [frObj] at h2

theorem sc_set7 {w : World} {s : Nat} {p : Option Addr} {f : Value} (h : w.heap[s]? = some (scObj p f)) (q : Option Addr) : (w.setCell ⟨s, 7, none⟩ (.pointer q)).heap[s]? = some (scObj q f) := by
  rw [hset_same (c := _) (e := 68) (fr := (0, 0)) h]; rfl
theorem sc_set8 {w : World} {s : Nat} {p : Option Addr} {f : Value} (h : w.heap[s]? = some (scObj p f)) (v : Value) : (w.setCell ⟨s, 8, none⟩ v).heap[s]? = some (scObj p v) := by
  rw [hset_same (c := _) (e := 68) (fr := (0, 0)) h]; rfl
theorem fr_set5 {w : World} {b : Nat} {k c : Int} {u : Option Addr} {q : Bool} (h : w.heap[b]? = some (frObj k c u q)) (r : Bool) : (w.setCell ⟨b, 5, none⟩ (.bool r)).heap[b]? = some (frObj k c u r) := by
  rw [hset_same (c := _) (e := 74) (fr := (0, 0)) h]; rfl

end Go.Proofs.Qxb6604576a
