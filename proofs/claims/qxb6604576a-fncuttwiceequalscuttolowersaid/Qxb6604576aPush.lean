/-
  push: the walk and what becomes of the scanner.
-/
import Derived.Test.Qxb6604576aProg
import Derived.Test.Qxb6604576aBase
import Derived.BigRegion
import Derived.ChangeAlike
namespace Go.Proofs.Qxb6604576a
open Go.RowKit
set_option linter.unusedVariables false

def frameAgg (kind col : Int) (up : Option Addr) (kept : Bool) : Value := .agg #[.int .i64 kind, .slice none 0 0, .int .i64 col, .pointer up, .pointer none, .bool kept]

def pushNewW (w : World) (s : Nat) (kind col : Int) (p : Option Addr) : World :=
  ((w.setCell ⟨s, 7, none⟩ (.pointer (some ⟨w.heap.size + 1, 0, none⟩))).alloc (frObj kind col p false)).alloc (frObj kind col p false)

def pushOldW (w : World) (s b g n cap : Nat) (kind col : Int) (p : Option Addr) : World :=
  ((((((((w.setCell ⟨s, 7, none⟩ (.pointer (some ⟨b, 0, none⟩))).setCell ⟨s, 8, none⟩ (.slice (some ⟨g, 0, none⟩) n cap)).setCell ⟨b, 0, none⟩ (.int .i64 kind)).setCell ⟨b, 1, none⟩ (.slice none 0 0)).setCell
    ⟨b, 2, none⟩ (.int .i64 col)).setCell ⟨b, 3, none⟩ (.pointer p)).setCell ⟨b, 4, none⟩ (.pointer none)).setCell ⟨b, 5, none⟩ (.bool false)).alloc (frObj kind col p false)

set_option maxHeartbeats 400000 in
theorem push_new (s : Nat) (kind col : Int) (p : Option Addr) (fo : Option Addr) (cap : Nat) (w : World) (hs : s < w.heap.size)
    (h7 : w.cell? ⟨s, 7, none⟩ = some (.pointer p)) (f7 : w.frozen? ⟨s, 7, none⟩ = false)
    (h8 : w.cell? ⟨s, 8, none⟩ = some (.slice fo 0 cap)) :
    Calls Try.prog 37 #[.pointer (some ⟨s, 0, none⟩), .agg #[.int .i64 kind, .slice none 0 0, .int .i64 col, .pointer none, .pointer none, .bool false]] w fun e w' => e = .returned (.tuple #[]) ∧ Same w' (pushNewW w s kind col p) := by
  go_enter Try.func37, Try.ntmps37
  go_wp2
  go_region
  all_goals go_wp2
  all_goals go_end0
  all_goals exact ⟨rfl, rfl, rfl, rfl, rfl⟩

set_option maxHeartbeats 400000 in
theorem push_old (s b g n cap : Nat) (kind col : Int) (p : Option Addr) (w : World) (hs : s < w.heap.size) (hb : b < w.heap.size) (hg : g < w.heap.size) (hn : n + 1 ≤ cap) (hcap : cap ≤ 9223372036854775807) (sg : s ≠ g) (sb : s ≠ b) (bg : b ≠ g)
    (h7 : w.cell? ⟨s, 7, none⟩ = some (.pointer p)) (f7 : w.frozen? ⟨s, 7, none⟩ = false)
    (h8 : w.cell? ⟨s, 8, none⟩ = some (.slice (some ⟨g, 0, none⟩) (n + 1) cap)) (f8 : w.frozen? ⟨s, 8, none⟩ = false)
    (hgn : w.cell? ⟨g, n, none⟩ = some (.pointer (some ⟨b, 0, none⟩)))
    (c0 c1 c2 c3 c4 c5 : Value) (b0 : w.cell? ⟨b, 0, none⟩ = some c0) (b1 : w.cell? ⟨b, 1, none⟩ = some c1) (b2 : w.cell? ⟨b, 2, none⟩ = some c2) (b3 : w.cell? ⟨b, 3, none⟩ = some c3) (b4 : w.cell? ⟨b, 4, none⟩ = some c4) (b5 : w.cell? ⟨b, 5, none⟩ = some c5)
    (e0 : w.frozen? ⟨b, 0, none⟩ = false) (e1 : w.frozen? ⟨b, 1, none⟩ = false) (e2 : w.frozen? ⟨b, 2, none⟩ = false) (e3 : w.frozen? ⟨b, 3, none⟩ = false) (e4 : w.frozen? ⟨b, 4, none⟩ = false) (e5 : w.frozen? ⟨b, 5, none⟩ = false) :
    Calls Try.prog 37 #[.pointer (some ⟨s, 0, none⟩), .agg #[.int .i64 kind, .slice none 0 0, .int .i64 col, .pointer none, .pointer none, .bool false]] w fun e w' => e = .returned (.tuple #[]) ∧ Same w' (pushOldW w s b g n cap kind col p) := by
  have i1 : (0 : Int) ≤ n := by omega
  have i2 : (n : Int) < n + 1 := by omega
  go_enter Try.func37, Try.ntmps37
  go_wp2
  go_region
  all_goals go_wp2
  all_goals go_region
  all_goals go_wp2
  all_goals go_end0
  all_goals exact ⟨rfl, (Same.refl (pushOldW w s b g n cap kind col p)).drew.drew⟩

/-! ### What becomes of the scanner -/
theorem pushNew_ext {w : World} {F : Nat → Prop} {s : Nat} (hs : F s) (kind col : Int) (p : Option Addr) {q : Option Addr} {fv : Value} (hsc : w.heap[s]? = some (scObj q fv)) : Ext F w (pushNewW w s kind col p) :=
  ((((Ext.refl F w).setCell (.inl hs) _ (fun h => absurd h (sc_not_fr hsc))).alloc _).alloc _)

theorem pushNew_size (w : World) (s : Nat) (kind col : Int) (p : Option Addr) : (pushNewW w s kind col p).heap.size = w.heap.size + 2 := by
  unfold pushNewW; rw [size_alloc, size_alloc, size_setCell]

theorem pushNew_block {w : World} {s : Nat} (kind col : Int) (p : Option Addr) {k : Nat} (hk : k < w.heap.size) (hks : k ≠ s) : (pushNewW w s kind col p).heap[k]? = w.heap[k]? := by
  unfold pushNewW
  rw [halloc_old _ _ _ (by rw [size_alloc, size_setCell]; omega), halloc_old _ _ _ (by rw [size_setCell]; omega), hset_other _ _ _ _ hks]

theorem scan_pushNew {w : World} {F : Nat → Prop} {s : Nat} {stk : List Fr} {fv : Value} (h : Scan w F s stk [] fv) (kind col : Int) :
    Scan (pushNewW w s kind col (topA stk)) (grow F w (pushNewW w s kind col (topA stk))) s (⟨w.heap.size + 1, kind, col, false⟩ :: stk) [] fv := by
  have hsz := pushNew_size w s kind col (topA stk)
  have hext := pushNew_ext (w := w) h.Fs kind col (topA stk) h.scb
  have hslt : s < w.heap.size := h.lt s h.Fs
  have old : ∀ k, F k → k ≠ s → (pushNewW w s kind col (topA stk)).heap[k]? = w.heap[k]? := fun k hk hks => pushNew_block kind col _ (h.lt k hk) hks
  have nes : ∀ f ∈ stk ++ [], f.b ≠ s := fun f hf => by
    obtain ⟨up, hu⟩ := h.linked.some (f := f) (by simpa using hf)
    exact (sc_ne_fr h.scb hu).symm
  refine ⟨?_, ?_, ⟨?_, ?_⟩, ?_, ?_, grow_old h.Fs, fun g hg => grow_old (h.Frow g hg), ?_, grow_lt h.lt hext.size⟩
  · show (pushNewW w s kind col (topA stk)).heap[s]? = some (scObj (some ⟨w.heap.size + 1, 0, none⟩) fv)
    unfold pushNewW
    rw [halloc_old _ _ _ (by rw [size_alloc, size_setCell]; omega), halloc_old _ _ _ (by rw [size_setCell]; omega), sc_set7 h.scb]
  · refine ownsRow_block h.row (fun g hg => old g (h.Frow g hg) ?_)
    intro e; subst e
    obtain ⟨h1, h2⟩ := h.row
    rcases h2 with ⟨h2, _⟩ | ⟨g', cap, cur, hv, _, hh, _⟩
    · rw [h2] at hg; cases hg
    · rw [hv] at hg
      have : g' = g := by simpa [Value.ownBlock] using hg
      subst this
      exact sc_ne_row h.scb hh rfl
  · show (pushNewW w s kind col (topA stk)).heap[w.heap.size + 1]? = some (frObj kind col (topA stk) false)
    unfold pushNewW
    have := halloc_new ((w.setCell ⟨s, 7, none⟩ (.pointer (some ⟨w.heap.size + 1, 0, none⟩))).alloc (frObj kind col (topA stk) false)) (frObj kind col (topA stk) false)
    rw [size_alloc, size_setCell] at this
    exact this
  · exact h.linked.congr (fun f hf => old _ (h.Ffr f (by simp [hf])) (nes f (by simp [hf])))
  · intro f hf; simp at hf
  · simp only [List.cons_append, List.map_cons, List.nodup_cons]
    refine ⟨?_, h.nodup⟩
    intro hm
    obtain ⟨f, hf, hfe⟩ := List.mem_map.1 hm
    have := h.lt _ (h.Ffr f hf)
    omega
  · intro f hf
    rcases List.mem_cons.1 hf with e | e
    · subst e; exact grow_new (by show w.heap.size ≤ w.heap.size + 1; omega) (by rw [hsz]; show w.heap.size + 1 < _; omega)
    · exact grow_old (h.Ffr f e)

theorem pushOld_ext {w : World} {F : Nat → Prop} {s b : Nat} (hs : F s) (hb : F b) (g n cap : Nat) (kind col : Int) (p : Option Addr) {q : Option Addr} {fv : Value} (hsc : w.heap[s]? = some (scObj q fv)) {k0 c0 : Int} {u0 : Option Addr} {q0 : Bool} (hfr : w.heap[b]? = some (frObj k0 c0 u0 q0)) :
    Ext F w (pushOldW w s b g n cap kind col p) := by
  have hsb : s ≠ b := sc_ne_fr hsc hfr
  have h0 : ((w.setCell ⟨s, 7, none⟩ (.pointer (some ⟨b, 0, none⟩))).setCell ⟨s, 8, none⟩ (.slice (some ⟨g, 0, none⟩) n cap)).heap[b]? = some (frObj k0 c0 u0 q0) := by
    rw [hset_other _ _ _ _ hsb.symm, hset_other _ _ _ _ hsb.symm]; exact hfr
  have h1 : (((w.setCell ⟨s, 7, none⟩ (.pointer (some ⟨b, 0, none⟩))).setCell ⟨s, 8, none⟩ (.slice (some ⟨g, 0, none⟩) n cap)).setCell ⟨b, 0, none⟩ (.int .i64 kind)).heap[b]? = some (frObj kind c0 u0 q0) := (hset_same (o := 0) h0 _).trans rfl
  have h2 : ((((w.setCell ⟨s, 7, none⟩ (.pointer (some ⟨b, 0, none⟩))).setCell ⟨s, 8, none⟩ (.slice (some ⟨g, 0, none⟩) n cap)).setCell ⟨b, 0, none⟩ (.int .i64 kind)).setCell ⟨b, 1, none⟩ (.slice none 0 0)).heap[b]? = some (frObj kind c0 u0 q0) := (hset_same (o := 1) h1 _).trans rfl
  have h3 := (hset_same (o := 2) h2 (.int .i64 col))
  have h4 := (hset_same (o := 3) h3 (.pointer p))
  have h5 := (hset_same (o := 4) h4 (.pointer none))
  have h6 := (hset_same (o := 5) h5 (.bool false))
  exact (((((((((Ext.refl F w).setCell (.inl hs) _ (fun h => absurd h (sc_not_fr hsc))).setCell (.inl hs) _ (fun h => absurd h (sc_not_fr (sc_set7 hsc _)))).setCell (.inl hb) _ (fun _ => ⟨_, _, _, _, h1⟩)).setCell (.inl hb) _ (fun _ => ⟨_, _, _, _, h2⟩)).setCell (.inl hb) _
    (fun _ => ⟨kind, col, u0, q0, h3⟩)).setCell (.inl hb) _ (fun _ => ⟨kind, col, p, q0, h4⟩)).setCell (.inl hb) _ (fun _ => ⟨kind, col, p, q0, h5⟩)).setCell (.inl hb) _ (fun _ => ⟨kind, col, p, false, h6⟩)).alloc _

theorem pushOld_block {w : World} {s b : Nat} (g n cap : Nat) (kind col : Int) (p : Option Addr) {k : Nat} (hk : k < w.heap.size) (hks : k ≠ s) (hkb : k ≠ b) : (pushOldW w s b g n cap kind col p).heap[k]? = w.heap[k]? := by
  unfold pushOldW
  rw [halloc_old _ _ _ (by simp only [size_setCell]; exact hk), hset_other _ _ _ _ hkb, hset_other _ _ _ _ hkb, hset_other _ _ _ _ hkb, hset_other _ _ _ _ hkb, hset_other _ _ _ _ hkb, hset_other _ _ _ _ hkb, hset_other _ _ _ _ hks, hset_other _ _ _ _ hks]

theorem pushOld_b {w : World} {s b : Nat} (g n cap : Nat) (kind col : Int) (p : Option Addr) (hb : b < w.heap.size) (hsb : s ≠ b) {k0 c0 : Int} {u0 : Option Addr} {q0 : Bool} (h : w.heap[b]? = some (frObj k0 c0 u0 q0)) :
    (pushOldW w s b g n cap kind col p).heap[b]? = some (frObj kind col p false) := by
  unfold pushOldW
  rw [halloc_old _ _ _ (by simp only [size_setCell]; exact hb)]
  have h0 : ((w.setCell ⟨s, 7, none⟩ (.pointer (some ⟨b, 0, none⟩))).setCell ⟨s, 8, none⟩ (.slice (some ⟨g, 0, none⟩) n cap)).heap[b]? = some (frObj k0 c0 u0 q0) := by
    rw [hset_other _ _ _ _ hsb.symm, hset_other _ _ _ _ hsb.symm]; exact h
  have h1 := hset_same (o := 0) h0 (.int .i64 kind)
  have h2 := hset_same (o := 1) h1 (.slice none 0 0)
  have h3 := hset_same (o := 2) h2 (.int .i64 col)
  have h4 := hset_same (o := 3) h3 (.pointer p)
  have h5 := hset_same (o := 4) h4 (.pointer none)
  have h6 := hset_same (o := 5) h5 (.bool false)
  rw [h6]; rfl

theorem pushOld_s {w : World} {s b : Nat} (g n cap : Nat) (kind col : Int) (p : Option Addr) (hs : s < w.heap.size) (hsb : s ≠ b) {q : Option Addr} {fv : Value} (h : w.heap[s]? = some (scObj q fv)) :
    (pushOldW w s b g n cap kind col p).heap[s]? = some (scObj (some ⟨b, 0, none⟩) (.slice (some ⟨g, 0, none⟩) n cap)) := by
  unfold pushOldW
  rw [halloc_old _ _ _ (by simp only [size_setCell]; exact hs), hset_other _ _ _ _ hsb, hset_other _ _ _ _ hsb, hset_other _ _ _ _ hsb, hset_other _ _ _ _ hsb, hset_other _ _ _ _ hsb, hset_other _ _ _ _ hsb]
  exact sc_set8 (sc_set7 h _) _

/-- A row that is owned, cut by its last element. -/
theorem ownsRow_cut {w : World} {base : Nat} {e : TypeId} {size : Nat} {g cap n : Nat} {xs : List Value} (h : w.ownsRow base e size (.slice (some ⟨g, 0, none⟩) n cap) n xs) {m : Nat} (hm : m ≤ n) :
    w.ownsRow base e size (.slice (some ⟨g, 0, none⟩) m cap) m (xs.take (m * size)) := by
  obtain ⟨h1, h2⟩ := h
  have hle : m * size ≤ n * size := Nat.mul_le_mul_right _ hm
  refine ⟨by rw [List.length_take, h1]; omega, ?_⟩
  rcases h2 with ⟨h2, _⟩ | ⟨g', cap', cur, hv, hb, hh, hn, hc, hcs, ht⟩
  · cases h2
  · simp only [Value.slice.injEq, Option.some.injEq, Addr.mk.injEq] at hv
    obtain ⟨⟨e1, _, _⟩, _, e2⟩ := hv
    subst e1 e2
    refine Or.inr ⟨g, cap, cur, rfl, hb, hh, by omega, hc, hcs, ?_⟩
    rw [← ht, List.take_take]
    congr 1; omega

theorem scan_pushOld {w : World} {F : Nat → Prop} {s g n cap : Nat} {stk fre : List Fr} {f : Fr} (h : Scan w F s stk (fre ++ [f]) (.slice (some ⟨g, 0, none⟩) n cap)) (hn : n = fre.length + 1) (kind col : Int) :
    Scan (pushOldW w s f.b g fre.length cap kind col (topA stk)) (grow F w (pushOldW w s f.b g fre.length cap kind col (topA stk))) s (⟨f.b, kind, col, false⟩ :: stk) fre (.slice (some ⟨g, 0, none⟩) fre.length cap) := by
  subst hn
  have hslt : s < w.heap.size := h.lt s h.Fs
  have hFb : F f.b := h.Ffr f (by simp)
  have hblt := h.lt _ hFb
  obtain ⟨up, hfu⟩ := h.frees f (by simp)
  have hsb : s ≠ f.b := sc_ne_fr h.scb hfu
  have hext := pushOld_ext (w := w) h.Fs hFb g fre.length cap kind col (topA stk) h.scb hfu
  have old : ∀ k, F k → k ≠ s → k ≠ f.b → (pushOldW w s f.b g fre.length cap kind col (topA stk)).heap[k]? = w.heap[k]? := fun k hk hks hkb => pushOld_block g _ cap kind col _ (h.lt k hk) hks hkb
  have nd := h.nodup
  have nd2 : ∀ x ∈ stk ++ fre, x.b ≠ f.b := by
    rw [← List.append_assoc, List.map_append, List.nodup_append] at nd
    intro x hx e
    exact nd.2.2 _ (List.mem_map.2 ⟨x, hx, rfl⟩) _ (by simp) e
  have nes : ∀ x ∈ stk ++ fre, x.b ≠ s := fun x hx => by
    rcases List.mem_append.1 hx with hx | hx
    · obtain ⟨up, hu⟩ := h.linked.some hx
      exact (sc_ne_fr h.scb hu).symm
    · obtain ⟨up, hu⟩ := h.frees x (by simp [hx])
      exact (sc_ne_fr h.scb hu).symm
  have hrow := h.row
  rw [List.length_append] at hrow
  have hcut := ownsRow_cut hrow (m := fre.length) (by simp)
  have hxs : (List.map (fun f => ptrB f.b) (fre ++ [f])).take (fre.length * 1) = fre.map (fun f => ptrB f.b) := by
    rw [Nat.mul_one, List.map_append]; exact List.take_left' (by simp)
  rw [hxs] at hcut
  have hg : F g := h.Frow g rfl
  obtain ⟨_, h2⟩ := hrow
  obtain ⟨cur, hcur⟩ : ∃ cur, w.heap[g]? = some (.cells cur 37 (0, 0)) := by
    rcases h2 with ⟨h2, _⟩ | ⟨g', cap', cur, hv, _, hh, _⟩
    · cases h2
    · simp only [Value.slice.injEq, Option.some.injEq, Addr.mk.injEq] at hv
      obtain ⟨⟨e1, _, _⟩, _, e2⟩ := hv
      subst e1
      exact ⟨cur, hh⟩
  have hgs : g ≠ s := (sc_ne_row h.scb hcur).symm
  have hgb : g ≠ f.b := (fr_ne_row hfu hcur).symm
  refine ⟨?_, ?_, ⟨?_, ?_⟩, ?_, ?_, grow_old h.Fs, fun k hk => ?_, ?_, grow_lt h.lt hext.size⟩
  · exact pushOld_s g _ cap kind col _ hslt hsb h.scb
  · refine ownsRow_block hcut (fun k hk => ?_)
    have : k = g := by simpa [Value.ownBlock] using hk.symm
    subst this
    exact old k hg hgs hgb
  · exact pushOld_b g _ cap kind col _ hblt hsb hfu
  · exact h.linked.congr (fun x hx => old _ (h.Ffr x (by simp [hx])) (nes x (by simp [hx])) (nd2 x (by simp [hx])))
  · intro x hx
    obtain ⟨up, hu⟩ := h.frees x (by simp [hx])
    exact ⟨up, (old _ (h.Ffr x (by simp [hx])) (nes x (by simp [hx])) (nd2 x (by simp [hx]))).trans hu⟩
  · simp only [List.cons_append, List.map_cons, List.nodup_cons]
    refine ⟨?_, ?_⟩
    · intro hm
      obtain ⟨x, hx, hxe⟩ := List.mem_map.1 hm
      exact nd2 x hx hxe
    · rw [← List.append_assoc, List.map_append, List.nodup_append] at nd
      exact nd.1
  · have : k = g := by simpa [Value.ownBlock] using hk.symm
    subst this
    exact grow_old hg
  · intro x hx
    rcases List.mem_cons.1 hx with e | e
    · subst e; exact grow_old hFb
    · exact grow_old (h.Ffr x (by rcases List.mem_append.1 e with e | e <;> simp [e]))

end Go.Proofs.Qxb6604576a
