/-
  liveSteps.
-/
import Derived.Test.Qxb6604582aClone
namespace Go.Proofs.Qxb6604582a
open Go.RowKit
set_option linter.unusedVariables false
set_option linter.unusedSimpArgs false

/-- Is step i among those that count? -/
def liveAt (ss : List SI) (zs : List Int) (i : Nat) : Bool :=
  match ss[i]?, zs[i]? with
  | some t, some z => liveB t.1 z
  | _, _ => false
/-- The indexes of those that count among the first n. -/
def lidx (ss : List SI) (zs : List Int) (n : Nat) : List Nat := (List.range n).filter (liveAt ss zs)
def pickS (ss : List SI) (l : List Nat) : List SI := l.map (fun i => (ss[i]?).getD (0, 0, ByteArray.empty))
def natsV (l : List Nat) : List Value := l.map (fun i : Nat => Value.int .i64 i)

theorem lidx_succ (ss : List SI) (zs : List Int) (n : Nat) : lidx ss zs (n + 1) = lidx ss zs n ++ (if liveAt ss zs n then [n] else []) := by
  unfold lidx
  rw [List.range_succ, List.filter_append]
  cases h : liveAt ss zs n <;> simp [h]
theorem lidx_le (ss : List SI) (zs : List Int) (n : Nat) : (lidx ss zs n).length ≤ n := by
  unfold lidx
  have := List.length_filter_le (liveAt ss zs) (List.range n)
  simpa using this
theorem pickS_append (ss : List SI) (a b : List Nat) : pickS ss (a ++ b) = pickS ss a ++ pickS ss b := by simp [pickS]
theorem pickS_length (ss : List SI) (a : List Nat) : (pickS ss a).length = a.length := by simp [pickS]
theorem natsV_append (a b : List Nat) : natsV (a ++ b) = natsV a ++ natsV b := by simp [natsV]
theorem liveAt_of {ss : List SI} {zs : List Int} {n : Nat} {t : SI} {z : Int} (ht : ss[n]? = some t) (hz : zs[n]? = some z) : liveAt ss zs n = liveB t.1 z := by
  simp [liveAt, ht, hz]

theorem row_obj {w : World} {base : Nat} {e : TypeId} {size : Nat} {v : Value} {n : Nat} {xs : List Value} (h : w.ownsRow base e size v n xs) {g : Nat} (hg : v.ownBlock = some g) : ∃ cur, w.heap[g]? = some (.cells cur e (0, 0)) := by
  rcases h.2 with ⟨h2, _⟩ | ⟨g', cap', cur, hv, _, hh, _⟩
  · rw [h2] at hg; cases hg
  · rw [hv] at hg
    simp only [Value.ownBlock, Option.some.injEq] at hg
    subst hg
    exact ⟨cur, hh⟩
theorem rows_ne {w : World} {base base' : Nat} {e e' : TypeId} {size size' : Nat} {v v' : Value} {n n' : Nat} {xs xs' : List Value} (h : w.ownsRow base e size v n xs) (h' : w.ownsRow base' e' size' v' n' xs') (he : e ≠ e') {g : Nat} (hg : v.ownBlock = some g) : some g ≠ v'.ownBlock := by
  intro hm
  obtain ⟨cur, hc⟩ := row_obj h hg
  obtain ⟨cur', hc'⟩ := row_obj h' hm.symm
  rw [hc] at hc'
  simp only [Option.some.injEq, Obj.cells.injEq] at hc'
  exact he hc'.2.1
/-- A row of another kind stays while one grows. -/
theorem own_other {x y : World} {base base' : Nat} {e e' : TypeId} {size size' : Nat} {v v' : Value} {n n' : Nat} {xs xs' : List Value} (h : x.ownsRow base e size v n xs) (h' : x.ownsRow base' e' size' v' n' xs') (he : e ≠ e') (hg : x.grownBy y v'.ownBlock) : y.ownsRow base e size v n xs := by
  refine h.kept hg ?_
  cases hv : v.ownBlock with
  | none => exact .inl rfl
  | some g => exact .inr (fun e2 => rows_ne h h' he hv e2)
theorem row_form {w : World} {base : Nat} {e : TypeId} {size : Nat} {v : Value} {n : Nat} {xs : List Value} (h : w.ownsRow base e size v n xs) : ∃ a cap, v = .slice a n cap ∧ n ≤ cap ∧ cap ≤ maxLen := by
  rcases h.2 with ⟨e, h0⟩ | ⟨g, cap, cur, e, _, _, h1, h2, _⟩
  · exact ⟨none, 0, by rw [e, h0], by omega, by simp [maxLen]⟩
  · exact ⟨_, cap, e, h1, h2⟩

theorem news3 (w : World) (t : SI) : ∀ j u, [Value.int .u8 t.1, .int .i64 t.2.1, .string t.2.2][j]? = some u → (w.alloc (.cells #[.int .u8 t.1, .int .i64 t.2.1, .string t.2.2] 41)).cell? ((⟨w.heap.size, 0, none⟩ : Addr).add j) = some u :=
  World.news_of_block (cs := #[.int .u8 t.1, .int .i64 t.2.1, .string t.2.2]) (heap_alloc_new w _)
theorem news3b (w : World) (o : Obj) (t : SI) : ∀ j u, [Value.int .u8 t.1, .int .i64 t.2.1, .string t.2.2][j]? = some u → ((w.alloc o).alloc (.cells #[.int .u8 t.1, .int .i64 t.2.1, .string t.2.2] 41)).cell? ((⟨w.heap.size + 1, 0, none⟩ : Addr).add j) = some u := by
  have := news3 (w.alloc o) t
  have e : (w.alloc o).heap.size = w.heap.size + 1 := by simp
  rw [e] at this
  exact this
theorem one3 (t : SI) : ∀ u ∈ [Value.int .u8 t.1, .int .i64 t.2.1, .string t.2.2], u.oneCell' = true := by
  intro u hu
  simp only [List.mem_cons, List.not_mem_nil, or_false] at hu
  rcases hu with rfl | rfl | rfl <;> rfl
theorem news1 (w : World) (n : Int) : ∀ j u, [Value.int .i64 n][j]? = some u → (w.alloc (.cells #[.int .i64 n] 3)).cell? ((⟨w.heap.size, 0, none⟩ : Addr).add j) = some u :=
  World.news_of_block (cs := #[.int .i64 n]) (heap_alloc_new w _)

theorem lidx_no {ss : List SI} {zs : List Int} {n : Nat} (h : liveAt ss zs n = false) : lidx ss zs (n + 1) = lidx ss zs n := by
  rw [lidx_succ, h]; simp
theorem lidx_yes {ss : List SI} {zs : List Int} {n : Nat} (h : liveAt ss zs n = true) : lidx ss zs (n + 1) = lidx ss zs n ++ [n] := by
  rw [lidx_succ, h]; simp
theorem sz_alloc (w : World) (o : Obj) : (w.alloc o).heap.size = w.heap.size + 1 := by simp

/-- What liveSteps keeps up round by round. -/
def LivI (w : World) (ss : List SI) (zs : List Int) (wr : World) (n : Nat) (lv av : Value) : Prop :=
  Below w.heap.size w wr ∧ wr.ownsRow w.heap.size 41 3 lv (lidx ss zs n).length (sflat (pickS ss (lidx ss zs n))) ∧ wr.ownsRow w.heap.size 3 1 av (lidx ss zs n).length (natsV (lidx ss zs n))

theorem LivI.skip {w : World} {ss : List SI} {zs : List Int} {wr : World} {n : Nat} {lv av : Value} (h : LivI w ss zs wr n lv av) (hn : liveAt ss zs n = false) (o : Obj) : LivI w ss zs (wr.alloc o) (n + 1) lv av := by
  unfold LivI
  rw [lidx_no hn]
  exact ⟨h.1.alloc h.1.size _, h.2.1.alloc _, h.2.2.alloc _⟩

theorem LivI.push {w : World} {ss : List SI} {zs : List Int} {wr x1 x2 : World} {n : Nat} {t : SI} {lv av lv' av' : Value} (h : LivI w ss zs wr n lv av) (hn : liveAt ss zs n = true) (ht : ss[n]? = some t) (o1 o2 o3 : Obj)
    (g1 : ((wr.alloc o1).alloc o2).grownBy x1 lv.ownBlock) (p1 : x1.ownsRow w.heap.size 41 3 lv' ((lidx ss zs n).length + 1) (sflat (pickS ss (lidx ss zs n)) ++ siCells t))
    (g2 : (x1.alloc o3).grownBy x2 av.ownBlock) (p2 : x2.ownsRow w.heap.size 3 1 av' ((lidx ss zs n).length + 1) (natsV (lidx ss zs n) ++ [.int .i64 n])) : LivI w ss zs x2 (n + 1) lv' av' := by
  unfold LivI
  have hs := h.1.size
  have e1 : pickS ss [n] = [t] := by simp [pickS, ht]
  have r1 : (((wr.alloc o1).alloc o2)).ownsRow w.heap.size 41 3 lv (lidx ss zs n).length (sflat (pickS ss (lidx ss zs n))) := (h.2.1.alloc o1).alloc o2
  have r2 : (((wr.alloc o1).alloc o2)).ownsRow w.heap.size 3 1 av (lidx ss zs n).length (natsV (lidx ss zs n)) := (h.2.2.alloc o1).alloc o2
  have r3 := (own_other r2 r1 (by decide) g1).alloc o3
  have b1 : Below w.heap.size w x1 := Below.grown ((h.1.alloc hs o1).alloc (by rw [sz_alloc]; omega) o2) g1 (by rw [sz_alloc, sz_alloc]; omega) (fun k hk => (r1.lt k hk).1)
  have b2 : Below w.heap.size w x2 := Below.grown (b1.alloc b1.size o3) g2 (by rw [sz_alloc]; have := b1.size; omega) (fun k hk => (r3.lt k hk).1)
  have q1 := own_other (p1.alloc o3) r3 (by decide) g2
  rw [lidx_yes hn, List.length_append, pickS_append, sflat_append, natsV_append, e1, sflat_one]
  exact ⟨b2, q1, p2⟩

set_option maxHeartbeats 4000000 in
theorem live_any {a1 a2 : Option Addr} {len cap1 len2 cap2 : Nat} {ss : List SI} {zs : List Int} {w : World} (h1 : Ri w a1 len ss) (h2 : Rd .i32 w a2 len2 zs) (hl : len ≤ 65536) (hl2 : len ≤ len2) (hl3 : len2 ≤ 65536) :
    Calls Try.prog 18 #[.slice a1 len cap1, .slice a2 len2 cap2] w fun e w' => ∃ lv av, e = .returned (.tuple #[lv, av]) ∧ LivI w ss zs w' len lv av := by
  obtain ⟨i41, hi41, hz410, hz411, hz412⟩ := info_parts Try.info41
  obtain ⟨i3, hi3, hz30, hz31, hz32⟩ := info_parts Try.info3
  go_enter Try.func18, Try.ntmps18
  go_wp2
  go_loopg [4, 5, 10] len (fun k lv av iv wr => ∃ n : Nat, n + k = len ∧ iv = .int .i64 n ∧ LivI w ss zs wr n lv av)
  case atStart => exact ⟨0, by omega, rfl, Below.refl _ _, World.ownsRow_nil _ _ _ _, World.ownsRow_nil _ _ _ _⟩
  case round =>
    obtain ⟨n, hnk, rfl, hI⟩ := hrel
    cases gk with
    | zero =>
      have e : n = len := by omega
      subst e
      have hlt : ¬ (n : Int) < n := by omega
      have HB : Hid (LivI w ss zs wr n u4 u5) := hI
      clear hI h1 h2
      go_wp2
      go_ret2
      exact ⟨u4, u5, rfl, HB.out⟩
    | succ k =>
      have hnl : n < len := by omega
      have hlt : (n : Int) < len := by omega
      have hlt2 : (n : Int) < len2 := by omega
      have hn0 : (0 : Int) ≤ n := by omega
      obtain ⟨t, ht⟩ : ∃ t, ss[n]? = some t := ⟨ss[n]'(by have := h1.1; omega), by simp⟩
      obtain ⟨z, hz⟩ : ∃ z, zs[n]? = some z := ⟨zs[n]'(by have := h2.1; omega), by simp⟩
      have hla := liveAt_of ht hz
      obtain ⟨b, off, e, hb, c0, c1, c2⟩ := h1.2 n t ht
      obtain ⟨b2, off2, e2, hb2, c3⟩ := h2.2 n z hz
      subst e e2
      replace c0 := (hI.1.cell (p := ⟨b, off + n * 3, none⟩) hb).trans c0
      replace c1 := (hI.1.cell (p := ⟨b, off + n * 3 + 1, none⟩) hb).trans c1
      replace c2 := (hI.1.cell (p := ⟨b, off + n * 3 + 2, none⟩) hb).trans c2
      replace c3 := (hI.1.cell (p := ⟨b2, off2 + n, none⟩) hb2).trans c3
      have hwr := hI.1.size
      have hbw : b ≠ wr.heap.size := by omega
      have hbw2 : b2 ≠ wr.heap.size := by omega
      have hbl : b < wr.heap.size := by omega
      have hbl2 : b2 < wr.heap.size := by omega
      clear h1 h2 hb hb2 hwr
      have HI : Hid (LivI w ss zs wr n u4 u5) := hI
      have HLA : Hid (liveAt ss zs n = liveB t.1 z) := hla
      have HT : Hid (ss[n]? = some t) := ht
      clear ht hz hla
      by_cases hz0 : 0 ≤ z
      · cases hq : (t.1 == 0 || t.1 == 1) with
        | false =>
          clear hI
          go_wp2_with fail
          refine (accesses_any t.1 _).mono ?_
          rintro e x1 ⟨rfl, rfl⟩
          rw [hq]
          go_wp2
          go_roundg k
          case measure => omega
          case rel => exact ⟨n + 1, by omega, by go_num, HI.out.skip (by rw [HLA.out]; simp only [liveB, hq, Bool.and_false]) _⟩
        | true =>
          obtain ⟨p4, cp4, e4, hc4, hm4⟩ := row_form hI.2.1
          obtain ⟨p5, cp5, e5, hc5, hm5⟩ := row_form hI.2.2
          subst e4 e5
          clear hI
          go_wp2_with fail
          refine (accesses_any t.1 _).mono ?_
          rintro e x1 ⟨rfl, rfl⟩
          rw [hq]
          have hle := lidx_le ss zs n
          have Hown1 : Hid (((wr.alloc (.cells #[.int .u8 t.1, .int .i64 t.2.1, .string t.2.2] 41)).alloc (.cells #[.int .u8 t.1, .int .i64 t.2.1, .string t.2.2] 41)).ownsRow w.heap.size 41 3 (.slice p4 (lidx ss zs n).length cp4) (lidx ss zs n).length (sflat (pickS ss (lidx ss zs n)))) := (HI.out.2.1.alloc _).alloc _
          have Hown2 : Hid (((wr.alloc (.cells #[.int .u8 t.1, .int .i64 t.2.1, .string t.2.2] 41)).alloc (.cells #[.int .u8 t.1, .int .i64 t.2.1, .string t.2.2] 41)).ownsRow w.heap.size 3 1 (.slice p5 (lidx ss zs n).length cp5) (lidx ss zs n).length (natsV (lidx ss zs n))) := (HI.out.2.2.alloc _).alloc _
          have hsz : Hid (w.heap.size ≤ wr.heap.size) := HI.out.1.size
          go_wp2_with (first
            | (at_builtin; refine wpList_append_lies _ rfl (.tmp 25) (.tmp 27) 30 rfl w.heap.size 41 i41 (.agg #[.int .u8 0, .int .i64 0, .string ByteArray.empty]) 3 32 Try.underlying30 hi41 hz410 hz411 hz412 rfl (by omega) (.slice p4 (lidx ss zs n).length cp4) (lidx ss zs n).length (sflat (pickS ss (lidx ss zs n))) rfl (by exact Hown1.out) ⟨wr.heap.size + 1, 0, none⟩ 1 1 [.int .u8 t.1, .int .i64 t.2.1, .string t.2.2] rfl rfl (by exact news3b wr _ t) (one3 t) (by omega) (by unfold maxLen; omega) (by omega) (by have := hsz.out; simp; omega) _ rfl ?_; intro g cap3 x1 hown hgrow hat hlt; have P1 : Hid (x1.ownsRow w.heap.size 41 3 (.slice (some ⟨g, 0, none⟩) ((lidx ss zs n).length + 1) cap3) ((lidx ss zs n).length + 1) (sflat (pickS ss (lidx ss zs n)) ++ [.int .u8 t.1, .int .i64 t.2.1, .string t.2.2]) ∧ ((wr.alloc (.cells #[.int .u8 t.1, .int .i64 t.2.1, .string t.2.2] 41)).alloc (.cells #[.int .u8 t.1, .int .i64 t.2.1, .string t.2.2] 41)).grownBy x1 (Value.slice p4 (lidx ss zs n).length cp4).ownBlock) := ⟨hown, hgrow⟩; have Hown3 : Hid ((x1.alloc (.cells #[.int .i64 n] 3)).ownsRow w.heap.size 3 1 (.slice p5 (lidx ss zs n).length cp5) (lidx ss zs n).length (natsV (lidx ss zs n))) := (own_other Hown2.out Hown1.out (by decide) hgrow).alloc _; have hsz1 : Hid (w.heap.size ≤ x1.heap.size) := by { have a := hgrow.size; have b := hsz.out; rw [sz_alloc, sz_alloc] at a; exact (by omega : w.heap.size ≤ x1.heap.size) }; clear hown hgrow hat hlt)
            | (at_builtin; refine wpList_append_lies _ rfl (.tmp 29) (.tmp 31) 32 rfl w.heap.size 3 i3 (.int .i64 0) 1 8 Try.underlying32 hi3 hz30 hz31 hz32 rfl (by omega) (.slice p5 (lidx ss zs n).length cp5) (lidx ss zs n).length (natsV (lidx ss zs n)) rfl (by exact Hown3.out) ⟨x1.heap.size, 0, none⟩ 1 1 [.int .i64 n] rfl rfl (by exact news1 x1 n) (by intro u hu; simp at hu; subst hu; rfl) (by omega) (by unfold maxLen; omega) (by omega) (by have := hsz1.out; simp; omega) _ rfl ?_; intro g2 cap4 x2 hown2 hgrow2 hat2 hlt2'; have P2 : Hid (x2.ownsRow w.heap.size 3 1 (.slice (some ⟨g2, 0, none⟩) ((lidx ss zs n).length + 1) cap4) ((lidx ss zs n).length + 1) (natsV (lidx ss zs n) ++ [.int .i64 n]) ∧ (x1.alloc (.cells #[.int .i64 n] 3)).grownBy x2 (Value.slice p5 (lidx ss zs n).length cp5).ownBlock) := ⟨hown2, hgrow2⟩; clear hown2 hgrow2 hat2 hlt2'))
          go_roundg k
          case measure => omega
          case rel => exact ⟨n + 1, by omega, by go_num, HI.out.push (by rw [HLA.out]; simp only [liveB, hq, Bool.and_true]; exact decide_eq_true hz0) HT.out _ _ _ P1.out.2 P1.out.1 P2.out.2 P2.out.1⟩
      · clear hI
        go_wp2
        go_roundg k
        case measure => omega
        case rel => exact ⟨n + 1, by omega, by go_num, HI.out.skip (by rw [HLA.out]; simp only [liveB, decide_eq_false (show ¬ 0 ≤ z by omega), Bool.false_and]) _⟩

end Go.Proofs.Qxb6604582a
