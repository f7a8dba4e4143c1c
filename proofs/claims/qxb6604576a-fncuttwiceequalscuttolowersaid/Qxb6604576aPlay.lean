/-
  push and cut as the laws call them; a number and its neighbour.
-/
import Derived.Test.Qxb6604576aCut
namespace Go.Proofs.Qxb6604576a
open Go.RowKit
set_option linter.unusedVariables false
set_option linter.unusedSimpArgs false

theorem ofInt_wrap64 (n : Int) : BitVec.ofInt 64 (IntKind.i64.wrap n) = BitVec.ofInt 64 n := by
  apply BitVec.eq_of_toNat_eq
  simp only [BitVec.toNat_ofInt]
  congr 1
  unfold IntKind.wrap
  simp only [IntKind.bits, IntKind.signed, Bool.true_and]
  split <;> omega
theorem ofInt_toNat64 (r : BitVec 64) : BitVec.ofInt 64 (r.toNat : Int) = r := by
  rw [BitVec.ofInt_natCast, BitVec.ofNat_toNat, BitVec.setWidth_eq]
theorem xor_one_ne (z : Int) : bits .xor .i64 z 1 ≠ z := by
  intro h
  have h2 : BitVec.ofInt 64 (bits .xor .i64 z 1) = BitVec.ofInt 64 z := by rw [h]
  have h3 : bits .xor .i64 z 1 = IntKind.i64.wrap ((BitVec.ofInt 64 z ^^^ BitVec.ofInt 64 1).toNat : Int) := rfl
  rw [h3, ofInt_wrap64, ofInt_toNat64] at h2
  have h5 : BitVec.ofInt 64 z ^^^ (BitVec.ofInt 64 z ^^^ BitVec.ofInt 64 1) = BitVec.ofInt 64 z ^^^ BitVec.ofInt 64 z := by rw [h2]
  rw [← BitVec.xor_assoc, BitVec.xor_self, BitVec.zero_xor] at h5
  exact absurd h5 (by decide)

theorem Scan.same {w x : World} {F : Nat → Prop} {s : Nat} {stk fre : List Fr} {fv : Value} (h : Scan x F s stk fre fv) (e : Same w x) : Scan w F s stk fre fv :=
  h.moved (fun k _ => by rw [e.heap]) (fun _ hk => hk) (fun k hk => by rw [e.heap]; exact h.lt k hk)
theorem grow_same {F : Nat → Prop} {v w x : World} (e : Same w x) : grow F v w = grow F v x := by
  unfold grow; rw [e.heap]

/-- Which block a push takes. -/
def Taken (w : World) (fre : List Fr) (nb : Nat) : Prop := (fre = [] ∧ w.heap.size ≤ nb) ∨ ∃ f, fre.getLast? = some f ∧ nb = f.b

/-- ZZpush. -/
theorem zpush_any {w : World} {F : Nat → Prop} {s : Nat} {stk fre : List Fr} {fv : Value} (h : Scan w F s stk fre fv) (kind col : Int) :
    Calls Try.prog 32 #[.pointer (some ⟨s, 0, none⟩), .int .i64 kind, .int .i64 col] w fun e w' => e = .returned (.tuple #[]) ∧
      ∃ nb fv', Ext F w w' ∧ Scan w' (grow F w w') s (⟨nb, kind, col, false⟩ :: stk) fre.dropLast fv' ∧ Taken w fre nb := by
  rcases List.eq_nil_or_concat fre with e | ⟨init, f, e⟩
  · subst e
    refine (zpush_new h kind col).mono ?_
    rintro e w' ⟨rfl, hs⟩
    refine ⟨rfl, w.heap.size + 1, fv, (pushNew_ext h.Fs kind col _ h.scb).same hs, ?_, .inl ⟨rfl, by omega⟩⟩
    rw [grow_same hs]
    exact (scan_pushNew h kind col).same hs
  · rw [List.concat_eq_append] at e
    subst e
    obtain ⟨g, cap, hfv, _, hglt⟩ := h.row.form (by simp)
    subst hfv
    have hfv2 := h.form
    obtain ⟨a, cap', hfe, hlc, hcm⟩ := hfv2
    simp only [Value.slice.injEq, List.length_append, List.length_cons, List.length_nil, Nat.zero_add] at hfe
    obtain ⟨_, _, rfl⟩ := hfe
    obtain ⟨up, hfu⟩ := h.frees f (by simp)
    obtain ⟨cur, hcur⟩ := row_block h.row
    have hsb := sc_ne_fr h.scb hfu
    have hsg := sc_ne_row h.scb hcur
    have hbg := fr_ne_row hfu hcur
    have h7 := sc7 h.scb
    have h8 := sc8 h.scb
    have hgn : w.cell? ⟨g, init.length, none⟩ = some (.pointer (some ⟨f.b, 0, none⟩)) := row_cell h.row (by simp [ptrB])
    have hcap : cap ≤ 9223372036854775807 := by unfold maxLen at hcm; omega
    have hlen : init.length + 1 ≤ cap := by simpa using hlc
    rw [List.length_append, List.length_singleton] at h8
    have hp := push_old s f.b g init.length cap kind col (topA stk) w (lt_of_block h.scb) (lt_of_block hfu) (lt_of_block hcur) hlen hcap hsg hsb hbg h7 (scf h.scb 7) h8 (scf h.scb 8) hgn _ _ _ _ _ _
      (fr0 hfu) (fr1 hfu) (fr2 hfu) (fr3 hfu) (fr4 hfu) (fr5 hfu) (frf hfu 0) (frf hfu 1) (frf hfu 2) (frf hfu 3) (frf hfu 4) (frf hfu 5)
    have HS : Hid _ := h
    have Fb : Hid (F f.b) := h.Ffr f (by simp)
    have main : Calls Try.prog 32 #[.pointer (some ⟨s, 0, none⟩), .int .i64 kind, .int .i64 col] w fun e w' => e = .returned (.tuple #[]) ∧ Same w' (pushOldW w s f.b g init.length cap kind col (topA stk)) := by
      clear HS Fb h7 h8 hgn hcap hlen hcm hlc hsb hsg hbg hcur hfu h
      go_enter Try.func32, Try.ntmps32
      go_wp2_with (go_at_call 37; refine hp.mono ?_; rintro e w' ⟨rfl, hw⟩)
      go_end0
      exact ⟨rfl, hw⟩
    refine main.mono ?_
    rintro e w' ⟨rfl, hs⟩
    refine ⟨rfl, f.b, .slice (some ⟨g, 0, none⟩) init.length cap, (pushOld_ext h.Fs Fb.out g init.length cap kind col _ h.scb hfu).same hs, ?_, .inr ⟨f, by simp, rfl⟩⟩
    rw [grow_same hs, List.dropLast_concat]
    exact (scan_pushOld h (by simp) kind col).same hs

/-- ZZcut. -/
theorem zcut_any {w : World} {F : Nat → Prop} {s : Nat} {stk fre : List Fr} {fv : Value} (h : Scan w F s stk fre fv) (j : Nat) (hj : j ≤ stk.length) (hN : stk.length + fre.length ≤ 5000) (t : Option Addr) (Ht : Hid (t = topA (stk.drop j))) :
    Calls Try.prog 33 #[.pointer (some ⟨s, 0, none⟩), .pointer t] w fun e w' => e = .returned (.tuple #[]) ∧ ∃ fv', Ext F w w' ∧ Scan w' (grow F w w') s (stk.drop j) (fre ++ cutL stk j) fv' := by
  have hp := cut_any s w F stk fre fv h j hj hN t Ht
  clear h
  go_enter Try.func33, Try.ntmps33
  go_wp2_with (go_at_call 38; refine hp.mono ?_; rintro e w' ⟨rfl, hw⟩)
  go_end0
  exact ⟨rfl, hw⟩

end Go.Proofs.Qxb6604576a
