/-
  FnCutTwiceEqualsCutToLower: the walk.
-/
import Derived.Test.Qxb6604576aTwo
namespace Go.Proofs.Qxb6604576a
open Go.RowKit
set_option linter.unusedVariables false
set_option linter.unusedSimpArgs false

set_option maxRecDepth 100000 in
set_option maxHeartbeats 8000000 in
theorem twice_small (a0 : Option Addr) (len0 cap0 : Nat) (ss : List St) (k1 k2 : Int) (w : World) (h0 : IsSteps w a0 len0 cap0 ss) (hl : len0 ≤ 4096) :
    Calls Try.prog 6 #[.slice a0 len0 cap0, .int .i64 k1, .int .i64 k2] w fun e w' => e = .returned (.bool true) ∧ Below w.heap.size w w' := by
  have l1 : decide ((4096 : Int) < (len0 : Int)) = false := by simp; omega
  have l2 : decide ((1048576 : Int) < 32 * (len0 : Int)) = false := by simp; omega
  have hcl := sclone_any h0 (by omega)
  have hby := bytes24_yes a0 len0 cap0 k1 k2 w (by omega)
  have hbk : Hid ((∀ (i : Nat) (t : St), ss[i]? = some t → t.2.2.1 ≤ 9223372036854775807) ∧ ss.length = len0) := ⟨fun i t ht => h0.back ht, h0.len⟩
  clear h0
  go_enter Try.func6, Try.ntmps6
  go_wp2_with fail
  refine hby.mono ?_
  rintro e wb ⟨rfl, rfl⟩
  clear hby
  go_wp2_with fail
  refine hcl.mono ?_
  rintro e wc ⟨A, cp, rfl, hbel, hown⟩
  clear hcl
  have hhd := head2_new hbel hown hbk.out.1 hbk.out.2
  have htw := two_new wc
  clear hbk hbel hown
  go_wp2_with fail
  refine (new_any _).mono ?_
  rintro e ws ⟨rfl, rfl⟩
  go_wp2_with fail
  refine (new_any _).mono ?_
  rintro e ws ⟨rfl, rfl⟩
  go_wp2_with fail
  clear l1 l2
  obtain ⟨s, hs⟩ : ∃ s, s = wc.heap.size := ⟨_, rfl⟩
  obtain ⟨w3, hw3⟩ : ∃ w3, w3 = (((wc.alloc (scObj none (.slice none 0 0))).alloc (moObj (.slice none 0 0) (.slice none 0 0) (.slice none 0 0))).alloc (scObj none (.slice none 0 0))).alloc (moObj (.slice none 0 0) (.slice none 0 0) (.slice none 0 0)) := ⟨_, rfl⟩
  rw [← hs, ← hw3] at hhd htw
  have HH : Hid (Head w w3 s A len0 cp ss ∧ Two w3 (four4 s) s (s + 1) (s + 2) (s + 3) w3 [] [] [] [] [] []) := ⟨hhd, htw⟩
  clear hhd htw
  unfold moObj at hw3
  rw [← hs, ← hw3]
  clear hs hw3
  go_loopg [11] len0 (fun k i wr => ∃ (n : Nat) (p1 q1 p2 q2 : List Fr) (e1 e2 : List Nat), n + k = len0 ∧ i = .int .i64 n ∧ Two w3 (four4 s) s (s + 1) (s + 2) (s + 3) wr p1 q1 p2 q2 e1 e2 ∧ Sim p1 p2 ∧ Sim q1 q2 ∧ p1.length + q1.length ≤ n ∧ p2.length + q2.length ≤ n ∧ e1.length ≤ n ∧ e2.length ≤ n)
  case atStart => exact ⟨0, [], [], [], [], [], [], by omega, rfl, HH.out.2, rfl, rfl, by simp, by simp, by simp, by simp⟩
  case round =>
    obtain ⟨n, p1, q1, p2, q2, e1, e2, hnk, rfl, T, hs1, hs2, b1, b2, b3, b4⟩ := hrel
    cases gk with
    | zero =>
      have hlt : ¬ (n : Int) < len0 := by omega
      obtain ⟨G1, G2, S1, S2, hd, h1, h2⟩ := T.ex
      obtain ⟨a1, cap1, c0⟩ := S1.stackCell
      obtain ⟨a2, cap2, d0⟩ := S2.stackCell
      rw [← hs1.len] at d0
      have HT : Hid (Two w3 (four4 s) s (s + 1) (s + 2) (s + 3) wr p1 q1 p2 q2 e1 e2 ∧ Sim p1 p2 ∧ Sim q1 q2) := ⟨T, hs1, hs2⟩
      have hln : p2.length = p1.length := hs1.len.symm
      have HL : Hid (p2.length = p1.length) := hln
      clear T S1 S2 hd h1 h2 hs1 hs2
      obtain ⟨L, hL⟩ : ∃ L, L = p1.length := ⟨_, rfl⟩
      rw [← hL] at c0 d0 b1 HL
      have b2' : Hid (p2.length + q2.length ≤ 4096) := by show _ ≤ _; omega
      have b1' : Hid (L + q1.length ≤ 4096) := by show _ ≤ _; omega
      have HLL : Hid (L = p1.length) := hL
      have hLb : L ≤ 4096 := by omega
      clear hL hln b1 b2
      go_wp2_with fail
      refine (clamp_any k1 L _).mono ?_
      rintro e w6 ⟨rfl, rfl⟩
      go_wp2_with fail
      refine (clamp_any k2 L _).mono ?_
      rintro e w6 ⟨rfl, rfl⟩
      have hA := clampN_le k1 L
      have hB := clampN_le k2 L
      generalize clampN k1 L = x at *
      generalize clampN k2 L = y at *
      clear c0 d0
      -- which is the lower
      obtain ⟨hi, lo, hhl, hhi, hcase⟩ : ∃ hi lo : Nat, lo ≤ hi ∧ hi ≤ L ∧ ((hi = x ∧ lo = y) ∨ (hi = y ∧ lo = x ∧ x < y)) := by
        by_cases hxy : x < y
        · exact ⟨y, x, by omega, hB, .inr ⟨rfl, rfl, hxy⟩⟩
        · exact ⟨x, y, by omega, hA, .inl ⟨rfl, rfl⟩⟩
      rcases hcase with ⟨rfl, rfl⟩ | ⟨rfl, rfl, hlt2⟩
      · have hng : ¬ (hi : Int) < lo := by omega
        clear hA hB
        have hcut := HT.out.1
        obtain ⟨G1, G2, S1, S2, hd, h1, h2⟩ := hcut.ex
        have hc1 := doCut_any S1 hi (by rw [← HLL.out]; exact hhi) (by rw [← HLL.out]; have := b1'.out; omega)
        rw [← HLL.out] at hc1
        have HC : Hid (Ext (four4 s) w3 wr ∧ Sys wr G2 (s + 2) (s + 3) p2 q2 e2 ∧ (∀ k, G1 k → ¬ G2 k) ∧ (∀ k, G1 k → grow (four4 s) w3 wr k) ∧ (∀ k, G2 k → grow (four4 s) w3 wr k)) := ⟨hcut.ext, S2, hd, h1, h2⟩
        clear hcut S1 S2 hd h1 h2
        go_wp2_with fail
        refine hc1.mono ?_
        rintro e v1 ⟨rfl, he, hS⟩
        clear hc1
        have T1 : Two w3 (four4 s) s (s + 1) (s + 2) (s + 3) v1 (p1.drop (L - hi)) (q1 ++ cutL p1 (L - hi)) p2 q2 e1 e2 :=
          two_one (k1 := p1) (f1 := q1) (e1 := e1) HC.out.1 HC.out.2.1 HC.out.2.2.1 HC.out.2.2.2.1 HC.out.2.2.2.2 he hS
        clear he hS HC
        obtain ⟨G1, G2, S1, S2, hd, h1, h2⟩ := T1.ex
        have hdl : (p1.drop (L - hi)).length = hi := by rw [List.length_drop, ← HLL.out]; omega
        have hc2 := doCut_any S1 lo (by rw [hdl]; exact hhl) (by have := cut_few (j := L - hi) (show p1.length + q1.length ≤ 4096 from by rw [← HLL.out]; exact b1'.out); omega)
        rw [hdl, List.drop_drop, List.append_assoc, ← cutL_add, show L - hi + (hi - lo) = L - lo from by omega] at hc2
        have HC : Hid (Ext (four4 s) w3 v1 ∧ Sys v1 G2 (s + 2) (s + 3) p2 q2 e2 ∧ (∀ k, G1 k → ¬ G2 k) ∧ (∀ k, G1 k → grow (four4 s) w3 v1 k) ∧ (∀ k, G2 k → grow (four4 s) w3 v1 k)) := ⟨T1.ext, S2, hd, h1, h2⟩
        clear T1 S1 S2 hd h1 h2 hdl
        go_wp2_with fail
        refine hc2.mono ?_
        rintro e v2 ⟨rfl, he, hS⟩
        clear hc2
        have HT2 : Hid (Two w3 (four4 s) s (s + 1) (s + 2) (s + 3) v2 (p1.drop (L - lo)) (q1 ++ cutL p1 (L - lo)) p2 q2 e1 e2) :=
          two_one (k1 := p1) (f1 := q1) (e1 := e1) HC.out.1 HC.out.2.1 HC.out.2.2.1 HC.out.2.2.2.1 HC.out.2.2.2.2 he hS
        clear he hS HC
        have hsm : Calls Try.prog 12 #[.pointer (some ⟨s, 0, none⟩), .pointer (some ⟨s + 1, 0, none⟩)] v2 fun e w' => e = .returned (.bool true) ∧ Below v2.heap.size v2 w' := by
          obtain ⟨G1, G2, S1, S2, hd, h1, h2⟩ := HT2.out.ex
          exact same_any S1 (by have := cut_few (j := L - lo) (show p1.length + q1.length ≤ 4096 from by rw [← HLL.out]; exact b1'.out); omega)
        go_wp2_with fail
        refine hsm.mono ?_
        rintro e v3 ⟨rfl, hb3⟩
        clear hsm
        have T3 := HT2.out.below hb3
        clear hb3 HT2
        obtain ⟨G1, G2, S1, S2, hd, h1, h2⟩ := T3.ex
        have hc3 := doCut_any S2 lo (by rw [HL.out]; omega) (by have := b2'.out; omega)
        rw [HL.out] at hc3
        have HC : Hid (Ext (four4 s) w3 v3 ∧ Sys v3 G1 s (s + 1) (p1.drop (L - lo)) (q1 ++ cutL p1 (L - lo)) e1 ∧ (∀ k, G1 k → ¬ G2 k) ∧ (∀ k, G1 k → grow (four4 s) w3 v3 k) ∧ (∀ k, G2 k → grow (four4 s) w3 v3 k)) := ⟨T3.ext, S1, hd, h1, h2⟩
        clear T3 S1 S2 hd h1 h2
        go_wp2_with fail
        refine hc3.mono ?_
        rintro e v4 ⟨rfl, he, hS⟩
        clear hc3
        have HT4 : Hid (Two w3 (four4 s) s (s + 1) (s + 2) (s + 3) v4 (p1.drop (L - lo)) (q1 ++ cutL p1 (L - lo)) (p2.drop (L - lo)) (q2 ++ cutL p2 (L - lo)) e1 e2) :=
          two_two (k2 := p2) (f2 := q2) (e2 := e2) HC.out.1 HC.out.2.1 HC.out.2.2.1 HC.out.2.2.2.1 HC.out.2.2.2.2 he hS
        clear he hS HC
        have hsm : Calls Try.prog 12 #[.pointer (some ⟨s + 2, 0, none⟩), .pointer (some ⟨s + 3, 0, none⟩)] v4 fun e w' => e = .returned (.bool true) ∧ Below v4.heap.size v4 w' := by
          obtain ⟨G1, G2, S1, S2, hd, h1, h2⟩ := HT4.out.ex
          exact same_any S2 (by have := cut_few (j := L - lo) b2'.out; omega)
        go_wp2_with fail
        refine hsm.mono ?_
        rintro e v5 ⟨rfl, hb5⟩
        clear hsm
        have T5 := HT4.out.below hb5
        clear hb5 HT4
        -- both paths, both free lists
        have hS1 : Sim (p1.drop (L - lo)) (p2.drop (L - lo)) := HT.out.2.1.drop _
        have hS2 : Sim (q1 ++ cutL p1 (L - lo)) (q2 ++ cutL p2 (L - lo)) := HT.out.2.2.append (HT.out.2.1.cut _)
        have hl1 : (p1.drop (L - lo)).length = lo := by rw [List.length_drop, ← HLL.out]; omega
        have hl2 : (p2.drop (L - lo)).length = lo := by rw [← hS1.len, hl1]
        have hfb : (q1 ++ cutL p1 (L - lo)).length ≤ 4096 := by have := cut_few (j := L - lo) (show p1.length + q1.length ≤ 4096 from by rw [← HLL.out]; exact b1'.out); omega
        have hfl := hS2.len
        have hlo : lo ≤ 4096 := by omega
        clear HL HLL b1' b2' hnk b3 b4 hlt hng hhl hhi hLb
        generalize p1.drop (L - lo) = P1 at *
        generalize p2.drop (L - lo) = P2 at *
        generalize q1 ++ cutL p1 (L - lo) = Q1 at *
        generalize q2 ++ cutL p2 (L - lo) = Q2 at *
        obtain ⟨G1, G2, S1, S2, hd, h1, h2⟩ := T5.ex
        obtain ⟨a1, cap1, c0⟩ := S1.stackCell
        obtain ⟨a2, cap2, d0⟩ := S2.stackCell
        rw [hl1] at c0
        rw [hl2] at d0
        have I1 := sys_path S1
        have I2 := sys_path S2
        have HT5 : Hid (Two w3 (four4 s) s (s + 1) (s + 2) (s + 3) v5 P1 Q1 P2 Q2 e1 e2 ∧ Sys v5 G1 s (s + 1) P1 Q1 e1 ∧ Sys v5 G2 (s + 2) (s + 3) P2 Q2 e2 ∧ Sim P1 P2 ∧ Sim Q1 Q2 ∧ P1.length = lo ∧ P2.length = lo ∧ Q1.length = Q2.length) := ⟨T5, S1, S2, hS1, hS2, hl1, hl2, hfl⟩
        clear T5 S1 S2 hd h1 h2 hS1 hS2 hl1 hl2 hfl HT
        go_wp2_with fail
        refine I1.mono ?_
        rintro e w6 ⟨rfl, rfl⟩
        clear I1 c0 d0
        go_wp2_with fail
        refine I2.mono ?_
        rintro e w6 ⟨rfl, rfl⟩
        clear I2
        go_wp2_with fail
        go_loopg [13, 14, 15] lo (fun k f1 f2 j wr => ∃ i : Nat, i + k = lo ∧ f1 = .pointer (topA (P1.drop i)) ∧ f2 = .pointer (topA (P2.drop i)) ∧ j = .int .i64 i ∧ wr = v5)
        case atStart => exact ⟨0, by omega, rfl, rfl, rfl, rfl⟩
        case round =>
          obtain ⟨i, hik, rfl, rfl, rfl, rfl⟩ := hrel
          cases gk with
          | zero =>
            have hlt : ¬ (i : Int) < lo := by omega
            have t1 : topA (P1.drop i) = none := by rw [List.drop_of_length_le (by have := HT5.out.2.2.2.2.2.1; omega)]; rfl
            have t2 : topA (P2.drop i) = none := by rw [List.drop_of_length_le (by have := HT5.out.2.2.2.2.2.2.1; omega)]; rfl
            rw [t1, t2]
            clear t1 t2
            obtain ⟨N, hN⟩ : ∃ N, N = Q1.length := ⟨_, rfl⟩
            have I1 : Hid (∀ q, Calls Try.prog 19 #[.pointer (some ⟨s, 0, none⟩)] (wr.drewN q) fun e w' => e = .returned (.int .i64 N) ∧ wr.drewN q = w') := fun q => by
              have := sys_freeLen (HT5.out.2.1.same (drewN_same wr q)); rwa [← hN] at this
            have I2 : Hid (∀ q, Calls Try.prog 19 #[.pointer (some ⟨s + 2, 0, none⟩)] (wr.drewN q) fun e w' => e = .returned (.int .i64 N) ∧ wr.drewN q = w') := fun q => by
              have := sys_freeLen (HT5.out.2.2.1.same (drewN_same wr q)); rwa [← HT5.out.2.2.2.2.2.2.2, ← hN] at this
            obtain ⟨a3, cap3, c1⟩ := HT5.out.2.1.freeCell
            rw [← hN] at c1 hfb
            have HN : Hid (N = Q1.length) := hN
            clear hN
            go_wp2_with fail
            go_quiet (first | (go_at_call_of 19 (some (⟨s, 0, none⟩ : Addr)); exact qsame (I1.out _)) | (go_at_call 19; exact qsame (I2.out _)))
            go_wp2_with fail
            obtain ⟨v6, hv6⟩ : ∃ v6, v6 = wr.drewN nq := ⟨_, rfl⟩
            have hs6 : Same v6 wr := by rw [hv6]; exact ⟨rfl, rfl, rfl, rfl⟩
            have HS6 : Hid (Sys v6 G1 s (s + 1) P1 Q1 e1 ∧ Sys v6 G2 (s + 2) (s + 3) P2 Q2 e2 ∧ Ext (four4 s) w3 v6 ∧ Sim Q1 Q2) := ⟨HT5.out.2.1.same hs6, HT5.out.2.2.1.same hs6, HT5.out.1.ext.same hs6, HT5.out.2.2.2.2.1⟩
            rw [← hv6]
            clear hv6 hs6 I1 I2 c1
            go_loopg [16] N (fun k j wz => ∃ n : Nat, n + k = N ∧ j = .int .i64 n ∧ wz = v6)
            case atStart => exact ⟨0, by omega, rfl, rfl⟩
            case round =>
              obtain ⟨n, hnk, rfl, rfl⟩ := hrel
              obtain ⟨a3, cap3, c1⟩ := HS6.out.1.freeCell
              rw [← HN.out] at c1
              cases gk with
              | zero =>
                have hlt : ¬ (n : Int) < N := by omega
                have HB : Hid (Below w.heap.size w wr) := HH.out.1.out HS6.out.2.2.1 (four4_ge s)
                go_wp2_with fail
                go_ret
                exact ⟨rfl, HB.out⟩
              | succ k =>
                have hnl : n < N := by omega
                have hlt : (n : Int) < N := by omega
                obtain ⟨f, hf⟩ : ∃ f, Q1[n]? = some f := ⟨Q1[n]'(by rw [← HN.out]; exact hnl), by simp⟩
                obtain ⟨g, hg⟩ : ∃ g, Q2[n]? = some g := ⟨Q2[n]'(by rw [← HS6.out.2.2.2.len, ← HN.out]; exact hnl), by simp⟩
                have hsg := HS6.out.2.2.2.get hf hg
                obtain ⟨u1, hu1⟩ := HS6.out.1.frees (List.mem_of_getElem? hf)
                obtain ⟨u2, hu2⟩ := HS6.out.2.1.frees (List.mem_of_getElem? hg)
                rw [← hsg.1, ← hsg.2.1, ← hsg.2.2] at hu2
                have A1 := sys_freeAt HS6.out.1 hf
                have A2 := sys_freeAt HS6.out.2.1 hg
                obtain ⟨x1, hx1⟩ : ∃ x, x = f.b := ⟨_, rfl⟩
                obtain ⟨x2, hx2⟩ : ∃ x, x = g.b := ⟨_, rfl⟩
                rw [← hx1] at hu1 A1
                rw [← hx2] at hu2 A2
                have K1 := frameKind_any x1 _ _ (fr0 hu1)
                have K2 := frameKind_any x2 _ _ (fr0 hu2)
                have C1 := frameCol_any x1 _ _ (fr2 hu1)
                have C2 := frameCol_any x2 _ _ (fr2 hu2)
                have P1' := frameKept_any x1 _ _ (fr5 hu1)
                have P2' := frameKept_any x2 _ _ (fr5 hu2)
                clear hsg hu1 hu2 hf hg hx1 hx2
                generalize f.kind = kd at *
                generalize f.col = cl at *
                generalize f.kept = kp at *
                go_wp2_with fail
                refine A1.mono ?_
                rintro e w6 ⟨rfl, rfl⟩
                go_wp2_with fail
                refine A2.mono ?_
                rintro e w6 ⟨rfl, rfl⟩
                go_wp2_with fail
                refine K1.mono ?_
                rintro e w6 ⟨rfl, rfl⟩
                go_wp2_with fail
                refine K2.mono ?_
                rintro e w6 ⟨rfl, rfl⟩
                go_wp2_with fail
                refine C1.mono ?_
                rintro e w6 ⟨rfl, rfl⟩
                go_wp2_with fail
                refine C2.mono ?_
                rintro e w6 ⟨rfl, rfl⟩
                go_wp2_with fail
                refine P1'.mono ?_
                rintro e w6 ⟨rfl, rfl⟩
                go_wp2_with fail
                refine P2'.mono ?_
                rintro e w6 ⟨rfl, rfl⟩
                clear K1 K2 C1 C2 P1' P2' A1 A2 c1
                go_wp2_with fail
                go_roundg k
                case measure => omega
                case rel => exact ⟨n + 1, by omega, by go_num, rfl⟩
          | succ k =>
            have hil : i < lo := by omega
            have hlt : (i : Int) < lo := by omega
            obtain ⟨f, hdr, hf⟩ := drop_cons (stk := P1) (i := i) (by rw [HT5.out.2.2.2.2.2.1]; exact hil)
            obtain ⟨g, hdr2, hg⟩ := drop_cons (stk := P2) (i := i) (by rw [HT5.out.2.2.2.2.2.2.1]; exact hil)
            have hsg := HT5.out.2.2.2.1.get hf hg
            have hu1 := HT5.out.2.1.linked.drop i
            have hu2 := HT5.out.2.2.1.linked.drop i
            rw [hdr] at hu1
            rw [hdr2] at hu2
            have hu1 := hu1.1
            have hu2 := hu2.1
            rw [← hsg.1, ← hsg.2.1, ← hsg.2.2] at hu2
            rw [hdr, hdr2, topA_cons, topA_cons]
            obtain ⟨x1, hx1⟩ : ∃ x, x = f.b := ⟨_, rfl⟩
            obtain ⟨x2, hx2⟩ : ∃ x, x = g.b := ⟨_, rfl⟩
            obtain ⟨y1, hy1⟩ : ∃ y, y = topA (P1.drop (i + 1)) := ⟨_, rfl⟩
            obtain ⟨y2, hy2⟩ : ∃ y, y = topA (P2.drop (i + 1)) := ⟨_, rfl⟩
            rw [← hx1, ← hy1] at hu1
            rw [← hx2, ← hy2] at hu2
            have K1 := frameKind_any x1 _ _ (fr0 hu1)
            have K2 := frameKind_any x2 _ _ (fr0 hu2)
            have C1 := frameCol_any x1 _ _ (fr2 hu1)
            have C2 := frameCol_any x2 _ _ (fr2 hu2)
            have P1' := frameKept_any x1 _ _ (fr5 hu1)
            have P2' := frameKept_any x2 _ _ (fr5 hu2)
            have U1 := frameUp_any x1 _ _ (fr3 hu1)
            have U2 := frameUp_any x2 _ _ (fr3 hu2)
            have HY : Hid (y1 = topA (P1.drop (i + 1)) ∧ y2 = topA (P2.drop (i + 1))) := ⟨hy1, hy2⟩
            rw [← hx1, ← hx2]
            clear hsg hu1 hu2 hf hg hx1 hx2 hdr hdr2 hy1 hy2
            generalize f.kind = kd at *
            generalize f.col = cl at *
            generalize f.kept = kp at *
            go_wp2_with fail
            refine K1.mono ?_
            rintro e w6 ⟨rfl, rfl⟩
            go_wp2_with fail
            refine K2.mono ?_
            rintro e w6 ⟨rfl, rfl⟩
            go_wp2_with fail
            refine C1.mono ?_
            rintro e w6 ⟨rfl, rfl⟩
            go_wp2_with fail
            refine C2.mono ?_
            rintro e w6 ⟨rfl, rfl⟩
            go_wp2_with fail
            refine P1'.mono ?_
            rintro e w6 ⟨rfl, rfl⟩
            go_wp2_with fail
            refine P2'.mono ?_
            rintro e w6 ⟨rfl, rfl⟩
            go_wp2_with fail
            refine U1.mono ?_
            rintro e w6 ⟨rfl, rfl⟩
            go_wp2_with fail
            refine U2.mono ?_
            rintro e w6 ⟨rfl, rfl⟩
            clear K1 K2 C1 C2 P1' P2' U1 U2
            go_wp2_with fail
            go_roundg k
            case measure => omega
            case rel => exact ⟨i + 1, by omega, by rw [HY.out.1], by rw [HY.out.2], by go_num, rfl⟩
      · have hng : (lo : Int) < hi := by omega
        clear hA hB hlt2
        have hcut := HT.out.1
        obtain ⟨G1, G2, S1, S2, hd, h1, h2⟩ := hcut.ex
        have hc1 := doCut_any S1 hi (by rw [← HLL.out]; exact hhi) (by rw [← HLL.out]; have := b1'.out; omega)
        rw [← HLL.out] at hc1
        have HC : Hid (Ext (four4 s) w3 wr ∧ Sys wr G2 (s + 2) (s + 3) p2 q2 e2 ∧ (∀ k, G1 k → ¬ G2 k) ∧ (∀ k, G1 k → grow (four4 s) w3 wr k) ∧ (∀ k, G2 k → grow (four4 s) w3 wr k)) := ⟨hcut.ext, S2, hd, h1, h2⟩
        clear hcut S1 S2 hd h1 h2
        go_wp2_with fail
        refine hc1.mono ?_
        rintro e v1 ⟨rfl, he, hS⟩
        clear hc1
        have T1 : Two w3 (four4 s) s (s + 1) (s + 2) (s + 3) v1 (p1.drop (L - hi)) (q1 ++ cutL p1 (L - hi)) p2 q2 e1 e2 :=
          two_one (k1 := p1) (f1 := q1) (e1 := e1) HC.out.1 HC.out.2.1 HC.out.2.2.1 HC.out.2.2.2.1 HC.out.2.2.2.2 he hS
        clear he hS HC
        obtain ⟨G1, G2, S1, S2, hd, h1, h2⟩ := T1.ex
        have hdl : (p1.drop (L - hi)).length = hi := by rw [List.length_drop, ← HLL.out]; omega
        have hc2 := doCut_any S1 lo (by rw [hdl]; exact hhl) (by have := cut_few (j := L - hi) (show p1.length + q1.length ≤ 4096 from by rw [← HLL.out]; exact b1'.out); omega)
        rw [hdl, List.drop_drop, List.append_assoc, ← cutL_add, show L - hi + (hi - lo) = L - lo from by omega] at hc2
        have HC : Hid (Ext (four4 s) w3 v1 ∧ Sys v1 G2 (s + 2) (s + 3) p2 q2 e2 ∧ (∀ k, G1 k → ¬ G2 k) ∧ (∀ k, G1 k → grow (four4 s) w3 v1 k) ∧ (∀ k, G2 k → grow (four4 s) w3 v1 k)) := ⟨T1.ext, S2, hd, h1, h2⟩
        clear T1 S1 S2 hd h1 h2 hdl
        go_wp2_with fail
        refine hc2.mono ?_
        rintro e v2 ⟨rfl, he, hS⟩
        clear hc2
        have HT2 : Hid (Two w3 (four4 s) s (s + 1) (s + 2) (s + 3) v2 (p1.drop (L - lo)) (q1 ++ cutL p1 (L - lo)) p2 q2 e1 e2) :=
          two_one (k1 := p1) (f1 := q1) (e1 := e1) HC.out.1 HC.out.2.1 HC.out.2.2.1 HC.out.2.2.2.1 HC.out.2.2.2.2 he hS
        clear he hS HC
        have hsm : Calls Try.prog 12 #[.pointer (some ⟨s, 0, none⟩), .pointer (some ⟨s + 1, 0, none⟩)] v2 fun e w' => e = .returned (.bool true) ∧ Below v2.heap.size v2 w' := by
          obtain ⟨G1, G2, S1, S2, hd, h1, h2⟩ := HT2.out.ex
          exact same_any S1 (by have := cut_few (j := L - lo) (show p1.length + q1.length ≤ 4096 from by rw [← HLL.out]; exact b1'.out); omega)
        go_wp2_with fail
        refine hsm.mono ?_
        rintro e v3 ⟨rfl, hb3⟩
        clear hsm
        have T3 := HT2.out.below hb3
        clear hb3 HT2
        obtain ⟨G1, G2, S1, S2, hd, h1, h2⟩ := T3.ex
        have hc3 := doCut_any S2 lo (by rw [HL.out]; omega) (by have := b2'.out; omega)
        rw [HL.out] at hc3
        have HC : Hid (Ext (four4 s) w3 v3 ∧ Sys v3 G1 s (s + 1) (p1.drop (L - lo)) (q1 ++ cutL p1 (L - lo)) e1 ∧ (∀ k, G1 k → ¬ G2 k) ∧ (∀ k, G1 k → grow (four4 s) w3 v3 k) ∧ (∀ k, G2 k → grow (four4 s) w3 v3 k)) := ⟨T3.ext, S1, hd, h1, h2⟩
        clear T3 S1 S2 hd h1 h2
        go_wp2_with fail
        refine hc3.mono ?_
        rintro e v4 ⟨rfl, he, hS⟩
        clear hc3
        have HT4 : Hid (Two w3 (four4 s) s (s + 1) (s + 2) (s + 3) v4 (p1.drop (L - lo)) (q1 ++ cutL p1 (L - lo)) (p2.drop (L - lo)) (q2 ++ cutL p2 (L - lo)) e1 e2) :=
          two_two (k2 := p2) (f2 := q2) (e2 := e2) HC.out.1 HC.out.2.1 HC.out.2.2.1 HC.out.2.2.2.1 HC.out.2.2.2.2 he hS
        clear he hS HC
        have hsm : Calls Try.prog 12 #[.pointer (some ⟨s + 2, 0, none⟩), .pointer (some ⟨s + 3, 0, none⟩)] v4 fun e w' => e = .returned (.bool true) ∧ Below v4.heap.size v4 w' := by
          obtain ⟨G1, G2, S1, S2, hd, h1, h2⟩ := HT4.out.ex
          exact same_any S2 (by have := cut_few (j := L - lo) b2'.out; omega)
        go_wp2_with fail
        refine hsm.mono ?_
        rintro e v5 ⟨rfl, hb5⟩
        clear hsm
        have T5 := HT4.out.below hb5
        clear hb5 HT4
        -- both paths, both free lists
        have hS1 : Sim (p1.drop (L - lo)) (p2.drop (L - lo)) := HT.out.2.1.drop _
        have hS2 : Sim (q1 ++ cutL p1 (L - lo)) (q2 ++ cutL p2 (L - lo)) := HT.out.2.2.append (HT.out.2.1.cut _)
        have hl1 : (p1.drop (L - lo)).length = lo := by rw [List.length_drop, ← HLL.out]; omega
        have hl2 : (p2.drop (L - lo)).length = lo := by rw [← hS1.len, hl1]
        have hfb : (q1 ++ cutL p1 (L - lo)).length ≤ 4096 := by have := cut_few (j := L - lo) (show p1.length + q1.length ≤ 4096 from by rw [← HLL.out]; exact b1'.out); omega
        have hfl := hS2.len
        have hlo : lo ≤ 4096 := by omega
        clear HL HLL b1' b2' hnk b3 b4 hlt hng hhl hhi hLb
        generalize p1.drop (L - lo) = P1 at *
        generalize p2.drop (L - lo) = P2 at *
        generalize q1 ++ cutL p1 (L - lo) = Q1 at *
        generalize q2 ++ cutL p2 (L - lo) = Q2 at *
        obtain ⟨G1, G2, S1, S2, hd, h1, h2⟩ := T5.ex
        obtain ⟨a1, cap1, c0⟩ := S1.stackCell
        obtain ⟨a2, cap2, d0⟩ := S2.stackCell
        rw [hl1] at c0
        rw [hl2] at d0
        have I1 := sys_path S1
        have I2 := sys_path S2
        have HT5 : Hid (Two w3 (four4 s) s (s + 1) (s + 2) (s + 3) v5 P1 Q1 P2 Q2 e1 e2 ∧ Sys v5 G1 s (s + 1) P1 Q1 e1 ∧ Sys v5 G2 (s + 2) (s + 3) P2 Q2 e2 ∧ Sim P1 P2 ∧ Sim Q1 Q2 ∧ P1.length = lo ∧ P2.length = lo ∧ Q1.length = Q2.length) := ⟨T5, S1, S2, hS1, hS2, hl1, hl2, hfl⟩
        clear T5 S1 S2 hd h1 h2 hS1 hS2 hl1 hl2 hfl HT
        go_wp2_with fail
        refine I1.mono ?_
        rintro e w6 ⟨rfl, rfl⟩
        clear I1 c0 d0
        go_wp2_with fail
        refine I2.mono ?_
        rintro e w6 ⟨rfl, rfl⟩
        clear I2
        go_wp2_with fail
        go_loopg [13, 14, 15] lo (fun k f1 f2 j wr => ∃ i : Nat, i + k = lo ∧ f1 = .pointer (topA (P1.drop i)) ∧ f2 = .pointer (topA (P2.drop i)) ∧ j = .int .i64 i ∧ wr = v5)
        case atStart => exact ⟨0, by omega, rfl, rfl, rfl, rfl⟩
        case round =>
          obtain ⟨i, hik, rfl, rfl, rfl, rfl⟩ := hrel
          cases gk with
          | zero =>
            have hlt : ¬ (i : Int) < lo := by omega
            have t1 : topA (P1.drop i) = none := by rw [List.drop_of_length_le (by have := HT5.out.2.2.2.2.2.1; omega)]; rfl
            have t2 : topA (P2.drop i) = none := by rw [List.drop_of_length_le (by have := HT5.out.2.2.2.2.2.2.1; omega)]; rfl
            rw [t1, t2]
            clear t1 t2
            obtain ⟨N, hN⟩ : ∃ N, N = Q1.length := ⟨_, rfl⟩
            have I1 : Hid (∀ q, Calls Try.prog 19 #[.pointer (some ⟨s, 0, none⟩)] (wr.drewN q) fun e w' => e = .returned (.int .i64 N) ∧ wr.drewN q = w') := fun q => by
              have := sys_freeLen (HT5.out.2.1.same (drewN_same wr q)); rwa [← hN] at this
            have I2 : Hid (∀ q, Calls Try.prog 19 #[.pointer (some ⟨s + 2, 0, none⟩)] (wr.drewN q) fun e w' => e = .returned (.int .i64 N) ∧ wr.drewN q = w') := fun q => by
              have := sys_freeLen (HT5.out.2.2.1.same (drewN_same wr q)); rwa [← HT5.out.2.2.2.2.2.2.2, ← hN] at this
            obtain ⟨a3, cap3, c1⟩ := HT5.out.2.1.freeCell
            rw [← hN] at c1 hfb
            have HN : Hid (N = Q1.length) := hN
            clear hN
            go_wp2_with fail
            go_quiet (first | (go_at_call_of 19 (some (⟨s, 0, none⟩ : Addr)); exact qsame (I1.out _)) | (go_at_call 19; exact qsame (I2.out _)))
            go_wp2_with fail
            obtain ⟨v6, hv6⟩ : ∃ v6, v6 = wr.drewN nq := ⟨_, rfl⟩
            have hs6 : Same v6 wr := by rw [hv6]; exact ⟨rfl, rfl, rfl, rfl⟩
            have HS6 : Hid (Sys v6 G1 s (s + 1) P1 Q1 e1 ∧ Sys v6 G2 (s + 2) (s + 3) P2 Q2 e2 ∧ Ext (four4 s) w3 v6 ∧ Sim Q1 Q2) := ⟨HT5.out.2.1.same hs6, HT5.out.2.2.1.same hs6, HT5.out.1.ext.same hs6, HT5.out.2.2.2.2.1⟩
            rw [← hv6]
            clear hv6 hs6 I1 I2 c1
            go_loopg [16] N (fun k j wz => ∃ n : Nat, n + k = N ∧ j = .int .i64 n ∧ wz = v6)
            case atStart => exact ⟨0, by omega, rfl, rfl⟩
            case round =>
              obtain ⟨n, hnk, rfl, rfl⟩ := hrel
              obtain ⟨a3, cap3, c1⟩ := HS6.out.1.freeCell
              rw [← HN.out] at c1
              cases gk with
              | zero =>
                have hlt : ¬ (n : Int) < N := by omega
                have HB : Hid (Below w.heap.size w wr) := HH.out.1.out HS6.out.2.2.1 (four4_ge s)
                go_wp2_with fail
                go_ret
                exact ⟨rfl, HB.out⟩
              | succ k =>
                have hnl : n < N := by omega
                have hlt : (n : Int) < N := by omega
                obtain ⟨f, hf⟩ : ∃ f, Q1[n]? = some f := ⟨Q1[n]'(by rw [← HN.out]; exact hnl), by simp⟩
                obtain ⟨g, hg⟩ : ∃ g, Q2[n]? = some g := ⟨Q2[n]'(by rw [← HS6.out.2.2.2.len, ← HN.out]; exact hnl), by simp⟩
                have hsg := HS6.out.2.2.2.get hf hg
                obtain ⟨u1, hu1⟩ := HS6.out.1.frees (List.mem_of_getElem? hf)
                obtain ⟨u2, hu2⟩ := HS6.out.2.1.frees (List.mem_of_getElem? hg)
                rw [← hsg.1, ← hsg.2.1, ← hsg.2.2] at hu2
                have A1 := sys_freeAt HS6.out.1 hf
                have A2 := sys_freeAt HS6.out.2.1 hg
                obtain ⟨x1, hx1⟩ : ∃ x, x = f.b := ⟨_, rfl⟩
                obtain ⟨x2, hx2⟩ : ∃ x, x = g.b := ⟨_, rfl⟩
                rw [← hx1] at hu1 A1
                rw [← hx2] at hu2 A2
                have K1 := frameKind_any x1 _ _ (fr0 hu1)
                have K2 := frameKind_any x2 _ _ (fr0 hu2)
                have C1 := frameCol_any x1 _ _ (fr2 hu1)
                have C2 := frameCol_any x2 _ _ (fr2 hu2)
                have P1' := frameKept_any x1 _ _ (fr5 hu1)
                have P2' := frameKept_any x2 _ _ (fr5 hu2)
                clear hsg hu1 hu2 hf hg hx1 hx2
                generalize f.kind = kd at *
                generalize f.col = cl at *
                generalize f.kept = kp at *
                go_wp2_with fail
                refine A1.mono ?_
                rintro e w6 ⟨rfl, rfl⟩
                go_wp2_with fail
                refine A2.mono ?_
                rintro e w6 ⟨rfl, rfl⟩
                go_wp2_with fail
                refine K1.mono ?_
                rintro e w6 ⟨rfl, rfl⟩
                go_wp2_with fail
                refine K2.mono ?_
                rintro e w6 ⟨rfl, rfl⟩
                go_wp2_with fail
                refine C1.mono ?_
                rintro e w6 ⟨rfl, rfl⟩
                go_wp2_with fail
                refine C2.mono ?_
                rintro e w6 ⟨rfl, rfl⟩
                go_wp2_with fail
                refine P1'.mono ?_
                rintro e w6 ⟨rfl, rfl⟩
                go_wp2_with fail
                refine P2'.mono ?_
                rintro e w6 ⟨rfl, rfl⟩
                clear K1 K2 C1 C2 P1' P2' A1 A2 c1
                go_wp2_with fail
                go_roundg k
                case measure => omega
                case rel => exact ⟨n + 1, by omega, by go_num, rfl⟩
          | succ k =>
            have hil : i < lo := by omega
            have hlt : (i : Int) < lo := by omega
            obtain ⟨f, hdr, hf⟩ := drop_cons (stk := P1) (i := i) (by rw [HT5.out.2.2.2.2.2.1]; exact hil)
            obtain ⟨g, hdr2, hg⟩ := drop_cons (stk := P2) (i := i) (by rw [HT5.out.2.2.2.2.2.2.1]; exact hil)
            have hsg := HT5.out.2.2.2.1.get hf hg
            have hu1 := HT5.out.2.1.linked.drop i
            have hu2 := HT5.out.2.2.1.linked.drop i
            rw [hdr] at hu1
            rw [hdr2] at hu2
            have hu1 := hu1.1
            have hu2 := hu2.1
            rw [← hsg.1, ← hsg.2.1, ← hsg.2.2] at hu2
            rw [hdr, hdr2, topA_cons, topA_cons]
            obtain ⟨x1, hx1⟩ : ∃ x, x = f.b := ⟨_, rfl⟩
            obtain ⟨x2, hx2⟩ : ∃ x, x = g.b := ⟨_, rfl⟩
            obtain ⟨y1, hy1⟩ : ∃ y, y = topA (P1.drop (i + 1)) := ⟨_, rfl⟩
            obtain ⟨y2, hy2⟩ : ∃ y, y = topA (P2.drop (i + 1)) := ⟨_, rfl⟩
            rw [← hx1, ← hy1] at hu1
            rw [← hx2, ← hy2] at hu2
            have K1 := frameKind_any x1 _ _ (fr0 hu1)
            have K2 := frameKind_any x2 _ _ (fr0 hu2)
            have C1 := frameCol_any x1 _ _ (fr2 hu1)
            have C2 := frameCol_any x2 _ _ (fr2 hu2)
            have P1' := frameKept_any x1 _ _ (fr5 hu1)
            have P2' := frameKept_any x2 _ _ (fr5 hu2)
            have U1 := frameUp_any x1 _ _ (fr3 hu1)
            have U2 := frameUp_any x2 _ _ (fr3 hu2)
            have HY : Hid (y1 = topA (P1.drop (i + 1)) ∧ y2 = topA (P2.drop (i + 1))) := ⟨hy1, hy2⟩
            rw [← hx1, ← hx2]
            clear hsg hu1 hu2 hf hg hx1 hx2 hdr hdr2 hy1 hy2
            generalize f.kind = kd at *
            generalize f.col = cl at *
            generalize f.kept = kp at *
            go_wp2_with fail
            refine K1.mono ?_
            rintro e w6 ⟨rfl, rfl⟩
            go_wp2_with fail
            refine K2.mono ?_
            rintro e w6 ⟨rfl, rfl⟩
            go_wp2_with fail
            refine C1.mono ?_
            rintro e w6 ⟨rfl, rfl⟩
            go_wp2_with fail
            refine C2.mono ?_
            rintro e w6 ⟨rfl, rfl⟩
            go_wp2_with fail
            refine P1'.mono ?_
            rintro e w6 ⟨rfl, rfl⟩
            go_wp2_with fail
            refine P2'.mono ?_
            rintro e w6 ⟨rfl, rfl⟩
            go_wp2_with fail
            refine U1.mono ?_
            rintro e w6 ⟨rfl, rfl⟩
            go_wp2_with fail
            refine U2.mono ?_
            rintro e w6 ⟨rfl, rfl⟩
            clear K1 K2 C1 C2 P1' P2' U1 U2
            go_wp2_with fail
            go_roundg k
            case measure => omega
            case rel => exact ⟨i + 1, by omega, by rw [HY.out.1], by rw [HY.out.2], by go_num, rfl⟩
    | succ k =>
      have hnl : n < len0 := by omega
      have hlt : (n : Int) < len0 := by omega
      have hn0 : (0 : Int) ≤ n := by omega
      obtain ⟨g, t, rfl, ht, hbk, c0, c1, c2, c3⟩ := HH.out.1.at T.ext (four4_ge s) hnl
      obtain ⟨G1, G2, S1, S2, hd, h1, h2⟩ := T.ex
      have hst := doStep_any S1 t.1 t.2.1 t.2.2.1 t.2.2.2 hbk (by omega) (by omega)
      have HT : Hid (Ext (four4 s) w3 wr ∧ Sys wr G2 (s + 2) (s + 3) p2 q2 e2 ∧ (∀ k, G1 k → ¬ G2 k) ∧ (∀ k, G1 k → grow (four4 s) w3 wr k) ∧ (∀ k, G2 k → grow (four4 s) w3 wr k) ∧ Sim p1 p2 ∧ Sim q1 q2) := ⟨T.ext, S2, hd, h1, h2, hs1, hs2⟩
      have HT0 : Hid (ss[n]? = some t) := ht
      clear T S1 S2 hd h1 h2 hs1 hs2 ht hbk
      go_wp2_with fail
      refine hst.mono ?_
      rintro e w1 ⟨rfl, nb, he, hS, _⟩
      clear hst c0 c1 c2 c3
      have T1 : Two w3 (four4 s) s (s + 1) (s + 2) (s + 3) w1 (stkS p1 nb t.1 t.2.1 t.2.2.1 t.2.2.2) (freS p1 q1 nb t.1 t.2.1 t.2.2.1 t.2.2.2) p2 q2 (seenPush q1 e1 nb) e2 :=
        two_one (k1 := p1) (f1 := q1) (e1 := e1) HT.out.1 HT.out.2.1 HT.out.2.2.1 HT.out.2.2.2.1 HT.out.2.2.2.2.1 he hS
      have HSim : Hid (Sim p1 p2 ∧ Sim q1 q2) := ⟨HT.out.2.2.2.2.2.1, HT.out.2.2.2.2.2.2⟩
      clear he hS HT
      obtain ⟨g2, t2, hg2, ht2, hbk, c0, c1, c2, c3⟩ := HH.out.1.at T1.ext (four4_ge s) hnl
      simp only [Option.some.injEq, Addr.mk.injEq, and_true] at hg2
      subst hg2
      rw [HT0.out] at ht2
      simp only [Option.some.injEq] at ht2
      subst ht2
      obtain ⟨G1, G2, S1, S2, hd, h1, h2⟩ := T1.ex
      have hst := doStep_any S2 t.1 t.2.1 t.2.2.1 t.2.2.2 hbk (by omega) (by omega)
      have HT : Hid (Ext (four4 s) w3 w1 ∧ Sys w1 G1 s (s + 1) (stkS p1 nb t.1 t.2.1 t.2.2.1 t.2.2.2) (freS p1 q1 nb t.1 t.2.1 t.2.2.1 t.2.2.2) (seenPush q1 e1 nb) ∧ (∀ k, G1 k → ¬ G2 k) ∧ (∀ k, G1 k → grow (four4 s) w3 w1 k) ∧ (∀ k, G2 k → grow (four4 s) w3 w1 k)) := ⟨T1.ext, S1, hd, h1, h2⟩
      clear T1 S1 S2 hd h1 h2 hbk
      go_wp2_with fail
      refine hst.mono ?_
      rintro e w2 ⟨rfl, nb2, he, hS, _⟩
      clear hst c0 c1 c2 c3
      have HT2 : Hid (Two w3 (four4 s) s (s + 1) (s + 2) (s + 3) w2 (stkS p1 nb t.1 t.2.1 t.2.2.1 t.2.2.2) (freS p1 q1 nb t.1 t.2.1 t.2.2.1 t.2.2.2) (stkS p2 nb2 t.1 t.2.1 t.2.2.1 t.2.2.2) (freS p2 q2 nb2 t.1 t.2.1 t.2.2.1 t.2.2.2) (seenPush q1 e1 nb) (seenPush q2 e2 nb2)) :=
        two_two (k2 := p2) (f2 := q2) (e2 := e2) HT.out.1 HT.out.2.1 HT.out.2.2.1 HT.out.2.2.2.1 HT.out.2.2.2.2 he hS
      clear he hS HT
      go_wp2_with fail
      go_roundg k
      case measure => omega
      case rel =>
        have z1 := stkS_length p1 nb t.1 t.2.1 t.2.2.1 t.2.2.2
        have z2 := freS_length p1 q1 nb t.1 t.2.1 t.2.2.1 t.2.2.2
        have z3 := backN_le (p1.length + 1) t.2.2.1
        have y1 := stkS_length p2 nb2 t.1 t.2.1 t.2.2.1 t.2.2.2
        have y2 := freS_length p2 q2 nb2 t.1 t.2.1 t.2.2.1 t.2.2.2
        have y3 := backN_le (p2.length + 1) t.2.2.1
        have v1 := seenPush_length q1 e1 nb
        have v2 := seenPush_length q2 e2 nb2
        exact ⟨n + 1, _, _, _, _, _, _, by omega, by go_num, HT2.out, HSim.out.1.stk _ _ _ _ _ _, HSim.out.1.fre HSim.out.2 _ _ _ _ _ _, by omega, by omega, by omega, by omega⟩

set_option maxRecDepth 100000 in
set_option maxHeartbeats 400000 in
theorem twice_great (a0 : Option Addr) (len0 cap0 : Nat) (k1 k2 : Int) (w : World) (hl : 4096 < len0) :
    Calls Try.prog 6 #[.slice a0 len0 cap0, .int .i64 k1, .int .i64 k2] w fun e w' => e = .returned (.bool true) ∧ Below w.heap.size w w' := by
  by_cases hb : len0 ≤ 1048576
  · have l1 : decide ((4096 : Int) < (len0 : Int)) = true := by simp; omega
    have hby := bytes24_yes a0 len0 cap0 k1 k2 w hb
    go_enter Try.func6, Try.ntmps6
    go_wp2_with fail
    refine hby.mono ?_
    rintro e wb ⟨rfl, rfl⟩
    clear hby
    go_wp2_with fail
    go_ret
    exact ⟨rfl, Below.refl _ _⟩
  · have hby := bytes24_no a0 len0 cap0 k1 k2 w (by omega)
    go_enter Try.func6, Try.ntmps6
    go_wp2_with fail
    refine hby.mono ?_
    rintro e wb ⟨rfl, rfl⟩
    clear hby
    go_wp2_with fail
    go_ret
    exact ⟨rfl, Below.refl _ _⟩

theorem twice_walk (a0 : Option Addr) (len0 cap0 : Nat) (ss : List St) (k1 k2 : Int) (w : World) (h0 : IsSteps w a0 len0 cap0 ss) :
    Calls Try.prog 6 #[.slice a0 len0 cap0, .int .i64 k1, .int .i64 k2] w fun e w' => e = .returned (.bool true) ∧ Below w.heap.size w w' := by
  by_cases hl : len0 ≤ 4096
  · exact twice_small a0 len0 cap0 ss k1 k2 w h0 hl
  · exact twice_great a0 len0 cap0 k1 k2 w (by omega)

end Go.Proofs.Qxb6604576a
