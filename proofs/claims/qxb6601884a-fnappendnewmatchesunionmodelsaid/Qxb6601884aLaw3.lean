/-
  The walk of FnAppendNewMatchesUnionModel.
-/
import Derived.Test.Qxb6601884aLaw6
namespace Go.Proofs.Qxb6601884a
open Go.RowKit
set_option linter.unusedVariables false

set_option maxHeartbeats 1000000 in
theorem law3 (w : World) (a : Option Addr) (n cap : Nat) (l : List ByteArray) (R : Row w a n cap l)
    (a2 : Option Addr) (n2 cap2 : Nat) (vs : List ByteArray) (R2 : Row w a2 n2 cap2 vs) :
    Calls Try.prog 3 #[.slice a n cap, .slice a2 n2 cap2] w fun e w' => e = .returned (.bool true) ∧ Below w.heap.size w w' := by
  have qn22 : ∀ (w : World) (a : Option Addr) (n c n' c' : Nat), (binOp .neq 22 (.slice a n c) (.slice none n' c')).run Try.prog w = .ok (.bool (!a.isNone)) w := fun w a n c n' c' => run_neq_slice_nil_any w 22 9 a n c n' c' Try.underlying22
  have CB := mkHid (bytes9_any w a n cap l R a2 n2 cap2 vs R2)
  have CR1 := mkHid (room_any w a n cap l R 1048576 (by omega) (by omega))
  have CR2 : Hid (∀ r : Int, -1 ≤ r → r ≤ 1048576 → Calls Try.prog 10 #[.slice a2 n2 cap2, .int .i64 r] w fun e w' => ∃ r' : Int, e = .returned (.int .i64 r') ∧ w' = w ∧ -1 ≤ r' ∧ r' ≤ 1048576 ∧ (0 ≤ r' → 0 ≤ r ∧ n2 ≤ 4096)) := fun r h1 h2 => room_any w a2 n2 cap2 vs R2 r h1 h2
  have HR := mkHid R
  have HR2 := mkHid R2
  clear R R2
  obtain ⟨i0, hi, hz0, hz1, hz2⟩ := info_parts Try.info9
  go_enter Try.func3, Try.ntmps3
  go_upto_if 19 with (first
    | (go_at_call 9; refine CB.out.mono ?_; rintro e w' ⟨r0, rfl, hw⟩; have hw := hw.symm; subst hw)
    | (go_at_call_of 10 (Value.slice a n cap); refine CR1.out.mono ?_; rintro e w' ⟨r1, rfl, hw, h1, h2, h3⟩; have hw := hw.symm; subst hw)
    | (go_at_call 10; refine (CR2.out _ (by assumption) (by assumption)).mono ?_; rintro e w' ⟨r2, rfl, hw, h4, h5, h6⟩; have hw := hw.symm; subst hw))
  · go_ret
    exact ⟨rfl, Below.refl _ _⟩
  · go_ret
    exact ⟨rfl, Below.refl _ _⟩
  have hn : n ≤ 4096 := (h3 (h6 (by omega)).1).2
  have hn2 : n2 ≤ 4096 := (h6 (by omega)).2
  clear CB CR1 CR2 h1 h2 h3 h4 h5 h6
  go_cut [1] (fun v wc => ∃ (b' : Option Addr) (cap2' : Nat), v = .slice b' n2 cap2' ∧ Hid (Row wc b' n2 cap2' vs) ∧ Hid (Below w.heap.size w wc))
  case first =>
    cases a2 with
    | none =>
      go_wp2
      go_meet
      exact ⟨_, _, rfl, HR2, mkHid (Below.refl _ _)⟩
    | some x =>
      obtain ⟨cs, hcs⟩ : ∃ cs, cs = vs.map Value.string := ⟨_, rfl⟩
      have HCS : Hid (cs = vs.map Value.string) := hcs
      have HL : Hid (cs.length = n2) := by rw [hcs]; show _ = _; simp [HR2.out.1]
      clear hcs
      go_wp2_with (first
        | (at_make; refine wpList_make_full _ rfl (.tmp 21) (.tmp 21) 22 rfl w.heap.size 9 i0 (.string ByteArray.empty) 1 Try.underlying22 hi hz0 hz1 .i64 .i64 (n2 : Int) (n2 : Int) n2 rfl rfl rfl rfl (by rw [hz2]; omega) (by unfold maxLen; omega) (Nat.le_refl _) ?_; intro w1 hown1 hgrow1; have HO := mkHid hown1; have HG := mkHid hgrow1; clear hown1 hgrow1)
        | (refine wpList_copy_splice rfl (.tmp 23) (.tmp 24) 22 22 rfl 9 Try.underlying22 Try.size9 _ _ _ _ _ _ rfl rfl w.heap.size 0 _ 9 (made_list HO.out) cs (by rw [HL.out]; exact (Nat.min_self _).symm) (by intro hp; rw [HCS.out] at hp ⊢; exact ⟨rfl, row_src HR2.out (keep_below ((Below.refl _ _).grown HG.out (Nat.le_refl _) (by intro k h; cases h))) hp⟩) (by have h1 := HO.out.1; have h2 := HL.out; omega) (by rw [HCS.out]; exact strings_oneCell vs) w.heap.size w ((Below.refl _ _).grown HG.out (Nat.le_refl _) (by intro k h; cases h)) (Nat.le_refl _) ?_; intro w2 HG2 hB2; have HB2 := mkHid hB2; clear hB2))
      go_meet
      have ho := owns_spliced (base := w.heap.size) (Nat.le_refl _) (by unfold maxLen; omega) (by have h1 := HO.out.1; omega) HL.out HG2.out
      rw [HCS.out] at ho
      obtain ⟨a', cap', hv, hR'⟩ := Row.of_owns ho HR2.out.2.2.2.1
      exact ⟨a', cap', hv, hR', HB2⟩
  case rest =>
    obtain ⟨b', cap2', rfl, HRb, HBa⟩ := hcut
    have HRa := mkHid (HR.out.below HBa.out)
    have C1 := mkHid (clone_any wc a n cap l HRa.out (by omega))
    clear HR HR2 qn22
    obtain ⟨U, hU⟩ : ∃ U, U = unionL l vs := ⟨_, rfl⟩
    have HU := mkHid hU
    clear hU
    go_wp2_with fail
    refine C1.out.mono ?_
    rintro e w1 ⟨v1, rfl, hown1, hbel1, x1, rfl, hx1⟩
    obtain ⟨_, _, hv, R1⟩ := Row.of_owns hown1 HRa.out.2.2.2.1
    cases hv
    have HR1 := mkHid R1
    have HX1 := mkHid hx1
    have HB1 := mkHid (HBa.out.trans (hbel1.mono HBa.out.size))
    have HRb1 := mkHid (HRb.out.below hbel1)
    have C2 := mkHid (clone_any w1 x1 n n l HR1.out (by omega))
    clear R1 hown1 hbel1 hx1 C1 HRa HRb HBa
    go_wp2_with fail
    refine C2.out.mono ?_
    rintro e w2 ⟨v2, rfl, hown2, hbel2, x2, rfl, hx2⟩
    have HR2 := mkHid (HR1.out.below hbel2)
    have HB2 := mkHid (HB1.out.trans (hbel2.mono HB1.out.size))
    have HRb2 := mkHid (HRb1.out.below hbel2)
    have HO2 := mkHid hown2
    have HX2 := mkHid hx2
    have HBel2 := mkHid hbel2
    clear hown2 hbel2 hx2 C2
    go_wp2_with fail
    go_loopw [6, 7] (fun v i wr => ∃ (k : Nat) (u : List ByteArray), k ≤ n2 ∧ i = .int .i64 k ∧ Hid (wr.ownsRow w1.heap.size 9 1 v u.length (u.map Value.string)) ∧ Hid (Below w1.heap.size w1 wr) ∧ Hid (u = unionL l (vs.take k)) ∧ Hid (v = .slice none 0 0 ↔ x2 = none ∧ u.length = n)) (fun _ i _ => n2 - (intOf i).toNat)
    case atStart =>
      refine ⟨0, l, Nat.zero_le _, rfl, ?_, HBel2, rfl, ?_⟩
      · have h := HO2.out
        rw [HR1.out.1]
        exact h
      · have hz := HR1.out.1
        have hx := HR2.out.none
        show _ ↔ _
        constructor
        · intro h
          cases h
          exact ⟨rfl, hz⟩
        · rintro ⟨h, _⟩
          rw [h]
          have := HR1.out.none (HX2.out.1 h)
          rw [this.1]
    case round =>
      obtain ⟨k, u, hk, rfl, HO, HB, HUU, HN⟩ := hrel
      have hRl := HR1.out.below HB.out
      have hRv := HRb1.out.below HB.out
      by_cases hlt : k < n2
      · obtain ⟨s, hs⟩ : ∃ s, s = vs.getD k ByteArray.empty := ⟨_, rfl⟩
        have hbd := hRv.bound hlt
        obtain ⟨b, off, rfl, hc⟩ := hRv.sat (by omega)
        have hcell := hc k hlt
        rw [← hs] at hcell hbd
        have HBD := mkHid hbd
        have HS := mkHid hs
        have hlti : (k : Int) < (n2 : Int) := by omega
        have hcapi : (n2 : Int) ≤ (cap2' : Int) := by have := hRv.2.1; omega
        have hkl : k ≤ cap2' := by have := hRv.2.1; omega
        have hcap9 : cap2' ≤ 9223372036854775807 := by have h2 := hRv.2.2.1; unfold maxLen at h2; omega
        have hRt : Row wr (some ⟨b, off, none⟩) k cap2' (vs.take k) := by
          obtain ⟨g1, g2, g3, g4, g5⟩ := hRv
          refine ⟨by simp; omega, by omega, g3, fun t ht => g4 t (List.mem_of_mem_take ht), .inr ⟨_, rfl, fun i hi => ?_⟩⟩
          rcases g5 with ⟨h, _⟩ | ⟨x, h, hcx⟩
          · cases h
          · cases h
            rw [hcx i (by omega)]
            simp [hi]
        have hlen : u.length ≤ 8192 := by
          rw [HUU.out]; have h1 := (unionL_le l (vs.take k)).2; have h2 := hRl.1; have h3 : (vs.take k).length ≤ k := List.length_take_le _ _; omega
        have hvl : vs.length = n2 := hRv.1
        have HVL := mkHid hvl
        clear hvl hs hbd hc hRv
        by_cases hin1 : Lib.containsS l s = true
        · have C1 : Hid (∀ q, Calls Try.prog 12 #[.slice x1 n n, .string s] (wr.drewN q) fun e w' => e = .returned (.bool true) ∧ w' = wr.drewN q) := by
            intro q
            have h := has_any (wr.drewN q) x1 n n l s (hRl.drewN q)
            rw [hin1] at h
            exact h
          have HI := mkHid ((Lib.containsS_iff l s).1 hin1)
          clear hin1 hRl hRt
          go_wp2_with fail
          go_quiet ((go_at_call 12; exact Calls.quiet_of_same (C1.out _)))
          go_wp2_with fail
          go_roundw
          case rel =>
            refine ⟨k + 1, u, by omega, by go_num, ?_, below_drawn HB.out _, ?_, HN⟩
            · exact HO.out
            · show _ = _
              rw [unionL_same l vs k (by have := HVL.out; omega) (.inl (by rw [← HS.out]; exact HI.out))]
              exact HUU.out
          case measure => simp [intOf]; omega
        · have hin1' : Lib.containsS l s = false := by simpa using hin1
          have C1 : Hid (∀ q, Calls Try.prog 12 #[.slice x1 n n, .string s] (wr.drewN q) fun e w' => e = .returned (.bool false) ∧ w' = wr.drewN q) := by
            intro q
            have h := has_any (wr.drewN q) x1 n n l s (hRl.drewN q)
            rw [hin1'] at h
            exact h
          have HI : Hid (s ∉ l) := fun h => hin1 ((Lib.containsS_iff l s).2 h)
          by_cases hin2 : Lib.containsS (vs.take k) s = true
          · have C2 : Hid (∀ q, Calls Try.prog 12 #[.slice (some ⟨b, off, none⟩) k cap2', .string s] (wr.drewN q) fun e w' => e = .returned (.bool true) ∧ w' = wr.drewN q) := by
              intro q
              have h := has_any (wr.drewN q) (some ⟨b, off, none⟩) k cap2' (vs.take k) s (hRt.drewN q)
              rw [hin2] at h
              exact h
            have HJ := mkHid ((Lib.containsS_iff (vs.take k) s).1 hin2)
            clear hin1 hin1' hin2 hRl hRt
            go_wp2_with fail
            go_quiet ((first | (go_at_call_of 12 (Value.slice x1 n n); exact Calls.quiet_of_same (C1.out _)) | (go_at_call 12; exact Calls.quiet_of_same (C2.out _))))
            go_wp2_with fail
            go_roundw
            case rel =>
              refine ⟨k + 1, u, by omega, by go_num, ?_, below_drawn HB.out _, ?_, HN⟩
              · exact HO.out
              · show _ = _
                rw [unionL_same l vs k (by have := HVL.out; omega) (.inr (by rw [← HS.out]; exact HJ.out))]
                exact HUU.out
            case measure => simp [intOf]; omega
          · have hin2' : Lib.containsS (vs.take k) s = false := by simpa using hin2
            have C2 : Hid (∀ q, Calls Try.prog 12 #[.slice (some ⟨b, off, none⟩) k cap2', .string s] (wr.drewN q) fun e w' => e = .returned (.bool false) ∧ w' = wr.drewN q) := by
              intro q
              have h := has_any (wr.drewN q) (some ⟨b, off, none⟩) k cap2' (vs.take k) s (hRt.drewN q)
              rw [hin2'] at h
              exact h
            have HJ : Hid (s ∉ vs.take k) := fun h => hin2 ((Lib.containsS_iff (vs.take k) s).2 h)
            obtain ⟨X, hX⟩ : ∃ X, X = u.map Value.string := ⟨_, rfl⟩
            rw [← hX] at HO
            have HX := mkHid hX
            clear hin1 hin1' hin2 hin2' hRl hRt hX
            go_wp2_with fail
            go_quiet ((first | (go_at_call_of 12 (Value.slice x1 n n); exact Calls.quiet_of_same (C1.out _)) | (go_at_call 12; exact Calls.quiet_of_same (C2.out _))))
            have HOq := mkHid (show (wr.drewN nq).ownsRow w1.heap.size 9 1 _ u.length X from HO.out)
            have HBq := mkHid (below_drawn HB.out nq)
            go_wp2_with (at_builtin; refine wpList_append_own _ rfl (.tmp 53) (.tmp 58) 22 rfl w1.heap.size 9 i0 (.string ByteArray.empty) 1 16 Try.underlying22 hi hz0 hz1 hz2 rfl (by decide) _ _ _ rfl (HOq.out.alloc _) ⟨(wr.drewN nq).heap.size, 0, none⟩ 1 1 [.string s] rfl rfl (cell_one_new _ _ _) (by intro t ht; simp at ht; subst ht; rfl) (by unfold maxLen; omega) (by omega) (by have := HB.out.size; simp; omega) ?_; intro v' w9 hown9 hgrow9 hnil9; have HO9 := mkHid hown9; have HG9 := mkHid hgrow9; have HN9 := mkHid hnil9; clear hown9 hgrow9 hnil9)
            go_roundw
            case rel =>
              refine ⟨k + 1, u ++ [s], by omega, by go_num, ?_, ?_, ?_, ?_⟩
              · have h := HO9.out
                rw [HX.out] at h
                show World.ownsRow _ _ _ _ _ _ _
                simpa using h
              · have hz := HB.out.size
                exact ((below_drawn HB.out nq).alloc hz _).grown HG9.out (by simp; omega) (fun k hk => (HO.out.lt k hk).1)
              · show _ = _
                rw [unionL_more l vs k (by have := HVL.out; omega) (by rw [← HS.out]; exact HI.out) (by rw [← HS.out]; exact HJ.out), ← HS.out, ← HUU.out]
              · show _ ↔ _
                constructor
                · intro h
                  exact absurd (HN9.out.1 h).2 (by omega)
                · rintro ⟨_, h⟩
                  have h1 := (unionL_le l (vs.take k)).1
                  rw [← HUU.out] at h1
                  have h2 := HR1.out.1
                  simp at h
                  omega
            case measure => simp [intOf]; omega
      · have ek : vs.take k = vs := List.take_of_length_le (by have := hRv.1; omega)
        have HEK := mkHid ek
        have hu : u = U := by rw [HUU.out, ek, ← HU.out]
        subst hu
        have hsz : ∀ s ∈ u, s.size ≤ maxLen := by
          intro s hs
          rw [HU.out, mem_unionL] at hs
          rcases hs with h | h
          · exact hRl.2.2.2.1 s h
          · exact hRv.2.2.2.1 s h
        obtain ⟨aw, capw, hv, Rw⟩ := Row.of_owns HO.out hsz
        subst hv
        have C1 := mkHid (zzappend_any wr x1 n l hRl b' n2 cap2' vs hRv (by omega) (by omega))
        rw [← HU.out] at C1
        have HRw := mkHid Rw
        have HRl := mkHid hRl
        clear ek Rw hRl hRv hsz
        go_wp2_with fail
        refine C1.out.mono ?_
        rintro e w3 ⟨ag, capg, rfl, Rg, hbel3, hnilg⟩
        have hnil : ag = none ↔ aw = none := by
          have hN := HN.out
          have hw0 : Value.slice aw u.length capw = .slice none 0 0 ↔ aw = none := by
            constructor
            · intro h; simp only [Value.slice.injEq] at h; exact h.1
            · intro h
              have := HRw.out.none h
              rw [h, this.1, this.2]
          rw [hw0] at hN
          rw [hnilg, hN, HX2.out]
          refine and_congr_right fun _ => ?_
          have hl := HRl.out.1
          constructor
          · intro h; rw [h]; exact hl
          · intro h
            obtain ⟨m, e1, _⟩ := unionL_split l vs
            rw [← HU.out] at e1
            rw [e1] at h ⊢
            rw [List.length_append] at h
            have : m = [] := List.eq_nil_of_length_eq_zero (by omega)
            rw [this, List.append_nil]
        have C2 := mkHid (same_any w3 u u.length ag capg Rg aw capw (HRw.out.below hbel3) hnil)
        have HB3 := mkHid ((HB1.out.trans (HB.out.mono HB1.out.size)).trans (hbel3.mono (Nat.le_trans HB1.out.size HB.out.size)))
        clear Rg hbel3 hnilg hnil C1
        go_wp2_with (go_at_call 14; refine C2.out.mono ?_; rintro e w' ⟨rfl, q, hq⟩; subst hq)
        go_ret
        exact ⟨by simp, below_drawn HB3.out _⟩

end Go.Proofs.Qxb6601884a
