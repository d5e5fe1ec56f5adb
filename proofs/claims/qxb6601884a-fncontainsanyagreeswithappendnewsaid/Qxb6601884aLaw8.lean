/-
  The walk of FnContainsAnyAgreesWithAppendNew.
-/
import Derived.Test.Qxb6601884aLaw6
namespace Go.Proofs.Qxb6601884a
open Go.RowKit
set_option linter.unusedVariables false

set_option maxHeartbeats 1000000 in
theorem law8 (w : World) (a : Option Addr) (n cap : Nat) (l : List ByteArray) (R : Row w a n cap l)
    (a2 : Option Addr) (n2 cap2 : Nat) (vs : List ByteArray) (R2 : Row w a2 n2 cap2 vs) :
    Calls Try.prog 8 #[.slice a n cap, .slice a2 n2 cap2] w fun e w' => e = .returned (.bool true) ∧ Below w.heap.size w w' := by
  have qn22 : ∀ (w : World) (a : Option Addr) (n c n' c' : Nat), (binOp .neq 22 (.slice a n c) (.slice none n' c')).run Try.prog w = .ok (.bool (!a.isNone)) w := fun w a n c n' c' => run_neq_slice_nil_any w 22 9 a n c n' c' Try.underlying22
  have CB := mkHid (bytes20_any w a n cap l R a2 n2 cap2 vs R2)
  have CR1 := mkHid (room_any w a n cap l R 1048576 (by omega) (by omega))
  have CR2 : Hid (∀ r : Int, -1 ≤ r → r ≤ 1048576 → Calls Try.prog 10 #[.slice a2 n2 cap2, .int .i64 r] w fun e w' => ∃ r' : Int, e = .returned (.int .i64 r') ∧ w' = w ∧ -1 ≤ r' ∧ r' ≤ 1048576 ∧ (0 ≤ r' → 0 ≤ r ∧ n2 ≤ 4096)) := fun r h1 h2 => room_any w a2 n2 cap2 vs R2 r h1 h2
  have HR := mkHid R
  have HR2 := mkHid R2
  clear R R2
  obtain ⟨i0, hi, hz0, hz1, hz2⟩ := info_parts Try.info9
  go_enter Try.func8, Try.ntmps8
  go_upto_if 19 with (first
    | (go_at_call 20; refine CB.out.mono ?_; rintro e w' ⟨r0, rfl, hw⟩; have hw := hw.symm; subst hw)
    | (go_at_call_of 10 (Value.slice a n cap); refine CR1.out.mono ?_; rintro e w' ⟨r1, rfl, hw, h1, h2, h3⟩; have hw := hw.symm; subst hw)
    | (go_at_call 10; refine (CR2.out _ (by assumption) (by assumption)).mono ?_; rintro e w' ⟨r2, rfl, hw, h4, h5, h6⟩; have hw := hw.symm; subst hw))
  · go_ret
    exact ⟨rfl, Below.refl _ _⟩
  · go_ret
    exact ⟨rfl, Below.refl _ _⟩
  have hn : n ≤ 4096 := (h3 (h6 (by omega)).1).2
  have hn2 : n2 ≤ 4096 := (h6 (by omega)).2
  clear CB CR1 CR2 h1 h2 h3 h4 h5 h6
  go_cut [1] (fun v wc => ∃ (b' : Option Addr) (cap2' : Nat), v = .slice b' n2 cap2' ∧ Hid (Row wc b' n2 cap2' vs) ∧ Hid (Below w.heap.size w wc))
  case first =>
    cases a2 with
    | none =>
      go_wp2
      go_meet
      exact ⟨_, _, rfl, HR2, mkHid (Below.refl _ _)⟩
    | some x =>
      obtain ⟨cs, hcs⟩ : ∃ cs, cs = vs.map Value.string := ⟨_, rfl⟩
      have HCS : Hid (cs = vs.map Value.string) := hcs
      have HL : Hid (cs.length = n2) := by rw [hcs]; show _ = _; simp [HR2.out.1]
      clear hcs
      go_wp2_with (first
        | (at_make; refine wpList_make_full _ rfl (.tmp 21) (.tmp 21) 22 rfl w.heap.size 9 i0 (.string ByteArray.empty) 1 Try.underlying22 hi hz0 hz1 .i64 .i64 (n2 : Int) (n2 : Int) n2 rfl rfl rfl rfl (by rw [hz2]; omega) (by unfold maxLen; omega) (Nat.le_refl _) ?_; intro w1 hown1 hgrow1; have HO := mkHid hown1; have HG := mkHid hgrow1; clear hown1 hgrow1)
        | (refine wpList_copy_splice rfl (.tmp 23) (.tmp 24) 22 22 rfl 9 Try.underlying22 Try.size9 _ _ _ _ _ _ rfl rfl w.heap.size 0 _ 9 (made_list HO.out) cs (by rw [HL.out]; exact (Nat.min_self _).symm) (by intro hp; rw [HCS.out] at hp ⊢; exact ⟨rfl, row_src HR2.out (keep_below ((Below.refl _ _).grown HG.out (Nat.le_refl _) (by intro k h; cases h))) hp⟩) (by have h1 := HO.out.1; have h2 := HL.out; omega) (by rw [HCS.out]; exact strings_oneCell vs) w.heap.size w ((Below.refl _ _).grown HG.out (Nat.le_refl _) (by intro k h; cases h)) (Nat.le_refl _) ?_; intro w2 HG2 hB2; have HB2 := mkHid hB2; clear hB2))
      go_meet
      have ho := owns_spliced (base := w.heap.size) (Nat.le_refl _) (by unfold maxLen; omega) (by have h1 := HO.out.1; omega) HL.out HG2.out
      rw [HCS.out] at ho
      obtain ⟨a', cap', hv, hR'⟩ := Row.of_owns ho HR2.out.2.2.2.1
      exact ⟨a', cap', hv, hR', HB2⟩
  case rest =>
    obtain ⟨b', cap2', rfl, HRb, HBa⟩ := hcut
    have HRa := mkHid (HR.out.below HBa.out)
    have C1 := mkHid (clone_any wc a n cap l HRa.out (by omega))
    clear HR HR2 hi hz0 hz1 hz2 qn22 i0
    obtain ⟨U, hU⟩ : ∃ U, U = unionL l vs := ⟨_, rfl⟩
    obtain ⟨D, hD⟩ : ∃ D, D = unionL [] vs := ⟨_, rfl⟩
    have HU := mkHid hU
    have HD := mkHid hD
    clear hU hD
    go_wp2_with fail
    refine C1.out.mono ?_
    rintro e w1 ⟨v1, rfl, hown1, hbel1, x1, rfl, hx1⟩
    obtain ⟨_, _, hv, R1⟩ := Row.of_owns hown1 HRa.out.2.2.2.1
    cases hv
    have HR1 := mkHid R1
    have HB1 := mkHid (HBa.out.trans (hbel1.mono HBa.out.size))
    have HRb1 := mkHid (HRb.out.below hbel1)
    have C2 := mkHid (zzappend_any w1 none 0 [] ⟨rfl, Nat.le_refl _, Nat.zero_le _, by simp, .inl ⟨rfl, rfl, rfl⟩⟩ b' n2 cap2' vs HRb1.out (by omega) (by omega))
    rw [← HD.out] at C2
    clear R1 hown1 hbel1 hx1 C1 HRa HRb HBa
    go_wp2_with fail
    refine C2.out.mono ?_
    rintro e w2 ⟨d0, capd, rfl, hRD, hbel2, hnild⟩
    have HB2 := mkHid (HB1.out.trans (hbel2.mono HB1.out.size))
    have HR2 := mkHid (HR1.out.below hbel2)
    have HRb2 := mkHid (HRb1.out.below hbel2)
    have C3 := mkHid (clone_any w2 x1 n n l HR2.out (by omega))
    have hDl : D.length ≤ 4096 := by
      rw [HD.out]; have h1 := (unionL_le [] vs).2; have h2 := HRb2.out.1; simp only [List.length_nil] at h1; omega
    clear hRD hnild hbel2 C2 HR1 HB1 HRb1
    go_wp2_with fail
    refine C3.out.mono ?_
    rintro e w3 ⟨v3, rfl, hown3, hbel3, x3, rfl, hx3⟩
    obtain ⟨_, _, hv, R3⟩ := Row.of_owns hown3 HR2.out.2.2.2.1
    cases hv
    have HB3 := mkHid (HB2.out.trans (hbel3.mono HB2.out.size))
    have HR3 := mkHid (HR2.out.below hbel3)
    have HRb3 := mkHid (HRb2.out.below hbel3)
    have C4 := mkHid (zzappend_any w3 x3 n l R3 b' n2 cap2' vs HRb3.out (by omega) (by omega))
    rw [← HU.out] at C4
    clear R3 hown3 hbel3 hx3 C3 HR2 HRb2 HB2
    go_wp2_with fail
    refine C4.out.mono ?_
    rintro e w4 ⟨u0, capu, rfl, hRU, hbel4, hnilu⟩
    have HB4 := mkHid (HB3.out.trans (hbel4.mono HB3.out.size))
    have HR4 := mkHid (HR3.out.below hbel4)
    have HRb4 := mkHid (HRb3.out.below hbel4)
    have hUl : U.length ≤ 8192 := by
      rw [HU.out]; have h1 := (unionL_le l vs).2; have h2 := HRb4.out.1; have h3 := HR4.out.1; omega
    have C5 : Hid (Calls Try.prog 18 #[.slice x1 n n, .slice b' n2 cap2'] w4 fun e w' => e = .returned (.bool (decide ((U.length : Int) - n < D.length))) ∧ w' = w4) :=
      zzany_any w4 x1 n n l HR4.out b' n2 cap2' vs HRb4.out _ (by
        have h := shares_iff l vs
        rw [← HU.out, ← HD.out, HR4.out.1] at h
        show _ ↔ _
        rw [h, decide_eq_true_eq]
        omega)
    clear hRU hnilu hbel4 C4 HR3 HRb3 HB3
    generalize hb : decide ((U.length : Int) - n < D.length) = bb at C5
    have HBB := mkHid hb
    clear hb
    go_wp2_with (go_at_call 18; refine C5.out.mono ?_; rintro e w' ⟨rfl, hw⟩; have hw := hw.symm; subst hw)
    go_ret
    refine ⟨sret_bool ?_, HB4.out⟩
    rw [← HBB.out]
    simp

end Go.Proofs.Qxb6601884a
