/-
  The walk of Scanner.endLine.
-/
import Derived.Test.Qxb6601961aPlain
import Derived.Lib.SlBytesConst
import Derived.Deep.CutRange
import Derived.Deep.DeepCutAuto
import Derived.BigRegion
namespace Go.Proofs.Qxb6601961a
open Go.RowKit
set_option linter.unusedVariables false

theorem run_line (g K : Nat) (hK : K ≤ 15) (w : World) : (Instr.sliceAt 22 (.pointer (some ⟨g, 0, none⟩)) none (some (.int .i64 (K : Int))) none).run Try.prog w = .ok (.slice (some ⟨g, 0, none⟩) K 15) w := by
  have ht : Try.prog.underlying 22 = some (.array (Try.prog.arrayLen 22) (Try.prog.elem 22)) := by kernel_rfl
  have hl : Try.prog.arrayLen 22 = 15 := by kernel_rfl
  have he : Try.prog.elem 22 = 5 := by kernel_rfl
  have hs : (sizeOf 5).run Try.prog w = .ok 1 w := by kernel_rfl
  rw [run_sliceAt_array_h w 22 _ ht .i64 K (by omega) (by rw [hl]; omega), he, hs, hl]
  simp [Result.andThen, slicedAt, Addr.add]

theorem BB.const (W : World) (C : List UInt8) (fr : Nat × Nat) (n m : Nat) (hn : n = W.heap.size) (hm : C.length = m) :
    BB (W.alloc (.cells (C.map fun x => Value.int .u8 x.toNat).toArray 5 fr)) (some ⟨n, 0, none⟩) m C := by
  refine ⟨hm, fun _ => ⟨n, 0, rfl, fun i hi => ?_⟩⟩
  rw [Nat.zero_add, Joins.cell_alloc_mark_at W _ 5 fr n i hn]
  simp [List.getElem?_eq_getElem (show i < C.length by omega)]

set_option maxRecDepth 20000 in
set_option maxHeartbeats 1000000 in
theorem end_any (w : World) (g : Nat) (L : List UInt8) (n : Int) (b c d dn e : Bool) (S : Scn 41 w g L n b c d dn e) (K : Nat) (hn0 : 0 ≤ n) (hnb : n ≤ 9223372036854775807) (hK : (K : Int) = min n 15) :
    Calls Try.prog 19 #[.pointer (some ⟨g, 0, none⟩)] w fun e' w' => EndPost 41 w g L c (endF ((L.take K).drop (stripN b (L.take K))) (n - stripN b (L.take K)) d dn e) e' w' := by
  obtain ⟨R, hR⟩ : ∃ R, R = endF ((L.take K).drop (stripN b (L.take K))) (n - stripN b (L.take K)) d dn e := ⟨_, rfl⟩
  rw [← hR]
  have HR := mkHid hR
  clear hR
  have HS := mkHid S
  have hN := S.get_n
  have hB := S.get_b
  have hF := S.free
  have hK15 : K ≤ 15 := by omega
  have hsl := run_line g K hK15
  clear S
  go_enter Try.func19, Try.ntmps19
  go_upto_region 1 with fail
  go_cut [3, 4] from 7 to 19 (fun s3 s4 wc => ∃ q, s3 = .slice (some ⟨g, 0, none⟩) K 15 ∧ s4 = .int .i64 n ∧ wc = w.drewN q)
  case first =>
    by_cases h15 : n ≤ 15
    · have e1 : n = (K : Int) := by omega
      subst e1
      clear hK
      go_quiet (fail)
      go_wp2
      go_meet
      exact ⟨_, rfl, rfl, rfl⟩
    · have e1 : K = 15 := by omega
      subst e1
      have h15' : 15 < n := by omega
      have hsl15 : ∀ w, (Instr.sliceAt 22 (.pointer (some ⟨g, 0, none⟩)) none (some (.int .i64 15)) none).run Try.prog w = .ok (.slice (some ⟨g, 0, none⟩) 15 15) w := fun w => run_line g 15 (by omega) w
      clear hK hsl
      go_quiet (fail)
      go_wp2
      go_meet
      exact ⟨_, rfl, rfl, rfl⟩
  case rest =>
    obtain ⟨q, rfl, rfl, rfl⟩ := hcut
    clear hsl
    have HSq := mkHid (HS.out.drewN q)
    have kc : ∀ (W : World) (C : Array Value) (n c : Nat), w.heap.size = W.heap.size → (convert 23 23 (.slice (some ⟨w.heap.size, 0, none⟩) n c)).run Try.prog (W.alloc (.cells C 5)) = .ok (.slice (some ⟨w.heap.size, 0, none⟩) n c) (W.alloc (.cells C 5 (C.size, C.size + 1))) := fun W C n c h => Joins.run_convert_bytes_const_at W 23 5 C n c _ h Try.underlying23 Try.underlying5
    go_upto_if 27 with fail
    go_cut [3, 4] from 28 to 38 (fun s3 s4 wc => ∃ o : Nat, s3 = .slice (some ⟨g, o, none⟩) (K - o) (15 - o) ∧ s4 = .int .i64 (n - o) ∧ Hid (Scn 41 wc g L 0 true c d dn e) ∧ Hid (w.grownBy wc (some g)) ∧ Hid (o = stripN b (L.take K)))
    case first =>
      cases b with
      | true =>
        go_wp2
        go_meet
        exact ⟨0, rfl, by simp, HSq.out.setN 0, fr_set (fr_drewN (fr_refl w g) q) _ _, by show _ = _; simp [stripN]⟩
      | false =>
        have hS2 := ((HSq.out.setN 0).setB true).alloc (.cells #[.int .u8 239, .int .u8 187, .int .u8 191] 5 (3, 4))
        have C := mkHid (hasPrefix_any _ _ _ K 15 3 3 _ [239, 187, 191] (hS2.bytes 0 K (by omega)) (BB.const (((w.drewN q).setCell ⟨g, 15, none⟩ (.int .i64 0)).setCell ⟨g, 16, none⟩ (.bool true)) [239, 187, 191] (3, 4) w.heap.size 3 (by simp) rfl) (by omega) (by omega))
        have HS2 := mkHid hS2
        clear hS2
        rw [List.drop_zero] at C
        by_cases hp : pre [239, 187, 191] (L.take K) = true
        · rw [hp] at C
          have h3 : 3 ≤ K := by
            unfold pre at hp
            simp at hp
            omega
          have h3i : (3 : Int) ≤ K := by omega
          go_wp2_with (go_at_call 22; refine C.out.mono ?_; rintro e w' ⟨rfl, hw⟩; have hw := hw.symm; subst hw)
          go_meet
          exact ⟨3, rfl, rfl, HS2, fr_alloc (fr_set (fr_set (fr_drewN (fr_refl w g) q) _ _) _ _) _, by show _ = _; simp [stripN, hp]⟩
        · have hp' : pre [239, 187, 191] (L.take K) = false := by simpa using hp
          rw [hp'] at C
          go_wp2_with (go_at_call 22; refine C.out.mono ?_; rintro e w' ⟨rfl, hw⟩; have hw := hw.symm; subst hw)
          go_meet
          exact ⟨0, rfl, by simp, HS2, fr_alloc (fr_set (fr_set (fr_drewN (fr_refl w g) q) _ _) _ _) _, by show _ = _; simp [stripN, hp']⟩
    case rest =>
      obtain ⟨o, rfl, rfl, HSc, HFr, HO⟩ := hcut
      have ho3 : o = 0 ∨ o = 3 ∧ 3 ≤ K := by
        rw [HO.out]
        unfold stripN
        split
        · next hh =>
          right
          refine ⟨rfl, ?_⟩
          simp only [Bool.and_eq_true] at hh
          have := hh.2
          unfold pre at this
          simp at this
          omega
        · left; rfl
      obtain ⟨N, hN'⟩ : ∃ N, N = K - o := ⟨_, rfl⟩
      obtain ⟨C, hC'⟩ : ∃ C, C = 15 - o := ⟨_, rfl⟩
      obtain ⟨m, hm'⟩ : ∃ m : Int, m = n - o := ⟨_, rfl⟩
      rw [← hN', ← hC', ← hm']
      have hNC : N ≤ C := by omega
      have hC1 : 12 ≤ C := by omega
      have hC2 : C ≤ 15 := by omega
      have hoC : o + C = 15 := by omega
      have hNm : (N : Int) ≤ m := by omega
      have hmN : m ≤ C → m = N := by omega
      have hmC : (C : Int) < m → N = C := by omega
      have hmb : m ≤ 9223372036854775807 := by omega
      obtain ⟨T, hT⟩ : ∃ T, T = (L.take K).drop o := ⟨_, rfl⟩
      have hTl : T.length = N := by rw [hT]; simp; have := HSc.out.1; omega
      have hTb : ∀ (W : World) (j k : Nat), Scn 41 W g L 0 true c d dn e → j + k ≤ N → BB W (some ⟨g, o + j, none⟩) k ((T.drop j).take k) := by
        intro W j k hW hjk
        have h := hW.bytes (o + j) k (by omega)
        have e1 : (L.drop (o + j)).take k = (T.drop j).take k := by
          rw [hT, List.drop_drop, List.drop_take, List.take_take]
          congr 1
          omega
        rw [e1] at h
        exact h
      rw [← HO.out, ← hT, ← hm'] at HR
      have HTb := mkHid hTb
      have HTl := mkHid hTl
      have HMN := mkHid hmN
      have HMC := mkHid hmC
      have hd := HSc.out.get_d
      have hdn := HSc.out.get_dn
      have he := HSc.out.get_e
      have hF := HSc.out.free
      clear hT hTl hTb hmN hmC hN' hC' hm' HSq kc HS hN hB hn0 hnb hK hK15 HO ho3
      by_cases hm0 : m = 0
      · have HM0 := mkHid hm0
        have hm0b : (m == 0) = true := by simp [hm0]
        clear hm0
        cases d <;> cases dn <;> cases e
        all_goals
          go_wp2
          go_ret
          exact EndPost.mk (HR.out.trans (endF_zero HM0.out)) (((HSc.out.setE _).setD _).setDn _) (fr_set (fr_set (fr_set HFr.out _ _) _ _) _ _)
      · have hm0b : (m == 0) = false := by simp [hm0]
        have HM0 := mkHid hm0
        clear hm0
        go_upto_region 12 with fail
        go_cut [89] from 72 to 88 (fun t wx => t = .bool (!dataB T m) ∧ wx = wc)
        case first =>
          by_cases h4 : m < 4
          · have HD : Hid (dataB T m = false) := by
              show _ = _
              unfold dataB
              rw [decide_eq_false (by omega)]
              rfl
            go_wp2
            go_meet
            exact ⟨by rw [HD.out]; rfl, rfl⟩
          · have hN4 : 4 ≤ N := by
              by_cases h : m ≤ C
              · have := HMN.out h; omega
              · have := HMC.out (by omega); omega
            have hN4i : (4 : Int) ≤ N := by omega
            have hC4i : (4 : Int) ≤ C := by omega
            have hC4 : 4 ≤ C := by omega
            have k4 := (HTb.out wc 0 4 HSc.out (by omega)).conv C
            rw [Nat.add_zero, List.drop_zero] at k4
            have t4 := strL_toList (T.take 4)
            by_cases hdat : (T.take 4 == [100, 97, 116, 97]) = true
            · by_cases h5 : 4 < m
              · have hN5 : 5 ≤ N := by
                  by_cases h : m ≤ C
                  · have := HMN.out h; omega
                  · have := HMC.out (by omega); omega
                have hN5i : (4 : Int) < N := by omega
                obtain ⟨x, hx⟩ : ∃ x, x = T.getD 4 0 := ⟨_, rfl⟩
                have hxc : wc.cell? ⟨g, o + 4, none⟩ = some (.int .u8 x.toNat) := by
                  obtain ⟨_, h2⟩ := HTb.out wc 4 1 HSc.out (by omega)
                  obtain ⟨b', off', hpp, hcc⟩ := h2 (by omega)
                  cases hpp
                  have h := hcc 0 (by omega)
                  rw [hx]
                  simpa using h
                have HD : Hid (dataB T m = (x == 58)) := by
                  show _ = _
                  unfold dataB
                  rw [hdat, decide_eq_true (by omega), decide_eq_false (by omega), ← hx]
                  simp
                rw [← t4] at hdat
                generalize strL (T.take 4) = s4 at *
                clear t4 hx
                by_cases hcol : x = 58
                · have hxn : ((x.toNat : Int) != 58) = false := by rw [hcol]; rfl
                  have HCOL := mkHid hcol
                  clear hcol
                  go_wp2
                  go_meet
                  exact ⟨by rw [HD.out, HCOL.out]; rfl, rfl⟩
                · have hxn : ((x.toNat : Int) != 58) = true := by
                    simp only [bne_iff_ne, ne_eq]
                    intro h
                    apply hcol
                    exact UInt8.toNat_inj.1 (by show x.toNat = 58; omega)
                  have HCOL := mkHid hcol
                  clear hcol
                  go_wp2
                  go_meet
                  exact ⟨by rw [HD.out, beq_eq_false_iff_ne.2 HCOL.out]; rfl, rfl⟩
              · have HD : Hid (dataB T m = true) := by
                  show _ = _
                  unfold dataB
                  rw [hdat, decide_eq_true (by omega), decide_eq_true (by omega)]
                  simp
                rw [← t4] at hdat
                generalize strL (T.take 4) = s4 at *
                clear t4
                go_wp2
                go_meet
                exact ⟨by rw [HD.out]; rfl, rfl⟩
            · have hdat' : (T.take 4 == [100, 97, 116, 97]) = false := by simpa using hdat
              have HD : Hid (dataB T m = false) := by
                show _ = _
                unfold dataB
                rw [hdat']
                simp
              rw [← t4] at hdat'
              generalize strL (T.take 4) = s4 at *
              clear t4 hdat
              go_wp2
              go_meet
              exact ⟨by rw [HD.out]; rfl, rfl⟩
        case rest =>
          obtain ⟨ht, hw⟩ := hcut
          subst hw
          by_cases hdat : dataB T m = true
          · have HD := mkHid hdat
            rw [hdat] at ht
            simp only [Bool.not_true] at ht
            subst ht
            have h4 : 4 ≤ m := by
              unfold dataB at hdat
              simp only [Bool.and_eq_true, decide_eq_true_eq] at hdat
              exact hdat.1.1
            obtain ⟨j, hj⟩ : ∃ j, j = if 4 < m then 5 else 4 := ⟨_, rfl⟩
            have HJ := mkHid hj
            have hjj : (4 < m ∧ j = 5) ∨ (m = 4 ∧ j = 4) := by
              by_cases h5 : 4 < m
              · left; rw [if_pos h5] at hj; exact ⟨h5, hj⟩
              · right; rw [if_neg h5] at hj; exact ⟨by omega, hj⟩
            have hjN : j ≤ N := by
              by_cases h : m ≤ C
              · have := HMN.out h; omega
              · have := HMC.out (by omega); omega
            clear hdat hj
            obtain ⟨V, hV⟩ : ∃ V, V = trimmed (T.drop j) := ⟨_, rfl⟩
            have HV := mkHid hV
            clear hV
            go_upto_region 14 with fail
            go_cut [6] from 90 to 96 (fun v wx => ∃ (p' : Option Addr) (n' c' : Nat), v = .slice p' n' c' ∧ Hid (BB wx p' n' V) ∧ Hid (Scn 41 wx g L 0 true c d dn e) ∧ Hid (w.grownBy wx (some g)))
            case first =>
              have kc := fun (C : Array Value) (n c : Nat) => Lib.run_convert_bytes_const (P := Try.prog) wc 23 5 C n c Try.underlying23 Try.underlying5
              have hS1 := HSc.out.alloc (.cells #[.int .u8 32] 5 (1, 2))
              have hB1 : BB (wc.alloc (.cells #[.int .u8 32] 5 (1, 2))) (some ⟨wc.heap.size, 0, none⟩) 1 [32] := BB.const wc [32] (1, 2) wc.heap.size 1 rfl rfl
              have hB0 := HTb.out _ j (N - j) hS1 (by omega)
              rw [List.take_of_length_le (by simp; have := HTl.out; omega)] at hB0
              have HS1 := mkHid hS1
              by_cases hp : pre [32] (T.drop j) = true
              · have C1 := mkHid (trim_yes _ g (o + j) (N - j) (C - j) _ 1 (T.drop j) [32] hB0 hB1 (by omega) (by omega) (by omega) hp)
                have hjN1 : j + 1 ≤ N := by
                  have h := hp
                  unfold pre at h
                  simp at h
                  have := HTl.out
                  omega
                have hB2 := HTb.out _ (j + 1) (N - j - 1) hS1 (by omega)
                rw [List.take_of_length_le (by simp; have := HTl.out; omega)] at hB2
                have hVV : V = T.drop (j + 1) := by rw [HV.out]; unfold trimmed; rw [if_pos hp, List.drop_drop]
                rw [← hVV] at hB2
                have HB2 := mkHid hB2
                clear hS1 hB1 hB0 hB2 hVV hp
                rcases (show m = 4 ∧ j = 4 ∨ m = 5 ∧ j = 5 ∨ 5 < m ∧ j = 5 from by omega) with ⟨hm4, hj4⟩ | ⟨hm4, hj4⟩ | ⟨hm4, hj4⟩
                · subst hm4
                  subst hj4
                  have hN4i : (4 : Int) ≤ N := by omega
                  have hC4 : ¬ C = 4 := by omega
                  clear hjj h4 hmb hm0b HR HM0 HMN HMC HJ HD hNm
                  go_wp2_with (go_at_call 23; refine C1.out.mono ?_; rintro e w' ⟨rfl, hw⟩; have hw := hw.symm; subst hw)
                  go_meet
                  exact ⟨_, _, _, rfl, HB2, HS1, fr_alloc HFr.out _⟩
                · subst hm4
                  subst hj4
                  have hN4i : (5 : Int) ≤ N := by omega
                  have hC4 : ¬ C = 5 := by omega
                  clear hjj h4 hmb hm0b HR HM0 HMN HMC HJ HD hNm
                  go_wp2_with (go_at_call 23; refine C1.out.mono ?_; rintro e w' ⟨rfl, hw⟩; have hw := hw.symm; subst hw)
                  go_meet
                  exact ⟨_, _, _, rfl, HB2, HS1, fr_alloc HFr.out _⟩
                · subst hj4
                  have hN4i : (5 : Int) ≤ N := by omega
                  have hC4 : ¬ C = 5 := by omega
                  clear hjj
                  go_wp2_with (go_at_call 23; refine C1.out.mono ?_; rintro e w' ⟨rfl, hw⟩; have hw := hw.symm; subst hw)
                  go_meet
                  exact ⟨_, _, _, rfl, HB2, HS1, fr_alloc HFr.out _⟩
              · have hp' : pre [32] (T.drop j) = false := by simpa using hp
                have C1 := mkHid (trim_no _ _ (N - j) (C - j) _ 1 1 (T.drop j) [32] hB0 hB1 (by omega) (by omega) hp')
                have hVV : V = T.drop j := by rw [HV.out]; unfold trimmed; rw [if_neg hp]
                rw [← hVV] at hB0
                have HB2 := mkHid hB0
                clear hS1 hB1 hB0 hVV hp hp'
                rcases (show m = 4 ∧ j = 4 ∨ m = 5 ∧ j = 5 ∨ 5 < m ∧ j = 5 from by omega) with ⟨hm4, hj4⟩ | ⟨hm4, hj4⟩ | ⟨hm4, hj4⟩
                · subst hm4
                  subst hj4
                  have hN4i : (4 : Int) ≤ N := by omega
                  have hC4 : ¬ C = 4 := by omega
                  clear hjj h4 hmb hm0b HR HM0 HMN HMC HJ HD hNm
                  go_wp2_with (go_at_call 23; refine C1.out.mono ?_; rintro e w' ⟨rfl, hw⟩; have hw := hw.symm; subst hw)
                  go_meet
                  exact ⟨_, _, _, rfl, HB2, HS1, fr_alloc HFr.out _⟩
                · subst hm4
                  subst hj4
                  have hN4i : (5 : Int) ≤ N := by omega
                  have hC4 : ¬ C = 5 := by omega
                  clear hjj h4 hmb hm0b HR HM0 HMN HMC HJ HD hNm
                  go_wp2_with (go_at_call 23; refine C1.out.mono ?_; rintro e w' ⟨rfl, hw⟩; have hw := hw.symm; subst hw)
                  go_meet
                  exact ⟨_, _, _, rfl, HB2, HS1, fr_alloc HFr.out _⟩
                · subst hj4
                  have hN4i : (5 : Int) ≤ N := by omega
                  have hC4 : ¬ C = 5 := by omega
                  clear hjj
                  go_wp2_with (go_at_call 23; refine C1.out.mono ?_; rintro e w' ⟨rfl, hw⟩; have hw := hw.symm; subst hw)
                  go_meet
                  exact ⟨_, _, _, rfl, HB2, HS1, fr_alloc HFr.out _⟩
            case rest =>
              obtain ⟨p', n', c', rfl, HBv, HSv, HFv⟩ := hcut
              have HDone : Hid (doneB T m = (decide (m ≤ (N : Int)) && (V == [91, 68, 79, 78, 69, 93]))) := by
                show _ = _
                unfold doneB
                rw [HTl.out, ← HJ.out, ← HV.out]
              have kv := HBv.out.conv c'
              have tv := strL_toList V
              have hd2 := HSv.out.get_d
              have hdn2 := HSv.out.get_dn
              have hF2 := HSv.out.free
              have HM := mkHid hm0b
              clear HSc HFr hd hdn he hF HBv HTb hjj hjN
              cases d with
              | true =>
                clear kv tv
                go_wp2
                go_ret
                exact EndPost.mk (HR.out.trans (endF_data HM0.out HD.out)) ((HSv.out.setDn false).setD true) (fr_set (fr_set HFv.out _ _) _ _)
              | false =>
                by_cases hmN : m ≤ (N : Int)
                · by_cases hvv : (V == [91, 68, 79, 78, 69, 93]) = true
                  · have hDn : doneB T m = true := by rw [HDone.out, hvv, decide_eq_true hmN]; rfl
                    have HDn := mkHid hDn
                    rw [← tv] at hvv
                    generalize strL V = sv at *
                    clear tv hDn
                    go_wp2
                    go_ret
                    refine EndPost.mk (HR.out.trans (endF_data HM0.out HD.out)) ?_ (fr_set (fr_set HFv.out _ _) _ _)
                    rw [HDn.out]
                    exact (HSv.out.setDn true).setD true
                  · have hvv' : (V == [91, 68, 79, 78, 69, 93]) = false := by simpa using hvv
                    have hDn : doneB T m = false := by rw [HDone.out, hvv', Bool.and_false]
                    have HDn := mkHid hDn
                    rw [← tv] at hvv'
                    generalize strL V = sv at *
                    clear tv hDn hvv
                    go_wp2
                    go_ret
                    refine EndPost.mk (HR.out.trans (endF_data HM0.out HD.out)) ?_ (fr_set (fr_set HFv.out _ _) _ _)
                    rw [HDn.out]
                    exact (HSv.out.setDn false).setD true
                · have hDn : doneB T m = false := by rw [HDone.out, decide_eq_false hmN, Bool.false_and]
                  have HDn := mkHid hDn
                  clear hDn kv tv
                  go_wp2
                  go_ret
                  refine EndPost.mk (HR.out.trans (endF_data HM0.out HD.out)) ?_ (fr_set (fr_set HFv.out _ _) _ _)
                  rw [HDn.out]
                  exact (HSv.out.setDn false).setD true
          · have hdat2 : dataB T m = false := by simpa using hdat
            have HD := mkHid hdat2
            rw [hdat2] at ht
            simp only [Bool.not_false] at ht
            subst ht
            clear hdat hdat2
            go_wp2
            go_ret
            exact EndPost.mk (HR.out.trans (endF_other HM0.out HD.out)) HSc.out HFr.out

set_option maxHeartbeats 1000000 in
theorem zzend_any (w : World) (g : Nat) (L : List UInt8) (n : Int) (b c d dn e : Bool) (S : Scn 41 w g L n b c d dn e) (K : Nat) (hn0 : 0 ≤ n) (hnb : n ≤ 9223372036854775807) (hK : (K : Int) = min n 15) :
    Calls Try.prog 15 #[.pointer (some ⟨g, 0, none⟩)] w fun e' w' => EndPost 41 w g L c (endF ((L.take K).drop (stripN b (L.take K))) (n - stripN b (L.take K)) d dn e) e' w' := by
  have C := mkHid (end_any w g L n b c d dn e S K hn0 hnb hK)
  clear S
  generalize endF ((L.take K).drop (stripN b (L.take K))) (n - stripN b (L.take K)) d dn e = R at *
  clear hK
  go_enter Try.func15, Try.ntmps15
  go_wp2_with (go_at_call 19; refine C.out.mono ?_; rintro e' w' ⟨rfl, h1, h2⟩; have H1 := mkHid h1; have H2 := mkHid h2; clear h1 h2)
  go_ret
  exact ⟨rfl, H1.out, H2.out⟩

end Go.Proofs.Qxb6601961a
