/-
  The walk of FnContainsAnyMatchesPairSearch.
-/
import Derived.Test.Qxb6601884aApp
namespace Go.Proofs.Qxb6601884a
open Go.RowKit
set_option linter.unusedVariables false

theorem Row.drewN {w : World} {a : Option Addr} {n cap : Nat} {l : List ByteArray} (R : Row w a n cap l) (q : Nat) : Row (w.drewN q) a n cap l :=
  R.keep (fun _ _ h => h)

theorem below_drawn {B : Nat} {w w' : World} (h : Below B w w') (q : Nat) : Below B w (w'.drewN q) := ⟨h.os, h.tape, h.output, h.size, h.block⟩

theorem mem_take_succ (l : List ByteArray) (k : Nat) (h : k < l.length) (x : ByteArray) : x ∈ l.take (k + 1) ↔ x ∈ l.take k ∨ x = l.getD k ByteArray.empty := by
  rw [take_snoc_getD l k h, List.mem_append, List.mem_singleton]

set_option maxHeartbeats 1000000 in
theorem law6 (w : World) (a : Option Addr) (n cap : Nat) (l : List ByteArray) (R : Row w a n cap l)
    (a2 : Option Addr) (n2 cap2 : Nat) (vs : List ByteArray) (R2 : Row w a2 n2 cap2 vs) :
    Calls Try.prog 6 #[.slice a n cap, .slice a2 n2 cap2] w fun e w' => e = .returned (.bool true) ∧ Below w.heap.size w w' := by
  have qn22 : ∀ (w : World) (a : Option Addr) (n c n' c' : Nat), (binOp .neq 22 (.slice a n c) (.slice none n' c')).run Try.prog w = .ok (.bool (!a.isNone)) w := fun w a n c n' c' => run_neq_slice_nil_any w 22 9 a n c n' c' Try.underlying22
  have CB := mkHid (bytes17_any w a n cap l R a2 n2 cap2 vs R2)
  have CR1 := mkHid (room_any w a n cap l R 1048576 (by omega) (by omega))
  have CR2 : Hid (∀ r : Int, -1 ≤ r → r ≤ 1048576 → Calls Try.prog 10 #[.slice a2 n2 cap2, .int .i64 r] w fun e w' => ∃ r' : Int, e = .returned (.int .i64 r') ∧ w' = w ∧ -1 ≤ r' ∧ r' ≤ 1048576 ∧ (0 ≤ r' → 0 ≤ r ∧ n2 ≤ 4096)) := fun r h1 h2 => room_any w a2 n2 cap2 vs R2 r h1 h2
  have HR := mkHid R
  have HR2 := mkHid R2
  clear R R2
  obtain ⟨i0, hi, hz0, hz1, hz2⟩ := info_parts Try.info9
  go_enter Try.func6, Try.ntmps6
  go_upto_if 20 with (first
    | (go_at_call 17; refine CB.out.mono ?_; rintro e w' ⟨r0, rfl, hw⟩; have hw := hw.symm; subst hw)
    | (go_at_call_of 10 (Value.slice a n cap); refine CR1.out.mono ?_; rintro e w' ⟨r1, rfl, hw, h1, h2, h3⟩; have hw := hw.symm; subst hw)
    | (go_at_call 10; refine (CR2.out _ (by assumption) (by assumption)).mono ?_; rintro e w' ⟨r2, rfl, hw, h4, h5, h6⟩; have hw := hw.symm; subst hw))
  · go_ret
    exact ⟨rfl, Below.refl _ _⟩
  · go_ret
    exact ⟨rfl, Below.refl _ _⟩
  have hn : n ≤ 4096 := (h3 (h6 (by omega)).1).2
  have hn2 : n2 ≤ 4096 := (h6 (by omega)).2
  clear CB CR1 CR2 h1 h2 h3 h4 h5 h6
  go_cut [0] (fun v wc => ∃ (a' : Option Addr) (cap' : Nat), v = .slice a' n cap' ∧ Hid (Row wc a' n cap' l) ∧ Hid (Below w.heap.size w wc))
  case first =>
    cases a with
    | none =>
      go_wp2
      go_meet
      exact ⟨_, _, rfl, HR, mkHid (Below.refl _ _)⟩
    | some x =>
      obtain ⟨cs, hcs⟩ : ∃ cs, cs = l.map Value.string := ⟨_, rfl⟩
      have HCS : Hid (cs = l.map Value.string) := hcs
      have HL : Hid (cs.length = n) := by rw [hcs]; show _ = _; simp [HR.out.1]
      clear hcs
      go_wp2_with (first
        | (at_make; refine wpList_make_full _ rfl (.tmp 22) (.tmp 22) 22 rfl w.heap.size 9 i0 (.string ByteArray.empty) 1 Try.underlying22 hi hz0 hz1 .i64 .i64 (n : Int) (n : Int) n rfl rfl rfl rfl (by rw [hz2]; omega) (by unfold maxLen; omega) (Nat.le_refl _) ?_; intro w1 hown1 hgrow1; have HO := mkHid hown1; have HG := mkHid hgrow1; clear hown1 hgrow1)
        | (refine wpList_copy_splice rfl (.tmp 24) (.tmp 25) 22 22 rfl 9 Try.underlying22 Try.size9 _ _ _ _ _ _ rfl rfl w.heap.size 0 _ 9 (made_list HO.out) cs (by rw [HL.out]; exact (Nat.min_self _).symm) (by intro hp; rw [HCS.out] at hp ⊢; exact ⟨rfl, row_src HR.out (keep_below ((Below.refl _ _).grown HG.out (Nat.le_refl _) (by intro k h; cases h))) hp⟩) (by have h1 := HO.out.1; have h2 := HL.out; omega) (by rw [HCS.out]; exact strings_oneCell l) w.heap.size w ((Below.refl _ _).grown HG.out (Nat.le_refl _) (by intro k h; cases h)) (Nat.le_refl _) ?_; intro w2 HG2 hB2; have HB2 := mkHid hB2; clear hB2))
      go_meet
      have ho := owns_spliced (base := w.heap.size) (Nat.le_refl _) (by unfold maxLen; omega) (by have h1 := HO.out.1; omega) HL.out HG2.out
      rw [HCS.out] at ho
      obtain ⟨a', cap', hv, hR'⟩ := Row.of_owns ho HR.out.2.2.2.1
      exact ⟨a', cap', hv, hR', HB2⟩
  case rest =>
    obtain ⟨a', cap', rfl, HRa, HBa⟩ := hcut
    have HRb := mkHid (HR2.out.below HBa.out)
    clear HR HR2
    go_upto_if 29 with fail
    go_cut [1] (fun v wd => ∃ (b' : Option Addr) (cap2' : Nat), v = .slice b' n2 cap2' ∧ Hid (Row wd a' n cap' l) ∧ Hid (Row wd b' n2 cap2' vs) ∧ Hid (Below w.heap.size w wd))
    case first =>
      cases a2 with
      | none =>
        go_wp2
        go_meet
        exact ⟨_, _, rfl, HRa, HRb, HBa⟩
      | some x =>
        obtain ⟨cs, hcs⟩ : ∃ cs, cs = vs.map Value.string := ⟨_, rfl⟩
        have HCS : Hid (cs = vs.map Value.string) := hcs
        have HL : Hid (cs.length = n2) := by rw [hcs]; show _ = _; simp [HRb.out.1]
        clear hcs
        go_wp2_with (first
          | (at_make; refine wpList_make_full _ rfl (.tmp 31) (.tmp 31) 22 rfl wc.heap.size 9 i0 (.string ByteArray.empty) 1 Try.underlying22 hi hz0 hz1 .i64 .i64 (n2 : Int) (n2 : Int) n2 rfl rfl rfl rfl (by rw [hz2]; omega) (by unfold maxLen; omega) (Nat.le_refl _) ?_; intro w1 hown1 hgrow1; have HO := mkHid hown1; have HG := mkHid hgrow1; clear hown1 hgrow1)
          | (refine wpList_copy_splice rfl (.tmp 33) (.tmp 34) 22 22 rfl 9 Try.underlying22 Try.size9 _ _ _ _ _ _ rfl rfl wc.heap.size 0 _ 9 (made_list HO.out) cs (by rw [HL.out]; exact (Nat.min_self _).symm) (by intro hp; rw [HCS.out] at hp ⊢; exact ⟨rfl, row_src HRb.out (keep_below ((Below.refl _ _).grown HG.out (Nat.le_refl _) (by intro k h; cases h))) hp⟩) (by have h1 := HO.out.1; have h2 := HL.out; omega) (by rw [HCS.out]; exact strings_oneCell vs) wc.heap.size wc ((Below.refl _ _).grown HG.out (Nat.le_refl _) (by intro k h; cases h)) (Nat.le_refl _) ?_; intro w2 HG2 hB2; have HB2 := mkHid hB2; clear hB2))
        go_meet
        have ho := owns_spliced (base := wc.heap.size) (Nat.le_refl _) (by unfold maxLen; omega) (by have h1 := HO.out.1; omega) HL.out HG2.out
        rw [HCS.out] at ho
        obtain ⟨b', cap2', hv, hR'⟩ := Row.of_owns ho HRb.out.2.2.2.1
        exact ⟨b', cap2', hv, HRa.out.below HB2.out, hR', HBa.out.trans (HB2.out.mono HBa.out.size)⟩
    case rest =>
      obtain ⟨b', cap2', rfl, HRc, HRd, HBc⟩ := hcut
      clear HRa HRb HBa hi hz0 hz1 hz2 qn22 i0
      go_wp2
      go_loopw [7, 8] (fun t i wr => ∃ (k q : Nat) (b : Bool), k ≤ n ∧ i = .int .i64 k ∧ t = .bool b ∧ wr = wc.drewN q ∧ Hid (b = true ↔ ∃ x ∈ l.take k, x ∈ vs)) (fun _ i _ => n - (intOf i).toNat)
      case atStart => exact ⟨0, 0, false, Nat.zero_le _, rfl, rfl, rfl, by show _ ↔ _; simp⟩
      case round =>
        obtain ⟨k, q, b, hk, rfl, rfl, rfl, H⟩ := hrel
        by_cases hlt : k < n
        · obtain ⟨s, hs⟩ : ∃ s, s = l.getD k ByteArray.empty := ⟨_, rfl⟩
          obtain ⟨b1, off1, rfl, hc⟩ := HRc.out.sat (by omega)
          have hcell := hc k hlt
          rw [← hs] at hcell
          have HS := mkHid hs
          have hlti : (k : Int) < (n : Int) := by omega
          clear hs hc
          go_wp2
          go_loopw [7, 9] (fun t i wr => ∃ (j q : Nat) (b : Bool), j ≤ n2 ∧ i = .int .i64 j ∧ t = .bool b ∧ wr = wc.drewN q ∧ Hid (b = true ↔ (∃ x ∈ l.take k, x ∈ vs) ∨ s ∈ vs.take j)) (fun _ i _ => n2 - (intOf i).toNat)
          case atStart => exact ⟨0, q, b, Nat.zero_le _, rfl, rfl, rfl, by have h := H.out; show _ ↔ _; simpa using h⟩
          case round =>
            clear H
            obtain ⟨j, q1, b1, hj, rfl, rfl, rfl, H1⟩ := hrel
            by_cases hlt2 : j < n2
            · obtain ⟨t, ht⟩ : ∃ t, t = vs.getD j ByteArray.empty := ⟨_, rfl⟩
              obtain ⟨b2, off2, rfl, hc⟩ := HRd.out.sat (by omega)
              have hcell2 := hc j hlt2
              rw [← ht] at hcell2
              have HT := mkHid ht
              have hlti2 : (j : Int) < (n2 : Int) := by omega
              clear ht hc
              go_wp2
              go_quiet (fail)
              go_wp2
              · go_roundw
                case rel =>
                  refine ⟨j + 1, _, true, by omega, by go_num, rfl, rfl, ?_⟩
                  have he := (Lib.bytes_beq_iff s t).1 ‹_›
                  show _ ↔ _
                  rw [mem_take_succ vs j (by have := HRd.out.1; omega), ← HT.out, he]
                  simp
                case measure => simp [intOf]; omega
              · go_roundw
                case rel =>
                  refine ⟨j + 1, _, b1, by omega, by go_num, rfl, rfl, ?_⟩
                  have he := (Lib.bytes_beq_false_iff s t).1 ‹_›
                  have h := H1.out
                  show _ ↔ _
                  rw [mem_take_succ vs j (by have := HRd.out.1; omega), ← HT.out, h]
                  simp [he]
                case measure => simp [intOf]; omega
            · go_wp2
              go_roundw
              case rel =>
                refine ⟨k + 1, _, b1, by omega, by go_num, rfl, rfl, ?_⟩
                have h := H1.out
                rw [show vs.take j = vs from List.take_of_length_le (by have := HRd.out.1; omega)] at h
                show _ ↔ _
                rw [h]
                constructor
                · rintro (⟨x, hx, hv⟩ | hsv)
                  · exact ⟨x, (mem_take_succ l k (by have := HRc.out.1; omega) x).2 (.inl hx), hv⟩
                  · exact ⟨s, (mem_take_succ l k (by have := HRc.out.1; omega) s).2 (.inr HS.out), hsv⟩
                · rintro ⟨x, hx, hv⟩
                  rcases (mem_take_succ l k (by have := HRc.out.1; omega) x).1 hx with hx | hx
                  · exact .inl ⟨x, hx, hv⟩
                  · exact .inr (by rw [HS.out, ← hx]; exact hv)
              case measure => simp [intOf]; omega
        · have C : Hid (Calls Try.prog 18 #[.slice a' n cap', .slice b' n2 cap2'] (wc.drewN q) fun e w' => e = .returned (.bool b) ∧ w' = wc.drewN q) :=
            zzany_any (wc.drewN q) a' n cap' l (HRc.out.drewN q) b' n2 cap2' vs (HRd.out.drewN q) b (by
              have h := H.out
              rw [List.take_of_length_le (by have := HRc.out.1; omega)] at h
              show _ ↔ _
              rw [h]
              exact ⟨fun ⟨x, h1, h2⟩ => ⟨x, h2, h1⟩, fun ⟨x, h1, h2⟩ => ⟨x, h2, h1⟩⟩)
          go_wp2_with (go_at_call 18; refine C.out.mono ?_; rintro e w' ⟨rfl, hw⟩; have hw := hw.symm; subst hw)
          go_ret
          exact ⟨by simp, below_drawn HBc.out q⟩

end Go.Proofs.Qxb6601884a
