/-
  The walks of validName and of the law's own model of it.
-/
import Derived.Test.Qxb6600766aRows
import Derived.WalkKit
import Derived.WalkSpells
import Derived.WalkLawsBesides
import Derived.Deep.QuietTactic
import Derived.BigQuiet
import Derived.Deep.RegionWith
import Derived.Deep.CutRange
import Derived.Deep.DeepCutAuto
namespace Go.Proofs.Qxb6600766a
open Go.RowKit
set_option linter.unusedVariables false

theorem mkHid {p : Prop} (h : p) : Hid p := h
theorem sret_bool {a b : Bool} (h : a = b) : Ending.returned (.bool a) = .returned (.bool b) := by rw [h]

/-- A lower-case ASCII letter or a digit. -/
def okc (c : UInt8) : Prop := (97 ≤ (c.toNat : Int) ∧ (c.toNat : Int) ≤ 122) ∨ (48 ≤ (c.toNat : Int) ∧ (c.toNat : Int) ≤ 57)

/-- One such sign or more, and nothing else. -/
def Valid (s : ByteArray) (k : Nat) : Prop := 0 < s.size ∧ ∀ i (h : i < s.size), i < k → okc s[i]

theorem Valid.step {s : ByteArray} {k : Nat} (h : Valid s k) (hk : k < s.size) (hc : okc s[k]) : Valid s (k + 1) := by
  refine ⟨h.1, fun i hi hik => ?_⟩
  by_cases e : i = k
  · subst e; exact hc
  · exact h.2 i hi (by omega)

theorem Valid.back {s : ByteArray} {k m : Nat} (h : Valid s m) (hk : k ≤ m) : Valid s k := ⟨h.1, fun i hi hik => h.2 i hi (by omega)⟩

theorem Valid.back_eq {s : ByteArray} {k : Nat} (h : Valid s k) (hk : s.size ≤ k) : Valid s s.size := ⟨h.1, fun i hi hik => h.2 i hi (by omega)⟩

set_option maxHeartbeats 400000 in
theorem valid_any (s : ByteArray) (r : Bool) (hs : s.size ≤ maxLen) (hr : Hid (r = true ↔ Valid s s.size)) (w : World) :
    Calls Try.prog 28 #[.string s] w fun e w' => e = .returned (.bool r) ∧ w' = w := by
  unfold maxLen at hs
  by_cases h0 : s.size = 0
  · have hl : s.toList.isEmpty = true := by
      rw [ByteArray.toList_eq, List.isEmpty_iff_length_eq_zero]; simpa using h0
    have hrf : r = false := by
      rw [Bool.eq_false_iff]; intro h; have := (hr.out.1 h).1; omega
    subst hrf
    clear hr
    go_enter Try.func28, Try.ntmps28
    go_wp2
    go_ret
    exact ⟨rfl, rfl⟩
  · have hl : s.toList.isEmpty = false := by
      rw [ByteArray.toList_eq, Bool.eq_false_iff]; intro h; rw [List.isEmpty_iff_length_eq_zero] at h; exact h0 (by simpa using h)
    go_enter Try.func28, Try.ntmps28
    go_wp2
    go_loop [3] (fun i => ∃ k : Nat, k ≤ s.size ∧ i = .int .i64 k ∧ Hid (Valid s k)) (fun i => s.size - (intOf i).toNat)
    case atStart => exact ⟨0, Nat.zero_le _, rfl, by omega, fun i hi h => absurd h (Nat.not_lt_zero _)⟩
    case round =>
      obtain ⟨k, hk, rfl, H⟩ := hrel
      by_cases hlt : k < s.size
      · go_wp2
        all_goals first
          | (go_round
             case rel => exact ⟨k + 1, by omega, by go_num, H.out.step hlt (by unfold okc; omega)⟩
             case measure => simp [intOf]; omega)
          | (go_ret
             have hno : ¬ okc s[k] := by unfold okc; omega
             have hrf : r = false := by
               rw [Bool.eq_false_iff]; intro h; exact hno ((hr.out.1 h).2 k hlt hlt)
             exact ⟨sret_bool hrf.symm, rfl⟩)
      · go_wp2
        go_ret
        have hrt : r = true := hr.out.2 (H.out.back_eq (by omega))
        exact ⟨sret_bool hrt.symm, rfl⟩

set_option maxHeartbeats 400000 in
theorem zzvalid_any (s : ByteArray) (r : Bool) (hs : s.size ≤ maxLen) (hr : Hid (r = true ↔ Valid s s.size)) (w : World) :
    Calls Try.prog 19 #[.string s] w fun e w' => e = .returned (.bool r) ∧ w' = w := by
  have C := mkHid (valid_any s r hs hr w)
  clear hr
  go_enter Try.func19, Try.ntmps19
  go_wp2_with (go_at_call 28; refine C.out.mono ?_; rintro e w' ⟨rfl, hw⟩; have hw := hw.symm; subst hw)
  go_ret
  exact ⟨rfl, rfl⟩

theorem below_drawn {B : Nat} {w w' : World} (h : Below B w w') (q : Nat) : Below B w (w'.drewN q) := ⟨h.os, h.tape, h.output, h.size, h.block⟩

/-- The alphabet's j-th sign, as a number. -/
def al (j : Nat) : Int := if j < 26 then 97 + j else 22 + j

theorem alpha_fin : ∀ j : Fin 36, (((#[97, 98, 99, 100, 101, 102, 103, 104, 105, 106, 107, 108, 109, 110, 111, 112, 113, 114, 115, 116, 117, 118, 119, 120, 121, 122, 48, 49, 50, 51, 52, 53, 54, 55, 56, 57] : Array UInt8)[j.val]'(by simp)).toNat : Int) = al j.val := by decide

theorem alpha_at (j : Nat) (h : j < (ByteArray.mk #[97, 98, 99, 100, 101, 102, 103, 104, 105, 106, 107, 108, 109, 110, 111, 112, 113, 114, 115, 116, 117, 118, 119, 120, 121, 122, 48, 49, 50, 51, 52, 53, 54, 55, 56, 57]).size) : (((ByteArray.mk #[97, 98, 99, 100, 101, 102, 103, 104, 105, 106, 107, 108, 109, 110, 111, 112, 113, 114, 115, 116, 117, 118, 119, 120, 121, 122, 48, 49, 50, 51, 52, 53, 54, 55, 56, 57])[j]'h).toNat : Int) = al j :=
  alpha_fin ⟨j, show j < 36 from h⟩

theorem okc_of (c : UInt8) (j : Nat) (hj : j < 36) (h : al j = (c.toNat : Int)) : okc c := by
  unfold al at h; unfold okc; split at h <;> omega

theorem okc_at (c : UInt8) (h : okc c) : ∃ j, j < 36 ∧ al j = (c.toNat : Int) := by
  unfold okc at h
  rcases h with h | h
  · exact ⟨c.toNat - 97, by omega, by unfold al; rw [if_pos (by omega)]; omega⟩
  · exact ⟨c.toNat - 22, by omega, by unfold al; rw [if_neg (by omega)]; omega⟩

set_option maxHeartbeats 1000000 in
theorem law (s : ByteArray) (hs : s.size ≤ maxLen) (w : World) :
    Calls Try.prog 6 #[.string s] w fun e w' => e = .returned (.bool true) ∧ Below w.heap.size w w' := by
  have HS := mkHid hs
  by_cases hb : (s.size : Int) ≤ 1048576
  · unfold maxLen at hs
    go_enter Try.func6, Try.ntmps6
    go_wp2
    go_loopw [3, 4] (fun t i wr => ∃ (k q : Nat) (b : Bool), k ≤ s.size ∧ i = .int .i64 k ∧ t = .bool b ∧ wr = w.drewN q ∧ Hid (b = true ↔ Valid s k)) (fun _ i _ => s.size - (intOf i).toNat)
    case atStart => exact ⟨0, 0, _, Nat.zero_le _, rfl, rfl, rfl, by show _ ↔ _; simp [Valid]⟩
    case round =>
      obtain ⟨k, q, b, hk, rfl, rfl, rfl, H⟩ := hrel
      by_cases hlt : k < s.size
      · cases b with
        | false =>
          have C := mkHid (zzvalid_any s false HS.out (by
            show _ ↔ _
            constructor
            · intro h; cases h
            · intro h; exact H.out.2 (h.back (by omega))) (w.drewN q))
          go_wp2_with (go_at_call 19; refine C.out.mono ?_; rintro e w' ⟨rfl, hw⟩; have hw := hw.symm; subst hw)
          go_ret
          exact ⟨by simp, below_drawn (Below.refl _ _) q⟩
        | true =>
          have HV := mkHid (H.out.1 rfl)
          clear H
          go_wp2
          go_loopw [5, 6] (fun f i wr => ∃ (j q : Nat), j ≤ 36 ∧ i = .int .i64 j ∧ f = .bool false ∧ wr = w.drewN q ∧ Hid (∀ i, i < j → al i ≠ (s[k].toNat : Int))) (fun _ i _ => 36 - (intOf i).toNat)
          case atStart => exact ⟨0, q, Nat.zero_le _, rfl, rfl, rfl, fun i hi => absurd hi (Nat.not_lt_zero _)⟩
          case round =>
            obtain ⟨j, q1, hj, rfl, rfl, rfl, H1⟩ := hrel
            have hlti : (k : Int) < (s.size : Int) := by omega
            by_cases hlt2 : j < 36
            · have hlti2 : (j : Int) < 36 := by omega
              go_wp2
              go_quiet (fail)
              go_wp2
              · go_roundw
                case rel =>
                  have he := beq_iff_eq.1 ‹(_ == (s[k].toNat : Int)) = true›
                  rw [alpha_at] at he
                  have hv := HV.out.step hlt (okc_of s[k] j hlt2 he)
                  exact ⟨k + 1, _, true, by omega, by go_num, rfl, rfl, ⟨fun _ => hv, fun _ => rfl⟩⟩
                case measure => simp [intOf]; omega
              · go_roundw
                case rel =>
                  have he := beq_eq_false_iff_ne.1 ‹(_ == (s[k].toNat : Int)) = false›
                  rw [alpha_at] at he
                  refine ⟨j + 1, _, by omega, by go_num, rfl, rfl, fun i hi => ?_⟩
                  by_cases e : i = j
                  · subst e; exact he
                  · exact H1.out i (by omega)
                case measure => simp [intOf]; omega
            · go_wp2
              go_roundw
              case rel =>
                refine ⟨k + 1, _, false, by omega, by go_num, rfl, rfl, ?_⟩
                show _ ↔ _
                constructor
                · intro h; cases h
                · intro h
                  obtain ⟨i, hi, he⟩ := okc_at s[k] (h.2 k hlt (by omega))
                  exact absurd he (H1.out i (by omega))
              case measure => simp [intOf]; omega
      · have C := mkHid (zzvalid_any s b HS.out (by
            have h := H.out
            have e : k = s.size := by omega
            rw [e] at h
            exact h) (w.drewN q))
        go_wp2_with (go_at_call 19; refine C.out.mono ?_; rintro e w' ⟨rfl, hw⟩; have hw := hw.symm; subst hw)
        go_ret
        exact ⟨by simp, below_drawn (Below.refl _ _) q⟩
  · unfold maxLen at hs
    go_enter Try.func6, Try.ntmps6
    go_wp2
    go_ret
    exact ⟨rfl, Below.refl _ _⟩

end Go.Proofs.Qxb6600766a
