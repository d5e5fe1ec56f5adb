/-
  The walk of the law over decimalArithmetic.
-/
import Derived.Test.Qxb6600783aDec
import Derived.Deep.RegionWith
namespace Go.Proofs.Qxb6600783a
open Go.RowKit
set_option linter.unusedSimpArgs false
set_option linter.unusedVariables false

theorem capF_bd (w md : Int) : 15 ≤ capF w md ∧ capF w md ≤ 38 := by unfold capF; split <;> (try split) <;> omega

set_option maxHeartbeats 1000000 in
theorem law_far (op lp ls rp rs md : Int) (h n : Bool) (w : World) (hop : op < 0 ∨ 4 < op) :
    Calls Try.prog 6 #[.int .i64 op, .int .i64 lp, .int .i64 ls, .int .i64 rp, .int .i64 rs, .int .i64 md, .bool h, .bool n] w fun e w' => e = .returned (.bool true) ∧ Below w.heap.size w w' := by
  rcases hop with hop | hop
  · go_enter Try.func6, Try.ntmps6
    go_wp2
    go_ret
    exact ⟨rfl, Below.refl _ _⟩
  · go_enter Try.func6, Try.ntmps6
    go_wp2
    go_ret
    exact ⟨rfl, Below.refl _ _⟩

set_option maxHeartbeats 1000000 in
theorem law_wide (op lp ls rp rs md : Int) (h n : Bool) (w : World) (h0 : 0 ≤ op) (h4 : op ≤ 4)
    (hout : (lp < -268435456 ∨ 268435456 < lp) ∨ (ls < -268435456 ∨ 268435456 < ls) ∨ (rp < -268435456 ∨ 268435456 < rp) ∨ (rs < -268435456 ∨ 268435456 < rs)) :
    Calls Try.prog 6 #[.int .i64 op, .int .i64 lp, .int .i64 ls, .int .i64 rp, .int .i64 rs, .int .i64 md, .bool h, .bool n] w fun e w' => e = .returned (.bool true) ∧ Below w.heap.size w w' := by
  by_cases g1 : -268435456 ≤ lp ∧ lp ≤ 268435456
  · by_cases g2 : -268435456 ≤ ls ∧ ls ≤ 268435456
    · by_cases g3 : -268435456 ≤ rp ∧ rp ≤ 268435456
      · have g4 : rs < -268435456 ∨ 268435456 < rs := by omega
        clear hout
        obtain ⟨x1, y1⟩ := g1; obtain ⟨x2, y2⟩ := g2; obtain ⟨x3, y3⟩ := g3
        rcases g4 with g4 | g4
        all_goals
          go_enter Try.func6, Try.ntmps6
          go_wp2
          go_ret
          exact ⟨rfl, Below.refl _ _⟩
      · have g4 : rp < -268435456 ∨ 268435456 < rp := by omega
        clear hout g3
        obtain ⟨x1, y1⟩ := g1; obtain ⟨x2, y2⟩ := g2
        rcases g4 with g4 | g4
        all_goals
          go_enter Try.func6, Try.ntmps6
          go_wp2
          go_ret
          exact ⟨rfl, Below.refl _ _⟩
    · have g4 : ls < -268435456 ∨ 268435456 < ls := by omega
      clear hout g2
      obtain ⟨x1, y1⟩ := g1
      rcases g4 with g4 | g4
      all_goals
        go_enter Try.func6, Try.ntmps6
        go_wp2
        go_ret
        exact ⟨rfl, Below.refl _ _⟩
  · have g4 : lp < -268435456 ∨ 268435456 < lp := by omega
    clear hout g1
    rcases g4 with g4 | g4
    all_goals
      go_enter Try.func6, Try.ntmps6
      go_wp2
      go_ret
      exact ⟨rfl, Below.refl _ _⟩

set_option maxHeartbeats 1000000 in
theorem law_add (op lp ls rp rs md : Int) (h n : Bool) (w : World) (hop : op = 0 ∨ op = 1)
    (a1 : -268435456 ≤ lp) (a2 : lp ≤ 268435456) (b1 : -268435456 ≤ ls) (b2 : ls ≤ 268435456) (c1 : -268435456 ≤ rp) (c2 : rp ≤ 268435456) (d1 : -268435456 ≤ rs) (d2 : rs ≤ 268435456) :
    Calls Try.prog 6 #[.int .i64 op, .int .i64 lp, .int .i64 ls, .int .i64 rp, .int .i64 rs, .int .i64 md, .bool h, .bool n] w fun e w' => e = .returned (.bool true) ∧ Below w.heap.size w w' := by
  obtain ⟨S, hS⟩ : ∃ S, S = max ls rs := ⟨_, rfl⟩
  obtain ⟨M, hM⟩ : ∃ M, M = max lp rp := ⟨_, rfl⟩
  obtain ⟨A, hA⟩ : ∃ A, A = max (lp + (S - ls)) (rp + (S - rs)) := ⟨_, rfl⟩
  obtain ⟨c, hc⟩ : ∃ c, c = capF M md := ⟨_, rfl⟩
  obtain ⟨p, hp⟩ : ∃ p, p = min c (A + 1) := ⟨_, rfl⟩
  have C1 : Hid (∀ w, _) := fun w => max_any lp rp w
  rw [← hM] at C1
  have C2 : Hid (∀ w, _) := fun w => max_any ls rs w
  rw [← hS] at C2
  have C3 : Hid (∀ w, _) := fun w => max_any (lp + (S - ls)) (rp + (S - rs)) w
  rw [← hA] at C3
  have C4 : Hid (∀ w, _) := fun w => capModel_any M md w
  rw [← hc] at C4
  have C5 : Hid (∀ w, _) := fun w => min_any c (A + 1) w
  rw [← hp] at C5
  have C6 : Hid (∀ w, _) := fun w => zzarith_of op lp ls rp rs md p S h n w (fun w => arith_add op lp ls rp rs md p S h n w hop a1 a2 b1 b2 c1 c2 d1 d2 (by show _ = _; rw [← hM, ← hc]; omega) hS)
  have s1 : -268435456 ≤ S := by omega
  have s2 : S ≤ 268435456 := by omega
  have t1 : -805306368 ≤ A := by omega
  have t2 : A ≤ 805306368 := by omega
  clear hS hM hA hc hp
  rcases hop with rfl | rfl
  all_goals
    go_enter Try.func6, Try.ntmps6
    go_wp2_with (first
      | (go_at_call 14; go_in)
      | (go_at_call_of 17 (Value.int .i64 lp); refine (C1.out _).mono ?_; rintro e w' ⟨rfl, rfl⟩)
      | (go_at_call_of 17 (Value.int .i64 ls); refine (C2.out _).mono ?_; rintro e w' ⟨rfl, rfl⟩)
      | (go_at_call 17; refine (C3.out _).mono ?_; rintro e w' ⟨rfl, rfl⟩)
      | (go_at_call 16; refine (C4.out _).mono ?_; rintro e w' ⟨rfl, rfl⟩)
      | (go_at_call 18; refine (C5.out _).mono ?_; rintro e w' ⟨rfl, rfl⟩)
      | (go_at_call 15; refine (C6.out _).mono ?_; rintro e w' ⟨rfl, hb⟩; obtain ⟨hc, hf⟩ := bcell hb))
    go_ret
    have hz := hb.size
    simp at hz
    exact ⟨by simp, (((((Below.refl _ _).alloc (Nat.le_refl _) _).alloc (by simp) _).alloc (by simp; omega) _).trans (hb.mono (by simp; omega))).alloc (by omega) _⟩

set_option maxHeartbeats 1000000 in
theorem law_mul (op lp ls rp rs md : Int) (h n : Bool) (w : World) (hop : op = 2)
    (a1 : -268435456 ≤ lp) (a2 : lp ≤ 268435456) (b1 : -268435456 ≤ ls) (b2 : ls ≤ 268435456) (c1 : -268435456 ≤ rp) (c2 : rp ≤ 268435456) (d1 : -268435456 ≤ rs) (d2 : rs ≤ 268435456) :
    Calls Try.prog 6 #[.int .i64 op, .int .i64 lp, .int .i64 ls, .int .i64 rp, .int .i64 rs, .int .i64 md, .bool h, .bool n] w fun e w' => e = .returned (.bool true) ∧ Below w.heap.size w w' := by
  obtain ⟨M, hM⟩ : ∃ M, M = max lp rp := ⟨_, rfl⟩
  obtain ⟨c, hc⟩ : ∃ c, c = capF M md := ⟨_, rfl⟩
  obtain ⟨p, hp⟩ : ∃ p, p = min c (lp + rp) := ⟨_, rfl⟩
  have C1 : Hid (∀ w, _) := fun w => max_any lp rp w
  rw [← hM] at C1
  have C4 : Hid (∀ w, _) := fun w => capModel_any M md w
  rw [← hc] at C4
  have C5 : Hid (∀ w, _) := fun w => min_any c (lp + rp) w
  rw [← hp] at C5
  have C6 : Hid (∀ w, _) := fun w => zzarith_of op lp ls rp rs md p (ls + rs) h n w (fun w => arith_mul op lp ls rp rs md p (ls + rs) h n w hop a1 a2 b1 b2 c1 c2 d1 d2 (by show _ = _; rw [← hM, ← hc]; omega) rfl)
  clear hM hc hp
  subst hop
  all_goals
    go_enter Try.func6, Try.ntmps6
    go_wp2_with (first
      | (go_at_call 14; go_in)
      | (go_at_call 17; refine (C1.out _).mono ?_; rintro e w' ⟨rfl, rfl⟩)
      | (go_at_call 16; refine (C4.out _).mono ?_; rintro e w' ⟨rfl, rfl⟩)
      | (go_at_call 18; refine (C5.out _).mono ?_; rintro e w' ⟨rfl, rfl⟩)
      | (go_at_call 15; refine (C6.out _).mono ?_; rintro e w' ⟨rfl, hb⟩; obtain ⟨hc, hf⟩ := bcell hb))
    go_ret
    have hz := hb.size
    simp at hz
    exact ⟨by simp, (((((Below.refl _ _).alloc (Nat.le_refl _) _).alloc (by simp) _).alloc (by simp; omega) _).trans (hb.mono (by simp; omega))).alloc (by omega) _⟩

set_option maxHeartbeats 1000000 in
theorem law_div (op lp ls rp rs md : Int) (h n : Bool) (w : World) (hop : op = 3 ∨ op = 4)
    (a1 : -268435456 ≤ lp) (a2 : lp ≤ 268435456) (b1 : -268435456 ≤ ls) (b2 : ls ≤ 268435456) (c1 : -268435456 ≤ rp) (c2 : rp ≤ 268435456) (d1 : -268435456 ≤ rs) (d2 : rs ≤ 268435456) :
    Calls Try.prog 6 #[.int .i64 op, .int .i64 lp, .int .i64 ls, .int .i64 rp, .int .i64 rs, .int .i64 md, .bool h, .bool n] w fun e w' => e = .returned (.bool true) ∧ Below w.heap.size w w' := by
  obtain ⟨S, hS⟩ : ∃ S, S = max ls rs := ⟨_, rfl⟩
  obtain ⟨M, hM⟩ : ∃ M, M = max lp rp := ⟨_, rfl⟩
  obtain ⟨c, hc⟩ : ∃ c, c = capF M md := ⟨_, rfl⟩
  have C1 : Hid (∀ w, _) := fun w => max_any lp rp w
  rw [← hM] at C1
  have C2 : Hid (∀ w, _) := fun w => max_any ls rs w
  rw [← hS] at C2
  have C4 : Hid (∀ w, _) := fun w => capModel_any M md w
  rw [← hc] at C4
  have C6 : Hid (∀ w, _) := fun w => zzarith_of op lp ls rp rs md c S h n w (fun w => arith_div op lp ls rp rs md c S h n w hop a1 a2 b1 b2 c1 c2 d1 d2 (by show _ = _; rw [← hM, ← hc]) hS)
  clear hS hM hc
  rcases hop with rfl | rfl
  all_goals
    go_enter Try.func6, Try.ntmps6
    go_wp2_with (first
      | (go_at_call 14; go_in)
      | (go_at_call_of 17 (Value.int .i64 lp); refine (C1.out _).mono ?_; rintro e w' ⟨rfl, rfl⟩)
      | (go_at_call_of 17 (Value.int .i64 ls); refine (C2.out _).mono ?_; rintro e w' ⟨rfl, rfl⟩)
      | (go_at_call 16; refine (C4.out _).mono ?_; rintro e w' ⟨rfl, rfl⟩)
      | (go_at_call 15; refine (C6.out _).mono ?_; rintro e w' ⟨rfl, hb⟩; obtain ⟨hc, hf⟩ := bcell hb))
    go_ret
    have hz := hb.size
    simp at hz
    exact ⟨by simp, (((((Below.refl _ _).alloc (Nat.le_refl _) _).alloc (by simp) _).alloc (by simp; omega) _).trans (hb.mono (by simp; omega))).alloc (by omega) _⟩

theorem law_any (op lp ls rp rs md : Int) (h n : Bool) (w : World) :
    Calls Try.prog 6 #[.int .i64 op, .int .i64 lp, .int .i64 ls, .int .i64 rp, .int .i64 rs, .int .i64 md, .bool h, .bool n] w fun e w' => e = .returned (.bool true) ∧ Below w.heap.size w w' := by
  by_cases h0 : op < 0 ∨ 4 < op
  · exact law_far op lp ls rp rs md h n w h0
  · by_cases hout : (lp < -268435456 ∨ 268435456 < lp) ∨ (ls < -268435456 ∨ 268435456 < ls) ∨ (rp < -268435456 ∨ 268435456 < rp) ∨ (rs < -268435456 ∨ 268435456 < rs)
    · exact law_wide op lp ls rp rs md h n w (by omega) (by omega) hout
    · by_cases o1 : op = 0 ∨ op = 1
      · exact law_add op lp ls rp rs md h n w o1 (by omega) (by omega) (by omega) (by omega) (by omega) (by omega) (by omega) (by omega)
      · by_cases o2 : op = 2
        · exact law_mul op lp ls rp rs md h n w o2 (by omega) (by omega) (by omega) (by omega) (by omega) (by omega) (by omega) (by omega)
        · exact law_div op lp ls rp rs md h n w (by omega) (by omega) (by omega) (by omega) (by omega) (by omega) (by omega) (by omega) (by omega)

end Go.Proofs.Qxb6600783a
