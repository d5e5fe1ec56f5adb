/-
  The walks of decimalArithmetic and of the law's own type table.
-/
import Derived.Test.Qxb6600783aRows
import Derived.WalkKit
import Derived.WalkSpells
import Derived.WalkLawsBesides
namespace Go.Proofs.Qxb6600783a
open Go.RowKit
set_option linter.unusedSimpArgs false
set_option linter.unusedVariables false

/-- The cap of a result's digits. -/
def capF (w md : Int) : Int := if 18 < w ∨ md = 38 then 38 else if 15 < w ∨ md = 18 then 18 else 15

theorem capF_38 {w md : Int} (h : 18 < w ∨ md = 38) : capF w md = 38 := by simp [capF, h]
theorem capF_18 {w md : Int} (h1 : ¬ (18 < w ∨ md = 38)) (h : 15 < w ∨ md = 18) : capF w md = 18 := by simp only [capF, if_neg h1, if_pos h]
theorem capF_15 {w md : Int} (h1 : ¬ (18 < w ∨ md = 38)) (h : ¬ (15 < w ∨ md = 18)) : capF w md = 15 := by simp only [capF, if_neg h1, if_neg h]

theorem dret_int {k : IntKind} {a b : Int} (h : a = b) : Ending.returned (.int k a) = .returned (.int k b) := by rw [h]

set_option maxHeartbeats 400000 in
theorem cap_any (wd md : Int) (h n : Bool) (w : World) :
    Calls Try.prog 24 #[.agg #[.int .i64 md, .bool h, .bool n], .int .i64 wd] w fun e w' => e = .returned (.int .i64 (capF wd md)) ∧ Below w.heap.size w w' := by
  go_enter Try.func24, Try.ntmps24
  go_wp2
  all_goals go_ret
  all_goals refine ⟨dret_int ?_, (Below.refl _ _).alloc (Nat.le_refl _) _⟩
  all_goals (try simp only [beq_iff_eq, beq_eq_false_iff_ne, ne_eq] at *)
  all_goals (unfold capF; split <;> (try split) <;> omega)

set_option maxHeartbeats 400000 in
theorem max_any (a b : Int) (w : World) :
    Calls Try.prog 17 #[.int .i64 a, .int .i64 b] w fun e w' => e = .returned (.int .i64 (max a b)) ∧ w' = w := by
  go_enter Try.func17, Try.ntmps17
  go_wp2
  all_goals go_ret
  all_goals exact ⟨dret_int (by omega), rfl⟩

set_option maxHeartbeats 400000 in
theorem min_any (a b : Int) (w : World) :
    Calls Try.prog 18 #[.int .i64 a, .int .i64 b] w fun e w' => e = .returned (.int .i64 (min a b)) ∧ w' = w := by
  go_enter Try.func18, Try.ntmps18
  go_wp2
  all_goals go_ret
  all_goals exact ⟨dret_int (by omega), rfl⟩

set_option maxHeartbeats 400000 in
theorem capModel_any (wd md : Int) (w : World) :
    Calls Try.prog 16 #[.int .i64 wd, .int .i64 md] w fun e w' => e = .returned (.int .i64 (capF wd md)) ∧ w' = w := by
  by_cases h18 : md = 18
  · subst h18
    go_enter Try.func16, Try.ntmps16
    go_wp2
    go_loop [6] (fun t => ∃ k : Nat, t = .int .i64 k ∧ k ≤ 3 ∧ (1 ≤ k → ¬ (wd ≤ 15 ∧ (18 : Int) ≤ 15)) ∧ (2 ≤ k → ¬ (wd ≤ 18 ∧ (18 : Int) ≤ 18)) ∧ (3 ≤ k → ¬ (wd ≤ 38 ∧ (18 : Int) ≤ 38))) (fun t => 3 - (intOf t).toNat)
    case atStart => exact ⟨0, rfl, by omega, by omega, by omega, by omega⟩
    case round =>
      obtain ⟨k, rfl, h1, h2, h3, h4⟩ := hrel
      go_wp2
      all_goals first
        | (go_round
           case rel =>
             (try simp only [beq_iff_eq, beq_eq_false_iff_ne, ne_eq] at *)
             exact ⟨k + 1, by go_num, by omega, by omega, by omega, by omega⟩
           case measure => simp [intOf]; omega)
        | (go_ret
           refine ⟨dret_int ?_, rfl⟩
           (try simp only [beq_iff_eq, beq_eq_false_iff_ne, ne_eq] at *)
           unfold capF
           split <;> (try split) <;> omega)
  · by_cases h38 : md = 38
    · subst h38
      go_enter Try.func16, Try.ntmps16
      go_wp2
      go_loop [6] (fun t => ∃ k : Nat, t = .int .i64 k ∧ k ≤ 3 ∧ (1 ≤ k → ¬ (wd ≤ 15 ∧ (38 : Int) ≤ 15)) ∧ (2 ≤ k → ¬ (wd ≤ 18 ∧ (38 : Int) ≤ 18)) ∧ (3 ≤ k → ¬ (wd ≤ 38 ∧ (38 : Int) ≤ 38))) (fun t => 3 - (intOf t).toNat)
      case atStart => exact ⟨0, rfl, by omega, by omega, by omega, by omega⟩
      case round =>
        obtain ⟨k, rfl, h1, h2, h3, h4⟩ := hrel
        go_wp2
        all_goals first
          | (go_round
             case rel =>
               (try simp only [beq_iff_eq, beq_eq_false_iff_ne, ne_eq] at *)
               exact ⟨k + 1, by go_num, by omega, by omega, by omega, by omega⟩
             case measure => simp [intOf]; omega)
          | (go_ret
             refine ⟨dret_int ?_, rfl⟩
             (try simp only [beq_iff_eq, beq_eq_false_iff_ne, ne_eq] at *)
             unfold capF
             split <;> (try split) <;> omega)
    · have e18 : (md == 18) = false := by simp [h18]
      have e38 : (md == 38) = false := by simp [h38]
      clear h18 h38
      go_enter Try.func16, Try.ntmps16
      go_wp2
      go_loop [6] (fun t => ∃ k : Nat, t = .int .i64 k ∧ k ≤ 3 ∧ (1 ≤ k → ¬ (wd ≤ 15 ∧ (0 : Int) ≤ 15)) ∧ (2 ≤ k → ¬ (wd ≤ 18 ∧ (0 : Int) ≤ 18)) ∧ (3 ≤ k → ¬ (wd ≤ 38 ∧ (0 : Int) ≤ 38))) (fun t => 3 - (intOf t).toNat)
      case atStart => exact ⟨0, rfl, by omega, by omega, by omega, by omega⟩
      case round =>
        obtain ⟨k, rfl, h1, h2, h3, h4⟩ := hrel
        go_wp2
        all_goals first
          | (go_round
             case rel =>
               (try simp only [beq_iff_eq, beq_eq_false_iff_ne, ne_eq] at *)
               exact ⟨k + 1, by go_num, by omega, by omega, by omega, by omega⟩
             case measure => simp [intOf]; omega)
          | (go_ret
             refine ⟨dret_int ?_, rfl⟩
             (try simp only [beq_iff_eq, beq_eq_false_iff_ne, ne_eq] at *)
             unfold capF
             split <;> (try split) <;> omega)

theorem bcell {W w1 : World} (hb : Below W.heap.size W w1) : (∀ b o, b < W.heap.size → w1.cell? ⟨b, o, none⟩ = W.cell? ⟨b, o, none⟩) ∧ (∀ b o, b < W.heap.size → w1.frozen? ⟨b, o, none⟩ = W.frozen? ⟨b, o, none⟩) :=
  ⟨fun b o h => hb.cell (p := ⟨b, o, none⟩) h, fun b o h => hb.frozen (p := ⟨b, o, none⟩) h⟩

set_option maxHeartbeats 1000000 in
theorem arith_add (op lp ls rp rs md p s : Int) (h n : Bool) (w : World) (hop : op = 0 ∨ op = 1)
    (a1 : -268435456 ≤ lp) (a2 : lp ≤ 268435456) (b1 : -268435456 ≤ ls) (b2 : ls ≤ 268435456) (c1 : -268435456 ≤ rp) (c2 : rp ≤ 268435456) (d1 : -268435456 ≤ rs) (d2 : rs ≤ 268435456)
    (hp : Hid (p = min (capF (max lp rp) md) (1 + max ls rs + max (lp - ls) (rp - rs)))) (hs : Hid (s = max ls rs)) :
    Calls Try.prog 21 #[.int .i64 op, .agg #[.int .i64 lp, .int .i64 ls], .agg #[.int .i64 rp, .int .i64 rs], .agg #[.int .i64 md, .bool h, .bool n]] w fun e w' =>
      e = .returned (.agg #[.int .i64 p, .int .i64 s]) ∧ Below w.heap.size w w' := by
  rcases hop with rfl | rfl
  all_goals
    go_enter Try.func21, Try.ntmps21
    go_wp2_with (go_at_call 24; refine (cap_any _ _ _ _ _).mono ?_; rintro e w' ⟨rfl, hb⟩; obtain ⟨hc, hf⟩ := bcell hb)
    all_goals
      have hp := hp.out
      have hs := hs.out
      first
        | rw [show max lp rp = rp from by omega] at hp
        | rw [show max lp rp = lp from by omega] at hp
      refine bodyPost_ret (v := .agg #[.int .i64 p, .int .i64 s]) (by simp [results, Try.results21, go_sem, hc]; omega) rfl ⟨rfl, ?_⟩
      exact (((((((Below.refl _ _).alloc (Nat.le_refl _) _).alloc (by simp) _).alloc (by simp; omega) _).alloc (by simp; omega) _).trans (hb.mono (by simp; omega))).setCell (by simp; omega) _).setCell (by simp; omega) _

set_option maxHeartbeats 1000000 in
theorem arith_mul (op lp ls rp rs md p s : Int) (h n : Bool) (w : World) (hop : op = 2)
    (a1 : -268435456 ≤ lp) (a2 : lp ≤ 268435456) (b1 : -268435456 ≤ ls) (b2 : ls ≤ 268435456) (c1 : -268435456 ≤ rp) (c2 : rp ≤ 268435456) (d1 : -268435456 ≤ rs) (d2 : rs ≤ 268435456)
    (hp : Hid (p = min (capF (max lp rp) md) (lp + rp))) (hs : Hid (s = ls + rs)) :
    Calls Try.prog 21 #[.int .i64 op, .agg #[.int .i64 lp, .int .i64 ls], .agg #[.int .i64 rp, .int .i64 rs], .agg #[.int .i64 md, .bool h, .bool n]] w fun e w' =>
      e = .returned (.agg #[.int .i64 p, .int .i64 s]) ∧ Below w.heap.size w w' := by
  subst hop
  all_goals
    go_enter Try.func21, Try.ntmps21
    go_wp2_with (go_at_call 24; refine (cap_any _ _ _ _ _).mono ?_; rintro e w' ⟨rfl, hb⟩; obtain ⟨hc, hf⟩ := bcell hb)
    all_goals
      have hp := hp.out
      have hs := hs.out
      first
        | rw [show max lp rp = rp from by omega] at hp
        | rw [show max lp rp = lp from by omega] at hp
      refine bodyPost_ret (v := .agg #[.int .i64 p, .int .i64 s]) (by simp [results, Try.results21, go_sem, hc]; omega) rfl ⟨rfl, ?_⟩
      exact (((((((Below.refl _ _).alloc (Nat.le_refl _) _).alloc (by simp) _).alloc (by simp; omega) _).alloc (by simp; omega) _).trans (hb.mono (by simp; omega))).setCell (by simp; omega) _).setCell (by simp; omega) _

set_option maxHeartbeats 1000000 in
theorem arith_div (op lp ls rp rs md p s : Int) (h n : Bool) (w : World) (hop : op = 3 ∨ op = 4)
    (a1 : -268435456 ≤ lp) (a2 : lp ≤ 268435456) (b1 : -268435456 ≤ ls) (b2 : ls ≤ 268435456) (c1 : -268435456 ≤ rp) (c2 : rp ≤ 268435456) (d1 : -268435456 ≤ rs) (d2 : rs ≤ 268435456)
    (hp : Hid (p = capF (max lp rp) md)) (hs : Hid (s = max ls rs)) :
    Calls Try.prog 21 #[.int .i64 op, .agg #[.int .i64 lp, .int .i64 ls], .agg #[.int .i64 rp, .int .i64 rs], .agg #[.int .i64 md, .bool h, .bool n]] w fun e w' =>
      e = .returned (.agg #[.int .i64 p, .int .i64 s]) ∧ Below w.heap.size w w' := by
  rcases hop with rfl | rfl
  all_goals
    go_enter Try.func21, Try.ntmps21
    go_wp2_with (go_at_call 24; refine (cap_any _ _ _ _ _).mono ?_; rintro e w' ⟨rfl, hb⟩; obtain ⟨hc, hf⟩ := bcell hb)
    all_goals
      have hp := hp.out
      have hs := hs.out
      first
        | rw [show max lp rp = rp from by omega] at hp
        | rw [show max lp rp = lp from by omega] at hp
      refine bodyPost_ret (v := .agg #[.int .i64 p, .int .i64 s]) (by simp [results, Try.results21, go_sem, hc]; omega) rfl ⟨rfl, ?_⟩
      exact (((((((Below.refl _ _).alloc (Nat.le_refl _) _).alloc (by simp) _).alloc (by simp; omega) _).alloc (by simp; omega) _).trans (hb.mono (by simp; omega))).setCell (by simp; omega) _).setCell (by simp; omega) _

/-- ZZdecimalArithmetic hands on what decimalArithmetic gives, in whatever world. -/
theorem zzarith_of (op lp ls rp rs md p s : Int) (h n : Bool) (w : World)
    (H : Hid (∀ w, Calls Try.prog 21 #[.int .i64 op, .agg #[.int .i64 lp, .int .i64 ls], .agg #[.int .i64 rp, .int .i64 rs], .agg #[.int .i64 md, .bool h, .bool n]] w fun e w' =>
      e = .returned (.agg #[.int .i64 p, .int .i64 s]) ∧ Below w.heap.size w w')) :
    Calls Try.prog 15 #[.int .i64 op, .agg #[.int .i64 lp, .int .i64 ls], .agg #[.int .i64 rp, .int .i64 rs], .agg #[.int .i64 md, .bool h, .bool n]] w fun e w' =>
      e = .returned (.agg #[.int .i64 p, .int .i64 s]) ∧ Below w.heap.size w w' := by
  go_enter Try.func15, Try.ntmps15
  go_wp2_with (go_at_call 21; refine (H.out _).mono ?_; rintro e w' ⟨rfl, hb⟩; obtain ⟨hc, hf⟩ := bcell hb)
  refine bodyPost_ret (v := .agg #[.int .i64 p, .int .i64 s]) (by simp [results, Try.results15, go_sem, hc]) rfl ⟨rfl, ?_⟩
  exact (((((((Below.refl _ _).alloc (Nat.le_refl _) _).alloc (by simp) _).alloc (by simp; omega) _).alloc (by simp; omega) _).trans (hb.mono (by simp; omega))).setCell (by simp; omega) _).setCell (by simp; omega) _

end Go.Proofs.Qxb6600783a
