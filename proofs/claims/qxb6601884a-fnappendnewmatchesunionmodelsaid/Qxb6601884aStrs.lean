/-
  A slice of strings in memory, and the walks of the functions that only read such slices.
-/
import Derived.Test.Qxb6601884aRows
import Derived.WalkKit
import Derived.WalkSpells
import Derived.WalkLawsBesides
import Derived.Lib.SlicesS
namespace Go.Proofs.Qxb6601884a
open Go.RowKit
set_option linter.unusedVariables false

/-- The slice value '.slice a n cap' leads in w to the strings l. -/
def Row (w : World) (a : Option Addr) (n cap : Nat) (l : List ByteArray) : Prop :=
  l.length = n ∧ n ≤ cap ∧ cap ≤ maxLen ∧ (∀ s ∈ l, s.size ≤ maxLen) ∧
  ((a = none ∧ n = 0 ∧ cap = 0) ∨ ∃ x, a = some x ∧ ∀ i, i < n → w.cell? (x.add i) = some (.string (l.getD i ByteArray.empty)))

theorem Row.sat {w : World} {a : Option Addr} {n cap : Nat} {l : List ByteArray} (R : Row w a n cap l) (h : 0 < n) :
    ∃ b off, a = some ⟨b, off, none⟩ ∧ ∀ i, i < n → w.cell? ⟨b, off + i, none⟩ = some (.string (l.getD i ByteArray.empty)) := by
  obtain ⟨h1, h2, h3, h4, h5⟩ := R
  rcases h5 with ⟨rfl, h, _⟩ | ⟨⟨b, off, spot⟩, rfl, hc⟩
  · omega
  · have hc0 := hc 0 h
    have hspot : spot = none := by simpa [Addr.add] using World.cell?_spot hc0
    subst hspot
    have hadd : ∀ i, (⟨b, off, none⟩ : Addr).add i = ⟨b, off + i, none⟩ := fun i => by unfold Addr.add; split <;> simp_all
    exact ⟨b, off, rfl, fun i hi => by rw [← hadd]; exact hc i hi⟩

theorem Row.bound {w : World} {a : Option Addr} {n cap : Nat} {l : List ByteArray} (R : Row w a n cap l) {i : Nat} (h : i < n) :
    (l.getD i ByteArray.empty).size ≤ maxLen := by
  obtain ⟨h1, h2, h3, h4, h5⟩ := R
  have hi : i < l.length := by omega
  rw [List.getD_eq_getElem?_getD, List.getElem?_eq_getElem hi]
  exact h4 _ (List.getElem_mem hi)

theorem sret_int {k : IntKind} {a b : Int} (h : a = b) : Ending.returned (.int k a) = .returned (.int k b) := by rw [h]
theorem sret_bool {a b : Bool} (h : a = b) : Ending.returned (.bool a) = .returned (.bool b) := by rw [h]

set_option maxHeartbeats 400000 in
theorem index_any (w : World) (a : Option Addr) (n cap : Nat) (l : List ByteArray) (x : ByteArray) (R : Row w a n cap l) :
    Calls Try.prog 24 #[.slice a n cap, .string x] w fun e w' => e = .returned (.int .i64 (Lib.idxOfS l x)) ∧ w' = w := by
  have hn := R.1
  have hm : n ≤ 9223372036854775807 := by have h1 := R.2.1; have h2 := R.2.2.1; unfold maxLen at h2; omega
  by_cases h0 : n = 0
  · have hl : l = [] := List.eq_nil_of_length_eq_zero (by omega)
    subst hl
    subst h0
    clear R hn hm
    go_enter Try.func24, Try.ntmps24
    go_wp2
    refine wp_loop_rounds 1 ?_
    rw [rounds_succ]
    go_wp2
    go_ret
    exact ⟨rfl, rfl⟩
  · obtain ⟨b, off, rfl, hc⟩ := R.sat (by omega)
    have HC : Hid (∀ i, i < n → w.cell? ⟨b, off + i, none⟩ = some (.string (l.getD i ByteArray.empty))) := hc
    have HN : Hid (l.length = n) := hn
    clear R hn hc h0
    go_enter Try.func24, Try.ntmps24
    go_wp2
    go_loop [8] (fun i => ∃ k : Nat, k ≤ n ∧ i = .int .i64 k ∧ Hid (∀ j, j < k → l.getD j ByteArray.empty ≠ x)) (fun i => n - (intOf i).toNat)
    case atStart => exact ⟨0, Nat.zero_le _, rfl, fun j hj => absurd hj (Nat.not_lt_zero _)⟩
    case round =>
      obtain ⟨k, hk, rfl, H⟩ := hrel
      by_cases hlt : k < n
      · obtain ⟨s, hs⟩ : ∃ s, s = l.getD k ByteArray.empty := ⟨_, rfl⟩
        have hcell := HC.out k hlt
        rw [← hs] at hcell
        have HS : Hid (s = l.getD k ByteArray.empty) := hs
        clear hs
        go_wp2
        all_goals first
          | (go_round
             case rel =>
               refine ⟨k + 1, by omega, by go_num, fun j hj => ?_⟩
               have hne := (Lib.bytes_beq_false_iff x s).1 ‹_›
               by_cases e : j = k
               · subst e; rw [← HS.out]; exact fun h => hne h.symm
               · exact H.out j (by omega)
             case measure => simp [intOf]; omega)
          | (go_ret
             have he := (Lib.bytes_beq_iff x s).1 ‹_›
             have h := Lib.idxOfS_hit l n k x hlt (by have := HN.out; omega) (by rw [← HS.out, he]) H.out
             rw [List.take_of_length_le (by have := HN.out; omega)] at h
             exact ⟨sret_int h.symm, rfl⟩)
      · go_wp2
        go_ret
        have h := Lib.idxOfS_miss l n x (fun j hj => H.out j (by omega))
        rw [List.take_of_length_le (by have := HN.out; omega)] at h
        exact ⟨sret_int h.symm, rfl⟩

set_option maxHeartbeats 400000 in
theorem contains_any (w : World) (a : Option Addr) (n cap : Nat) (l : List ByteArray) (x : ByteArray) (R : Row w a n cap l) :
    Calls Try.prog 23 #[.slice a n cap, .string x] w fun e w' => e = .returned (.bool (Lib.containsS l x)) ∧ w' = w := by
  have C := index_any w a n cap l x R
  have HB : Hid (Lib.containsS l x = decide (0 ≤ Lib.idxOfS l x)) := rfl
  clear R
  generalize Lib.containsS l x = r at HB ⊢
  generalize Lib.idxOfS l x = q at HB C
  have C' : Hid (Calls Try.prog 24 #[.slice a n cap, .string x] w fun e w' => e = .returned (.int .i64 q) ∧ w' = w) := C
  clear C
  go_enter Try.func23, Try.ntmps23
  go_wp2_with (go_at_call 24; refine C'.out.mono ?_; rintro e w' ⟨rfl, hw⟩; subst hw)
  go_ret
  exact ⟨sret_bool HB.out.symm, rfl⟩

set_option maxHeartbeats 400000 in
theorem has_any (w : World) (a : Option Addr) (n cap : Nat) (l : List ByteArray) (x : ByteArray) (R : Row w a n cap l) :
    Calls Try.prog 12 #[.slice a n cap, .string x] w fun e w' => e = .returned (.bool (Lib.containsS l x)) ∧ w' = w := by
  have hn := R.1
  have hm : n ≤ 9223372036854775807 := by have h1 := R.2.1; have h2 := R.2.2.1; unfold maxLen at h2; omega
  by_cases h0 : n = 0
  · have hl : l = [] := List.eq_nil_of_length_eq_zero (by omega)
    subst hl
    subst h0
    clear R hn hm
    go_enter Try.func12, Try.ntmps12
    go_wp2
    refine wp_loop_rounds 1 ?_
    rw [rounds_succ]
    go_wp2
    go_ret
    exact ⟨sret_bool (by rfl), rfl⟩
  · obtain ⟨b, off, rfl, hc⟩ := R.sat (by omega)
    have HC : Hid (∀ i, i < n → w.cell? ⟨b, off + i, none⟩ = some (.string (l.getD i ByteArray.empty))) := hc
    have HN : Hid (l.length = n) := hn
    clear R hn hc h0
    generalize hr : Lib.containsS l x = r
    have HR : Hid (Lib.containsS l x = r) := hr
    clear hr
    go_enter Try.func12, Try.ntmps12
    go_wp2
    go_loop [5] (fun i => ∃ k : Nat, k ≤ n ∧ i = .int .i64 k ∧ Hid (∀ j, j < k → l.getD j ByteArray.empty ≠ x)) (fun i => n - (intOf i).toNat)
    case atStart => exact ⟨0, Nat.zero_le _, rfl, fun j hj => absurd hj (Nat.not_lt_zero _)⟩
    case round =>
      obtain ⟨k, hk, rfl, H⟩ := hrel
      by_cases hlt : k < n
      · obtain ⟨s, hs⟩ : ∃ s, s = l.getD k ByteArray.empty := ⟨_, rfl⟩
        have hcell := HC.out k hlt
        rw [← hs] at hcell
        have HS : Hid (s = l.getD k ByteArray.empty) := hs
        clear hs
        go_wp2
        all_goals first
          | (go_round
             case rel =>
               refine ⟨k + 1, by omega, by go_num, fun j hj => ?_⟩
               have hne := (Lib.bytes_beq_false_iff s x).1 ‹_›
               by_cases e : j = k
               · subst e; rw [← HS.out]; exact hne
               · exact H.out j (by omega)
             case measure => simp [intOf]; omega)
          | (go_ret
             have he := (Lib.bytes_beq_iff s x).1 ‹_›
             have hmem : Lib.containsS l x = true := by
               rw [Lib.containsS_iff, ← he, HS.out, List.getD_eq_getElem?_getD, List.getElem?_eq_getElem (by have := HN.out; omega)]
               exact List.getElem_mem _
             exact ⟨sret_bool (hmem.symm.trans HR.out), rfl⟩)
      · go_wp2
        go_ret
        have hmem : Lib.containsS l x = false := by
          rw [Bool.eq_false_iff]
          intro h
          rw [Lib.containsS_iff] at h
          obtain ⟨i, hi, he⟩ := List.getElem_of_mem h
          have hne := H.out i (by have := HN.out; omega)
          rw [List.getD_eq_getElem?_getD, List.getElem?_eq_getElem hi] at hne
          exact hne he
        exact ⟨sret_bool (hmem.symm.trans HR.out), rfl⟩

end Go.Proofs.Qxb6601884a
