/-
  The walks of containsAny, of the length guards and of the law's own comparison: they only read.
-/
import Derived.Test.Qxb6601884aStrs
import Derived.Deep.QuietTactic
import Derived.BigQuiet
import Derived.Deep.RegionWith
namespace Go.Proofs.Qxb6601884a
open Go.RowKit
set_option linter.unusedVariables false

theorem getD_mem (l : List ByteArray) (k : Nat) (h : k < l.length) : l.getD k ByteArray.empty ∈ l := by
  rw [List.getD_eq_getElem?_getD, List.getElem?_eq_getElem h]; exact List.getElem_mem _

theorem mem_getD (l : List ByteArray) (x : ByteArray) (h : x ∈ l) : ∃ k, k < l.length ∧ l.getD k ByteArray.empty = x := by
  obtain ⟨i, hi, he⟩ := List.getElem_of_mem h
  exact ⟨i, hi, by rw [List.getD_eq_getElem?_getD, List.getElem?_eq_getElem hi]; exact he⟩

set_option maxHeartbeats 400000 in
theorem any_any (w : World) (a : Option Addr) (n cap : Nat) (l : List ByteArray) (R : Row w a n cap l)
    (a2 : Option Addr) (n2 cap2 : Nat) (vs : List ByteArray) (R2 : Row w a2 n2 cap2 vs) (r : Bool) (hr : Hid (r = true ↔ ∃ v ∈ vs, v ∈ l)) :
    Calls Try.prog 22 #[.slice a n cap, .slice a2 n2 cap2] w fun e w' => e = .returned (.bool r) ∧ w' = w := by
  have hn := R2.1
  have hm : n2 ≤ 9223372036854775807 := by have h1 := R2.2.1; have h2 := R2.2.2.1; unfold maxLen at h2; omega
  by_cases h0 : n2 = 0
  · have hl : vs = [] := List.eq_nil_of_length_eq_zero (by omega)
    subst hl
    subst h0
    have hrf : r = false := by
      rw [Bool.eq_false_iff]; intro h; obtain ⟨v, hv, _⟩ := hr.out.1 h; simp at hv
    subst hrf
    clear R R2 hr hn hm
    go_enter Try.func22, Try.ntmps22
    go_wp2
    refine wp_loop_rounds 1 ?_
    rw [rounds_succ]
    go_wp2
    go_ret
    exact ⟨rfl, rfl⟩
  · obtain ⟨b, off, rfl, hc⟩ := R2.sat (by omega)
    have HC : Hid (∀ i, i < n2 → w.cell? ⟨b, off + i, none⟩ = some (.string (vs.getD i ByteArray.empty))) := hc
    have HN : Hid (vs.length = n2) := hn
    have C : Hid (∀ x, Calls Try.prog 23 #[.slice a n cap, .string x] w fun e w' => e = .returned (.bool (Lib.containsS l x)) ∧ w' = w) := fun x => contains_any w a n cap l x R
    clear R R2 hn hc h0
    go_enter Try.func22, Try.ntmps22
    go_wp2
    go_loop [9] (fun i => ∃ k : Nat, k ≤ n2 ∧ i = .int .i64 k ∧ Hid (∀ j, j < k → vs.getD j ByteArray.empty ∉ l)) (fun i => n2 - (intOf i).toNat)
    case atStart => exact ⟨0, Nat.zero_le _, rfl, fun j hj => absurd hj (Nat.not_lt_zero _)⟩
    case round =>
      obtain ⟨k, hk, rfl, H⟩ := hrel
      by_cases hlt : k < n2
      · obtain ⟨s, hs⟩ : ∃ s, s = vs.getD k ByteArray.empty := ⟨_, rfl⟩
        have hcell := HC.out k hlt
        rw [← hs] at hcell
        have HS : Hid (s = vs.getD k ByteArray.empty) := hs
        clear hs
        by_cases hin : Lib.containsS l s = true
        · have C1 : Hid (Calls Try.prog 23 #[.slice a n cap, .string s] w fun e w' => e = .returned (.bool true) ∧ w' = w) := by have h := C.out s; rw [hin] at h; exact h
          have hrt : r = true := hr.out.2 ⟨s, by rw [HS.out]; exact getD_mem vs k (by have := HN.out; omega), (Lib.containsS_iff l s).1 hin⟩
          subst hrt
          clear hr hin
          go_wp2_with (go_at_call 23; refine C1.out.mono ?_; rintro e w' ⟨rfl, hw⟩; subst hw)
          go_ret
          exact ⟨rfl, rfl⟩
        · have hin' : Lib.containsS l s = false := by simpa using hin
          have C1 : Hid (Calls Try.prog 23 #[.slice a n cap, .string s] w fun e w' => e = .returned (.bool false) ∧ w' = w) := by have h := C.out s; rw [hin'] at h; exact h
          have HI : Hid (s ∉ l) := fun h => hin ((Lib.containsS_iff l s).2 h)
          clear hin hin'
          go_wp2_with (go_at_call 23; refine C1.out.mono ?_; rintro e w' ⟨rfl, hw⟩; subst hw)
          go_round
          case rel =>
            refine ⟨k + 1, by omega, by go_num, fun j hj => ?_⟩
            by_cases e : j = k
            · subst e; rw [← HS.out]; exact HI.out
            · exact H.out j (by omega)
          case measure => simp [intOf]; omega
      · have hrf : r = false := by
          rw [Bool.eq_false_iff]; intro h; obtain ⟨v, hv, hvl⟩ := hr.out.1 h
          obtain ⟨j, hj, rfl⟩ := mem_getD vs v hv
          exact H.out j (by have := HN.out; omega) hvl
        subst hrf
        clear hr
        go_wp2
        go_ret
        exact ⟨rfl, rfl⟩

set_option maxHeartbeats 400000 in
theorem zzany_any (w : World) (a : Option Addr) (n cap : Nat) (l : List ByteArray) (R : Row w a n cap l)
    (a2 : Option Addr) (n2 cap2 : Nat) (vs : List ByteArray) (R2 : Row w a2 n2 cap2 vs) (r : Bool) (hr : Hid (r = true ↔ ∃ v ∈ vs, v ∈ l)) :
    Calls Try.prog 18 #[.slice a n cap, .slice a2 n2 cap2] w fun e w' => e = .returned (.bool r) ∧ w' = w := by
  have C : Hid (Calls Try.prog 22 #[.slice a n cap, .slice a2 n2 cap2] w fun e w' => e = .returned (.bool r) ∧ w' = w) := any_any w a n cap l R a2 n2 cap2 vs R2 r hr
  clear R R2 hr
  go_enter Try.func18, Try.ntmps18
  go_wp2_with (go_at_call 22; refine C.out.mono ?_; rintro e w' ⟨rfl, hw⟩; subst hw)
  go_ret
  exact ⟨rfl, rfl⟩

set_option maxHeartbeats 400000 in
theorem room_any (w : World) (a : Option Addr) (n cap : Nat) (l : List ByteArray) (R : Row w a n cap l) (left : Int) (h1 : -1 ≤ left) (h2 : left ≤ 1048576) :
    Calls Try.prog 10 #[.slice a n cap, .int .i64 left] w fun e w' => ∃ r : Int, e = .returned (.int .i64 r) ∧ w' = w ∧ -1 ≤ r ∧ r ≤ 1048576 ∧ (0 ≤ r → 0 ≤ left ∧ n ≤ 4096) := by
  have hn := R.1
  have hm : n ≤ 9223372036854775807 := by have h1 := R.2.1; have h2 := R.2.2.1; unfold maxLen at h2; omega
  by_cases hneg : left < 0
  · go_enter Try.func10, Try.ntmps10
    go_wp2
    go_ret
    exact ⟨-1, rfl, rfl, by omega, by omega, by omega⟩
  by_cases hbig : 4096 < n
  · have hbig' : (4096 : Int) < n := by omega
    go_enter Try.func10, Try.ntmps10
    go_wp2
    go_ret
    exact ⟨-1, rfl, rfl, by omega, by omega, by omega⟩
  by_cases hsm : left - 16 * (n : Int) < 0
  · go_enter Try.func10, Try.ntmps10
    go_wp2
    go_ret
    exact ⟨-1, rfl, rfl, by omega, by omega, by omega⟩
  by_cases h0 : n = 0
  · subst h0
    clear R hn hm hbig
    go_enter Try.func10, Try.ntmps10
    go_wp2
    refine wp_loop_rounds 1 ?_
    rw [rounds_succ]
    go_wp2
    go_ret
    exact ⟨_, rfl, rfl, by omega, by omega, by omega⟩
  · obtain ⟨b, off, rfl, hc⟩ := R.sat (by omega)
    have HC : Hid (∀ i, i < n → w.cell? ⟨b, off + i, none⟩ = some (.string (l.getD i ByteArray.empty))) := hc
    have HB : Hid (∀ i, i < n → (l.getD i ByteArray.empty).size ≤ maxLen) := fun i hi => R.bound hi
    clear R hn hc h0
    go_enter Try.func10, Try.ntmps10
    go_wp2
    go_loop [1, 5] (fun t i => ∃ (k : Nat) (z : Int), k ≤ n ∧ i = .int .i64 k ∧ t = .int .i64 z ∧ 0 ≤ z ∧ z ≤ 1048576) (fun _ i => n - (intOf i).toNat)
    case atStart => exact ⟨0, _, Nat.zero_le _, rfl, rfl, by omega, by omega⟩
    case round =>
      obtain ⟨k, z, hk, rfl, rfl, hz0, hz1⟩ := hrel
      by_cases hlt : k < n
      · obtain ⟨s, hs⟩ : ∃ s, s = l.getD k ByteArray.empty := ⟨_, rfl⟩
        have hcell := HC.out k hlt
        have hbd := HB.out k hlt
        rw [← hs] at hcell hbd
        unfold maxLen at hbd
        clear hs
        go_wp2
        all_goals first
          | (go_round
             case rel => exact ⟨k + 1, _, by omega, by go_num, rfl, by omega, by omega⟩
             case measure => simp [intOf]; omega)
          | (go_ret
             exact ⟨-1, rfl, rfl, by omega, by omega, by omega⟩)
      · go_wp2
        go_ret
        exact ⟨_, rfl, rfl, by omega, by omega, by omega⟩

set_option maxHeartbeats 1000000 in
theorem bytes17_any (w : World) (a : Option Addr) (n cap : Nat) (l : List ByteArray) (R : Row w a n cap l)
    (a2 : Option Addr) (n2 cap2 : Nat) (vs : List ByteArray) (R2 : Row w a2 n2 cap2 vs) :
    Calls Try.prog 17 #[.slice a n cap, .slice a2 n2 cap2] w fun e w' => ∃ r : Bool, e = .returned (.bool r) ∧ w' = w := by
  have hm : n ≤ 9223372036854775807 := by have h1 := R.2.1; have h2 := R.2.2.1; unfold maxLen at h2; omega
  have hm2 : n2 ≤ 9223372036854775807 := by have h1 := R2.2.1; have h2 := R2.2.2.1; unfold maxLen at h2; omega
  have HC : Hid (0 < n → ∃ b off, a = some ⟨b, off, none⟩ ∧ ∀ i, i < n → w.cell? ⟨b, off + i, none⟩ = some (.string (l.getD i ByteArray.empty))) := fun h => R.sat h
  have HB : Hid (∀ i, i < n → (l.getD i ByteArray.empty).size ≤ maxLen) := fun i hi => R.bound hi
  have HC2 : Hid (0 < n2 → ∃ b off, a2 = some ⟨b, off, none⟩ ∧ ∀ i, i < n2 → w.cell? ⟨b, off + i, none⟩ = some (.string (vs.getD i ByteArray.empty))) := fun h => R2.sat h
  have HB2 : Hid (∀ i, i < n2 → (vs.getD i ByteArray.empty).size ≤ maxLen) := fun i hi => R2.bound hi
  clear R R2
  by_cases hbig : (1048576 : Int) < n
  · go_enter Try.func17, Try.ntmps17
    go_wp2
    go_ret
    first | exact ⟨_, rfl, rfl⟩ | exact ⟨_, rfl⟩ | simp
  go_enter Try.func17, Try.ntmps17
  go_wp2
  go_loop [5, 6] (fun t i => ∃ (k : Nat) (z : Int), k ≤ n ∧ i = .int .i64 k ∧ t = .int .i64 z ∧ 0 ≤ z ∧ z ≤ 1048576) (fun _ i => n - (intOf i).toNat)
  case atStart => exact ⟨0, _, Nat.zero_le _, rfl, rfl, by omega, by omega⟩
  case round =>
    obtain ⟨k, z, hk, rfl, rfl, hz0, hz1⟩ := hrel
    by_cases hlt : k < n
    · obtain ⟨b, off, rfl, hc⟩ := HC.out (by omega)
      obtain ⟨s, hs⟩ : ∃ s, s = l.getD k ByteArray.empty := ⟨_, rfl⟩
      have hcell := hc k hlt
      have hbd := HB.out k hlt
      rw [← hs] at hcell hbd
      unfold maxLen at hbd
      clear hs hc
      go_wp2
      all_goals first
        | (go_round
           case rel => exact ⟨k + 1, _, by omega, by go_num, rfl, by omega, by omega⟩
           case measure => simp [intOf]; omega)
        | (go_ret
           first | exact ⟨_, rfl, rfl⟩ | exact ⟨_, rfl⟩ | simp)
    · by_cases hbig2 : (1048576 : Int) < n2
      · go_wp2
        go_ret
        first | exact ⟨_, rfl, rfl⟩ | exact ⟨_, rfl⟩ | simp
      by_cases hsum : (1048576 : Int) < z + n2
      · go_wp2
        go_ret
        first | exact ⟨_, rfl, rfl⟩ | exact ⟨_, rfl⟩ | simp
      clear HC HB
      go_wp2
      go_loop [5, 7] (fun t i => ∃ (k : Nat) (z : Int), k ≤ n2 ∧ i = .int .i64 k ∧ t = .int .i64 z ∧ 0 ≤ z ∧ z ≤ 1048576) (fun _ i => n2 - (intOf i).toNat)
      case atStart => exact ⟨0, _, Nat.zero_le _, rfl, rfl, by omega, by omega⟩
      case round =>
        obtain ⟨k, z, hk, rfl, rfl, hz0, hz1⟩ := hrel
        by_cases hlt2 : k < n2
        · obtain ⟨b, off, rfl, hc⟩ := HC2.out (by omega)
          obtain ⟨s, hs⟩ : ∃ s, s = vs.getD k ByteArray.empty := ⟨_, rfl⟩
          have hcell := hc k hlt2
          have hbd := HB2.out k hlt2
          rw [← hs] at hcell hbd
          unfold maxLen at hbd
          clear hs hc
          go_wp2
          all_goals first
            | (go_round
               case rel => exact ⟨k + 1, _, by omega, by go_num, rfl, by omega, by omega⟩
               case measure => simp [intOf]; omega)
            | (go_ret
               first | exact ⟨_, rfl, rfl⟩ | exact ⟨_, rfl⟩ | simp)
        · go_wp2
          go_ret
          first | exact ⟨_, rfl, rfl⟩ | exact ⟨_, rfl⟩ | simp

set_option maxHeartbeats 1000000 in
theorem bytes9_any (w : World) (a : Option Addr) (n cap : Nat) (l : List ByteArray) (R : Row w a n cap l)
    (a2 : Option Addr) (n2 cap2 : Nat) (vs : List ByteArray) (R2 : Row w a2 n2 cap2 vs) :
    Calls Try.prog 9 #[.slice a n cap, .slice a2 n2 cap2] w fun e w' => ∃ r : Bool, e = .returned (.bool r) ∧ w' = w := by
  have hm : n ≤ 9223372036854775807 := by have h1 := R.2.1; have h2 := R.2.2.1; unfold maxLen at h2; omega
  have hm2 : n2 ≤ 9223372036854775807 := by have h1 := R2.2.1; have h2 := R2.2.2.1; unfold maxLen at h2; omega
  have HC : Hid (0 < n → ∃ b off, a = some ⟨b, off, none⟩ ∧ ∀ i, i < n → w.cell? ⟨b, off + i, none⟩ = some (.string (l.getD i ByteArray.empty))) := fun h => R.sat h
  have HB : Hid (∀ i, i < n → (l.getD i ByteArray.empty).size ≤ maxLen) := fun i hi => R.bound hi
  have HC2 : Hid (0 < n2 → ∃ b off, a2 = some ⟨b, off, none⟩ ∧ ∀ i, i < n2 → w.cell? ⟨b, off + i, none⟩ = some (.string (vs.getD i ByteArray.empty))) := fun h => R2.sat h
  have HB2 : Hid (∀ i, i < n2 → (vs.getD i ByteArray.empty).size ≤ maxLen) := fun i hi => R2.bound hi
  clear R R2
  by_cases hbig : (1048576 : Int) < n
  · go_enter Try.func9, Try.ntmps9
    go_wp2
    go_ret
    first | exact ⟨_, rfl, rfl⟩ | exact ⟨_, rfl⟩ | simp
  go_enter Try.func9, Try.ntmps9
  go_wp2
  go_loop [5, 6] (fun t i => ∃ (k : Nat) (z : Int), k ≤ n ∧ i = .int .i64 k ∧ t = .int .i64 z ∧ 0 ≤ z ∧ z ≤ 1048576) (fun _ i => n - (intOf i).toNat)
  case atStart => exact ⟨0, _, Nat.zero_le _, rfl, rfl, by omega, by omega⟩
  case round =>
    obtain ⟨k, z, hk, rfl, rfl, hz0, hz1⟩ := hrel
    by_cases hlt : k < n
    · obtain ⟨b, off, rfl, hc⟩ := HC.out (by omega)
      obtain ⟨s, hs⟩ : ∃ s, s = l.getD k ByteArray.empty := ⟨_, rfl⟩
      have hcell := hc k hlt
      have hbd := HB.out k hlt
      rw [← hs] at hcell hbd
      unfold maxLen at hbd
      clear hs hc
      go_wp2
      all_goals first
        | (go_round
           case rel => exact ⟨k + 1, _, by omega, by go_num, rfl, by omega, by omega⟩
           case measure => simp [intOf]; omega)
        | (go_ret
           first | exact ⟨_, rfl, rfl⟩ | exact ⟨_, rfl⟩ | simp)
    · by_cases hbig2 : (1048576 : Int) < n2
      · go_wp2
        go_ret
        first | exact ⟨_, rfl, rfl⟩ | exact ⟨_, rfl⟩ | simp
      by_cases hsum : (1048576 : Int) < z + n2
      · go_wp2
        go_ret
        first | exact ⟨_, rfl, rfl⟩ | exact ⟨_, rfl⟩ | simp
      clear HC HB
      go_wp2
      go_loop [5, 7] (fun t i => ∃ (k : Nat) (z : Int), k ≤ n2 ∧ i = .int .i64 k ∧ t = .int .i64 z ∧ 0 ≤ z ∧ z ≤ 1048576) (fun _ i => n2 - (intOf i).toNat)
      case atStart => exact ⟨0, _, Nat.zero_le _, rfl, rfl, by omega, by omega⟩
      case round =>
        obtain ⟨k, z, hk, rfl, rfl, hz0, hz1⟩ := hrel
        by_cases hlt2 : k < n2
        · obtain ⟨b, off, rfl, hc⟩ := HC2.out (by omega)
          obtain ⟨s, hs⟩ : ∃ s, s = vs.getD k ByteArray.empty := ⟨_, rfl⟩
          have hcell := hc k hlt2
          have hbd := HB2.out k hlt2
          rw [← hs] at hcell hbd
          unfold maxLen at hbd
          clear hs hc
          go_wp2
          all_goals first
            | (go_round
               case rel => exact ⟨k + 1, _, by omega, by go_num, rfl, by omega, by omega⟩
               case measure => simp [intOf]; omega)
            | (go_ret
               first | exact ⟨_, rfl, rfl⟩ | exact ⟨_, rfl⟩ | simp)
        · go_wp2
          go_ret
          first | exact ⟨_, rfl, rfl⟩ | exact ⟨_, rfl⟩ | simp

set_option maxHeartbeats 1000000 in
theorem bytes20_any (w : World) (a : Option Addr) (n cap : Nat) (l : List ByteArray) (R : Row w a n cap l)
    (a2 : Option Addr) (n2 cap2 : Nat) (vs : List ByteArray) (R2 : Row w a2 n2 cap2 vs) :
    Calls Try.prog 20 #[.slice a n cap, .slice a2 n2 cap2] w fun e w' => ∃ r : Bool, e = .returned (.bool r) ∧ w' = w := by
  have hm : n ≤ 9223372036854775807 := by have h1 := R.2.1; have h2 := R.2.2.1; unfold maxLen at h2; omega
  have hm2 : n2 ≤ 9223372036854775807 := by have h1 := R2.2.1; have h2 := R2.2.2.1; unfold maxLen at h2; omega
  have HC : Hid (0 < n → ∃ b off, a = some ⟨b, off, none⟩ ∧ ∀ i, i < n → w.cell? ⟨b, off + i, none⟩ = some (.string (l.getD i ByteArray.empty))) := fun h => R.sat h
  have HB : Hid (∀ i, i < n → (l.getD i ByteArray.empty).size ≤ maxLen) := fun i hi => R.bound hi
  have HC2 : Hid (0 < n2 → ∃ b off, a2 = some ⟨b, off, none⟩ ∧ ∀ i, i < n2 → w.cell? ⟨b, off + i, none⟩ = some (.string (vs.getD i ByteArray.empty))) := fun h => R2.sat h
  have HB2 : Hid (∀ i, i < n2 → (vs.getD i ByteArray.empty).size ≤ maxLen) := fun i hi => R2.bound hi
  clear R R2
  by_cases hbig : (1048576 : Int) < n
  · go_enter Try.func20, Try.ntmps20
    go_wp2
    go_ret
    first | exact ⟨_, rfl, rfl⟩ | exact ⟨_, rfl⟩ | simp
  go_enter Try.func20, Try.ntmps20
  go_wp2
  go_loop [5, 6] (fun t i => ∃ (k : Nat) (z : Int), k ≤ n ∧ i = .int .i64 k ∧ t = .int .i64 z ∧ 0 ≤ z ∧ z ≤ 1048576) (fun _ i => n - (intOf i).toNat)
  case atStart => exact ⟨0, _, Nat.zero_le _, rfl, rfl, by omega, by omega⟩
  case round =>
    obtain ⟨k, z, hk, rfl, rfl, hz0, hz1⟩ := hrel
    by_cases hlt : k < n
    · obtain ⟨b, off, rfl, hc⟩ := HC.out (by omega)
      obtain ⟨s, hs⟩ : ∃ s, s = l.getD k ByteArray.empty := ⟨_, rfl⟩
      have hcell := hc k hlt
      have hbd := HB.out k hlt
      rw [← hs] at hcell hbd
      unfold maxLen at hbd
      clear hs hc
      go_wp2
      all_goals first
        | (go_round
           case rel => exact ⟨k + 1, _, by omega, by go_num, rfl, by omega, by omega⟩
           case measure => simp [intOf]; omega)
        | (go_ret
           first | exact ⟨_, rfl, rfl⟩ | exact ⟨_, rfl⟩ | simp)
    · by_cases hbig2 : (1048576 : Int) < n2
      · go_wp2
        go_ret
        first | exact ⟨_, rfl, rfl⟩ | exact ⟨_, rfl⟩ | simp
      by_cases hsum : (1048576 : Int) < z + n2
      · go_wp2
        go_ret
        first | exact ⟨_, rfl, rfl⟩ | exact ⟨_, rfl⟩ | simp
      clear HC HB
      go_wp2
      go_loop [5, 7] (fun t i => ∃ (k : Nat) (z : Int), k ≤ n2 ∧ i = .int .i64 k ∧ t = .int .i64 z ∧ 0 ≤ z ∧ z ≤ 1048576) (fun _ i => n2 - (intOf i).toNat)
      case atStart => exact ⟨0, _, Nat.zero_le _, rfl, rfl, by omega, by omega⟩
      case round =>
        obtain ⟨k, z, hk, rfl, rfl, hz0, hz1⟩ := hrel
        by_cases hlt2 : k < n2
        · obtain ⟨b, off, rfl, hc⟩ := HC2.out (by omega)
          obtain ⟨s, hs⟩ : ∃ s, s = vs.getD k ByteArray.empty := ⟨_, rfl⟩
          have hcell := hc k hlt2
          have hbd := HB2.out k hlt2
          rw [← hs] at hcell hbd
          unfold maxLen at hbd
          clear hs hc
          go_wp2
          all_goals first
            | (go_round
               case rel => exact ⟨k + 1, _, by omega, by go_num, rfl, by omega, by omega⟩
               case measure => simp [intOf]; omega)
            | (go_ret
               first | exact ⟨_, rfl, rfl⟩ | exact ⟨_, rfl⟩ | simp)
        · go_wp2
          go_ret
          first | exact ⟨_, rfl, rfl⟩ | exact ⟨_, rfl⟩ | simp

end Go.Proofs.Qxb6601884a
