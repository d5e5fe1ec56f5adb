/-
  The walks of scanNumber, ZZscanNumber, zzRunOfDigits and the length guards.
-/
import Derived.Test.Qxb6600783aRows
import Derived.Test.Qxb6600783aPlain
import Derived.WalkKit
import Derived.WalkSpells
import Derived.WalkLawsBesides
namespace Go.Proofs.Qxb6600783a
open Go.RowKit Plain

theorem ret_int {k : IntKind} {a b : Int} (h : a = b) : Ending.returned (.int k a) = .returned (.int k b) := by rw [h]

theorem wrap32_u8 (c : UInt8) : wrap32 (c.toNat : Int) = (c.toNat : Int) := by
  have := u8_lt c
  unfold wrap32; omega

set_option maxHeartbeats 400000 in
theorem scan_any (s : ByteArray) (i : Nat) (r : Nat) (hs : s.size ≤ maxLen) (hr : Hid (i + scan false (s.data.toList.drop i) = r)) (w : World) :
    Calls Try.prog 20 #[.string s, .int .i64 i] w fun e w' => e = .returned (.int .i64 (r : Int)) ∧ w' = w := by
  unfold maxLen at hs
  go_enter Try.func20, Try.ntmps20
  go_wp2
  go_loop [1, 5] (fun j q => ∃ (k : Nat) (p : Bool), j = .int .i64 k ∧ q = .bool p ∧ Hid (k + scan p (s.data.toList.drop k) = r)) (fun j _ => s.size - (intOf j).toNat)
  case atStart => exact ⟨i, false, rfl, rfl, hr⟩
  case round =>
    clear hr
    obtain ⟨k, p, rfl, rfl, H⟩ := hrel
    by_cases hlt : k < s.size
    · have hw := wrap32_u8 s[k]
      go_wp2
      all_goals first
        | (go_round
           case rel => first
             | exact ⟨k + 1, p, by go_num, rfl, (scan_dig s k p hlt ‹_› ‹_›).symm.trans H.out⟩
             | exact ⟨k + 1, true, by go_num, rfl, (scan_point s k p hlt ‹_› (by simpa using ‹(!p) = true›)).symm.trans H.out⟩
           case measure => simp [intOf]; omega)
        | (go_ret
           refine ⟨ret_int ?_, rfl⟩
           have h := H.out
           first
             | rw [scan_stop s k p hlt (by omega) (.inr (by simpa using ‹(!p) = false›))] at h
             | rw [scan_stop s k p hlt (by omega) (.inl ‹_›)] at h
           omega)
    · go_wp2
      go_ret
      have h := H.out
      rw [scan_end s k p (by omega)] at h
      exact ⟨ret_int (by omega), rfl⟩

set_option maxHeartbeats 400000 in
theorem zz_any (s : ByteArray) (i : Nat) (r : Nat) (hs : s.size ≤ maxLen) (hr : Hid (i + scan false (s.data.toList.drop i) = r)) (w : World) :
    Calls Try.prog 11 #[.string s, .int .i64 i] w fun e w' => e = .returned (.int .i64 (r : Int)) ∧ w' = w := by
  go_enter Try.func11, Try.ntmps11
  go_wp2_with (go_at_call 20; refine (scan_any s i r hs hr _).mono ?_; rintro e w' ⟨rfl, rfl⟩)
  go_ret
  exact ⟨rfl, rfl⟩

set_option maxHeartbeats 400000 in
theorem run_any (s : ByteArray) (i : Nat) (r : Nat) (hs : s.size ≤ maxLen) (hr : Hid (i + run (s.data.toList.drop i) = r)) (w : World) :
    Calls Try.prog 10 #[.string s, .int .i64 i] w fun e w' => e = .returned (.int .i64 (r : Int)) ∧ w' = w := by
  unfold maxLen at hs
  go_enter Try.func10, Try.ntmps10
  go_wp2
  go_loop [1] (fun j => ∃ (k : Nat), j = .int .i64 k ∧ Hid (k + run (s.data.toList.drop k) = r)) (fun j => s.size - (intOf j).toNat)
  case atStart => exact ⟨i, rfl, hr⟩
  case round =>
    clear hr
    obtain ⟨k, rfl, H⟩ := hrel
    by_cases hlt : k < s.size
    · go_wp2
      all_goals first
        | (go_round
           case rel => exact ⟨k + 1, by go_num, (run_dig s k hlt ‹_› ‹_›).symm.trans H.out⟩
           case measure => simp [intOf]; omega)
        | (go_ret
           refine ⟨ret_int ?_, rfl⟩
           have h := H.out
           rw [run_stop s k hlt (by omega)] at h
           omega)
    · go_wp2
      go_ret
      have h := H.out
      rw [run_end s k (by omega)] at h
      exact ⟨ret_int (by omega), rfl⟩

set_option maxHeartbeats 400000 in
theorem bytes12_any (s : ByteArray) (i : Int) (hs : s.size ≤ maxLen) (w : World) :
    Calls Try.prog 12 #[.string s, .int .i64 i] w fun e w' => e = .returned (.bool (decide ((s.size : Int) ≤ 1048576))) ∧ w' = w := by
  unfold maxLen at hs
  by_cases h : (s.size : Int) ≤ 1048576
  · go_enter Try.func12, Try.ntmps12
    go_wp2
    go_ret
    exact ⟨by simp [h], rfl⟩
  · go_enter Try.func12, Try.ntmps12
    go_wp2
    go_ret
    exact ⟨by simp [h], rfl⟩

set_option maxHeartbeats 400000 in
theorem bytes9_any (s : ByteArray) (i : Int) (hs : s.size ≤ maxLen) (w : World) :
    Calls Try.prog 9 #[.string s, .int .i64 i] w fun e w' => e = .returned (.bool (decide ((s.size : Int) ≤ 1048576))) ∧ w' = w := by
  unfold maxLen at hs
  by_cases h : (s.size : Int) ≤ 1048576
  · go_enter Try.func9, Try.ntmps9
    go_wp2
    go_ret
    exact ⟨by simp [h], rfl⟩
  · go_enter Try.func9, Try.ntmps9
    go_wp2
    go_ret
    exact ⟨by simp [h], rfl⟩

end Go.Proofs.Qxb6600783a
