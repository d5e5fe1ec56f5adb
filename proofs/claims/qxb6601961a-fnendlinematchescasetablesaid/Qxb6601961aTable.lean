/-
  The law's own table of what ending a line does, and that it is the scanner's: no walk.
-/
import Derived.Test.Qxb6601961aPlain
namespace Go.Proofs.Qxb6601961a
open Go.RowKit

def dataG (T : List UInt8) (m : Int) : Bool := (decide (m = 4) && (T == [100, 97, 116, 97])) || (decide (5 ≤ m) && pre [100, 97, 116, 97, 58] T)

def doneG (T : List UInt8) (n : Int) : Bool := decide (n ≤ 15) && ((T == [100, 97, 116, 97, 58, 32, 91, 68, 79, 78, 69, 93]) || (T == [100, 97, 116, 97, 58, 91, 68, 79, 78, 69, 93]))

def endG (T : List UInt8) (m n : Int) (d dn e : Bool) : Bool × Bool × Bool × Bool :=
  if m = 0 then (d && !dn, false, false, e || dn) else if dataG T m = true then (false, true, !d && doneG T n, e) else (false, d, dn, e)

theorem endG_zero {T : List UInt8} {m n : Int} {d dn e : Bool} (h : m = 0) : endG T m n d dn e = (d && !dn, false, false, e || dn) := by unfold endG; rw [if_pos h]
theorem endG_other {T : List UInt8} {m n : Int} {d dn e : Bool} (h : ¬ m = 0) (hd : dataG T m = false) : endG T m n d dn e = (false, d, dn, e) := by unfold endG; rw [if_neg h, if_neg (by rw [hd]; simp)]
theorem endG_data {T : List UInt8} {m n : Int} {d dn e : Bool} (h : ¬ m = 0) (hd : dataG T m = true) : endG T m n d dn e = (false, true, !d && doneG T n, e) := by unfold endG; rw [if_neg h, if_pos hd]

theorem trimmed_iff (v : List UInt8) : trimmed v = [91, 68, 79, 78, 69, 93] ↔ v = [32, 91, 68, 79, 78, 69, 93] ∨ v = [91, 68, 79, 78, 69, 93] := by
  cases v with
  | nil => simp [trimmed, pre]
  | cons a t =>
    by_cases h : a = 32
    · subst h
      simp [trimmed, pre]
    · have hp : pre [32] (a :: t) = false := by simp [pre, h]
      unfold trimmed
      rw [if_neg (by rw [hp]; simp)]
      constructor
      · intro h'; exact .inr h'
      · rintro (h' | h')
        · simp at h'; exact absurd h'.1 h
        · exact h'

theorem take5 (T : List UInt8) (h : 5 ≤ T.length) : pre [100, 97, 116, 97, 58] T = ((T.take 4 == [100, 97, 116, 97]) && (T.getD 4 0 == 58)) := by
  match T, h with
  | a :: b :: c :: d :: e :: t, _ =>
    rw [Bool.eq_iff_iff]
    simp [pre]
    constructor
    · rintro ⟨h1, h2, h3, h4, h5⟩; exact ⟨⟨h1, h2, h3, h4⟩, h5⟩
    · rintro ⟨⟨h1, h2, h3, h4⟩, h5⟩; exact ⟨h1, h2, h3, h4, h5⟩

theorem data_same (T : List UInt8) (m : Int) (h1 : (T.length : Int) ≤ m) (h2 : m ≤ 11 → m = T.length) (h3 : 11 < m → 11 ≤ T.length) : dataB T m = dataG T m := by
  unfold dataB dataG
  by_cases h4 : m < 4
  · rw [decide_eq_false (show ¬ 4 ≤ m by omega), decide_eq_false (show ¬ m = 4 by omega), decide_eq_false (show ¬ 5 ≤ m by omega)]; rfl
  · by_cases h5 : m = 4
    · subst h5
      have hl : T.length = 4 := by have := h2 (by omega); omega
      rw [List.take_of_length_le (by omega)]
      simp
    · have hl : 5 ≤ T.length := by
        by_cases h : m ≤ 11
        · have := h2 h; omega
        · have := h3 (by omega); omega
      rw [take5 T hl, decide_eq_true (show 4 ≤ m by omega), decide_eq_false (show ¬ m ≤ 4 by omega), decide_eq_false (show ¬ m = 4 by omega), decide_eq_true (show 5 ≤ m by omega)]
      simp

theorem done_same (T : List UInt8) (m n : Int) (h1 : (T.length : Int) ≤ m) (h2 : m ≤ 11 → m = T.length) (h3 : 11 < m → 11 ≤ T.length) (h4 : m ≤ T.length ↔ n ≤ 15) (hd : dataB T m = true) : doneB T m = doneG T n := by
  unfold doneB doneG
  by_cases hn : n ≤ 15
  · rw [decide_eq_true (h4.2 hn), decide_eq_true hn, Bool.true_and, Bool.true_and]
    rw [data_same T m h1 h2 h3] at hd
    unfold dataG at hd
    rw [Bool.eq_iff_iff, Bool.or_eq_true, beq_iff_eq, beq_iff_eq, beq_iff_eq, trimmed_iff]
    by_cases h5 : m = 4
    · subst h5
      have e : T = [100, 97, 116, 97] := by
        simp at hd
        exact hd
      subst e
      simp
    · have hd' : 5 ≤ m ∧ pre [100, 97, 116, 97, 58] T = true := by
        simp [h5] at hd
        exact hd
      rw [if_pos (by omega)]
      have hp := hd'.2
      unfold pre at hp
      simp only [Bool.and_eq_true, beq_iff_eq] at hp
      have e : T = [100, 97, 116, 97, 58] ++ T.drop 5 := by
        rw [← hp.2]
        exact (List.take_append_drop 5 T).symm
      generalize T.drop 5 = v at e
      subst e
      simp
  · rw [decide_eq_false (fun h => hn (h4.1 h)), decide_eq_false hn, Bool.false_and, Bool.false_and]

theorem end_same (T : List UInt8) (m n : Int) (d dn e : Bool) (h1 : (T.length : Int) ≤ m) (h2 : m ≤ 11 → m = T.length) (h3 : 11 < m → 11 ≤ T.length) (h4 : m ≤ T.length ↔ n ≤ 15) : endF T m d dn e = endG T m n d dn e := by
  by_cases hm : m = 0
  · rw [endF_zero hm, endG_zero hm]
  · by_cases hd : dataB T m = true
    · rw [endF_data hm hd, endG_data hm (by rw [← data_same T m h1 h2 h3]; exact hd), done_same T m n h1 h2 h3 h4 hd]
    · have hd' : dataB T m = false := by simpa using hd
      rw [endF_other hm hd', endG_other hm (by rw [← data_same T m h1 h2 h3]; exact hd')]

end Go.Proofs.Qxb6601961a
