/-
  What ending a line does, as plain functions: as the scanner does it, and as the law's own table has it.
-/
import Derived.Test.Qxb6601961aScn
namespace Go.Proofs.Qxb6601961a
open Go.RowKit

/-- How many bytes of a byte order mark are dropped. -/
def stripN (b : Bool) (A : List UInt8) : Nat := if (!b && pre [239, 187, 191] A) = true then 3 else 0

def dataB (T : List UInt8) (m : Int) : Bool := decide (4 ≤ m) && (T.take 4 == [100, 97, 116, 97]) && (decide (m ≤ 4) || (T.getD 4 0 == 58))

def trimmed (v : List UInt8) : List UInt8 := if pre [32] v = true then v.drop 1 else v

def doneB (T : List UInt8) (m : Int) : Bool := decide (m ≤ (T.length : Int)) && (trimmed (T.drop (if 4 < m then 5 else 4)) == [91, 68, 79, 78, 69, 93])

/-- The answer, and the flags 'data', 'done', 'ended' behind it. -/
def endF (T : List UInt8) (m : Int) (d dn e : Bool) : Bool × Bool × Bool × Bool :=
  if m = 0 then (d && !dn, false, false, e || dn) else if dataB T m = true then (false, true, !d && doneB T m, e) else (false, d, dn, e)

def EndPost (Ty : TypeId) (w : World) (g : Nat) (L : List UInt8) (c : Bool) (R : Bool × Bool × Bool × Bool) (e' : Ending) (w' : World) : Prop :=
  e' = .returned (.bool R.1) ∧ Scn Ty w' g L 0 true c R.2.1 R.2.2.1 R.2.2.2 ∧ w.grownBy w' (some g)

theorem EndPost.mk {Ty : TypeId} {w : World} {g : Nat} {L : List UInt8} {c : Bool} {R : Bool × Bool × Bool × Bool} {w' : World} {r d dn e : Bool} (hR : R = (r, d, dn, e))
    (h1 : Scn Ty w' g L 0 true c d dn e) (h2 : w.grownBy w' (some g)) : EndPost Ty w g L c R (.returned (.bool r)) w' := by
  subst hR; exact ⟨rfl, h1, h2⟩

theorem endF_zero {T : List UInt8} {m : Int} {d dn e : Bool} (h : m = 0) : endF T m d dn e = (d && !dn, false, false, e || dn) := by unfold endF; rw [if_pos h]
theorem endF_other {T : List UInt8} {m : Int} {d dn e : Bool} (h : ¬ m = 0) (hd : dataB T m = false) : endF T m d dn e = (false, d, dn, e) := by unfold endF; rw [if_neg h, if_neg (by rw [hd]; simp)]
theorem endF_data {T : List UInt8} {m : Int} {d dn e : Bool} (h : ¬ m = 0) (hd : dataB T m = true) : endF T m d dn e = (false, true, !d && doneB T m, e) := by unfold endF; rw [if_neg h, if_pos hd]

end Go.Proofs.Qxb6601961a
