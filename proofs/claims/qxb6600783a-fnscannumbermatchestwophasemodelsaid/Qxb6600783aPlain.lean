/-
  The plain functions of the scan laws: no Go in sight.
-/
namespace Go.Proofs.Qxb6600783a.Plain

/-- Is the byte an ASCII digit? -/
def dg (c : UInt8) : Bool := decide (48 ≤ (c.toNat : Int) ∧ (c.toNat : Int) ≤ 57)

/-- How many bytes the number's scan takes, a point already met or not. -/
def scan : Bool → List UInt8 → Nat
  | _, [] => 0
  | p, c :: cs => if dg c then scan p cs + 1 else if c = 46 ∧ p = false then scan true cs + 1 else 0

/-- How many digits the list begins with. -/
def run : List UInt8 → Nat
  | [] => 0
  | c :: cs => if dg c then run cs + 1 else 0

theorem scan_le (p : Bool) (l : List UInt8) : scan p l ≤ l.length := by
  induction l generalizing p with
  | nil => simp [scan]
  | cons c cs ih =>
    unfold scan
    have h1 := ih p
    have h2 := ih true
    simp only [List.length_cons]
    split
    · omega
    · split <;> omega

theorem run_le (l : List UInt8) : run l ≤ l.length := by
  induction l with
  | nil => simp [run]
  | cons c cs ih => unfold run; simp only [List.length_cons]; split <;> omega

theorem scan_true (l : List UInt8) : scan true l = run l := by
  induction l with
  | nil => simp [scan, run]
  | cons c cs ih => unfold scan run; rw [ih]; simp

/-- The two-phase reading: a run of digits; if a point stops it, one more run behind the point. -/
theorem scan_false (l : List UInt8) :
    scan false l = if (l.drop (run l)).head? = some 46 then run l + 1 + run (l.drop (run l + 1)) else run l := by
  induction l with
  | nil => simp [scan, run]
  | cons c cs ih =>
    by_cases h : dg c = true
    · have hr : run (c :: cs) = run cs + 1 := by simp [run, h]
      have hs : scan false (c :: cs) = scan false cs + 1 := by simp [scan, h]
      rw [hr, hs, ih]
      simp only [List.drop_succ_cons]
      split <;> omega
    · have hr : run (c :: cs) = 0 := by simp [run, h]
      have hs : scan false (c :: cs) = if c = 46 then scan true cs + 1 else 0 := by simp [scan, h]
      rw [hr, hs, scan_true]
      simp only [List.drop_zero, List.head?_cons, Option.some.injEq, List.drop_succ_cons]
      split <;> omega

theorem drop_cons (s : ByteArray) (k : Nat) (h : k < s.size) : s.data.toList.drop k = s[k] :: s.data.toList.drop (k + 1) := by
  rw [List.drop_eq_getElem_cons (by simpa using h)]; rfl

theorem drop_nil (s : ByteArray) (k : Nat) (h : s.size ≤ k) : s.data.toList.drop k = [] := by
  rw [List.drop_eq_nil_iff]; simpa using h

theorem dg_yes {c : UInt8} (h1 : 48 ≤ (c.toNat : Int)) (h2 : (c.toNat : Int) ≤ 57) : dg c = true := by simp [dg, h1, h2]

theorem dg_no {c : UInt8} (h : ¬ (48 ≤ (c.toNat : Int) ∧ (c.toNat : Int) ≤ 57)) : dg c = false := by simp only [dg, decide_eq_false_iff_not]; exact h

theorem point_iff (c : UInt8) : c = 46 ↔ (c.toNat : Int) = 46 := by
  rw [← UInt8.toNat_inj]
  show c.toNat = 46 ↔ _
  omega

theorem u8_lt (c : UInt8) : c.toNat < 256 := c.toNat_lt

theorem scan_dig (s : ByteArray) (k : Nat) (p : Bool) (h : k < s.size) (h1 : 48 ≤ (s[k].toNat : Int)) (h2 : (s[k].toNat : Int) ≤ 57) :
    k + scan p (s.data.toList.drop k) = (k + 1) + scan p (s.data.toList.drop (k + 1)) := by
  rw [drop_cons s k h]; simp only [scan, dg_yes h1 h2, if_true]; omega

theorem scan_point (s : ByteArray) (k : Nat) (p : Bool) (h : k < s.size) (h1 : (s[k].toNat : Int) = 46) (hp : p = false) :
    k + scan p (s.data.toList.drop k) = (k + 1) + scan true (s.data.toList.drop (k + 1)) := by
  subst hp
  have hd : dg s[k] = false := dg_no (by omega)
  have hc := (point_iff s[k]).2 h1
  have e : scan false (s[k] :: s.data.toList.drop (k + 1)) = scan true (s.data.toList.drop (k + 1)) + 1 := by
    rw [scan.eq_2, if_neg (by rw [hd]; simp), if_pos ⟨hc, rfl⟩]
  rw [drop_cons s k h, e]; omega

theorem scan_stop (s : ByteArray) (k : Nat) (p : Bool) (h : k < s.size) (h1 : ¬ (48 ≤ (s[k].toNat : Int) ∧ (s[k].toNat : Int) ≤ 57)) (h2 : ¬ (s[k].toNat : Int) = 46 ∨ p = true) :
    k + scan p (s.data.toList.drop k) = k := by
  rw [drop_cons s k h]; simp only [scan, dg_no h1, point_iff s[k]]
  rcases h2 with h2 | h2 <;> simp [h2]

theorem scan_end (s : ByteArray) (k : Nat) (p : Bool) (h : s.size ≤ k) : k + scan p (s.data.toList.drop k) = k := by
  rw [drop_nil s k h]; simp [scan]

theorem run_dig (s : ByteArray) (k : Nat) (h : k < s.size) (h1 : 48 ≤ (s[k].toNat : Int)) (h2 : (s[k].toNat : Int) ≤ 57) :
    k + run (s.data.toList.drop k) = (k + 1) + run (s.data.toList.drop (k + 1)) := by
  rw [drop_cons s k h]; simp only [run, dg_yes h1 h2, if_true]; omega

theorem run_stop (s : ByteArray) (k : Nat) (h : k < s.size) (h1 : ¬ (48 ≤ (s[k].toNat : Int) ∧ (s[k].toNat : Int) ≤ 57)) :
    k + run (s.data.toList.drop k) = k := by
  rw [drop_cons s k h]; simp [run, dg_no h1]

theorem run_end (s : ByteArray) (k : Nat) (h : s.size ≤ k) : k + run (s.data.toList.drop k) = k := by
  rw [drop_nil s k h]; simp [run]

/-- The two-phase law at a place of a text: the run behind k ends at m. -/
theorem two_phase (s : ByteArray) (k m : Nat) (hm : m = k + run (s.data.toList.drop k)) :
    k + scan false (s.data.toList.drop k) = if h : m < s.size then (if (s[m].toNat : Int) = 46 then (m + 1) + run (s.data.toList.drop (m + 1)) else m) else m := by
  subst hm
  rw [scan_false, List.drop_drop, List.drop_drop]
  split
  · next h1 =>
    by_cases h : k + run (s.data.toList.drop k) < s.size
    · rw [drop_cons s _ h] at h1
      simp only [List.head?_cons, Option.some.injEq, point_iff] at h1
      rw [dif_pos h, if_pos h1]
      simp only [Nat.add_assoc]
    · rw [drop_nil s _ (by omega)] at h1; simp at h1
  · next h1 =>
    by_cases h : k + run (s.data.toList.drop k) < s.size
    · rw [drop_cons s _ h] at h1
      simp only [List.head?_cons, Option.some.injEq, point_iff] at h1
      rw [dif_pos h, if_neg h1]
    · rw [dif_neg h]

/-- A text's tail. -/
theorem tail_list (s : ByteArray) (k : Nat) : (s.extract k s.size).data.toList.drop 0 = s.data.toList.drop k := by
  simp only [ByteArray.data_extract, Array.toList_extract, List.extract_eq_take_drop, List.drop_zero]
  rw [List.take_of_length_le]
  simp

end Go.Proofs.Qxb6600783a.Plain
