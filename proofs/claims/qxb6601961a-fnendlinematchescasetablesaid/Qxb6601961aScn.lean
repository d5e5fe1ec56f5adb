/-
  The scanner's state in memory: fifteen bytes, a length, five flags; what a store into it leaves.
-/
import Derived.Test.Qxb6601961aBytes
import Derived.Lib.SmallJoins
namespace Go.Proofs.Qxb6601961a
open Go.RowKit
set_option linter.unusedVariables false

def scells (L : List UInt8) (n : Int) (b c d dn e : Bool) : List Value :=
  L.map (fun x => Value.int .u8 x.toNat) ++ [.int .i64 n, .bool b, .bool c, .bool d, .bool dn, .bool e]

/-- Block g of w is a struct of type T with these fields. -/
def Scn (T : TypeId) (w : World) (g : Nat) (L : List UInt8) (n : Int) (b c d dn e : Bool) : Prop :=
  L.length = 15 ∧ w.heap[g]? = some (.cells (scells L n b c d dn e).toArray T (0, 0))

section
variable {T : TypeId} {w : World} {g : Nat} {L : List UInt8} {n : Int} {b c d dn e : Bool}

theorem Scn.line (h : Scn T w g L n b c d dn e) (i : Nat) (hi : i < 15) : w.cell? ⟨g, i, none⟩ = some (.int .u8 (L.getD i 0).toNat) := by
  have hl := h.1
  rw [cell_of_row w g i _ T (0, 0) h.2]
  simp [scells, List.getElem?_append, hl, hi]

theorem Scn.tail (h : Scn T w g L n b c d dn e) (i : Nat) : w.cell? ⟨g, 15 + i, none⟩ = [Value.int .i64 n, .bool b, .bool c, .bool d, .bool dn, .bool e][i]? := by
  have hl := h.1
  rw [cell_of_row w g (15 + i) _ T (0, 0) h.2]
  simp only [scells, List.getElem?_toArray]
  rw [List.getElem?_append_right (by simp [hl])]
  congr 1
  simp [hl]

theorem Scn.get_n (h : Scn T w g L n b c d dn e) : w.cell? ⟨g, 15, none⟩ = some (.int .i64 n) := h.tail 0
theorem Scn.get_b (h : Scn T w g L n b c d dn e) : w.cell? ⟨g, 16, none⟩ = some (.bool b) := h.tail 1
theorem Scn.get_c (h : Scn T w g L n b c d dn e) : w.cell? ⟨g, 17, none⟩ = some (.bool c) := h.tail 2
theorem Scn.get_d (h : Scn T w g L n b c d dn e) : w.cell? ⟨g, 18, none⟩ = some (.bool d) := h.tail 3
theorem Scn.get_dn (h : Scn T w g L n b c d dn e) : w.cell? ⟨g, 19, none⟩ = some (.bool dn) := h.tail 4
theorem Scn.get_e (h : Scn T w g L n b c d dn e) : w.cell? ⟨g, 20, none⟩ = some (.bool e) := h.tail 5
theorem Scn.free (h : Scn T w g L n b c d dn e) (i : Nat) : w.frozen? ⟨g, i, none⟩ = false := frozen_of_row w g i _ T h.2
theorem Scn.lt (h : Scn T w g L n b c d dn e) : g < w.heap.size := (Array.getElem?_eq_some_iff.1 h.2).1

theorem set_tail (M : List Value) (i : Nat) (v : Value) (hM : M.length = 15) (R : List Value) : (M ++ R).toArray.setIfInBounds (15 + i) v = (M ++ R.set i v).toArray := by
  rw [List.setIfInBounds_toArray]
  congr 1
  rw [List.set_append_right _ _ (by omega)]
  congr 2
  omega

theorem Scn.store (h : Scn T w g L n b c d dn e) (i : Nat) (v : Value) (n' : Int) (b' c' d' dn' e' : Bool)
    (hv : [Value.int .i64 n, .bool b, .bool c, .bool d, .bool dn, .bool e].set i v = [Value.int .i64 n', .bool b', .bool c', .bool d', .bool dn', .bool e']) :
    Scn T (w.setCell ⟨g, 15 + i, none⟩ v) g L n' b' c' d' dn' e' := by
  refine ⟨h.1, ?_⟩
  rw [Joins.block_setCell h.2 v]
  unfold scells
  rw [set_tail _ i v (by simp [h.1]), hv]

theorem Scn.setN (h : Scn T w g L n b c d dn e) (n' : Int) : Scn T (w.setCell ⟨g, 15, none⟩ (.int .i64 n')) g L n' b c d dn e := h.store 0 _ _ _ _ _ _ _ rfl
theorem Scn.setB (h : Scn T w g L n b c d dn e) (b' : Bool) : Scn T (w.setCell ⟨g, 16, none⟩ (.bool b')) g L n b' c d dn e := h.store 1 _ _ _ _ _ _ _ rfl
theorem Scn.setD (h : Scn T w g L n b c d dn e) (d' : Bool) : Scn T (w.setCell ⟨g, 18, none⟩ (.bool d')) g L n b c d' dn e := h.store 3 _ _ _ _ _ _ _ rfl
theorem Scn.setDn (h : Scn T w g L n b c d dn e) (dn' : Bool) : Scn T (w.setCell ⟨g, 19, none⟩ (.bool dn')) g L n b c d dn' e := h.store 4 _ _ _ _ _ _ _ rfl
theorem Scn.setE (h : Scn T w g L n b c d dn e) (e' : Bool) : Scn T (w.setCell ⟨g, 20, none⟩ (.bool e')) g L n b c d dn e' := h.store 5 _ _ _ _ _ _ _ rfl

theorem Scn.keep {w' : World} (h : Scn T w g L n b c d dn e) (hk : w'.heap[g]? = w.heap[g]?) : Scn T w' g L n b c d dn e := ⟨h.1, by rw [hk]; exact h.2⟩
theorem Scn.alloc (h : Scn T w g L n b c d dn e) (o : Obj) : Scn T (w.alloc o) g L n b c d dn e := h.keep (Below.heap_alloc w o g h.lt)
theorem Scn.drewN (h : Scn T w g L n b c d dn e) (q : Nat) : Scn T (w.drewN q) g L n b c d dn e := h.keep rfl
theorem Scn.drew (h : Scn T w g L n b c d dn e) : Scn T w.drew g L n b c d dn e := h.keep rfl

/-- The line's bytes as a slice. -/
theorem Scn.bytes (h : Scn T w g L n b c d dn e) (o k : Nat) (hk : o + k ≤ 15) : BB w (some ⟨g, o, none⟩) k ((L.drop o).take k) := by
  have hl := h.1
  refine ⟨by simp; omega, fun _ => ⟨g, o, rfl, fun i hi => ?_⟩⟩
  rw [h.line (o + i) (by omega)]
  simp [hi, List.getElem?_drop]
end

/-- Nothing but block g, and new blocks, has turned. -/
theorem fr_refl (w : World) (g : Nat) : w.grownBy w (some g) := ⟨rfl, rfl, rfl, Nat.le_refl _, fun _ _ _ => rfl⟩
theorem fr_trans {w w1 w2 : World} {g : Nat} (h1 : w.grownBy w1 (some g)) (h2 : w1.grownBy w2 (some g)) : w.grownBy w2 (some g) :=
  ⟨h2.os.trans h1.os, h2.tape.trans h1.tape, h2.output.trans h1.output, Nat.le_trans h1.size h2.size, fun k hk hne => (h2.block k (Nat.lt_of_lt_of_le hk h1.size) hne).trans (h1.block k hk hne)⟩
theorem fr_set {w w1 : World} {g : Nat} (h : w.grownBy w1 (some g)) (i : Nat) (v : Value) : w.grownBy (w1.setCell ⟨g, i, none⟩ v) (some g) :=
  fr_trans h ⟨rfl, rfl, rfl, by simp, fun k _ hne => heap_setCell_other w1 ⟨g, i, none⟩ k v (fun e => hne (by rw [e]))⟩
theorem fr_alloc {w w1 : World} {g : Nat} (h : w.grownBy w1 (some g)) (o : Obj) : w.grownBy (w1.alloc o) (some g) :=
  fr_trans h (World.grownBy_alloc w1 o _)
theorem fr_drewN {w w1 : World} {g : Nat} (h : w.grownBy w1 (some g)) (q : Nat) : w.grownBy (w1.drewN q) (some g) :=
  ⟨h.os, h.tape, h.output, h.size, h.block⟩

end Go.Proofs.Qxb6601961a
