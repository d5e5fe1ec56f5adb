/-
  The walk of FnEndLineMatchesCaseTable.
-/
import Derived.Test.Qxb6601961aEnd
import Derived.Test.Qxb6601961aModel
import Derived.Test.Qxb6601961aRead
import Derived.Test.Qxb6601961aEqs
namespace Go.Proofs.Qxb6601961a
open Go.RowKit
set_option linter.unusedVariables false
set_option linter.unusedSimpArgs false

/-- The scanner's way and the table's are one. -/
theorem end_agree (L : List UInt8) (hL : L.length = 15) (n : Int) (hn : 0 ≤ n) (K : Nat) (hK : (K : Int) = min n 15) (b d dn e : Bool) :
    endF ((L.take K).drop (stripN b (L.take K))) (n - stripN b (L.take K)) d dn e = endG ((L.take K).drop (stripN b (L.take K))) (n - stripN b (L.take K)) n d dn e := by
  have ho : stripN b (L.take K) = 0 ∨ (stripN b (L.take K) = 3 ∧ 3 ≤ K) := by
    unfold stripN
    split
    · next hh =>
      right
      refine ⟨rfl, ?_⟩
      simp only [Bool.and_eq_true] at hh
      have := hh.2
      unfold pre at this
      simp at this
      omega
    · left; rfl
  have hl : ((L.take K).drop (stripN b (L.take K))).length = K - stripN b (L.take K) := by
    rw [List.length_drop, List.length_take, hL]
    omega
  generalize stripN b (L.take K) = o at ho hl ⊢
  apply end_same
  · rw [hl]; omega
  · rw [hl]; omega
  · rw [hl]; omega
  · rw [hl]; omega

theorem Scn.of_block {T : TypeId} {w : World} {g : Nat} {L : List UInt8} {n : Int} {b c d dn e : Bool} (hl : L.length = 15) (h : w.heap[g]? = some (.cells (scells L n b c d dn e).toArray T (0, 0))) : Scn T w g L n b c d dn e := ⟨hl, h⟩

/-- What holds of every world in the last statement: the scanner's state, the table's state, and that nothing old has turned. -/
def HeldS (w0 : World) (g gs : Nat) (L : List UInt8) (n : Int) (b c d dn e : Bool) (X : List Value) (w' : World) : Prop :=
  Scn 41 w' g L n b c d dn e ∧ w'.rangeAt gs 0 X ∧ Below w0.heap.size w0 w'

theorem HeldS.drew {w0 : World} {g gs : Nat} {L : List UInt8} {n : Int} {b c d dn e : Bool} {X : List Value} {w' : World} (h : HeldS w0 g gs L n b c d dn e X w') : HeldS w0 g gs L n b c d dn e X w'.drew :=
  ⟨h.1.drew, (World.rangeAt_drew _ _ _ _).2 h.2.1, h.2.2.drew⟩

theorem HeldS.below {w0 : World} {g gs : Nat} {L : List UInt8} {n : Int} {b c d dn e : Bool} {X : List Value} {w' w2 : World} (h : HeldS w0 g gs L n b c d dn e X w') (hb : Below w'.heap.size w' w2) : HeldS w0 g gs L n b c d dn e X w2 :=
  ⟨h.1.keep (hb.block g h.1.lt), fun j v hv => (hb.cell (World.block_lt_of_cell? w' _ (h.2.1 j v hv))).trans (h.2.1 j v hv), h.2.2.trans (hb.mono h.2.2.size)⟩

theorem held_full {w0 W : World} {g gs : Nat} {c0 c1 c2 c3 c4 c5 c6 c7 c8 c9 c10 c11 c12 c13 c14 : UInt8} {n : Int} {b c d dn e : Bool} (h : HeldS w0 g gs [c0, c1, c2, c3, c4, c5, c6, c7, c8, c9, c10, c11, c12, c13, c14] n b c d dn e [B c0, B c1, B c2, B c3, B c4, B c5, B c6, B c7, B c8, B c9, B c10, B c11, B c12, B c13, B c14, .int .i64 n, .bool b, .bool c, .bool d, .bool dn, .bool e] W) :
    HeldS w0 g gs [c0, c1, c2, c3, c4, c5, c6, c7, c8, c9, c10, c11, c12, c13, c14] n b c d dn e [B c0, B c1, B c2, B c3, B c4, B c5, B c6, B c7, B c8, B c9, B c10, B c11, B c12, B c13, B c14, .int .i64 n, .bool b, .bool c, .bool d, .bool dn, .bool e] W ∧ W.cell? ⟨gs, 0, none⟩ = some (B c0) ∧ W.cell? ⟨gs, 1, none⟩ = some (B c1) ∧ W.cell? ⟨gs, 2, none⟩ = some (B c2) ∧ W.cell? ⟨gs, 3, none⟩ = some (B c3) ∧ W.cell? ⟨gs, 4, none⟩ = some (B c4) ∧ W.cell? ⟨gs, 5, none⟩ = some (B c5) ∧ W.cell? ⟨gs, 6, none⟩ = some (B c6) ∧ W.cell? ⟨gs, 7, none⟩ = some (B c7) ∧ W.cell? ⟨gs, 8, none⟩ = some (B c8) ∧ W.cell? ⟨gs, 9, none⟩ = some (B c9) ∧ W.cell? ⟨gs, 10, none⟩ = some (B c10) ∧ W.cell? ⟨gs, 11, none⟩ = some (B c11) ∧ W.cell? ⟨gs, 12, none⟩ = some (B c12) ∧ W.cell? ⟨gs, 13, none⟩ = some (B c13) ∧ W.cell? ⟨gs, 14, none⟩ = some (B c14) ∧ W.cell? ⟨gs, 15, none⟩ = some (.int .i64 n) ∧ W.cell? ⟨gs, 16, none⟩ = some (.bool b) ∧ W.cell? ⟨gs, 17, none⟩ = some (.bool c) ∧ W.cell? ⟨gs, 18, none⟩ = some (.bool d) ∧ W.cell? ⟨gs, 19, none⟩ = some (.bool dn) ∧ W.cell? ⟨gs, 20, none⟩ = some (.bool e) := by
  have hr : ∀ j v, [B c0, B c1, B c2, B c3, B c4, B c5, B c6, B c7, B c8, B c9, B c10, B c11, B c12, B c13, B c14, .int .i64 n, .bool b, .bool c, .bool d, .bool dn, .bool e][j]? = some v → W.cell? ⟨gs, j, none⟩ = some v := fun j v hv => by
    have := h.2.1 j v hv
    rwa [Nat.zero_add] at this
  exact ⟨h, hr 0 _ rfl, hr 1 _ rfl, hr 2 _ rfl, hr 3 _ rfl, hr 4 _ rfl, hr 5 _ rfl, hr 6 _ rfl, hr 7 _ rfl, hr 8 _ rfl, hr 9 _ rfl, hr 10 _ rfl, hr 11 _ rfl, hr 12 _ rfl, hr 13 _ rfl, hr 14 _ rfl, hr 15 _ rfl, hr 16 _ rfl, hr 17 _ rfl, hr 18 _ rfl, hr 19 _ rfl, hr 20 _ rfl⟩

theorem block_setCells {T : TypeId} {g : Nat} : ∀ (vs : List Value) (o : Nat) (w : World) (Z : Array Value), w.heap[g]? = some (.cells Z T (0, 0)) → o + vs.length ≤ Z.size →
    ∃ Z', (w.setCells g o vs).heap[g]? = some (.cells Z' T (0, 0)) ∧ Z'.size = Z.size ∧ (∀ j, j < vs.length → Z'[o + j]? = vs[j]?) ∧ ∀ j, j < o → Z'[j]? = Z[j]?
  | [], o, w, Z, h, hl => ⟨Z, h, rfl, fun j hj => absurd hj (Nat.not_lt_zero _), fun j _ => rfl⟩
  | v :: r, o, w, Z, h, hl => by
    have hb := Joins.block_setCell (i := o) h v
    simp only [List.length_cons] at hl
    obtain ⟨Z', h1, h2, h3, h4⟩ := block_setCells r (o + 1) (w.setCell ⟨g, o, none⟩ v) (Z.setIfInBounds o v) hb (by simp; omega)
    refine ⟨Z', h1, by simpa using h2, fun j hj => ?_, fun j hj => ?_⟩
    · cases j with
      | zero =>
        rw [Nat.add_zero, h4 o (by omega), Array.getElem?_setIfInBounds_self_of_lt (by omega)]
        rfl
      | succ j =>
        have := h3 j (by simp only [List.length_cons] at hj; omega)
        rw [show o + (j + 1) = o + 1 + j by omega, this]
        simp
    · rw [h4 j (by omega)]
      rw [Array.getElem?_setIfInBounds_ne (by omega)]

theorem filled {T : TypeId} {g : Nat} {w : World} {Z : Array Value} {vs : List Value} (h : w.heap[g]? = some (.cells Z T (0, 0))) (hl : vs.length = Z.size) : (w.setCells g 0 vs).heap[g]? = some (.cells vs.toArray T (0, 0)) := by
  obtain ⟨Z', h1, h2, h3, _⟩ := block_setCells vs 0 w Z h (by omega)
  rw [h1]
  congr 2
  apply Array.ext_getElem?
  intro j
  by_cases hj : j < vs.length
  · have := h3 j hj
    rw [Nat.zero_add] at this
    rw [this]
    simp
  · rw [Array.getElem?_eq_none (by omega), Array.getElem?_eq_none (by simp; omega)]

theorem below_grown {w w' : World} {g : Nat} (h : Below w.heap.size w w') : w.grownBy w' (some g) := ⟨h.os, h.tape, h.output, h.size, fun k hk _ => h.block k hk⟩

theorem Scn.range21 {T : TypeId} {w : World} {g : Nat} {L : List UInt8} {n : Int} {b c d dn e : Bool} (h : Scn T w g L n b c d dn e) : w.rangeAt g 0 (scells L n b c d dn e) := by
  intro j v hv
  rw [Nat.zero_add, cell_of_row _ g j _ T (0, 0) h.2]
  simpa using hv

set_option maxRecDepth 20000 in
set_option maxHeartbeats 2000000 in
theorem law5 (w : World) (c0 c1 c2 c3 c4 c5 c6 c7 c8 c9 c10 c11 c12 c13 c14 : UInt8) (n : Int) (hn : n ≤ 9223372036854775807) (b c d dn e : Bool) :
    Calls Try.prog 5 #[.agg #[B c0, B c1, B c2, B c3, B c4, B c5, B c6, B c7, B c8, B c9, B c10, B c11, B c12, B c13, B c14], .int .i64 n, .bool b, .bool c, .bool d, .bool dn, .bool e] w fun e' w' => e' = .returned (.bool true) ∧ Below w.heap.size w w' := by
  by_cases h0 : n < 0
  · go_enter Try.func5, Try.ntmps5
    go_wp2
    go_ret
    exact ⟨rfl, (Below.refl _ _).alloc (Nat.le_refl _) _⟩
  have hn0 : 0 ≤ n := by omega
  obtain ⟨K, hK⟩ : ∃ K : Nat, (K : Int) = min n 15 := ⟨(min n 15).toNat, by omega⟩
  have HK := mkHid hK
  have HU22 := mkHid Try.underlying22
  have C9 := mkHid (fun W => new_any W c0 c1 c2 c3 c4 c5 c6 c7 c8 c9 c10 c11 c12 c13 c14 n b c d dn e)
  clear hK
  go_enter Try.func5, Try.ntmps5
  go_wp2_with fail
  refine (C9.out _).mono ?_
  rintro e' w1 ⟨g, rfl, hg, hS1, hB1⟩
  have HS1 := mkHid hS1
  have HB1 := mkHid hB1
  have HG := mkHid hg
  have C15 := mkHid (zzend_any w1 g [c0, c1, c2, c3, c4, c5, c6, c7, c8, c9, c10, c11, c12, c13, c14] n b c d dn e hS1 K hn0 hn HK.out)
  clear hS1 hB1 hg C9
  obtain ⟨R, hR⟩ : ∃ R, R = endF (([c0, c1, c2, c3, c4, c5, c6, c7, c8, c9, c10, c11, c12, c13, c14].take K).drop (stripN b ([c0, c1, c2, c3, c4, c5, c6, c7, c8, c9, c10, c11, c12, c13, c14].take K))) (n - stripN b ([c0, c1, c2, c3, c4, c5, c6, c7, c8, c9, c10, c11, c12, c13, c14].take K)) d dn e := ⟨_, rfl⟩
  rw [← hR] at C15
  have HR := mkHid hR
  clear hR
  obtain ⟨r, d', dn', e2⟩ := R
  go_wp2_with fail
  refine C15.out.mono ?_
  rintro e' w2 ⟨rfl, hS2, hF2⟩
  have HS2 := mkHid hS2
  have HF2 := mkHid hF2
  have hrng : w2.rangeAt w.heap.size 0 [B c0, B c1, B c2, B c3, B c4, B c5, B c6, B c7, B c8, B c9, B c10, B c11, B c12, B c13, B c14] := by
    intro j v hv
    have hj : j < 15 := by
      rcases Nat.lt_or_ge j 15 with h' | h'
      · exact h'
      · rw [List.getElem?_eq_none (by exact h')] at hv; cases hv
    rw [World.cell?_of_block (w := w1) (hF2.block w.heap.size (by have := HB1.out.size; simp only [World.size_alloc] at this; omega) (by have := HG.out; simp only [World.size_alloc] at this; simp; omega))]
    rw [World.cell?_of_block (w := w.alloc (.cells #[B c0, B c1, B c2, B c3, B c4, B c5, B c6, B c7, B c8, B c9, B c10, B c11, B c12, B c13, B c14] 22)) (HB1.out.block w.heap.size (by simp))]
    rw [Nat.zero_add, cell_of_row _ w.heap.size j _ 22 (0, 0) (heap_alloc_new w _)]
    simpa using hv
  have HRG := mkHid hrng
  clear hS2 hF2 C15 hrng
  have hth : (w2.alloc (.cells #[.int .u8 0, .int .u8 0, .int .u8 0, .int .u8 0, .int .u8 0, .int .u8 0, .int .u8 0, .int .u8 0, .int .u8 0, .int .u8 0, .int .u8 0, .int .u8 0, .int .u8 0, .int .u8 0, .int .u8 0, .int .i64 0, .bool false, .bool false, .bool false, .bool false, .bool false] 30)).there w2.heap.size 0 21 := there_block (heap_alloc_new w2 _) rfl
  have HTH := mkHid hth
  clear hth
  go_wp2_with (first
    | ((with_reducible refine wpList_load_mid ?_ 22 (.tmp 7) ?_ w.heap.size 0 ?_ [B c0, B c1, B c2, B c3, B c4, B c5, B c6, B c7, B c8, B c9, B c10, B c11, B c12, B c13, B c14] (.array 15 5) ?_ ?_ ?_ ?_ ?_); rotate_left; (with_reducible rfl); rotate_left 6; rfl; rfl; exact HRG.out; exact HU22.out; rfl; exact Try.row22)
    | ((with_reducible refine wpList_store_mid ?_ 30 (.tmp 17) (.tmp 38) ?_ w2.heap.size 0 #[B c0, B c1, B c2, B c3, B c4, B c5, B c6, B c7, B c8, B c9, B c10, B c11, B c12, B c13, B c14, .int .i64 n, .bool b, .bool c, .bool d, .bool dn, .bool e] ?_ ?_ ?_ ?_ ?_ ?_); rotate_left; (with_reducible rfl); rotate_left 6; rfl; rfl; rfl; exact HTH.out; exact Try.row30; exact one_cells c0 c1 c2 c3 c4 c5 c6 c7 c8 c9 c10 c11 c12 c13 c14 n b c d dn e))
  have hB4 : Below w2.heap.size w2 ((w2.alloc (.cells #[.int .u8 0, .int .u8 0, .int .u8 0, .int .u8 0, .int .u8 0, .int .u8 0, .int .u8 0, .int .u8 0, .int .u8 0, .int .u8 0, .int .u8 0, .int .u8 0, .int .u8 0, .int .u8 0, .int .u8 0, .int .i64 0, .bool false, .bool false, .bool false, .bool false, .bool false] 30)).setCells w2.heap.size 0 [B c0, B c1, B c2, B c3, B c4, B c5, B c6, B c7, B c8, B c9, B c10, B c11, B c12, B c13, B c14, .int .i64 n, .bool b, .bool c, .bool d, .bool dn, .bool e]) := below_setCells (Nat.le_refl _) _ 0 _ ((Below.refl _ _).alloc (Nat.le_refl _) _)
  have hS3 : Scn 30 ((w2.alloc (.cells #[.int .u8 0, .int .u8 0, .int .u8 0, .int .u8 0, .int .u8 0, .int .u8 0, .int .u8 0, .int .u8 0, .int .u8 0, .int .u8 0, .int .u8 0, .int .u8 0, .int .u8 0, .int .u8 0, .int .u8 0, .int .i64 0, .bool false, .bool false, .bool false, .bool false, .bool false] 30)).setCells w2.heap.size 0 [B c0, B c1, B c2, B c3, B c4, B c5, B c6, B c7, B c8, B c9, B c10, B c11, B c12, B c13, B c14, .int .i64 n, .bool b, .bool c, .bool d, .bool dn, .bool e]) w2.heap.size [c0, c1, c2, c3, c4, c5, c6, c7, c8, c9, c10, c11, c12, c13, c14] n b c d dn e := ⟨rfl, filled (heap_alloc_new w2 _) rfl⟩
  have HB4 := mkHid hB4
  have C16 := mkHid (model_any _ w2.heap.size [c0, c1, c2, c3, c4, c5, c6, c7, c8, c9, c10, c11, c12, c13, c14] n b c d dn e hS3 K hn0 hn HK.out)
  rw [← end_agree [c0, c1, c2, c3, c4, c5, c6, c7, c8, c9, c10, c11, c12, c13, c14] rfl n hn0 K HK.out b d dn e, ← HR.out] at C16
  clear hB4
  refine C16.out.mono ?_
  rintro e' w3 ⟨rfl, hS4, hF4⟩
  have hS5 : Scn 41 w3 g [c0, c1, c2, c3, c4, c5, c6, c7, c8, c9, c10, c11, c12, c13, c14] 0 true c d' dn' e2 := (HS2.out.keep (HB4.out.block g HS2.out.lt)).keep (hF4.block g (Nat.lt_of_lt_of_le HS2.out.lt HB4.out.size) (by have := HS2.out.lt; simp; omega))
  have hB3 : Below w.heap.size w w3 := by
    have z1 := HB1.out.size
    have z2 := HF2.out.size
    have z3 := HG.out
    simp only [World.size_alloc] at z1 z3
    have q1 : Below w.heap.size w w1 := ((Below.refl _ _).alloc (Nat.le_refl _) _).trans (HB1.out.mono (by simp))
    have q2 : Below w.heap.size w w2 := q1.grown HF2.out (by omega) (by intro k hk; cases hk; omega)
    have z4 := HB4.out.size
    exact (q2.trans (HB4.out.mono q2.size)).grown hF4 (by omega) (by intro k hk; cases hk; omega)
  have hH : HeldS w g w2.heap.size [c0, c1, c2, c3, c4, c5, c6, c7, c8, c9, c10, c11, c12, c13, c14] 0 true c d' dn' e2 [B c0, B c1, B c2, B c3, B c4, B c5, B c6, B c7, B c8, B c9, B c10, B c11, B c12, B c13, B c14, .int .i64 0, .bool true, .bool c, .bool d', .bool dn', .bool e2] w3 := ⟨hS5, hS4.range21, hB3⟩
  obtain ⟨d30, hd30, hrow30⟩ := Try.isRow30
  have HD30 := mkHid hd30
  have HR30 := mkHid hrow30
  clear hd30 hrow30
  have heq := fun W => eq30 W c0 c1 c2 c3 c4 c5 c6 c7 c8 c9 c10 c11 c12 c13 c14 0 true c d' dn' e2
  have CR : Hid (∀ W, HeldS w g w2.heap.size [c0, c1, c2, c3, c4, c5, c6, c7, c8, c9, c10, c11, c12, c13, c14] 0 true c d' dn' e2 [B c0, B c1, B c2, B c3, B c4, B c5, B c6, B c7, B c8, B c9, B c10, B c11, B c12, B c13, B c14, .int .i64 0, .bool true, .bool c, .bool d', .bool dn', .bool e2] W → Calls Try.prog 11 #[.pointer (some ⟨g, 0, none⟩)] W fun e' w' =>
      e' = .returned (.agg #[B c0, B c1, B c2, B c3, B c4, B c5, B c6, B c7, B c8, B c9, B c10, B c11, B c12, B c13, B c14, .int .i64 0, .bool true, .bool c, .bool d', .bool dn', .bool e2]) ∧ HeldS w g w2.heap.size [c0, c1, c2, c3, c4, c5, c6, c7, c8, c9, c10, c11, c12, c13, c14] 0 true c d' dn' e2 [B c0, B c1, B c2, B c3, B c4, B c5, B c6, B c7, B c8, B c9, B c10, B c11, B c12, B c13, B c14, .int .i64 0, .bool true, .bool c, .bool d', .bool dn', .bool e2] w') :=
    fun W h => (read_any W g c0 c1 c2 c3 c4 c5 c6 c7 c8 c9 c10 c11 c12 c13 c14 0 true c d' dn' e2 h.1).mono fun e' w' ⟨h1, h2⟩ => ⟨h1, h.below h2⟩
  clear hS3 C16 hS4 hF4 hS5 hB3 HS2 HF2 HRG HS1 HB1 HG HR HU22 HB4 HTH
  go_wp2_with fail
  have hrr : (r == r) = true := by simp
  refine wp_region_held_drew (S := HeldS w g w2.heap.size [c0, c1, c2, c3, c4, c5, c6, c7, c8, c9, c10, c11, c12, c13, c14] 0 true c d' dn' e2 [B c0, B c1, B c2, B c3, B c4, B c5, B c6, B c7, B c8, B c9, B c10, B c11, B c12, B c13, B c14, .int .i64 0, .bool true, .bool c, .bool d', .bool dn', .bool e2]) (by kernel_rfl) hH.drew (fun hHeld => ?_)
  refine wpAnyH_take (i := 0) (oi := { dst := some 40, op := _, type := _, pos := _, after := _, guard := _ }) (v := ?_) rfl (by kernel_rfl) (by kernel_rfl) (by kernel_rfl) (fun _ _ _ h => h) (Or.inl ⟨by rfl, ?_⟩) (by assumption) ?_
  rotate_left
  · intro W hSw
    go_simp
    try with_reducible rfl
  simp only [Act.put, List.setIfInBounds_toArray, List.set_cons_zero, List.set_cons_succ]
  refine wpAnyH_take (i := 1) (oi := { dst := some 41, op := _, type := _, pos := _, after := _, guard := _ }) (v := ?_) rfl (by kernel_rfl) (by kernel_rfl) (by kernel_rfl) (fun _ _ _ h => h) (Or.inl ⟨by rfl, ?_⟩) (by assumption) ?_
  rotate_left
  · intro W hSw
    go_simp
    try with_reducible rfl
  simp only [Act.put, List.setIfInBounds_toArray, List.set_cons_zero, List.set_cons_succ]
  refine wpAnyH_take (i := 2) (oi := { dst := some 42, op := _, type := _, pos := _, after := _, guard := _ }) (v := ?_) rfl (by kernel_rfl) (by kernel_rfl) (by kernel_rfl) (fun _ _ _ h => h) (Or.inl ⟨by rfl, ?_⟩) (by assumption) ?_
  rotate_left
  · intro W hSw
    go_simp
    try with_reducible rfl
  simp only [Act.put, List.setIfInBounds_toArray, List.set_cons_zero, List.set_cons_succ]
  refine wpAnyH_take (i := 3) (oi := { dst := some 43, op := _, type := _, pos := _, after := _, guard := _ }) (v := ?_) rfl (by kernel_rfl) (by kernel_rfl) (by kernel_rfl) (fun _ _ _ h => h) (Or.inl ⟨by rfl, ?_⟩) (by assumption) ?_
  rotate_left
  · intro W hSw
    go_simp
    try with_reducible rfl
  simp only [Act.put, List.setIfInBounds_toArray, List.set_cons_zero, List.set_cons_succ]
  refine wpAnyH_take (i := 4) (oi := { dst := some 44, op := _, type := _, pos := _, after := _, guard := _ }) (v := ?_) rfl (by kernel_rfl) (by kernel_rfl) (by kernel_rfl) (fun _ _ _ h => h) (Or.inl ⟨by rfl, ?_⟩) (by assumption) ?_
  rotate_left
  · intro W hSw
    go_simp
    try with_reducible rfl
  simp only [Act.put, List.setIfInBounds_toArray, List.set_cons_zero, List.set_cons_succ]
  refine wpAnyH_take (i := 6) (oi := { dst := some 46, op := _, type := _, pos := _, after := _, guard := _ }) (v := _) rfl (by kernel_rfl) (by kernel_rfl) (by kernel_rfl) (fun _ _ _ h => h) (yieldsIf_load_mid (by rfl) 30 (.tmp 17) rfl w2.heap.size 0 rfl [B c0, B c1, B c2, B c3, B c4, B c5, B c6, B c7, B c8, B c9, B c10, B c11, B c12, B c13, B c14, .int .i64 0, .bool true, .bool c, .bool d', .bool dn', .bool e2] d30 (fun W h => h.2.1) HD30.out HR30.out Try.row30) (by assumption) ?_
  simp only [Act.put, List.setIfInBounds_toArray, List.set_cons_zero, List.set_cons_succ]
  refine wpAnyH_ready (rs := [5]) (by kernel_rfl) (by simp) ?_
  refine AllReadyH.cons (o := { dst := some 45, op := _, type := _, pos := _, after := _, guard := _ }) rfl (fun K hK => ?_) AllReadyH.nil
  go_simp
  refine (CR.out _ (by assumption)).mono ?_
  rintro e' w' ⟨rfl, hh⟩
  go_wp2_with fail
  refine hK.out _ _ hh (fun hHeld => ?_)
  clear hK K
  refine wpAnyH_take (i := 7) (oi := { dst := some 47, op := _, type := _, pos := _, after := _, guard := _ }) (v := ?_) rfl (by kernel_rfl) (by kernel_rfl) (by kernel_rfl) (fun _ _ _ h => h) (Or.inl ⟨by rfl, ?_⟩) (by assumption) ?_
  rotate_left
  · intro W hSw
    go_simp
    try with_reducible rfl
  try simp only [Act.put, List.setIfInBounds_toArray, List.set_cons_zero, List.set_cons_succ]
  refine wpAnyH_take (i := 8) (oi := { dst := some 48, op := _, type := _, pos := _, after := _, guard := _ }) (v := ?_) rfl (by kernel_rfl) (by kernel_rfl) (by kernel_rfl) (fun _ _ _ h => h) (Or.inl ⟨by rfl, ?_⟩) (by assumption) ?_
  rotate_left
  · intro W hSw
    go_simp
    try with_reducible rfl
  try simp only [Act.put, List.setIfInBounds_toArray, List.set_cons_zero, List.set_cons_succ]
  refine wpAnyH_take (i := 9) (oi := { dst := some 14, op := _, type := _, pos := _, after := _, guard := _ }) (v := ?_) rfl (by kernel_rfl) (by kernel_rfl) (by kernel_rfl) (fun _ _ _ h => h) (Or.inl ⟨by rfl, ?_⟩) (by assumption) ?_
  rotate_left
  · intro W hSw
    go_simp
    try with_reducible rfl
  try simp only [Act.put, List.setIfInBounds_toArray, List.set_cons_zero, List.set_cons_succ]
  refine wpAnyH_done (by kernel_rfl) ?_ _
  go_wp2
  go_ret
  exact ⟨by simp, hh.2.2⟩

end Go.Proofs.Qxb6601961a
