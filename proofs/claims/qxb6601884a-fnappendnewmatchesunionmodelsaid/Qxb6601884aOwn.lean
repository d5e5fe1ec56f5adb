/-
  Rows that the call itself makes: zzClone.
-/
import Derived.Test.Qxb6601884aReads
import Derived.Laws.CopyOwn
import Derived.Deep.CutRange
import Derived.Deep.DeepCutAuto
import Derived.Lib.SliceRun
namespace Go.Proofs.Qxb6601884a
open Go.RowKit
set_option linter.unusedVariables false

theorem Try.info9 : (Try.prog.info? 9).map (fun i => (i.zero, i.size, i.bytes)) = some (some (.string ByteArray.empty), 1, 16) := by kernel_rfl
theorem Try.size9 : (Try.prog.info? 9).map (·.size) = some 1 := by kernel_rfl

/-- What is read of a row stays readable where every cell stays. -/
theorem Row.keep {w w' : World} {a : Option Addr} {n cap : Nat} {l : List ByteArray} (R : Row w a n cap l) (h : ∀ c v, w.cell? c = some v → w'.cell? c = some v) : Row w' a n cap l := by
  obtain ⟨h1, h2, h3, h4, h5⟩ := R
  refine ⟨h1, h2, h3, h4, ?_⟩
  rcases h5 with h5 | ⟨x, rfl, hc⟩
  · exact .inl h5
  · exact .inr ⟨x, rfl, fun i hi => h _ _ (hc i hi)⟩

theorem keep_below {w w' : World} (hb : Below w.heap.size w w') : ∀ c v, w.cell? c = some v → w'.cell? c = some v :=
  fun c v h => (hb.cell (World.block_lt_of_cell? w c h)).trans h

theorem Row.below {w w' : World} {a : Option Addr} {n cap : Nat} {l : List ByteArray} (R : Row w a n cap l) (hb : Below w.heap.size w w') : Row w' a n cap l :=
  R.keep (keep_below hb)

theorem Row.of_owns {w : World} {base : Nat} {v : Value} {n : Nat} {l : List ByteArray} (h : w.ownsRow base 9 1 v n (l.map Value.string)) (hs : ∀ s ∈ l, s.size ≤ maxLen) :
    ∃ a cap, v = .slice a n cap ∧ Row w a n cap l := by
  have hl : l.length = n := by simpa using h.1
  rcases h.2 with ⟨rfl, rfl⟩ | ⟨g, cap, cur, rfl, hb, hg, hnc, hcm, hsz, ht⟩
  · exact ⟨none, 0, rfl, hl, Nat.le_refl _, Nat.zero_le _, hs, .inl ⟨rfl, rfl, rfl⟩⟩
  · refine ⟨_, cap, rfl, hl, hnc, hcm, hs, .inr ⟨_, rfl, fun i hi => ?_⟩⟩
    have hc := h.cells (g := g) rfl i (.string (l.getD i ByteArray.empty)) (by
      rw [List.getElem?_map, List.getD_eq_getElem?_getD, List.getElem?_eq_getElem (by omega)]; rfl)
    exact hc

/-- A made row, its cells overwritten by a copy of the whole. -/
theorem owns_spliced {w : World} {g n : Nat} {cur : List Value} {cs : List Value} {base : Nat} (hb : base ≤ g) (hm : n ≤ maxLen) (hcur : cur.length = n) (hcs : cs.length = n)
    (hg : w.heap[g]? = some (.cells (splice cur 0 cs).toArray 9 (0, 0))) : w.ownsRow base 9 1 (.slice (some ⟨g, 0, none⟩) n n) n cs := by
  have e : splice cur 0 cs = cs := by
    unfold splice
    rw [List.take_zero, List.nil_append, Nat.zero_add, List.drop_eq_nil_of_le (by omega), List.append_nil]
  rw [e] at hg
  exact ⟨by omega, .inr ⟨g, n, _, rfl, hb, hg, Nat.le_refl _, hm, by simp [hcs], by simpa using List.take_of_length_le (by omega)⟩⟩

theorem made_list {w : World} {g n : Nat} {base : Nat} {xs : List Value} (h : w.ownsRow base 9 1 (.slice (some ⟨g, 0, none⟩) n n) n xs) :
    w.heap[g]? = some (.cells xs.toArray 9 (0, 0)) := by
  rcases h.2 with ⟨h', _⟩ | ⟨g', cap, cur, hv, hb, hg, hnc, hcm, hsz, ht⟩
  · cases h'
  · simp only [Value.slice.injEq, Option.some.injEq, Addr.mk.injEq, true_and, and_true] at hv
    obtain ⟨rfl, rfl⟩ := hv
    rw [List.take_of_length_le (by simp; omega)] at ht
    rw [hg, ← ht]

theorem row_src {w : World} {a : Option Addr} {n cap : Nat} {l : List ByteArray} (R : Row w a n cap l) {w' : World} (h : ∀ c v, w.cell? c = some v → w'.cell? c = some v) :
    0 < (l.map Value.string).length → ∃ ad, a = some ad ∧ ∀ j v, (l.map Value.string)[j]? = some v → w'.cell? (ad.add j) = some v := by
  intro hp
  obtain ⟨h1, h2, h3, h4, h5⟩ := R
  rcases h5 with ⟨rfl, h0, _⟩ | ⟨x, rfl, hc⟩
  · simp at hp; omega
  · refine ⟨x, rfl, fun j v hv => ?_⟩
    rw [List.getElem?_map] at hv
    have hj : j < l.length := by
      rcases Nat.lt_or_ge j l.length with h | h
      · exact h
      · rw [List.getElem?_eq_none h] at hv; cases hv
    have hc' := hc j (by omega)
    rw [List.getElem?_eq_getElem hj] at hv
    simp only [Option.map_some, Option.some.injEq] at hv
    rw [List.getD_eq_getElem?_getD, List.getElem?_eq_getElem hj, Option.getD_some, hv] at hc'
    exact h _ _ hc'

theorem strings_oneCell (l : List ByteArray) : ∀ v ∈ l.map Value.string, v.oneCell' = true := by
  intro v hv
  obtain ⟨s, _, rfl⟩ := List.mem_map.1 hv
  rfl

set_option maxHeartbeats 1000000 in
theorem clone_any (w : World) (a : Option Addr) (n cap : Nat) (l : List ByteArray) (R : Row w a n cap l) (hn : n ≤ 1048576) :
    Calls Try.prog 11 #[.slice a n cap] w fun e w' => ∃ v, e = .returned v ∧ w'.ownsRow w.heap.size 9 1 v n (l.map Value.string) ∧ Below w.heap.size w w' ∧ ∃ a', v = .slice a' n n ∧ (a' = none ↔ a = none) := by
  have q22 : ∀ (w : World) (a : Option Addr) (n c n' c' : Nat), (binOp .eql 22 (.slice a n c) (.slice none n' c')).run Try.prog w = .ok (.bool a.isNone) w := fun w a n c n' c' => Lib.run_eql_slice_nil w 22 9 a n c n' c' Try.underlying22
  cases a with
  | none =>
    have h0 : n = 0 := by rcases R.2.2.2.2 with ⟨_, h, _⟩ | ⟨x, h, _⟩; exact h; cases h
    subst h0
    have hl : l = [] := List.eq_nil_of_length_eq_zero R.1
    subst hl
    clear R
    go_enter Try.func11, Try.ntmps11
    go_wp2
    go_ret
    exact ⟨_, rfl, World.ownsRow_nil _ _ _ _, Below.refl _ _, none, rfl, by simp⟩
  | some x =>
    obtain ⟨i0, hi, hz0, hz1, hz2⟩ := info_parts Try.info9
    obtain ⟨cs, hcs⟩ : ∃ cs, cs = l.map Value.string := ⟨_, rfl⟩
    have HCS : Hid (cs = l.map Value.string) := hcs
    have HL : Hid (cs.length = n) := by rw [hcs]; show _ = _; simp [R.1]
    rw [← hcs]
    clear hcs
    have HR : Hid (Row w (some x) n cap l) := R
    clear R
    go_enter Try.func11, Try.ntmps11
    go_wp2_with (first
      | (at_make; refine wpList_make_full _ rfl (.tmp 7) (.tmp 7) 22 rfl w.heap.size 9 i0 (.string ByteArray.empty) 1 Try.underlying22 hi hz0 hz1 .i64 .i64 (n : Int) (n : Int) n rfl rfl rfl rfl (by rw [hz2]; omega) (by unfold maxLen; omega) (Nat.le_refl _) ?_; intro w1 hown1 hgrow1; have HO : Hid _ := hown1; have HG : Hid _ := hgrow1; clear hown1 hgrow1)
      | (refine wpList_copy_splice rfl (.tmp 9) (.tmp 10) 22 22 rfl 9 Try.underlying22 Try.size9 _ _ _ _ _ _ rfl rfl w.heap.size 0 _ 9 (made_list HO.out) cs (by rw [HL.out]; exact (Nat.min_self _).symm) (by intro hp; rw [HCS.out] at hp ⊢; exact ⟨rfl, row_src HR.out (keep_below ((Below.refl _ _).grown HG.out (Nat.le_refl _) (by intro k h; cases h))) hp⟩) (by have h1 := HO.out.1; have h2 := HL.out; omega) (by rw [HCS.out]; exact strings_oneCell l) w.heap.size w ((Below.refl _ _).grown HG.out (Nat.le_refl _) (by intro k h; cases h)) (Nat.le_refl _) ?_; intro w2 HG2 hB2))
    go_ret
    refine ⟨_, rfl, owns_spliced (Nat.le_refl _) (by unfold maxLen; omega) (by have h1 := HO.out.1; omega) HL.out HG2.out, hB2, _, rfl, by simp⟩

end Go.Proofs.Qxb6601884a
