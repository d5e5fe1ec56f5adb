/-
  The proof of one given law. The frame is the kit's template at this function's number and types (an array of fifteen bytes, an int, five bools); the walk is ours.
-/
import Derived.Test.Qxb6601961aRows
import Derived.WalkKit
import Derived.ProofKit
import Derived.OpenShut
import Derived.ShutString
import Derived.ChangeOld
import Derived.Below
import Derived.Test.Qxb6601961aLaw
namespace Go.Proofs.Qxb6601961a.fnEndLineMatchesCaseTable
open Go.ChangeShapes Go.WideShapes Go.ChangeAt Go.RowKit
set_option linter.unusedVariables false

theorem own : ownKnob Try.prog.godebug = none := by kernel_rfl
theorem laidOut : laidOutB Try.prog = true := by kernel_rfl
theorem cells22 : Try.prog.cellsOf 22 = 15 := by kernel_rfl
theorem cells5 : Try.prog.cellsOf 5 = 1 := by kernel_rfl

theorem list15 {α : Type} (l : List α) (h : l.length = 15) : ∃ z0 z1 z2 z3 z4 z5 z6 z7 z8 z9 z10 z11 z12 z13 z14, l = [z0, z1, z2, z3, z4, z5, z6, z7, z8, z9, z10, z11, z12, z13, z14] := by
  match l, h with
  | [z0, z1, z2, z3, z4, z5, z6, z7, z8, z9, z10, z11, z12, z13, z14], _ => exact ⟨z0, z1, z2, z3, z4, z5, z6, z7, z8, z9, z10, z11, z12, z13, z14, rfl⟩

theorem byteOf {H : Type} {enc : TypeId × Value → H} {W : World} {base : Nat} {sp : Nat → Bool} {held : Bool} {m : Nat} {v : Value} {y : DataW H × List MemPlace}
    (h : DataW.trod enc Try.prog W base sp held m 5 [v] = some y) : ∃ u : UInt8, v = B u := by
  obtain ⟨x, e0, _, wx⟩ := DataW.trod_int Try.underlying5 h
  simp at e0
  subst e0
  have hb := bounds_u8 wx
  refine ⟨UInt8.ofNat x.toNat, ?_⟩
  have : ((UInt8.ofNat x.toNat).toNat : Int) = x := by
    rw [UInt8.toNat_ofNat']
    omega
  show Value.int .u8 x = Value.int .u8 _
  rw [this]

theorem bytesOf15 {H : Type} {enc : TypeId × Value → H} {W : World} {r : Reach} {b0 base : Nat} {sp : Nat → Bool} {held : Bool} {v : Value} {d : DataW H} {p : List MemPlace}
    (hv : Value.okWide Try.prog W r b0 22 v) (h : DataW.Trod enc Try.prog W base sp held 22 v d p) : ∃ c0 c1 c2 c3 c4 c5 c6 c7 c8 c9 c10 c11 c12 c13 c14 : UInt8, v = .agg #[B c0, B c1, B c2, B c3, B c4, B c5, B c6, B c7, B c8, B c9, B c10, B c11, B c12, B c13, B c14] := by
  obtain ⟨cs, rfl, hsz, _⟩ : ∃ cs, v = .agg cs ∧ cs.size = Try.prog.cellsOf 22 ∧ Row.okWide Try.prog W r b0 22 cs := by
    simpa [Value.okWide, Try.underlying22] using hv
  rw [cells22] at hsz
  obtain ⟨l⟩ := cs
  obtain ⟨z0, z1, z2, z3, z4, z5, z6, z7, z8, z9, z10, z11, z12, z13, z14, rfl⟩ := list15 l hsz
  obtain ⟨fuel, hf⟩ := h
  obtain ⟨xs, m, _, _, _, hl, hel0⟩ := DataW.trod_array Try.underlying22 hf
  have hel : ∀ i, (hi : i < 15) → DataW.trod enc Try.prog W base sp held m 5 ((([z0, z1, z2, z3, z4, z5, z6, z7, z8, z9, z10, z11, z12, z13, z14] : List Value).drop i).take 1) = some (xs[i]'(by omega)) := by
    intro i hi
    have h := hel0 i hi
    rw [cells5, Nat.mul_one, List.getElem?_eq_getElem (by omega)] at h
    exact h
  obtain ⟨u0, rfl⟩ : ∃ u : UInt8, z0 = B u := byteOf (hel 0 (by omega))
  obtain ⟨u1, rfl⟩ : ∃ u : UInt8, z1 = B u := byteOf (hel 1 (by omega))
  obtain ⟨u2, rfl⟩ : ∃ u : UInt8, z2 = B u := byteOf (hel 2 (by omega))
  obtain ⟨u3, rfl⟩ : ∃ u : UInt8, z3 = B u := byteOf (hel 3 (by omega))
  obtain ⟨u4, rfl⟩ : ∃ u : UInt8, z4 = B u := byteOf (hel 4 (by omega))
  obtain ⟨u5, rfl⟩ : ∃ u : UInt8, z5 = B u := byteOf (hel 5 (by omega))
  obtain ⟨u6, rfl⟩ : ∃ u : UInt8, z6 = B u := byteOf (hel 6 (by omega))
  obtain ⟨u7, rfl⟩ : ∃ u : UInt8, z7 = B u := byteOf (hel 7 (by omega))
  obtain ⟨u8, rfl⟩ : ∃ u : UInt8, z8 = B u := byteOf (hel 8 (by omega))
  obtain ⟨u9, rfl⟩ : ∃ u : UInt8, z9 = B u := byteOf (hel 9 (by omega))
  obtain ⟨u10, rfl⟩ : ∃ u : UInt8, z10 = B u := byteOf (hel 10 (by omega))
  obtain ⟨u11, rfl⟩ : ∃ u : UInt8, z11 = B u := byteOf (hel 11 (by omega))
  obtain ⟨u12, rfl⟩ : ∃ u : UInt8, z12 = B u := byteOf (hel 12 (by omega))
  obtain ⟨u13, rfl⟩ : ∃ u : UInt8, z13 = B u := byteOf (hel 13 (by omega))
  obtain ⟨u14, rfl⟩ : ∃ u : UInt8, z14 = B u := byteOf (hel 14 (by omega))
  exact ⟨u0, u1, u2, u3, u4, u5, u6, u7, u8, u9, u10, u11, u12, u13, u14, rfl⟩

/-! ### The row's step -/
set_option maxRecDepth 100000 in
theorem lifted (os : Os) (started : os.Started) (H : Type) (enc : TypeId × Value → H) :
    ReturnsInHanded {} Try.checked os 5 .any (Rows.fnEndLineMatchesCaseTableSpec.pre6 enc Try.prog Try.f5 Rows.fnEndLineMatchesCaseTableRow.domain false) (Rows.fnEndLineMatchesCaseTableSpec.post enc Try.prog Try.f5 false true false false) := by
  refine returnsInHanded_of_change (C := Try.checked) own started (by kernel_rfl) Try.func5
    (ChangeSpec.witness6 (enc := enc) (C := Try.checked) false ⟨#[], #[.agg #[.int .u8 0, .int .u8 0, .int .u8 0, .int .u8 0, .int .u8 0, .int .u8 0, .int .u8 0, .int .u8 0, .int .u8 0, .int .u8 0, .int .u8 0, .int .u8 0, .int .u8 0, .int .u8 0, .int .u8 0], .int .i64 0, .bool false, .bool false, .bool false, .bool false, .bool false], []⟩ 8 (by kernel_rfl) (by kernel_rfl) (by kernel_rfl) (by kernel_rfl)) ?_
  intro W base args ds gs before hval0 hW hcnd _
  have hval : ∀ (j : Nat) t v, Try.f5.params[j]? = some t → args[j]? = some v → Value.okWide Try.prog W .any base t v := hval0
  have hW' := hW
  obtain ⟨p, q, hA0, hV, rfl, hfz, hnd⟩ := hW
  have hA : DataW.TrodAll enc Try.prog W 0 (fun _ => true) true Try.f5.params.toList args.toList ds p := hA0
  rw [Try.params5] at hA hval
  obtain ⟨v0, vs0, d0, ds0, p0, q0, hargs, rfl, rfl, h0, r0⟩ := trodAll_cons hA
  obtain ⟨v1, vs1, d1, ds1, p1, q1, rfl, rfl, rfl, h1, r1⟩ := trodAll_cons r0
  obtain ⟨v2, vs2, d2, ds2, p2, q2, rfl, rfl, rfl, h2, r2⟩ := trodAll_cons r1
  obtain ⟨v3, vs3, d3, ds3, p3, q3, rfl, rfl, rfl, h3, r3⟩ := trodAll_cons r2
  obtain ⟨v4, vs4, d4, ds4, p4, q4, rfl, rfl, rfl, h4, r4⟩ := trodAll_cons r3
  obtain ⟨v5, vs5, d5, ds5, p5, q5, rfl, rfl, rfl, h5, r5⟩ := trodAll_cons r4
  obtain ⟨v6, vs6, d6, ds6, p6, q6, rfl, rfl, rfl, h6, r6⟩ := trodAll_cons r5
  obtain ⟨rfl, rfl, rfl⟩ := trodAll_nil r6
  obtain rfl : args = #[v0, v1, v2, v3, v4, v5, v6] := by cases args; simp_all
  obtain ⟨rfl, rfl⟩ := trodVars_none hV
  have lt0 : ∀ x ∈ p0, x.block < W.heap.size := by obtain ⟨m, hm⟩ := h0; exact DataW.trod_lt m _ _ _ hm
  obtain ⟨c0, c1, c2, c3, c4, c5, c6, c7, c8, c9, c10, c11, c12, c13, c14, rfl⟩ := bytesOf15 (hval 0 22 v0 rfl rfl) h0
  obtain ⟨a1, rfl, rfl, rfl, w1⟩ := open_int Try.underlying3 (hval 1 3 v1 rfl rfl) h1
  obtain ⟨a2, rfl, rfl, rfl⟩ := open_bool Try.underlying4 (hval 2 4 v2 rfl rfl) h2
  obtain ⟨a3, rfl, rfl, rfl⟩ := open_bool Try.underlying4 (hval 3 4 v3 rfl rfl) h3
  obtain ⟨a4, rfl, rfl, rfl⟩ := open_bool Try.underlying4 (hval 4 4 v4 rfl rfl) h4
  obtain ⟨a5, rfl, rfl, rfl⟩ := open_bool Try.underlying4 (hval 5 4 v5 rfl rfl) h5
  obtain ⟨a6, rfl, rfl, rfl⟩ := open_bool Try.underlying4 (hval 6 4 v6 rfl rfl) h6
  clear hA0 hval0
  refine (law5 W c0 c1 c2 c3 c4 c5 c6 c7 c8 c9 c10 c11 c12 c13 c14 a1 (bounds_i64 w1).2 a2 a3 a4 a5 a6).mono fun e W' ⟨he, bel⟩ => ?_
  subst he
  exact ⟨_, rfl, _, _, _, [], _, [], hW', trodAll_mk1 (shut_bool Try.underlying4 _), (trodAll_cons_mk (Below.trod laidOut (by kernel_rfl) (of_decide_eq_true (by kernel_rfl)) h0 bel lt0) (trodAll_cons_mk (shut_int Try.underlying3 w1) (trodAll_cons_mk (shut_bool Try.underlying4 _) (trodAll_cons_mk (shut_bool Try.underlying4 _) (trodAll_cons_mk (shut_bool Try.underlying4 _) (trodAll_cons_mk (shut_bool Try.underlying4 _) (trodAll_cons_mk (shut_bool Try.underlying4 _) trodAll_mk0))))))), rfl, bel.frame _, fun h => by cases h⟩

theorem over : Rows.fnEndLineMatchesCaseTableRow.holds Try.pinned (OpenSpec.ofChange Rows.fnEndLineMatchesCaseTableSpec) :=
  OpenClaim.holds_of_wide 5 Try.f5 rfl rfl rfl rfl rfl rfl rfl ⟨rfl, rfl, rfl, rfl, rfl⟩ rfl rfl rfl rfl rfl (by kernel_rfl) Try.func5 (by kernel_rfl)
    (of_decide_eq_true (by kernel_rfl)) (by unfold Func.isWrapper; first | (rw [if_pos (by decide +kernel)]; kernel_rfl) | (rw [if_neg (by decide +kernel)]; exact ⟨rfl, rfl⟩))
    (fun os started H enc _ => lifted os started H enc)

/-- The statement. -/
theorem proved : Rows.FnEndLineMatchesCaseTableSaid :=
  over
#print axioms proved
end Go.Proofs.Qxb6601961a.fnEndLineMatchesCaseTable
