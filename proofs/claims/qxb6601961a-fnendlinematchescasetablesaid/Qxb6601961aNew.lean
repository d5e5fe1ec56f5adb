/-
  The walks of ZZNew, ZZState and zSseB1Read.
-/
import Derived.Test.Qxb6601961aPlain
import Derived.BigRegion
import Derived.Deep.RegionHeld3
namespace Go.Proofs.Qxb6601961a
open Go.RowKit
set_option linter.unusedVariables false

abbrev B (x : UInt8) : Value := .int .u8 x.toNat

set_option maxRecDepth 20000 in
set_option maxHeartbeats 1000000 in
theorem new_any (w : World) (c0 c1 c2 c3 c4 c5 c6 c7 c8 c9 c10 c11 c12 c13 c14 : UInt8) (n : Int) (b c d dn e : Bool) :
    Calls Try.prog 9 #[.agg #[B c0, B c1, B c2, B c3, B c4, B c5, B c6, B c7, B c8, B c9, B c10, B c11, B c12, B c13, B c14], .int .i64 n, .bool b, .bool c, .bool d, .bool dn, .bool e] w fun e' w' =>
      ∃ g, e' = .returned (.pointer (some ⟨g, 0, none⟩)) ∧ w.heap.size ≤ g ∧ Scn 41 w' g [c0, c1, c2, c3, c4, c5, c6, c7, c8, c9, c10, c11, c12, c13, c14] n b c d dn e ∧ Below w.heap.size w w' := by
  go_enter Try.func9, Try.ntmps9
  go_wp2
  go_ret
  refine ⟨w.heap.size + 1, rfl, by omega, ⟨rfl, ?_⟩, ((Below.refl _ _).alloc (Nat.le_refl _) _).alloc (by simp) _⟩
  have h := heap_alloc_new (w.alloc (.cells #[B c0, B c1, B c2, B c3, B c4, B c5, B c6, B c7, B c8, B c9, B c10, B c11, B c12, B c13, B c14] 22)) (.cells #[B c0, B c1, B c2, B c3, B c4, B c5, B c6, B c7, B c8, B c9, B c10, B c11, B c12, B c13, B c14, .int .i64 n, .bool b, .bool c, .bool d, .bool dn, .bool e] 41)
  simp only [World.size_alloc] at h
  exact h

/-- The line's bytes as cells. -/
def lcells (L : List UInt8) : List Value := L.map (fun x => Value.int .u8 x.toNat)

theorem Scn.range {T : TypeId} {w : World} {g : Nat} {L : List UInt8} {n : Int} {b c d dn e : Bool} (h : Scn T w g L n b c d dn e) : w.rangeAt g 0 (lcells L) := by
  intro j v hv
  unfold lcells at hv
  rw [List.getElem?_map] at hv
  have hj : j < L.length := by
    rcases Nat.lt_or_ge j L.length with h' | h'
    · exact h'
    · rw [List.getElem?_eq_none h'] at hv; cases hv
  have hl := h.line j (by have := h.1; omega)
  rw [Nat.zero_add, hl]
  rw [List.getElem?_eq_getElem hj] at hv
  simp only [Option.map_some, Option.some.injEq] at hv
  rw [← hv, List.getD_eq_getElem?_getD, List.getElem?_eq_getElem hj]
  rfl

theorem lcells_one (L : List UInt8) : ∀ v ∈ lcells L, v.oneCell' = true := by
  intro v hv
  obtain ⟨x, _, rfl⟩ := List.mem_map.1 hv
  rfl

theorem below_setCells {B b : Nat} {w0 : World} (hb : B ≤ b) : ∀ (vs : List Value) (o : Nat) (w : World), Below B w0 w → Below B w0 (w.setCells b o vs)
  | [], _, _, h => h
  | v :: r, o, w, h => below_setCells hb r (o + 1) (w.setCell ⟨b, o, none⟩ v) (h.setCell hb v)

theorem cell_apart {w : World} {g gt i o : Nat} {M : List Value} {v : Value} (hg : g ≠ gt) (h : w.cell? ⟨g, i, none⟩ = some v) : (w.setCells gt o M).cell? ⟨g, i, none⟩ = some v := by
  have h1 : w.rangeAt g i [v] := by
    intro j u hu
    match j, hu with
    | 0, hu => simp at hu; subst hu; exact h
  exact (World.rangeAt_setCells_apart h1 gt o M (.inl hg)) 0 v rfl

set_option maxRecDepth 20000 in
set_option maxHeartbeats 4000000 in
theorem state_any (w : World) (g : Nat) (L : List UInt8) (n : Int) (b c d dn e : Bool) (S : Scn 41 w g L n b c d dn e) :
    Calls Try.prog 18 #[.pointer (some ⟨g, 0, none⟩)] w fun e' w' =>
      e' = .returned (.tuple #[.agg (lcells L).toArray, .int .i64 n, .bool b, .bool c, .bool d, .bool dn, .bool e]) ∧ Below w.heap.size w w' := by
  have hM := S.range
  have h1 := S.get_n
  have h2 := S.get_b
  have h3 := S.get_c
  have h4 := S.get_d
  have h5 := S.get_dn
  have h6 := S.get_e
  have hg := S.lt
  have hl : (lcells L).length = 15 := by unfold lcells; simp [S.1]
  have hone := lcells_one L
  have hu : Try.prog.underlying 22 = some (.array 15 5) := Try.underlying22
  have hi : (Try.prog.info? 22).map (·.size) = some (lcells L).length := by rw [hl]; kernel_rfl
  clear S
  generalize lcells L = M at *
  obtain ⟨gt, hgt⟩ : ∃ gt, gt = w.heap.size := ⟨_, rfl⟩
  have hgg : g ≠ gt := by omega
  have hgg2 : gt ≠ g := by omega
  obtain ⟨Z, hZ⟩ : ∃ Z, Z = #[Value.int .u8 0, .int .u8 0, .int .u8 0, .int .u8 0, .int .u8 0, .int .u8 0, .int .u8 0, .int .u8 0, .int .u8 0, .int .u8 0, .int .u8 0, .int .u8 0, .int .u8 0, .int .u8 0, .int .u8 0] := ⟨_, rfl⟩
  have hth : (w.alloc (.cells Z 22)).there gt 0 15 := by
    intro j hj
    have hb : (w.alloc (.cells Z 22)).heap[gt]? = some (.cells Z 22 (0, 0)) := by rw [hgt]; exact heap_alloc_new w _
    rw [Nat.zero_add, cell_of_row _ gt j _ 22 (0, 0) hb, frozen_of_row _ gt j _ 22 hb]
    refine ⟨?_, rfl⟩
    have : j < Z.size := by rw [hZ]; exact hj
    rw [Array.getElem?_eq_getElem this]
    rfl
  have hB : Below gt w (w.alloc (.cells Z 22)) := (Below.refl _ _).alloc (by omega) _
  have kc : ∀ i v, w.cell? ⟨g, i, none⟩ = some v → (w.alloc (.cells Z 22)).cell? ⟨g, i, none⟩ = some v := fun i v h => (hB.cell (by show g < gt; omega)).trans h
  have hM' : (w.alloc (.cells Z 22)).rangeAt g 0 M := World.rangeAt_alloc hM _
  have h1' := kc _ _ h1
  have h2' := kc _ _ h2
  have h3' := kc _ _ h3
  have h4' := kc _ _ h4
  have h5' := kc _ _ h5
  have h6' := kc _ _ h6
  clear kc hM h1 h2 h3 h4 h5 h6 hg
  have HB := mkHid hB
  clear hB
  go_enter Try.func18, Try.ntmps18
  go_wp2
  rw [← hZ, ← hgt]
  have HGT := mkHid hgt
  clear hZ hgt
  generalize w.alloc (.cells Z 22) = w1 at *
  go_region_held3 (fun w' => w'.rangeAt g 0 M ∧ w'.cell? ⟨g, 15, none⟩ = some (.int .i64 n) ∧ w'.cell? ⟨g, 16, none⟩ = some (.bool b) ∧ w'.cell? ⟨g, 17, none⟩ = some (.bool c) ∧ w'.cell? ⟨g, 18, none⟩ = some (.bool d) ∧ w'.cell? ⟨g, 19, none⟩ = some (.bool dn) ∧ w'.cell? ⟨g, 20, none⟩ = some (.bool e) ∧ w'.there gt 0 15) ((go_split_ands; (try simp only [World.rangeAt_drew, World.there_drew, World.cell?_drew] at *); refine ⟨?_, ?_, ?_, ?_, ?_, ?_, ?_, ?_⟩ <;> first | assumption | (apply World.there_setCells; assumption) | (refine World.rangeAt_setCells_apart (by assumption) _ _ _ (by omega)) | (apply cell_apart hgg; assumption))) (fail)
  go_wp2
  have hth' : w1.drew.there gt 0 M.length := by rw [hl]; simpa using hth
  have hrng : (w1.drew.setCells gt 0 M).rangeAt gt 0 M := World.rangeAt_setCells_same _ _ _ _ hth'
  have hld : ∀ W : World, W.rangeAt gt 0 M → (loadVar 22 ⟨gt, 0, none⟩).run Try.prog W = .ok (.agg M.toArray) W := fun W h => run_loadVar_mid W gt 0 22 M _ h hu rfl hi
  have hld2 := hld _ hrng
  refine bodyPost_ret (v := .tuple #[.agg M.toArray, .int .i64 n, .bool b, .bool c, .bool d, .bool dn, .bool e]) ?_ rfl ⟨rfl, ?_⟩
  · simp [results, Try.results18, hld2, asAddr, Result.andThen]
  · rw [← HGT.out]
    exact below_setCells (Nat.le_refl _) M 0 _ HB.out.drew

end Go.Proofs.Qxb6601961a
