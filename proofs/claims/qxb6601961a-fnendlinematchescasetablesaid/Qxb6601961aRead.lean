/-
  The walk of zSseB1Read.
-/
import Derived.Test.Qxb6601961aNew
namespace Go.Proofs.Qxb6601961a
open Go.RowKit
set_option linter.unusedVariables false

theorem there_block {w : World} {g k : Nat} {Z : Array Value} {T : TypeId} (hb : w.heap[g]? = some (.cells Z T (0, 0))) (hk : Z.size = k) : w.there g 0 k := by
  intro j hj
  rw [Nat.zero_add, cell_of_row _ g j _ T (0, 0) hb, frozen_of_row _ g j _ T hb]
  refine ⟨?_, rfl⟩
  rw [Array.getElem?_eq_getElem (by omega)]
  rfl

theorem results_cell {fn : Func} {p : Tmp} {ty : TypeId} (h : fn.results = #[.cell p ty]) (tmps : Array Value) (P : Program) (w : World) (a : Addr) (v : Value) (ha : tmps.getD p undef = .pointer (some a)) (hl : (loadVar ty a).run P w = .ok v w) :
    (results fn tmps).run P w = .ok v w := by
  simp only [results, h]
  simp [ha, hl, asAddr, -Array.getD_eq_getD_getElem?]

theorem Try.row22 : (Try.prog.info? 22).map (·.size) = some 15 := by kernel_rfl
theorem Try.row30 : (Try.prog.info? 30).map (·.size) = some 21 := by kernel_rfl
theorem Try.isRow30 : ∃ d, Try.prog.underlying 30 = some d ∧ d.isRow = true := ⟨_, Try.underlying30, rfl⟩

theorem there_made (w w' : World) (Z Y : Array Value) (hz : Z.size = 21) (hy : Y.size = 15) (hb : Below (w.alloc (.cells Z 30)).heap.size (w.alloc (.cells Z 30)) w') :
    (w'.alloc (.cells Y 22)).there w'.heap.size 0 15 ∧ (w'.alloc (.cells Y 22)).there w.heap.size 0 21 := by
  constructor
  · exact there_block (heap_alloc_new w' _) hy
  · refine World.there_alloc (there_block (Z := Z) (T := 30) ?_ hz) _
    rw [hb.block w.heap.size (by simp)]
    exact heap_alloc_new w _

theorem one_cells (c0 c1 c2 c3 c4 c5 c6 c7 c8 c9 c10 c11 c12 c13 c14 : UInt8) (n : Int) (b c d dn e : Bool) : (#[B c0, B c1, B c2, B c3, B c4, B c5, B c6, B c7, B c8, B c9, B c10, B c11, B c12, B c13, B c14, .int .i64 n, .bool b, .bool c, .bool d, .bool dn, .bool e] : Array Value).all (·.oneCell') = true := by
  rw [List.all_toArray]; rfl

set_option maxRecDepth 20000 in
set_option maxHeartbeats 2000000 in
theorem read_any (w : World) (g : Nat) (c0 c1 c2 c3 c4 c5 c6 c7 c8 c9 c10 c11 c12 c13 c14 : UInt8) (n : Int) (b c d dn e : Bool) (S : Scn 41 w g [c0, c1, c2, c3, c4, c5, c6, c7, c8, c9, c10, c11, c12, c13, c14] n b c d dn e) :
    Calls Try.prog 11 #[.pointer (some ⟨g, 0, none⟩)] w fun e' w' =>
      e' = .returned (.agg #[B c0, B c1, B c2, B c3, B c4, B c5, B c6, B c7, B c8, B c9, B c10, B c11, B c12, B c13, B c14, .int .i64 n, .bool b, .bool c, .bool d, .bool dn, .bool e]) ∧ Below w.heap.size w w' := by
  have C : Hid (∀ W, Scn 41 W g [c0, c1, c2, c3, c4, c5, c6, c7, c8, c9, c10, c11, c12, c13, c14] n b c d dn e → Calls Try.prog 18 #[.pointer (some ⟨g, 0, none⟩)] W fun e' w' =>
      e' = .returned (.tuple #[.agg #[B c0, B c1, B c2, B c3, B c4, B c5, B c6, B c7, B c8, B c9, B c10, B c11, B c12, B c13, B c14], .int .i64 n, .bool b, .bool c, .bool d, .bool dn, .bool e]) ∧ Below W.heap.size W w') := fun W hW => state_any W g [c0, c1, c2, c3, c4, c5, c6, c7, c8, c9, c10, c11, c12, c13, c14] n b c d dn e hW
  have HS := mkHid S
  have HU22 := mkHid Try.underlying22
  obtain ⟨d30, hd30, hrow30⟩ := Try.isRow30
  have HU30 := mkHid hd30
  have HR30 := mkHid hrow30
  clear S hd30 hrow30
  go_enter Try.func11, Try.ntmps11
  go_wp2_with fail
  refine (C.out _ (HS.out.alloc _)).mono ?_
  rintro e' w' ⟨rfl, hb⟩
  have HBB := mkHid hb
  have HT := mkHid (And.right (there_made w w' _ #[B c0, B c1, B c2, B c3, B c4, B c5, B c6, B c7, B c8, B c9, B c10, B c11, B c12, B c13, B c14] rfl rfl hb))
  have hz := hb.size
  simp only [World.size_alloc] at hz
  have hz1 : w.heap.size < w'.heap.size := by omega
  clear hb hz
  go_wp2_with ((with_reducible refine wpList_store_mid ?_ 30 (.tmp 2) (.tmp 27) ?_ w.heap.size 0 #[B c0, B c1, B c2, B c3, B c4, B c5, B c6, B c7, B c8, B c9, B c10, B c11, B c12, B c13, B c14, .int .i64 n, .bool b, .bool c, .bool d, .bool dn, .bool e] ?_ ?_ ?_ ?_ ?_ ?_); rotate_left; (with_reducible rfl); rotate_left 6; rfl; rfl; rfl; exact HT.out; exact Try.row30; exact one_cells c0 c1 c2 c3 c4 c5 c6 c7 c8 c9 c10 c11 c12 c13 c14 n b c d dn e)
  have hth := HT.out
  have hrng := World.rangeAt_setCells_same _ w.heap.size 0 [B c0, B c1, B c2, B c3, B c4, B c5, B c6, B c7, B c8, B c9, B c10, B c11, B c12, B c13, B c14, .int .i64 n, .bool b, .bool c, .bool d, .bool dn, .bool e] hth
  have hld := run_loadVar_mid (P := Try.prog) _ w.heap.size 0 30 _ d30 hrng HU30.out HR30.out Try.row30
  clear HS C
  refine bodyPost_ret (v := .agg #[B c0, B c1, B c2, B c3, B c4, B c5, B c6, B c7, B c8, B c9, B c10, B c11, B c12, B c13, B c14, .int .i64 n, .bool b, .bool c, .bool d, .bool dn, .bool e]) ?_ rfl ⟨rfl, ?_⟩
  · exact results_cell Try.results11 _ _ _ ⟨w.heap.size, 0, none⟩ _ rfl hld
  · exact below_setCells (Nat.le_refl _) _ 0 _ ((((Below.refl _ _).alloc (Nat.le_refl _) _).trans (HBB.out.mono (by simp))).alloc (by omega) _)

end Go.Proofs.Qxb6601961a
