/-
  The walk of appendNew over a list without spare room.
-/
import Derived.Test.Qxb6601884aOwn
import Derived.Test.Qxb6601884aUnion
import Derived.ArgAppend
namespace Go.Proofs.Qxb6601884a
open Go.RowKit
set_option linter.unusedVariables false

theorem mkHid {p : Prop} (h : p) : Hid p := h

theorem owns_base {w : World} {b b' : Nat} {e : TypeId} {size : Nat} {v : Value} {n : Nat} {xs : List Value} (h : w.ownsRow b e size v n xs) (hb : b' ≤ b) : w.ownsRow b' e size v n xs := by
  refine ⟨h.1, ?_⟩
  rcases h.2 with h' | ⟨g, cap, cur, rfl, hg, rest⟩
  · exact .inl h'
  · exact .inr ⟨g, cap, cur, rfl, by omega, rest⟩

theorem Row.olds {w : World} {a : Option Addr} {n cap : Nat} {l : List ByteArray} (R : Row w a n cap l) : ∀ b, a = some b → ∀ j u, (l.map Value.string)[j]? = some u → w.cell? (b.add j) = some u := by
  intro b hb j u hu
  have hp : 0 < (l.map Value.string).length := by
    rcases Nat.lt_or_ge j (l.map Value.string).length with h | h
    · omega
    · rw [List.getElem?_eq_none h] at hu; cases hu
  obtain ⟨ad, h1, h2⟩ := row_src R (w' := w) (fun _ _ h => h) hp
  rw [hb] at h1
  cases h1
  exact h2 j u hu

theorem Row.none {w : World} {a : Option Addr} {n cap : Nat} {l : List ByteArray} (R : Row w a n cap l) : a = .none → n = 0 ∧ cap = 0 := by
  intro h
  rcases R.2.2.2.2 with ⟨_, h1, h2⟩ | ⟨x, h1, _⟩
  · exact ⟨h1, h2⟩
  · rw [h] at h1; cases h1

/-- What the loop keeps: nothing old has turned; nothing has been added and the value is the list's own, or the value is a row of the call's own. -/
def App (w wr : World) (a : Option Addr) (n : Nat) (l : List ByteArray) (v0 : Value) (u : List ByteArray) : Prop :=
  Below w.heap.size w wr ∧ (∀ s ∈ u, s.size ≤ maxLen) ∧ ((v0 = .slice a n n ∧ u = l) ∨ (wr.ownsRow w.heap.size 9 1 v0 u.length (u.map Value.string) ∧ n < u.length))

theorem App.row {w wr : World} {a : Option Addr} {n : Nat} {l : List ByteArray} {v0 : Value} {u : List ByteArray} (h : App w wr a n l v0 u) (R : Row w a n n l) :
    ∃ a0 cap0, v0 = .slice a0 u.length cap0 ∧ Row wr a0 u.length cap0 u ∧ (a0 = none ↔ a = none ∧ u = l) := by
  obtain ⟨hb, hs, h⟩ := h
  rcases h with ⟨rfl, rfl⟩ | ⟨h, hn⟩
  · have hl := R.1
    rw [hl]
    exact ⟨a, n, rfl, R.below hb, by simp⟩
  · obtain ⟨a0, cap0, rfl, R0⟩ := Row.of_owns h hs
    refine ⟨a0, cap0, rfl, R0, ?_⟩
    constructor
    · intro h0
      rcases R0.2.2.2.2 with ⟨_, h1, _⟩ | ⟨x, h1, _⟩
      · omega
      · rw [h0] at h1; cases h1
    · rintro ⟨_, rfl⟩
      have := R.1
      omega

theorem App.first {w wr w1 : World} {a : Option Addr} {n : Nat} {l : List ByteArray} {v' : Value} {s : ByteArray} {o : Obj} (hb : Below w.heap.size w wr) (hs : ∀ s ∈ l, s.size ≤ maxLen) (hsz : s.size ≤ maxLen) (hl : l.length = n)
    (hown : w1.ownsRow (wr.alloc o).heap.size 9 1 v' (n + 1) (l.map Value.string ++ [.string s])) (hg : (wr.alloc o).grownBy w1 none) : App w w1 a n l v' (l ++ [s]) := by
  have hz := hb.size
  refine ⟨(hb.alloc hz o).grown hg (by simp; omega) (by intro k h; cases h), ?_, .inr ⟨?_, by simp; omega⟩⟩
  · intro t ht
    rcases List.mem_append.1 ht with ht | ht
    · exact hs t ht
    · simp at ht; subst ht; exact hsz
  · have h := owns_base (b' := w.heap.size) hown (by simp; omega)
    simpa [hl] using h

theorem App.more {w wr w1 : World} {a : Option Addr} {n : Nat} {l u : List ByteArray} {v0 v' : Value} {s : ByteArray} {o : Obj} (hb : Below w.heap.size w wr) (hs : ∀ s ∈ u, s.size ≤ maxLen) (hsz : s.size ≤ maxLen) (hn : n < u.length)
    (hown0 : wr.ownsRow w.heap.size 9 1 v0 u.length (u.map Value.string))
    (hown : w1.ownsRow w.heap.size 9 1 v' (u.length + 1) (u.map Value.string ++ [.string s])) (hg : (wr.alloc o).grownBy w1 v0.ownBlock) : App w w1 a n l v' (u ++ [s]) := by
  have hz := hb.size
  refine ⟨(hb.alloc hz o).grown hg (by simp; omega) (fun k h => (hown0.lt k h).1), ?_, .inr ⟨?_, by simp; omega⟩⟩
  · intro t ht
    rcases List.mem_append.1 ht with ht | ht
    · exact hs t ht
    · simp at ht; subst ht; exact hsz
  · simpa using hown

set_option maxHeartbeats 1000000 in
theorem append_any (w : World) (a : Option Addr) (n : Nat) (l : List ByteArray) (R : Row w a n n l)
    (a2 : Option Addr) (n2 cap2 : Nat) (ts : List ByteArray) (R2 : Row w a2 n2 cap2 ts) (hn : n ≤ 1048576) (hn2 : n2 ≤ 1048576) :
    Calls Try.prog 21 #[.slice a n n, .slice a2 n2 cap2] w fun e w' => ∃ a' cap', e = .returned (.slice a' (unionL l ts).length cap') ∧ Row w' a' (unionL l ts).length cap' (unionL l ts) ∧
      Below w.heap.size w w' ∧ (a' = none ↔ a = none ∧ unionL l ts = l) := by
  obtain ⟨i0, hi, hz0, hz1, hz2⟩ := info_parts Try.info9
  have HR : Hid (Row w a n n l) := R
  have HR2 : Hid (Row w a2 n2 cap2 ts) := R2
  have A0 : Hid (App w w a n l (.slice a n n) l) := ⟨Below.refl _ _, R.2.2.2.1, .inl ⟨rfl, rfl⟩⟩
  clear R R2
  generalize hU : unionL l ts = U
  have HU : Hid (unionL l ts = U) := hU
  clear hU
  go_enter Try.func21, Try.ntmps21
  go_wp2
  go_loopw [0, 9] (fun v i wr => ∃ (k : Nat), k ≤ n2 ∧ i = .int .i64 k ∧ Hid (App w wr a n l v (unionL l (ts.take k)))) (fun _ i _ => n2 - (intOf i).toNat)
  case atStart => exact ⟨0, Nat.zero_le _, rfl, A0⟩
  case round =>
    clear A0
    obtain ⟨k, hk, rfl, HA⟩ := hrel
    by_cases hlt : k < n2
    · obtain ⟨s, hs⟩ : ∃ s, s = ts.getD k ByteArray.empty := ⟨_, rfl⟩
      have hbd := HR2.out.bound hlt
      have hR2r := HR2.out.below HA.out.1
      obtain ⟨b, off, rfl, hc⟩ := hR2r.sat (by omega)
      have hcell := hc k hlt
      rw [← hs] at hcell hbd
      have HBD := mkHid hbd
      have HS : Hid (s = ts.getD k ByteArray.empty) := hs
      obtain ⟨u, hu⟩ : ∃ u, u = unionL l (ts.take k) := ⟨_, rfl⟩
      rw [← hu] at HA
      have HUU : Hid (u = unionL l (ts.take k)) := hu
      have hlen : u.length ≤ 2097152 := by
        rw [hu]; have h1 := (unionL_le l (ts.take k)).2; have h2 := HR.out.1; have h3 : (ts.take k).length ≤ k := List.length_take_le _ _; omega
      clear hs hu hbd hR2r hc
      by_cases hin : Lib.containsS u s = true
      · obtain ⟨a0, cap0, hv, R0, hnil⟩ := App.row HA.out HR.out
        subst hv
        have C1 : Hid (Calls Try.prog 23 #[.slice a0 u.length cap0, .string s] wr fun e w' => e = .returned (.bool true) ∧ w' = wr) := by have h := contains_any wr a0 u.length cap0 u s R0; rw [hin] at h; exact h
        have HI : Hid (s ∈ u) := (Lib.containsS_iff u s).1 hin
        clear R0 hnil hin
        go_wp2_with (go_at_call 23; refine C1.out.mono ?_; rintro e w' ⟨rfl, hw⟩; subst hw)
        go_roundw
        case rel =>
          refine ⟨k + 1, by omega, by go_num, ?_⟩
          rw [unionL_same' l ts k (by have := HR2.out.1; omega) (by rw [← HS.out, ← HUU.out]; exact HI.out), ← HUU.out]
          exact HA
        case measure => simp [intOf]; omega
      · have hin' : Lib.containsS u s = false := by simpa using hin
        have HI : Hid (s ∉ u) := fun h => hin ((Lib.containsS_iff u s).2 h)
        obtain ⟨hB, hS, hor⟩ := HA.out
        rcases hor with ⟨hv, hul⟩ | ⟨hown, hnu⟩
        · subst hv
          subst hul
          have R0 := HR.out.below hB
          have C1 : Hid (Calls Try.prog 23 #[.slice a n n, .string s] wr fun e w' => e = .returned (.bool false) ∧ w' = wr) := by have h := contains_any wr a n n u s R0; rw [hin'] at h; exact h
          obtain ⟨X, hX⟩ : ∃ X, X = u.map Value.string := ⟨_, rfl⟩
          have HX := mkHid hX
          have HB := mkHid hB
          have HSS := mkHid hS
          have HR0 := mkHid R0
          have HL : Hid (X.length = n) := by rw [hX]; show _ = _; simp [R0.1]
          clear hX hB hS R0 hin hin'
          go_wp2_with (first
            | (go_at_call 23; refine C1.out.mono ?_; rintro e w' ⟨rfl, hw⟩; subst hw)
            | (at_builtin; refine wpList_append_grows _ rfl (.tmp 17) (.tmp 19) 22 rfl 9 i0 (.string ByteArray.empty) 1 16 Try.underlying22 hi hz0 hz1 hz2 rfl (by decide) a n n X rfl (fun h => HR0.out.none h) (by have := HL.out; omega) (by rw [HX.out]; exact (HR0.out.below ((Below.refl _ _).alloc (Nat.le_refl _) _)).olds) ⟨w'.heap.size, 0, none⟩ 1 1 [.string s] rfl rfl (cell_one_new _ _ _) (by intro t ht; simp at ht; subst ht; rfl) (by omega) (by unfold maxLen; omega) (by omega) ?_; intro v' w1 hown1 hgrow1; have HO := mkHid hown1; have HG := mkHid hgrow1; clear hown1 hgrow1))
          go_roundw
          case rel =>
            refine ⟨k + 1, by omega, by go_num, ?_⟩
            rw [unionL_more' u ts k (by have := HR2.out.1; omega) (by rw [← HS.out, ← HUU.out]; exact HI.out), ← HUU.out, ← HS.out]
            have ho := HO.out
            rw [HX.out] at ho
            exact App.first HB.out HSS.out HBD.out HR.out.1 ho HG.out
          case measure => simp [intOf]; omega
        · obtain ⟨a0, cap0, hv, R0, hnil⟩ := App.row HA.out HR.out
          subst hv
          have C1 : Hid (Calls Try.prog 23 #[.slice a0 u.length cap0, .string s] wr fun e w' => e = .returned (.bool false) ∧ w' = wr) := by have h := contains_any wr a0 u.length cap0 u s R0; rw [hin'] at h; exact h
          obtain ⟨X, hX⟩ : ∃ X, X = u.map Value.string := ⟨_, rfl⟩
          have HX := mkHid hX
          have HB := mkHid hB
          have HSS := mkHid hS
          rw [← hX] at hown
          have HOW := mkHid hown
          have HNU := mkHid hnu
          clear hX hB hS R0 hin hin' hown hnil hnu
          go_wp2_with (first
            | (go_at_call 23; refine C1.out.mono ?_; rintro e w' ⟨rfl, hw⟩; subst hw)
            | (at_builtin; refine wpList_append_own _ rfl (.tmp 17) (.tmp 19) 22 rfl w.heap.size 9 i0 (.string ByteArray.empty) 1 16 Try.underlying22 hi hz0 hz1 hz2 rfl (by decide) _ _ _ rfl (HOW.out.alloc _) ⟨w'.heap.size, 0, none⟩ 1 1 [.string s] rfl rfl (cell_one_new _ _ _) (by intro t ht; simp at ht; subst ht; rfl) (by unfold maxLen; omega) (by omega) (by have := HB.out.size; simp; omega) ?_; intro v' w1 hown1 hgrow1 hnil1; have HO := mkHid hown1; have HG := mkHid hgrow1; clear hown1 hgrow1 hnil1))
          go_roundw
          case rel =>
            refine ⟨k + 1, by omega, by go_num, ?_⟩
            rw [unionL_more' l ts k (by have := HR2.out.1; omega) (by rw [← HS.out, ← HUU.out]; exact HI.out), ← HUU.out, ← HS.out]
            have ho := HO.out
            have hw0 := HOW.out
            rw [HX.out] at ho hw0
            exact App.more HB.out HSS.out HBD.out HNU.out hw0 ho HG.out
          case measure => simp [intOf]; omega
    · have ek : ts.take k = ts := List.take_of_length_le (by have := HR2.out.1; omega)
      rw [ek, HU.out] at HA
      obtain ⟨a0, cap0, hv, R0, hnil⟩ := App.row HA.out HR.out
      subst hv
      have HR0 := mkHid R0
      have HN := mkHid hnil
      clear R0 hnil ek
      go_wp2
      go_ret
      exact ⟨a0, cap0, rfl, HR0.out, HA.out.1, HN.out⟩

set_option maxHeartbeats 1000000 in
theorem zzappend_any (w : World) (a : Option Addr) (n : Nat) (l : List ByteArray) (R : Row w a n n l)
    (a2 : Option Addr) (n2 cap2 : Nat) (ts : List ByteArray) (R2 : Row w a2 n2 cap2 ts) (hn : n ≤ 1048576) (hn2 : n2 ≤ 1048576) :
    Calls Try.prog 13 #[.slice a n n, .slice a2 n2 cap2] w fun e w' => ∃ a' cap', e = .returned (.slice a' (unionL l ts).length cap') ∧ Row w' a' (unionL l ts).length cap' (unionL l ts) ∧
      Below w.heap.size w w' ∧ (a' = none ↔ a = none ∧ unionL l ts = l) := by
  have C := mkHid (append_any w a n l R a2 n2 cap2 ts R2 hn hn2)
  generalize unionL l ts = U at C ⊢
  clear R R2
  go_enter Try.func13, Try.ntmps13
  go_wp2_with (go_at_call 21; refine C.out.mono ?_; rintro e w' ⟨a', cap', rfl, h1, h2, h3⟩; have H1 := mkHid h1; have H2 := mkHid h2; have H3 := mkHid h3; clear h1 h2 h3)
  go_ret
  exact ⟨a', cap', rfl, H1.out, H2.out, H3.out⟩

set_option maxHeartbeats 1000000 in
theorem same_any (w : World) (l : List ByteArray) (n : Nat) (a : Option Addr) (cap : Nat) (R : Row w a n cap l) (b : Option Addr) (cap2 : Nat) (R2 : Row w b n cap2 l) (hnil : a = none ↔ b = none) :
    Calls Try.prog 14 #[.slice a n cap, .slice b n cap2] w fun e w' => e = .returned (.bool true) ∧ ∃ k, w' = w.drewN k := by
  have q22 : ∀ (w : World) (a : Option Addr) (n c n' c' : Nat), (binOp .eql 22 (.slice a n c) (.slice none n' c')).run Try.prog w = .ok (.bool a.isNone) w := fun w a n c n' c' => Lib.run_eql_slice_nil w 22 9 a n c n' c' Try.underlying22
  have hm : n ≤ 9223372036854775807 := by have h1 := R.2.1; have h2 := R.2.2.1; unfold maxLen at h2; omega
  by_cases h0 : n = 0
  · subst h0
    have hiso : a.isNone = b.isNone := by cases a <;> cases b <;> simp_all
    clear R R2 hnil
    cases a with
    | none =>
      cases b with
      | none =>
        go_enter Try.func14, Try.ntmps14
        go_wp2
        refine wp_loop_rounds 1 ?_
        rw [rounds_succ]
        go_wp2
        go_ret
        exact ⟨rfl, 0, rfl⟩
      | some y => simp at hiso
    | some x =>
      cases b with
      | none => simp at hiso
      | some y =>
        go_enter Try.func14, Try.ntmps14
        go_wp2
        refine wp_loop_rounds 1 ?_
        rw [rounds_succ]
        go_wp2
        go_ret
        exact ⟨rfl, 0, rfl⟩
  · obtain ⟨b1, off1, rfl, hc1⟩ := R.sat (by omega)
    obtain ⟨b2, off2, rfl, hc2⟩ := R2.sat (by omega)
    have HC1 := mkHid hc1
    have HC2 := mkHid hc2
    clear R R2 hnil hc1 hc2 h0
    go_enter Try.func14, Try.ntmps14
    go_wp2
    go_loopw [5] (fun i wr => ∃ (k q : Nat), k ≤ n ∧ i = .int .i64 k ∧ wr = w.drewN q) (fun i _ => n - (intOf i).toNat)
    case atStart => exact ⟨0, 0, Nat.zero_le _, rfl, rfl⟩
    case round =>
      obtain ⟨k, q, hk, rfl, rfl⟩ := hrel
      by_cases hlt : k < n
      · obtain ⟨s, hs⟩ : ∃ s, s = l.getD k ByteArray.empty := ⟨_, rfl⟩
        have hcell1 := HC1.out k hlt
        have hcell2 := HC2.out k hlt
        rw [← hs] at hcell1 hcell2
        have hlti : (k : Int) < (n : Int) := by omega
        clear hs
        go_wp2
        go_quiet (fail)
        go_wp2
        go_roundw
        case rel => exact ⟨k + 1, _, by omega, by go_num, rfl⟩
        case measure => simp [intOf]; omega
      · go_wp2
        go_ret
        exact ⟨rfl, q, rfl⟩

end Go.Proofs.Qxb6601884a
