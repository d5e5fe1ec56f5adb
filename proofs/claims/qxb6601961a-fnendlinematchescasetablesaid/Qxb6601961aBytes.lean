/-
  Slices of bytes in memory, and the walks of the small functions over them.
-/
import Derived.Test.Qxb6601961aRows
import Derived.WalkKit
import Derived.WalkSpells
import Derived.WalkLawsBesides
import Derived.Deep.QuietTactic
import Derived.BigQuiet
import Derived.Deep.RegionWith
import Derived.Laws.BytesArg
namespace Go.Proofs.Qxb6601961a
open Go.RowKit
set_option linter.unusedVariables false

theorem mkHid {p : Prop} (h : p) : Hid p := h
theorem sret_bool {a b : Bool} (h : a = b) : Ending.returned (.bool a) = .returned (.bool b) := by rw [h]

/-- A slice of n bytes at p holds in w the bytes l. -/
def BB (w : World) (p : Option Addr) (n : Nat) (l : List UInt8) : Prop :=
  l.length = n ∧ (0 < n → ∃ b off, p = some ⟨b, off, none⟩ ∧ ∀ i, i < n → w.cell? ⟨b, off + i, none⟩ = some (.int .u8 (l.getD i 0).toNat))

/-- The string of these bytes. -/
def strL (l : List UInt8) : ByteArray := ⟨l.toArray⟩

theorem strL_toList (l : List UInt8) : (strL l).toList = l := by rw [ByteArray.toList_eq]; rfl

theorem BB.conv {w : World} {p : Option Addr} {n : Nat} {l : List UInt8} (h : BB w p n l) (c : Nat) : (convert 23 9 (.slice p n c)).run Try.prog w = .ok (.string (strL l)) w := by
  obtain ⟨h1, h2⟩ := h
  by_cases h0 : n = 0
  · subst h0
    have hl : l = [] := List.eq_nil_of_length_eq_zero h1
    subst hl
    rw [run_convert_bytes_string w 23 9 5 p 0 c Try.underlying23 Try.underlying5 Try.underlying9]
    cases p with
    | none => simp [Conv.bytesToString]; rfl
    | some a => simp [Conv.bytesToString, loadCells, loadCellsFrom]; rfl
  · obtain ⟨b, off, rfl, hc⟩ := h2 (by omega)
    have h := run_convert_bytes_arg (P := Try.prog) w 23 5 Try.underlying23 Try.underlying5 b off n c (l.map fun c => (c.toNat : Int)) (by simp [h1]) (fun i hi => by
      rw [hc i hi]
      simp [List.getD_eq_getElem?_getD, List.getElem?_map, List.getElem?_eq_getElem (show i < l.length by omega)]) 9 Try.underlying9
    rw [h]
    congr 2
    unfold strOfNums strL
    congr 2
    rw [List.map_map]
    conv => rhs; rw [← List.map_id l]
    apply List.map_congr_left
    intro x _
    simp

theorem getD_data (s : ByteArray) (k : Nat) (h : k < s.size) : s.data.toList.getD k 0 = s[k] := by
  rw [List.getD_eq_getElem?_getD, List.getElem?_eq_getElem (by simpa using h)]; rfl

/-- Does l begin with p? -/
def pre (p l : List UInt8) : Bool := decide (p.length ≤ l.length) && (l.take p.length == p)

theorem BB.take {w : World} {p : Option Addr} {n : Nat} {l : List UInt8} (h : BB w p n l) {m : Nat} (hm : m ≤ n) : BB w p m (l.take m) := by
  obtain ⟨h1, h2⟩ := h
  refine ⟨by simp; omega, fun h0 => ?_⟩
  obtain ⟨b, off, rfl, hc⟩ := h2 (by omega)
  refine ⟨b, off, rfl, fun i hi => ?_⟩
  rw [hc i (by omega)]
  simp [hi]

theorem BB.keep {w w' : World} {p : Option Addr} {n : Nat} {l : List UInt8} (h : BB w p n l) (hk : ∀ c v, w.cell? c = some v → w'.cell? c = some v) : BB w' p n l := by
  obtain ⟨h1, h2⟩ := h
  refine ⟨h1, fun h0 => ?_⟩
  obtain ⟨b, off, rfl, hc⟩ := h2 h0
  exact ⟨b, off, rfl, fun i hi => hk _ _ (hc i hi)⟩

set_option maxHeartbeats 400000 in
theorem equal_any (w : World) (p1 p2 : Option Addr) (n1 c1 n2 c2 : Nat) (l1 l2 : List UInt8) (h1 : BB w p1 n1 l1) (h2 : BB w p2 n2 l2) :
    Calls Try.prog 24 #[.slice p1 n1 c1, .slice p2 n2 c2] w fun e w' => e = .returned (.bool (l1 == l2)) ∧ w' = w := by
  have k1 := h1.conv c1
  have k2 := h2.conv c2
  have t1 := strL_toList l1
  have t2 := strL_toList l2
  clear h1 h2
  generalize strL l1 = s1 at *
  generalize strL l2 = s2 at *
  go_enter Try.func24, Try.ntmps24
  go_wp2
  go_ret
  exact ⟨by simp, rfl⟩

set_option maxHeartbeats 400000 in
theorem hasPrefix_any (w : World) (p1 p2 : Option Addr) (n1 c1 n2 c2 : Nat) (l1 l2 : List UInt8) (h1 : BB w p1 n1 l1) (h2 : BB w p2 n2 l2) (hc1 : n1 ≤ c1) (hb : c1 ≤ 9223372036854775807) :
    Calls Try.prog 22 #[.slice p1 n1 c1, .slice p2 n2 c2] w fun e w' => e = .returned (.bool (pre l2 l1)) ∧ w' = w := by
  have e1 := h1.1
  have e2 := h2.1
  by_cases hle : n2 ≤ n1
  · have C := mkHid (equal_any w p1 p2 n2 c1 n2 c2 (l1.take n2) l2 (h1.take hle) h2)
    have HP : Hid (pre l2 l1 = (l1.take n2 == l2)) := by
      show _ = _
      unfold pre
      rw [decide_eq_true (by omega), Bool.true_and, e2]
    have hle2 : (n2 : Int) ≤ n1 := by omega
    have hle3 : (n2 : Int) ≤ c1 := by omega
    have hle4 : n2 ≤ c1 := by omega
    clear h1 h2 e1 e2
    generalize pre l2 l1 = r at *
    generalize (l1.take n2 == l2) = r2 at *
    go_enter Try.func22, Try.ntmps22
    go_wp2_with (go_at_call 24; refine C.out.mono ?_; rintro e w' ⟨rfl, hw⟩; have hw := hw.symm; subst hw)
    go_ret
    exact ⟨sret_bool HP.out.symm, rfl⟩
  · have HP : Hid (pre l2 l1 = false) := by
      show _ = _
      unfold pre
      rw [decide_eq_false (by omega), Bool.false_and]
    have hlt : (n1 : Int) < n2 := by omega
    clear h1 h2 e1 e2
    generalize pre l2 l1 = r at *
    go_enter Try.func22, Try.ntmps22
    go_wp2
    go_ret
    exact ⟨sret_bool HP.out.symm, rfl⟩

set_option maxHeartbeats 400000 in
theorem eq_any (w : World) (p : Option Addr) (n c : Nat) (l : List UInt8) (h : BB w p n l) (s : ByteArray) (hs : s.size ≤ 100) :
    Calls Try.prog 21 #[.slice p n c, .string s] w fun e w' => e = .returned (.bool (l == s.data.toList)) ∧ ∃ q, w' = w.drewN q := by
  have e1 := h.1
  by_cases hn : n = s.size
  · by_cases h0 : n = 0
    · have HP : Hid ((l == s.data.toList) = true) := by
        show _ = _
        have hl : l = [] := List.eq_nil_of_length_eq_zero (by omega)
        have hs0 : s.data.toList = [] := List.eq_nil_of_length_eq_zero (by have : s.data.toList.length = s.size := by simp
                                                                           omega)
        rw [hl, hs0]; rfl
      generalize (l == s.data.toList) = r at *
      have hs0 : s.size = 0 := by omega
      subst h0
      clear h e1 hn
      go_enter Try.func21, Try.ntmps21
      go_wp2
      refine wp_loop_rounds 1 ?_
      rw [rounds_succ]
      go_wp2
      go_ret
      exact ⟨sret_bool HP.out.symm, 0, rfl⟩
    · obtain ⟨b, off, rfl, hc⟩ := h.2 (by omega)
      have HC := mkHid hc
      have HE := mkHid e1
      subst hn
      clear h hc e1
      generalize hr : (l == s.data.toList) = r
      have HR := mkHid hr
      clear hr
      go_enter Try.func21, Try.ntmps21
      go_wp2
      go_loopw [5] (fun i wr => ∃ (k q : Nat), k ≤ s.size ∧ i = .int .i64 k ∧ wr = w.drewN q ∧ Hid (∀ j, j < k → l.getD j 0 = s.data.toList.getD j 0)) (fun i _ => s.size - (intOf i).toNat)
      case atStart => exact ⟨0, 0, Nat.zero_le _, rfl, rfl, fun j hj => absurd hj (Nat.not_lt_zero _)⟩
      case round =>
        obtain ⟨k, q, hk, rfl, rfl, H⟩ := hrel
        by_cases hlt : k < s.size
        · obtain ⟨x, hx⟩ : ∃ x, x = l.getD k 0 := ⟨_, rfl⟩
          have hcell := HC.out k hlt
          rw [← hx] at hcell
          have HX := mkHid hx
          have hlti : (k : Int) < (s.size : Int) := by omega
          clear hx
          go_wp2
          go_quiet (fail)
          go_wp2
          · go_ret
            refine ⟨sret_bool ?_, q + nq, by simp⟩
            rw [← HR.out]
            have hne : ¬ (x.toNat : Int) = (s[k].toNat : Int) := by simpa using ‹((x.toNat : Int) != (s[k].toNat : Int)) = true›
            symm
            rw [beq_eq_false_iff_ne]
            intro h
            apply hne
            rw [HX.out, h, getD_data s k hlt]
          · go_roundw
            case rel =>
              refine ⟨k + 1, _, by omega, by go_num, rfl, fun j hj => ?_⟩
              have he : (x.toNat : Int) = (s[k].toNat : Int) := by simpa using ‹((x.toNat : Int) != (s[k].toNat : Int)) = false›
              by_cases e : j = k
              · subst e
                rw [← HX.out, getD_data s j hlt]
                exact UInt8.toNat_inj.1 (by omega)
              · exact H.out j (by omega)
            case measure => simp [intOf]; omega
        · go_wp2
          go_ret
          refine ⟨sret_bool ?_, q, rfl⟩
          rw [← HR.out]
          symm
          rw [beq_iff_eq]
          apply List.ext_getElem (by have := HE.out; simpa using this)
          intro j h1 h2
          have h := H.out j (by have := HE.out; omega)
          rw [List.getD_eq_getElem?_getD, List.getD_eq_getElem?_getD, List.getElem?_eq_getElem h1, List.getElem?_eq_getElem h2] at h
          exact h
  · have HP : Hid ((l == s.data.toList) = false) := by
      show _ = _
      rw [beq_eq_false_iff_ne]
      intro h'
      apply hn
      rw [← e1, h']
      simp
    generalize (l == s.data.toList) = r at *
    have hne : ((n : Int) != (s.size : Int)) = true := by simp; omega
    clear h e1
    go_enter Try.func21, Try.ntmps21
    go_wp2
    go_ret
    exact ⟨sret_bool HP.out.symm, 0, rfl⟩

set_option maxHeartbeats 400000 in
theorem zpre_any (w : World) (p : Option Addr) (n c : Nat) (l : List UInt8) (h : BB w p n l) (hc : n ≤ c) (hb : c ≤ 9223372036854775807) (s : ByteArray) (hs : s.size ≤ 100) :
    Calls Try.prog 20 #[.slice p n c, .string s] w fun e w' => e = .returned (.bool (pre s.data.toList l)) ∧ ∃ q, w' = w.drewN q := by
  have e1 := h.1
  have e2 : s.data.toList.length = s.size := by simp
  by_cases hle : s.size ≤ n
  · have C := mkHid (eq_any w p s.size c (l.take s.size) (h.take hle) s hs)
    have HP : Hid (pre s.data.toList l = (l.take s.size == s.data.toList)) := by
      show _ = _
      unfold pre
      rw [decide_eq_true (by omega), Bool.true_and, e2]
    have hle2 : (s.size : Int) ≤ n := by omega
    have hle3 : (s.size : Int) ≤ c := by omega
    have hle4 : s.size ≤ c := by omega
    clear h e1 e2
    generalize pre s.data.toList l = r at *
    generalize (l.take s.size == s.data.toList) = r2 at *
    go_enter Try.func20, Try.ntmps20
    go_wp2_with (go_at_call 21; refine C.out.mono ?_; rintro e w' ⟨rfl, q, hw⟩; subst hw)
    go_ret
    exact ⟨sret_bool HP.out.symm, q, rfl⟩
  · have HP : Hid (pre s.data.toList l = false) := by
      show _ = _
      unfold pre
      rw [decide_eq_false (by omega), Bool.false_and]
    have hlt : (n : Int) < s.size := by omega
    clear h e1 e2
    generalize pre s.data.toList l = r at *
    go_enter Try.func20, Try.ntmps20
    go_wp2
    go_ret
    exact ⟨sret_bool HP.out.symm, 0, rfl⟩

set_option maxHeartbeats 400000 in
/-- bytes.TrimPrefix at a prefix of one byte, that is there. -/
theorem trim_yes (w : World) (b off n c : Nat) (p2 : Option Addr) (c2 : Nat) (l l2 : List UInt8) (h1 : BB w (some ⟨b, off, none⟩) n l) (h2 : BB w p2 1 l2) (hc : n ≤ c) (hc1 : 1 < c) (hb : c ≤ 9223372036854775807) (hp : Hid (pre l2 l = true)) :
    Calls Try.prog 23 #[.slice (some ⟨b, off, none⟩) n c, .slice p2 1 c2] w fun e w' => e = .returned (.slice (some ⟨b, off + 1, none⟩) (n - 1) (c - 1)) ∧ w' = w := by
  have C := hasPrefix_any w (some ⟨b, off, none⟩) p2 n c 1 c2 l l2 h1 h2 hc hb
  rw [hp.out] at C
  have HC := mkHid C
  have hn : 1 ≤ n := by
    have h := hp.out
    unfold pre at h
    rw [h2.1, h1.1] at h
    simp at h
    exact h.1
  have hn2 : (1 : Int) ≤ n := by omega
  have hcc : (c == 1) = false := by simp; omega
  have hcc2 : ¬ c = 1 := by omega
  clear h1 h2 C
  go_enter Try.func23, Try.ntmps23
  go_wp2_with (go_at_call 22; refine HC.out.mono ?_; rintro e w' ⟨rfl, hw⟩; have hw := hw.symm; subst hw)
  go_ret
  exact ⟨by simp, rfl⟩

set_option maxHeartbeats 400000 in
/-- bytes.TrimPrefix where the prefix is not there. -/
theorem trim_no (w : World) (p : Option Addr) (n c : Nat) (p2 : Option Addr) (n2 c2 : Nat) (l l2 : List UInt8) (h1 : BB w p n l) (h2 : BB w p2 n2 l2) (hc : n ≤ c) (hb : c ≤ 9223372036854775807) (hp : Hid (pre l2 l = false)) :
    Calls Try.prog 23 #[.slice p n c, .slice p2 n2 c2] w fun e w' => e = .returned (.slice p n c) ∧ w' = w := by
  have C := hasPrefix_any w p p2 n c n2 c2 l l2 h1 h2 hc hb
  rw [hp.out] at C
  have HC := mkHid C
  clear h1 h2 C
  go_enter Try.func23, Try.ntmps23
  go_wp2_with (go_at_call 22; refine HC.out.mono ?_; rintro e w' ⟨rfl, hw⟩; have hw := hw.symm; subst hw)
  go_ret
  exact ⟨rfl, rfl⟩

end Go.Proofs.Qxb6601961a
