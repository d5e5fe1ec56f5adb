/-
  The walk of the law's own table, zSseB1EndLine.
-/
import Derived.Test.Qxb6601961aTable
import Derived.Deep.CutRange
import Derived.Deep.DeepCutAuto
import Derived.BigRegion
namespace Go.Proofs.Qxb6601961a
open Go.RowKit
set_option linter.unusedVariables false

theorem zret_int {k : IntKind} {a b : Int} (h : a = b) : Ending.returned (.int k a) = .returned (.int k b) := by rw [h]

theorem Try.info5 : (Try.prog.info? 5).map (fun i => (i.zero, i.size, i.bytes)) = some (some (.int .u8 0), 1, 1) := by kernel_rfl

/-- The first k bytes of the copy have been made. -/
def Half (wr : World) (gt K k : Nat) (L : List UInt8) : Prop :=
  ∃ cur : List Value, cur.length = K ∧ wr.heap[gt]? = some (.cells cur.toArray 5 (0, 0)) ∧ ∀ i, i < k → cur[i]? = some (.int .u8 (L.getD i 0).toNat)

theorem Half.step {wr : World} {gt K k : Nat} {L : List UInt8} (h : Half wr gt K k L) (hk : k < K) : Half (wr.setCell ⟨gt, k, none⟩ (.int .u8 (L.getD k 0).toNat)) gt K (k + 1) L := by
  obtain ⟨cur, h1, h2, h3⟩ := h
  refine ⟨cur.set k (.int .u8 (L.getD k 0).toNat), by simp [h1], ?_, fun i hi => ?_⟩
  · rw [Joins.block_setCell h2]
    simp
  · by_cases e : i = k
    · subst e
      rw [List.getElem?_set_self (by omega)]
    · rw [List.getElem?_set_ne (by omega)]
      exact h3 i (by omega)

theorem Half.cell {wr : World} {gt K k : Nat} {L : List UInt8} (h : Half wr gt K k L) (hk : k < K) : (∃ v, wr.cell? ⟨gt, k, none⟩ = some v) ∧ wr.frozen? ⟨gt, k, none⟩ = false := by
  obtain ⟨cur, h1, h2, h3⟩ := h
  refine ⟨⟨cur[k], ?_⟩, frozen_of_row wr gt k _ 5 h2⟩
  rw [cell_of_row wr gt k _ 5 (0, 0) h2]
  simp [List.getElem?_eq_getElem (show k < cur.length by omega)]

theorem Half.bytes {wr : World} {gt K : Nat} {L : List UInt8} (h : Half wr gt K K L) (hK : K ≤ L.length) : BB wr (some ⟨gt, 0, none⟩) K (L.take K) := by
  obtain ⟨cur, h1, h2, h3⟩ := h
  refine ⟨by simp; omega, fun _ => ⟨gt, 0, rfl, fun i hi => ?_⟩⟩
  rw [Nat.zero_add, cell_of_row wr gt i _ 5 (0, 0) h2]
  simp only [List.getElem?_toArray]
  rw [h3 i hi]
  simp [hi]

theorem made_half {w : World} {g n : Nat} {base : Nat} {xs : List Value} (h : w.ownsRow base 5 1 (.slice (some ⟨g, 0, none⟩) n n) n xs) (L : List UInt8) : Half w g n 0 L := by
  have hl := h.1
  rcases h.2 with ⟨h', _⟩ | ⟨g', cap, cur, hv, hb, hg, hnc, hcm, hsz, ht⟩
  · cases h'
  · simp only [Value.slice.injEq, Option.some.injEq, Addr.mk.injEq, true_and, and_true] at hv
    obtain ⟨rfl, rfl⟩ := hv
    refine ⟨cur.toList, by simp; omega, by simpa using hg, fun i hi => absurd hi (Nat.not_lt_zero _)⟩

theorem BB.drop {w : World} {b off n : Nat} {l : List UInt8} (h : BB w (some ⟨b, off, none⟩) n l) (j : Nat) (hj : j ≤ n) : BB w (some ⟨b, off + j, none⟩) (n - j) (l.drop j) := by
  obtain ⟨h1, h2⟩ := h
  refine ⟨by simp [h1], fun h0 => ?_⟩
  obtain ⟨b', off', hp, hc⟩ := h2 (by omega)
  cases hp
  refine ⟨b, off + j, rfl, fun i hi => ?_⟩
  have h := hc (j + i) (by omega)
  rw [Nat.add_assoc, h]
  simp [List.getElem?_drop]

theorem BB.set {w : World} {p : Option Addr} {n : Nat} {l : List UInt8} (h : BB w p n l) {g : Nat} (hg : ∀ x, p = some x → x.block ≠ g) (i : Nat) (v : Value) : BB (w.setCell ⟨g, i, none⟩ v) p n l := by
  obtain ⟨h1, h2⟩ := h
  refine ⟨h1, fun h0 => ?_⟩
  obtain ⟨b, off, rfl, hc⟩ := h2 h0
  refine ⟨b, off, rfl, fun j hj => ?_⟩
  rw [World.cell?_of_block (w := w) (heap_setCell_other w ⟨g, i, none⟩ b v (hg _ rfl))]
  exact hc j hj

theorem BB.zero (w : World) (p : Option Addr) {l : List UInt8} (h : l.length = 0) : BB w p 0 l := ⟨h, fun h0 => absurd h0 (Nat.not_lt_zero _)⟩

set_option maxHeartbeats 400000 in
theorem zmin_any (a b : Int) (w : World) :
    Calls Try.prog 12 #[.int .i64 a, .int .i64 b] w fun e w' => e = .returned (.int .i64 (min a b)) ∧ w' = w := by
  go_enter Try.func12, Try.ntmps12
  go_wp2
  all_goals go_ret
  all_goals exact ⟨zret_int (by omega), rfl⟩

set_option maxRecDepth 20000 in
set_option maxHeartbeats 4000000 in
theorem model_any (w : World) (g : Nat) (L : List UInt8) (n : Int) (b c d dn e : Bool) (S : Scn 30 w g L n b c d dn e) (K : Nat) (hn0 : 0 ≤ n) (hnb : n ≤ 9223372036854775807) (hK : (K : Int) = min n 15) :
    Calls Try.prog 16 #[.pointer (some ⟨g, 0, none⟩)] w fun e' w' => EndPost 30 w g L c (endG ((L.take K).drop (stripN b (L.take K))) (n - stripN b (L.take K)) n d dn e) e' w' := by
  obtain ⟨R, hR⟩ : ∃ R, R = endG ((L.take K).drop (stripN b (L.take K))) (n - stripN b (L.take K)) n d dn e := ⟨_, rfl⟩
  rw [← hR]
  have HR := mkHid hR
  have HS := mkHid S
  have hN := S.get_n
  have hgl := S.lt
  have HGL := mkHid hgl
  have hK15 : K ≤ 15 := by omega
  have HK := mkHid hK
  obtain ⟨i0, hi, hz0, hz1, hz2⟩ := info_parts Try.info5
  have CM : Hid (∀ W, Calls Try.prog 12 #[.int .i64 n, .int .i64 15] W fun e w' => e = .returned (.int .i64 K) ∧ w' = W) := by
    intro W
    have h := zmin_any n 15 W
    rw [← hK] at h
    exact h
  clear S hR hgl hK
  go_enter Try.func16, Try.ntmps16
  go_wp2_with (first
    | (go_at_call 12; refine (CM.out _).mono ?_; rintro e w' ⟨rfl, hw⟩; have hw := hw.symm; subst hw)
    | (at_make; refine wpList_make_full _ rfl (.tmp 16) (.tmp 16) 23 rfl w.heap.size 5 i0 (.int .u8 0) 1 Try.underlying23 hi hz0 hz1 .i64 .i64 (K : Int) (K : Int) K rfl rfl rfl rfl (by rw [hz2]; omega) (by unfold maxLen; omega) (Nat.le_refl _) ?_; intro w1 hown1 hgrow1; have HO := mkHid hown1; have HG := mkHid hgrow1; clear hown1 hgrow1))
  go_loopw [5] (fun i wr => ∃ k : Nat, k ≤ K ∧ i = .int .i64 k ∧ Hid (Half wr w.heap.size K k L) ∧ Hid (Scn 30 wr g L n b c d dn e) ∧ Hid (w.grownBy wr (some g))) (fun i _ => K - (intOf i).toNat)
  case atStart => exact ⟨0, Nat.zero_le _, rfl, made_half HO.out L, HS.out.keep (HG.out.block g HGL.out (by simp)), ⟨HG.out.os, HG.out.tape, HG.out.output, HG.out.size, fun k hk _ => HG.out.block k hk (by simp)⟩⟩
  case round =>
    obtain ⟨k, hk, rfl, HH, HSr, HFr⟩ := hrel
    by_cases hlt : k < K
    · obtain ⟨⟨v, hv⟩, hfz⟩ := HH.out.cell hlt
      have hln := HSr.out.line k (by omega)
      obtain ⟨x, hx⟩ : ∃ x, x = L.getD k 0 := ⟨_, rfl⟩
      rw [← hx] at hln
      have HX := mkHid hx
      have hlti : (k : Int) < (K : Int) := by omega
      have hlt15 : (k : Int) < 15 := by omega
      clear hx
      go_wp2
      go_roundw
      case rel =>
        refine ⟨k + 1, by omega, by go_num, ?_, ?_, ?_⟩
        · have h := HH.out.step hlt
          rw [← HX.out] at h
          exact h
        · exact HSr.out.keep (heap_setCell_other _ _ _ _ (by have := HGL.out; show g ≠ w.heap.size; omega))
        · exact ⟨HFr.out.os, HFr.out.tape, HFr.out.output, Nat.le_trans HFr.out.size (by simp), fun j hj hne => (heap_setCell_other _ _ _ _ (by show j ≠ w.heap.size; omega)).trans (HFr.out.block j hj hne)⟩
      case measure => simp [intOf]; omega
    · have ek : k = K := by omega
      subst ek
      have hBB := HH.out.bytes (by have := HSr.out.1; omega)
      have HBB := mkHid hBB
      have hn2 := HSr.out.get_n
      have hb2 := HSr.out.get_b
      obtain ⟨A, hA⟩ : ∃ A, A = L.take k := ⟨_, rfl⟩
      rw [← hA] at hBB HR HBB
      have C20 : Hid (∀ q, Calls Try.prog 20 #[.slice (some ⟨w.heap.size, 0, none⟩) k k, .string ⟨#[239, 187, 191]⟩] (wr.drewN q) fun e w' => e = .returned (.bool (pre [239, 187, 191] A)) ∧ ∃ q', w' = (wr.drewN q).drewN q') :=
        fun q => zpre_any (wr.drewN q) _ k k A (HBB.out.keep (fun _ _ h => h)) (Nat.le_refl _) (by omega) ⟨#[239, 187, 191]⟩ (by decide)
      have HAl : Hid (A.length = k) := hBB.1
      have C20' := mkHid (C20.out 0)
      clear hN hBB hi hz0 hz1 hz2 CM HO HG HS HH hA hlt
      go_upto_region 9 with fail
      go_cut [49] from 41 to 48 (fun t wx => t = .bool (!b && pre [239, 187, 191] A) ∧ ∃ q, wx = wr.drewN q)
      case first =>
        cases b with
        | true =>
          go_wp2
          go_meet
          exact ⟨rfl, 0, rfl⟩
        | false =>
          go_wp2_with (go_at_call 20; refine C20'.out.mono ?_; rintro e w' ⟨rfl, q, hw⟩; subst hw)
          go_meet
          exact ⟨rfl, _, rfl⟩
      case rest =>
        obtain ⟨ht, q, hw⟩ := hcut
        subst ht
        subst hw
        obtain ⟨z, hz⟩ : ∃ z, z = (!b && pre [239, 187, 191] A) := ⟨_, rfl⟩
        rw [← hz]
        have HZ := mkHid hz
        obtain ⟨o, ho⟩ : ∃ o, o = stripN b A := ⟨_, rfl⟩
        rw [← ho] at HR
        have ho2 : (z = true ∧ o = 3 ∧ 3 ≤ k) ∨ (z = false ∧ o = 0) := by
          rw [ho]
          unfold stripN
          rw [← hz]
          cases z with
          | false => right; simp
          | true =>
            left
            refine ⟨rfl, by simp, ?_⟩
            have h : pre [239, 187, 191] A = true := by
              have := hz.symm
              simp only [Bool.and_eq_true] at this
              exact this.2
            unfold pre at h
            simp at h
            have := HAl.out
            omega
        clear hz ho C20 C20'
        go_upto_if 49 with fail
        go_cut [4, 6] from 50 to 53 (fun t m wx => ∃ p', t = .slice p' (k - o) (k - o) ∧ m = .int .i64 (n - o) ∧ Hid (∀ x, p' = some x → x.block ≠ g) ∧ Hid (BB wx p' (k - o) (A.drop o)) ∧ Hid (Scn 30 wx g L n b c d dn e) ∧ Hid (w.grownBy wx (some g)))
        case first =>
          have hgt : ∀ (f : Nat) (x : Addr), some (⟨w.heap.size, f, none⟩ : Addr) = some x → x.block ≠ g := by
            intro f x hx
            cases hx
            have := HGL.out
            show w.heap.size ≠ g
            omega
          rcases ho2 with ⟨hz, rfl, h3⟩ | ⟨hz, rfl⟩
          · subst hz
            have h3i : (3 : Int) ≤ k := by omega
            by_cases hk3 : k = 3
            · subst hk3
              go_wp2
              go_meet
              exact ⟨_, rfl, rfl, hgt _, BB.zero _ _ (by have := HAl.out; simp; omega), HSr.out.drewN q, fr_drewN HFr.out q⟩
            · go_wp2
              go_meet
              exact ⟨_, rfl, rfl, hgt _, (HBB.out.keep (w' := wr.drewN q) (fun _ _ h => h)).drop 3 h3, HSr.out.drewN q, fr_drewN HFr.out q⟩
          · subst hz
            go_wp2
            go_meet
            exact ⟨_, rfl, by simp, hgt _, HBB.out.keep (w' := wr.drewN q) (fun _ _ h => h), HSr.out.drewN q, fr_drewN HFr.out q⟩
        case rest =>
          obtain ⟨p', rfl, rfl, HPg, HBt, HSt, HFt⟩ := hcut
          obtain ⟨N, hN'⟩ : ∃ N, N = k - o := ⟨_, rfl⟩
          obtain ⟨m, hm'⟩ : ∃ m : Int, m = n - o := ⟨_, rfl⟩
          obtain ⟨T, hT⟩ : ∃ T, T = A.drop o := ⟨_, rfl⟩
          rw [← hN', ← hm']
          rw [← hT, ← hm'] at HR
          rw [← hN', ← hT] at HBt
          have hm0 : 0 ≤ m := by have := HK.out; omega
          have hmb : m ≤ 9223372036854775807 := by omega
          have hNb : N ≤ 15 := by omega
          have hn2 := HSt.out.get_n
          have hb2 := HSt.out.get_b
          have hd2 := HSt.out.get_d
          have hdn2 := HSt.out.get_dn
          have he2 := HSt.out.get_e
          have hF2 := HSt.out.free
          have HSw := mkHid ((HSt.out.setB true).setN 0)
          have HBw := mkHid ((HBt.out.set HPg.out 16 (.bool true)).set HPg.out 15 (.int .i64 0))
          have HFw := mkHid (fr_set (fr_set HFt.out 16 (.bool true)) 15 (.int .i64 0))
          clear hT hm' hN' HBB HSr HFr HAl ho2 HZ HK
          by_cases hmz : m = 0
          · have HM0 := mkHid hmz
            subst hmz
            clear HM0
            cases dn with
            | false =>
              cases d <;> cases e
              all_goals
                go_wp2
                go_ret
                exact EndPost.mk (HR.out.trans (endG_zero rfl)) ((HSw.out.setD _).setDn _) (fr_set (fr_set HFw.out _ _) _ _)
            | true =>
              cases d <;> cases e
              all_goals
                go_wp2
                go_ret
                exact EndPost.mk (HR.out.trans (endG_zero rfl)) (((HSw.out.setE _).setD _).setDn _) (fr_set (fr_set (fr_set HFw.out _ _) _ _) _ _)
          · have HM0 := mkHid hmz
            have hmzb : (m == 0) = false := by simp [hmz]
            clear hmz
            go_upto_region 21 with fail
            obtain ⟨W, hW⟩ : ∃ W, W = (wc.setCell ⟨g, 16, none⟩ (.bool true)).setCell ⟨g, 15, none⟩ (.int .i64 0) := ⟨_, rfl⟩
            rw [← hW]
            rw [← hW] at HSw HBw HFw
            clear hW hn2 hb2 hd2 hdn2 he2 hF2 HSt HBt HFt
            have HBq : Hid (∀ q, BB (W.drewN q) p' N T) := fun q => HBw.out.keep (fun _ _ h => h)
            have E1 : Hid (∀ q, Calls Try.prog 21 #[.slice p' N N, .string ⟨#[100, 97, 116, 97]⟩] (W.drewN q) fun e w' => e = .returned (.bool (T == [100, 97, 116, 97])) ∧ ∃ q', w' = W.drewN q') :=
              fun q => (eq_any (W.drewN q) p' N N T (HBq.out q) ⟨#[100, 97, 116, 97]⟩ (by decide)).mono fun e w' ⟨h1, q', h2⟩ => ⟨h1, q + q', by rw [h2, World.drewN_drewN]⟩
            have E2 : Hid (∀ q, Calls Try.prog 20 #[.slice p' N N, .string ⟨#[100, 97, 116, 97, 58]⟩] (W.drewN q) fun e w' => e = .returned (.bool (pre [100, 97, 116, 97, 58] T)) ∧ ∃ q', w' = W.drewN q') :=
              fun q => (zpre_any (W.drewN q) p' N N T (HBq.out q) (Nat.le_refl _) (by omega) ⟨#[100, 97, 116, 97, 58]⟩ (by decide)).mono fun e w' ⟨h1, q', h2⟩ => ⟨h1, q + q', by rw [h2, World.drewN_drewN]⟩
            have E3 : Hid (∀ q, Calls Try.prog 21 #[.slice p' N N, .string ⟨#[100, 97, 116, 97, 58, 32, 91, 68, 79, 78, 69, 93]⟩] (W.drewN q) fun e w' => e = .returned (.bool (T == [100, 97, 116, 97, 58, 32, 91, 68, 79, 78, 69, 93])) ∧ ∃ q', w' = W.drewN q') :=
              fun q => (eq_any (W.drewN q) p' N N T (HBq.out q) ⟨#[100, 97, 116, 97, 58, 32, 91, 68, 79, 78, 69, 93]⟩ (by decide)).mono fun e w' ⟨h1, q', h2⟩ => ⟨h1, q + q', by rw [h2, World.drewN_drewN]⟩
            have E4 : Hid (∀ q, Calls Try.prog 21 #[.slice p' N N, .string ⟨#[100, 97, 116, 97, 58, 91, 68, 79, 78, 69, 93]⟩] (W.drewN q) fun e w' => e = .returned (.bool (T == [100, 97, 116, 97, 58, 91, 68, 79, 78, 69, 93])) ∧ ∃ q', w' = W.drewN q') :=
              fun q => (eq_any (W.drewN q) p' N N T (HBq.out q) ⟨#[100, 97, 116, 97, 58, 91, 68, 79, 78, 69, 93]⟩ (by decide)).mono fun e w' ⟨h1, q', h2⟩ => ⟨h1, q + q', by rw [h2, World.drewN_drewN]⟩
            have E10 := mkHid (E1.out 0)
            have E20 := mkHid (E2.out 0)
            go_cut [9] from 87 to 100 (fun t wx => t = .bool (dataG T m) ∧ ∃ q, wx = W.drewN q)
            case first =>
              obtain ⟨r1, hr1⟩ : ∃ r1, r1 = (T == [100, 97, 116, 97]) := ⟨_, rfl⟩
              obtain ⟨r2, hr2⟩ : ∃ r2, r2 = pre [100, 97, 116, 97, 58] T := ⟨_, rfl⟩
              have HG : Hid (dataG T m = ((decide (m = 4) && r1) || (decide (5 ≤ m) && r2))) := by
                show _ = _
                unfold dataG
                rw [hr1, hr2]
              rw [← hr1] at E10
              rw [← hr2] at E20
              clear hr1 hr2 E1 E2 E3 E4 HBq
              by_cases h4 : m = 4
              · subst h4
                cases r1 with
                | true =>
                  go_wp2_with (go_at_call 21; refine E10.out.mono ?_; rintro e w' ⟨rfl, q, hw⟩; subst hw)
                  go_meet
                  exact ⟨by rw [HG.out]; rfl, _, rfl⟩
                | false =>
                  go_wp2_with (go_at_call 21; refine E10.out.mono ?_; rintro e w' ⟨rfl, q, hw⟩; subst hw)
                  go_meet
                  exact ⟨by rw [HG.out]; rfl, _, rfl⟩
              · have h4b : (m == 4) = false := by simp [h4]
                by_cases h5 : 5 ≤ m
                · have HG2 : Hid (dataG T m = r2) := by
                    show _ = _
                    rw [HG.out, decide_eq_false h4, decide_eq_true h5]
                    simp
                  clear HG h4
                  go_wp2_with (go_at_call 20; refine E20.out.mono ?_; rintro e w' ⟨rfl, q, hw⟩; subst hw)
                  go_meet
                  exact ⟨by rw [HG2.out], _, rfl⟩
                · have HG2 : Hid (dataG T m = false) := by
                    show _ = _
                    rw [HG.out, decide_eq_false h4, decide_eq_false h5]
                    rfl
                  clear HG h4
                  go_wp2
                  go_meet
                  exact ⟨by rw [HG2.out], 0, rfl⟩
            case rest =>
              obtain ⟨ht, q, hw⟩ := hcut
              subst hw
              by_cases hdat : dataG T m = true
              · have HD := mkHid hdat
                rw [hdat] at ht
                subst ht
                have E3q := mkHid (E3.out q)
                obtain ⟨r3, hr3⟩ : ∃ r3, r3 = (T == [100, 97, 116, 97, 58, 32, 91, 68, 79, 78, 69, 93]) := ⟨_, rfl⟩
                obtain ⟨r4, hr4⟩ : ∃ r4, r4 = (T == [100, 97, 116, 97, 58, 91, 68, 79, 78, 69, 93]) := ⟨_, rfl⟩
                have HG : Hid (doneG T n = (decide (n ≤ 15) && (r3 || r4))) := by
                  show _ = _
                  unfold doneG
                  rw [hr3, hr4]
                rw [← hr3] at E3q
                rw [← hr4] at E4
                clear hdat hr3 hr4 E1 E2 E3 E10 E20 HBq
                go_upto_region 24 with fail
                obtain ⟨wh, hwh⟩ : ∃ wh, wh = decide (n ≤ 15) := ⟨_, rfl⟩
                rw [← hwh]
                rw [← hwh] at HG
                clear hwh
                go_cut [10] from 103 to 111 (fun t wx => t = .bool (doneG T n) ∧ ∃ q, wx = W.drewN q)
                case first =>
                  cases wh with
                  | true =>
                    cases r3 with
                    | true =>
                      have HG2 : Hid (doneG T n = true) := by
                        show _ = _
                        rw [HG.out]
                        rfl
                      clear HG
                      go_wp2_with (go_at_call 21; refine E3q.out.mono ?_; rintro e w' ⟨rfl, q2, hw⟩; subst hw)
                      go_meet
                      exact ⟨by rw [HG2.out], _, rfl⟩
                    | false =>
                      have HG2 : Hid (doneG T n = r4) := by
                        show _ = _
                        rw [HG.out]
                        simp
                      clear HG
                      go_wp2_with fail
                      refine E3q.out.mono ?_
                      rintro e w' ⟨rfl, q2, hw⟩
                      subst hw
                      have E4q := mkHid (E4.out q2)
                      go_wp2_with (go_at_call 21; refine E4q.out.mono ?_; rintro e w' ⟨rfl, q3, hw⟩; subst hw)
                      go_meet
                      exact ⟨by rw [HG2.out], _, rfl⟩
                  | false =>
                    have HG2 : Hid (doneG T n = false) := by
                      show _ = _
                      rw [HG.out, Bool.false_and]
                    clear HG
                    go_wp2
                    go_meet
                    exact ⟨by rw [HG2.out], _, rfl⟩
                case rest =>
                  obtain ⟨ht, q5, hw⟩ := hcut
                  subst hw
                  have HSq := mkHid (HSw.out.drewN q5)
                  have hd2 := HSq.out.get_d
                  have hdn2 := HSq.out.get_dn
                  have hF2 := HSq.out.free
                  obtain ⟨r5, hr5⟩ : ∃ r5, r5 = doneG T n := ⟨_, rfl⟩
                  rw [← hr5] at ht
                  subst ht
                  have HG5 := mkHid hr5
                  clear hr5
                  cases d with
                  | true =>
                    go_wp2
                    go_ret
                    exact EndPost.mk (HR.out.trans (endG_data HM0.out HD.out)) ((HSq.out.setDn false).setD true) (fr_set (fr_set (fr_drewN HFw.out q5) _ _) _ _)
                  | false =>
                    go_wp2
                    go_ret
                    refine EndPost.mk (HR.out.trans (endG_data HM0.out HD.out)) ?_ (fr_set (fr_set (fr_drewN HFw.out q5) _ _) _ _)
                    rw [← HG5.out]
                    exact (HSq.out.setDn r5).setD true
              · have hdat2 : dataG T m = false := by simpa using hdat
                have HD := mkHid hdat2
                rw [hdat2] at ht
                subst ht
                clear hdat hdat2
                go_wp2
                go_ret
                exact EndPost.mk (HR.out.trans (endG_other HM0.out HD.out)) (HSw.out.drewN q) (fr_drewN HFw.out q)

end Go.Proofs.Qxb6601961a
