/-
  The plain functions of the two append laws: no Go in sight.
-/
import Derived.Lib.SlicesS
namespace Go.Proofs.Qxb6601884a

/-- One string more, unless it is there. -/
def addNew (u : List ByteArray) (t : ByteArray) : List ByteArray := if Lib.containsS u t = true then u else u ++ [t]

theorem addNew_in {u : List ByteArray} {t : ByteArray} (h : t ∈ u) : addNew u t = u := by unfold addNew; rw [if_pos ((Lib.containsS_iff u t).2 h)]
theorem addNew_out {u : List ByteArray} {t : ByteArray} (h : t ∉ u) : addNew u t = u ++ [t] := by unfold addNew; rw [if_neg (fun h' => h ((Lib.containsS_iff u t).1 h'))]

/-- appendNew on lists. -/
def unionL (l ts : List ByteArray) : List ByteArray := ts.foldl addNew l

theorem unionL_nil (l : List ByteArray) : unionL l [] = l := rfl

theorem unionL_snoc (l ts : List ByteArray) (t : ByteArray) : unionL l (ts ++ [t]) = addNew (unionL l ts) t := by
  simp [unionL, List.foldl_append]

theorem mem_addNew (u : List ByteArray) (t x : ByteArray) : x ∈ addNew u t ↔ x ∈ u ∨ x = t := by
  by_cases h : t ∈ u
  · rw [addNew_in h]; exact ⟨.inl, fun h' => h'.elim id (fun e => e ▸ h)⟩
  · rw [addNew_out h]; simp

theorem mem_unionL (l ts : List ByteArray) (x : ByteArray) : x ∈ unionL l ts ↔ x ∈ l ∨ x ∈ ts := by
  induction ts generalizing l with
  | nil => simp [unionL]
  | cons t ts ih =>
    show x ∈ unionL (addNew l t) ts ↔ _
    rw [ih, mem_addNew, List.mem_cons, or_assoc]

theorem addNew_le (u : List ByteArray) (t : ByteArray) : u.length ≤ (addNew u t).length ∧ (addNew u t).length ≤ u.length + 1 := by
  unfold addNew; split <;> simp

theorem unionL_le (l ts : List ByteArray) : l.length ≤ (unionL l ts).length ∧ (unionL l ts).length ≤ l.length + ts.length := by
  induction ts generalizing l with
  | nil => simp [unionL]
  | cons t ts ih =>
    have h := ih (addNew l t)
    have h2 := addNew_le l t
    show l.length ≤ (unionL (addNew l t) ts).length ∧ (unionL (addNew l t) ts).length ≤ l.length + (t :: ts).length
    simp only [List.length_cons]
    omega

theorem take_snoc_getD (ts : List ByteArray) (k : Nat) (h : k < ts.length) : ts.take (k + 1) = ts.take k ++ [ts.getD k ByteArray.empty] := by
  rw [List.take_succ_eq_append_getElem h, List.getD_eq_getElem?_getD, List.getElem?_eq_getElem h]; rfl

/-- The law's own model: each tag that is neither in the list nor earlier among the tags. -/
theorem unionL_same (l ts : List ByteArray) (k : Nat) (h : k < ts.length) (hin : ts.getD k ByteArray.empty ∈ l ∨ ts.getD k ByteArray.empty ∈ ts.take k) :
    unionL l (ts.take (k + 1)) = unionL l (ts.take k) := by
  rw [take_snoc_getD ts k h, unionL_snoc, addNew_in ((mem_unionL _ _ _).2 hin)]

theorem unionL_more (l ts : List ByteArray) (k : Nat) (h : k < ts.length) (h1 : ts.getD k ByteArray.empty ∉ l) (h2 : ts.getD k ByteArray.empty ∉ ts.take k) :
    unionL l (ts.take (k + 1)) = unionL l (ts.take k) ++ [ts.getD k ByteArray.empty] := by
  rw [take_snoc_getD ts k h, unionL_snoc, addNew_out (fun h' => ((mem_unionL _ _ _).1 h').elim h1 h2)]

theorem unionL_same' (l ts : List ByteArray) (k : Nat) (h : k < ts.length) (hin : ts.getD k ByteArray.empty ∈ unionL l (ts.take k)) :
    unionL l (ts.take (k + 1)) = unionL l (ts.take k) := by
  rw [take_snoc_getD ts k h, unionL_snoc, addNew_in hin]

theorem unionL_more' (l ts : List ByteArray) (k : Nat) (h : k < ts.length) (h1 : ts.getD k ByteArray.empty ∉ unionL l (ts.take k)) :
    unionL l (ts.take (k + 1)) = unionL l (ts.take k) ++ [ts.getD k ByteArray.empty] := by
  rw [take_snoc_getD ts k h, unionL_snoc, addNew_out h1]

/-- How many strings appendNew adds: the distinct values that are not in the list. -/
theorem unionL_disjoint (l ts : List ByteArray) (h : ∀ v ∈ ts, v ∉ l) : (unionL l ts).length = l.length + (unionL [] ts).length := by
  have gen : ∀ (ts u : List ByteArray), (∀ v ∈ ts, v ∉ l) → unionL (l ++ u) ts = l ++ unionL u ts := by
    intro ts
    induction ts with
    | nil => intro u _; rfl
    | cons t ts ih =>
      intro u hh
      have ht : t ∉ l := hh t (by simp)
      have e : addNew (l ++ u) t = l ++ addNew u t := by
        by_cases hu : t ∈ u
        · rw [addNew_in hu, addNew_in (by simp [hu])]
        · rw [addNew_out hu, addNew_out (by simp [hu, ht]), List.append_assoc]
      show unionL (addNew (l ++ u) t) ts = l ++ unionL (addNew u t) ts
      rw [e]
      exact ih _ (fun v hv => hh v (by simp [hv]))
  have := gen ts [] h
  rw [List.append_nil] at this
  rw [this, List.length_append]

theorem nodup_addNew (u : List ByteArray) (t : ByteArray) (h : u.Nodup) : (addNew u t).Nodup := by
  by_cases hn : t ∈ u
  · rw [addNew_in hn]; exact h
  · rw [addNew_out hn, List.nodup_append]
    refine ⟨h, by simp, fun a ha b hb => ?_⟩
    simp at hb
    subst hb
    exact fun e => hn (e ▸ ha)

theorem nodup_unionL (l ts : List ByteArray) (h : l.Nodup) : (unionL l ts).Nodup := by
  induction ts generalizing l with
  | nil => exact h
  | cons t ts ih => exact ih _ (nodup_addNew l t h)

/-- What is added: the list, then new strings, distinct, none of the list. -/
theorem unionL_split (l ts : List ByteArray) : ∃ m, unionL l ts = l ++ m ∧ m.Nodup ∧ (∀ x ∈ m, x ∉ l) ∧ ∀ x ∈ m, x ∈ ts := by
  have gen : ∀ (ts u : List ByteArray), u.Nodup → (∀ x ∈ u, x ∉ l) → ∃ m, unionL (l ++ u) ts = l ++ m ∧ m.Nodup ∧ (∀ x ∈ m, x ∉ l) ∧ ∀ x ∈ m, x ∈ u ∨ x ∈ ts := by
    intro ts
    induction ts with
    | nil => intro u h1 h2; exact ⟨u, rfl, h1, h2, fun x hx => .inl hx⟩
    | cons t ts ih =>
      intro u h1 h2
      by_cases ht : t ∈ l ++ u
      · have e : addNew (l ++ u) t = l ++ u := addNew_in ht
        obtain ⟨m, e1, e2, e3, e4⟩ := ih u h1 h2
        refine ⟨m, ?_, e2, e3, fun x hx => (e4 x hx).imp id (fun h => by simp [h])⟩
        show unionL (addNew (l ++ u) t) ts = _
        rw [e, e1]
      · have e : addNew (l ++ u) t = l ++ (u ++ [t]) := by rw [addNew_out ht, List.append_assoc]
        rw [List.mem_append, not_or] at ht
        obtain ⟨m, e1, e2, e3, e4⟩ := ih (u ++ [t]) (by
          rw [List.nodup_append]
          refine ⟨h1, by simp, fun a ha b hb => ?_⟩
          simp at hb
          subst hb
          exact fun e => ht.2 (e ▸ ha)) (by
          intro x hx
          rcases List.mem_append.1 hx with hx | hx
          · exact h2 x hx
          · simp at hx; subst hx; exact ht.1)
        refine ⟨m, ?_, e2, e3, fun x hx => ?_⟩
        · show unionL (addNew (l ++ u) t) ts = _
          rw [e, e1]
        · rcases e4 x hx with h | h
          · rcases List.mem_append.1 h with h | h
            · exact .inl h
            · simp at h; subst h; exact .inr (by simp)
          · exact .inr (by simp [h])
  obtain ⟨m, e1, e2, e3, e4⟩ := gen ts [] (by simp) (by simp)
  rw [List.append_nil] at e1
  exact ⟨m, e1, e2, e3, fun x hx => (e4 x hx).elim (fun h => by simp at h) id⟩

theorem nodup_sub_le {α : Type} [DecidableEq α] : ∀ (a b : List α), a.Nodup → (∀ x ∈ a, x ∈ b) → a.length ≤ b.length
  | [], _, _, _ => Nat.zero_le _
  | x :: a, b, hn, hs => by
    rw [List.nodup_cons] at hn
    have hx : x ∈ b := hs x (by simp)
    have ih := nodup_sub_le a (b.erase x) hn.2 (fun y hy => (List.mem_erase_of_ne (fun (e : y = x) => hn.1 (e ▸ hy))).2 (hs y (by simp [hy])))
    rw [List.length_erase_of_mem hx] at ih
    have hpos : 0 < b.length := List.length_pos_of_mem hx
    simp only [List.length_cons]
    omega

/-- The list shares a string with the values just where fewer strings are added than the values hold distinct ones. -/
theorem shares_iff (l ts : List ByteArray) : (∃ v ∈ ts, v ∈ l) ↔ (unionL l ts).length < l.length + (unionL [] ts).length := by
  constructor
  · rintro ⟨v, hv, hl⟩
    obtain ⟨m, e1, e2, e3, e4⟩ := unionL_split l ts
    rw [e1, List.length_append]
    have hd : (unionL [] ts).Nodup := nodup_unionL [] ts (by simp)
    have hsub : ∀ x ∈ v :: m, x ∈ unionL [] ts := by
      intro x hx
      rw [mem_unionL]
      rcases List.mem_cons.1 hx with rfl | hx
      · exact .inr hv
      · exact .inr (e4 x hx)
    have hnd : (v :: m).Nodup := by
      rw [List.nodup_cons]
      exact ⟨fun h => e3 v h hl, e2⟩
    have hle := nodup_sub_le _ _ hnd hsub
    simp only [List.length_cons] at hle
    omega
  · intro h
    refine Classical.byContradiction fun hn => ?_
    have := unionL_disjoint l ts (fun v hv hl => hn ⟨v, hv, hl⟩)
    omega

end Go.Proofs.Qxb6601884a
