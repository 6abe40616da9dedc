/-
  Plain Lean, no program: one tag, read by the specification and by the package: the same tag, the same place behind it.
-/
import Derived.Test.YtfakghnpkdoclaaDoorPure2
set_option linter.unusedVariables false
set_option linter.unusedSimpArgs false
namespace Go.Proofs.YtfakghnpkdoclaaDoor.Mu

/-- visible signs, blanks, new lines -/
def signB (b : UInt8) : Bool := (32 ≤ b && b ≤ 126) || b == 10
def signs (s : B) : Prop := ∀ b ∈ s, signB b = true

/-! ### a text with another one behind -/
theorem getD_app (s t : B) (k : Nat) (h : k < s.length) : (s ++ t).getD k 0 = s.getD k 0 := by
  simp [List.getD_eq_getElem?_getD, List.getElem?_append_left h]
theorem sub_app (s t : B) (a b : Nat) (h : b ≤ s.length) : sub (s ++ t) a b = sub s a b := by
  unfold sub
  rw [List.take_append_of_le_length h]
theorem at_app {s pat : B} (t : B) {i : Nat} (h : At s pat i) : At (s ++ t) pat i := by
  unfold At at *
  rw [List.drop_append]
  exact h.trans (List.prefix_append _ _)
theorem at_of_app {s t pat : B} {i : Nat} (h : At (s ++ t) pat i) (hl : i + pat.length ≤ s.length) : At s pat i :=
  at_of_get hl fun j hj => by rw [← getD_app s t _ (by omega)]; exact h.get j hj
theorem find_app {s pat : B} (t : B) {i f : Nat} (hp : pat ≠ []) (h : find s pat i = some f) : find (s ++ t) pat i = some f := by
  have h1 := find_some h
  have h2 := find_le h hp
  exact find_eq h1.1 (at_app t h1.2.1) fun j hj hjf ha => h1.2.2 j hj hjf (at_of_app ha (by omega))
theorem backTo_app (s t : B) (p i : Nat) (h : i ≤ s.length) : backTo (s ++ t) p i = backTo s p i := by
  induction i with
  | zero => rfl
  | succ i ih =>
    unfold backTo
    rw [getD_app s t i (by omega), ih (by omega)]
theorem fwd_app (s t : B) (b : Nat) (hb : b ≤ s.length) (h : fwd s b < s.length) : fwd (s ++ t) b = fwd s b := by
  refine fwd_eq _ _ _ (fwd_ge s b) (by rw [List.length_append]; omega) (fun q h1 h2 => ?_) (.inr ?_)
  · rw [getD_app s t q (by omega)]; exact fwd_blank s b q h1 h2
  · rw [getD_app s t _ h]; exact fwd_stop s b h
theorem fwd_end (s t : B) (h : t = [] ∨ ∃ t', t = 123 :: t') : fwd (s ++ t) s.length = s.length := by
  rcases h with rfl | ⟨t', rfl⟩
  · rw [List.append_nil]
    exact fwd_eq s _ _ (Nat.le_refl _) (Nat.le_refl _) (fun q a b => by omega) (.inl rfl)
  · refine fwd_eq _ _ _ (Nat.le_refl _) (by rw [List.length_append]; omega) (fun q a b => by omega) (.inr ?_)
    simp [List.getD_eq_getElem?_getD, blankB]

/-! ### the four pairs -/
theorem pairs_cases {o c : B} (h : (o, c) ∈ pairs) : (o = [60, 37] ∧ c = [37, 62]) ∨ (o = [91, 91] ∧ c = [93, 93]) ∨ (o = [124] ∧ c = [124]) ∨ (o = [123, 123] ∧ c = [125, 125]) := by
  simpa [pairs] using h
theorem pairs_ne {o c : B} (h : (o, c) ∈ pairs) : o ≠ [] ∧ c ≠ [] ∧ o.length ≤ 2 ∧ c.length ≤ 2 := by
  rcases pairs_cases h with ⟨rfl, rfl⟩ | ⟨rfl, rfl⟩ | ⟨rfl, rfl⟩ | ⟨rfl, rfl⟩ <;> simp
/-- a closing sign's first byte -/
theorem pairs_head {o c : B} (h : (o, c) ∈ pairs) : ∃ q l, c = q :: l ∧ isKind q = false ∧ wsB q = false ∧ spB q = false ∧ q ≠ 61 := by
  rcases pairs_cases h with ⟨rfl, rfl⟩ | ⟨rfl, rfl⟩ | ⟨rfl, rfl⟩ | ⟨rfl, rfl⟩
  · exact ⟨37, [62], rfl, by decide, by decide, by decide, by decide⟩
  · exact ⟨93, [93], rfl, by decide, by decide, by decide, by decide⟩
  · exact ⟨124, [], rfl, by decide, by decide, by decide, by decide⟩
  · exact ⟨125, [125], rfl, by decide, by decide, by decide, by decide⟩
/-- a closing sign's last byte is no blank -/
theorem pairs_last {o c : B} (h : (o, c) ∈ pairs) : blankB (c.getD (c.length - 1) 0) = false := by
  rcases pairs_cases h with ⟨rfl, rfl⟩ | ⟨rfl, rfl⟩ | ⟨rfl, rfl⟩ | ⟨rfl, rfl⟩ <;> decide
theorem delim_some {body o o' c' : B} (h : delim body o = some (o', c')) : (o', c') ∈ pairs ∧ body = o' ++ [32] ++ c' ∧ o' ≠ o := by
  unfold delim at h
  have h1 := List.mem_of_find?_eq_some h
  have h2 := List.find?_some h
  simp only [Bool.and_eq_true, beq_iff_eq, Bool.not_eq_true', beq_eq_false_iff_ne, ne_eq] at h2
  exact ⟨h1, h2.1, h2.2⟩
/-- the first byte of a closing sign stands in no other pair's -/
theorem pairs_apart {o c o' c' : B} (h : (o, c) ∈ pairs) (h' : (o', c') ∈ pairs) (hne : o' ≠ o) : ∀ q l, c = q :: l → q ∉ o' ++ [32] ++ c' := by
  rcases pairs_cases h with ⟨rfl, rfl⟩ | ⟨rfl, rfl⟩ | ⟨rfl, rfl⟩ | ⟨rfl, rfl⟩ <;> rcases pairs_cases h' with ⟨rfl, rfl⟩ | ⟨rfl, rfl⟩ | ⟨rfl, rfl⟩ | ⟨rfl, rfl⟩ <;>
    first
      | exact absurd rfl hne
      | (intro q l hq; injection hq with hq _; subst hq; decide)
theorem pairs_open {o c : B} (h : (o, c) ∈ pairs) : (32 : UInt8) ∉ o := by
  rcases pairs_cases h with ⟨rfl, rfl⟩ | ⟨rfl, rfl⟩ | ⟨rfl, rfl⟩ | ⟨rfl, rfl⟩ <;> decide

/-! ### strips -/
theorem signB_sp {b : UInt8} (h : signB b = true) : spB b = wsB b := by
  unfold signB at h
  unfold spB wsB
  simp only [Bool.or_eq_true, Bool.and_eq_true, decide_eq_true_eq, beq_iff_eq] at h
  rcases h with ⟨h1, h2⟩ | h
  · have h1' : 32 ≤ b.toNat := h1
    have : ∀ k : UInt8, k.toNat < 32 → (b == k) = false := fun k hk => beq_eq_false_iff_ne.2 (fun e => by subst e; omega)
    rw [this 9 (by decide), this 10 (by decide), this 11 (by decide), this 12 (by decide), this 13 (by decide)]
    simp
  · subst h; decide
theorem signB_blank {b : UInt8} (h : signB b = true) : b ≠ 13 := by
  rintro rfl; exact absurd h (by decide)
theorem signs_getD {s : B} (h : signs s) (k : Nat) (hk : k < s.length) : signB (s.getD k 0) = true := by
  rw [List.getD_eq_getElem?_getD, List.getElem?_eq_getElem hk]
  exact h _ (List.getElem_mem hk)
theorem trim_signs {s : B} (h : signs s) (a b : Nat) : trimBy spB (sub s a b) = trimBy wsB (sub s a b) :=
  trimBy_congr fun x hx => signB_sp (h x (mem_sub hx))
theorem trimR_signs {s : B} (h : signs s) (a b : Nat) : trimBy spB (trimR spB (sub s a b)) = trimBy wsB (sub s a b) := by
  rw [trimBy_trimR]; exact trim_signs h a b
theorem mem_dropWhile_or {f : UInt8 → Bool} : ∀ {l : B} {x : UInt8}, x ∈ l → f x = true ∨ x ∈ l.dropWhile f
  | c :: l, x, h => by
    by_cases hc : f c = true
    · rcases List.mem_cons.1 h with rfl | h
      · exact .inl hc
      · rw [List.dropWhile_cons, if_pos hc]; exact mem_dropWhile_or h
    · rw [List.dropWhile_cons, if_neg hc]; exact .inr h
theorem mem_trimBy_or {f : UInt8 → Bool} {l : B} {x : UInt8} (h : x ∈ l) : f x = true ∨ x ∈ trimBy f l := by
  rcases mem_dropWhile_or (f := f) h with h | h
  · exact .inl h
  · rcases mem_dropWhile_or (f := f) (List.mem_reverse.2 h) with h | h
    · exact .inl h
    · exact .inr (List.mem_reverse.2 h)
theorem sub_snoc' (s : B) (a e : Nat) (h : a ≤ e) (he : e < s.length) (q : UInt8) (hq : s.getD e 0 = q) : sub s a (e + 1) = sub s a e ++ [q] := by
  rw [sub_snoc s a e h he, hq]

/-! ### names -/
theorem lower_facts {b : UInt8} (h : lower b = true) : isKind b = false ∧ isSkip b = false ∧ spB b = false := by
  unfold lower at h
  simp only [Bool.and_eq_true, decide_eq_true_eq] at h
  have h1 : 97 ≤ b.toNat := h.1
  have h2 : b.toNat ≤ 122 := h.2
  have hn : ∀ k : UInt8, k.toNat < 97 ∨ 122 < k.toNat → (b == k) = false := fun k hk => beq_eq_false_iff_ne.2 (fun e => by subst e; omega)
  unfold isKind isSkip spB
  simp [hn 35 (by decide), hn 94 (by decide), hn 47 (by decide), hn 33 (by decide), hn 62 (by decide), hn 38 (by decide), hn 61 (by decide), hn 123 (by decide), hn 60 (by decide), hn 9 (by decide), hn 10 (by decide), hn 11 (by decide), hn 12 (by decide), hn 13 (by decide), hn 32 (by decide)]
theorem wordOk_facts {w : B} (h : wordOk w = true) : (∀ b ∈ w, lower b = true) ∧ 0 < w.length ∧ w.length ≤ 8 := by
  unfold wordOk at h
  simp only [Bool.and_eq_true, decide_eq_true_eq, List.all_eq_true] at h
  exact ⟨h.1.1, h.1.2, h.2⟩
theorem wordsL_head (acc l : B) : ∃ w ws, wordsL acc l = (acc ++ w) :: ws ∧ w <+: l := by
  induction l generalizing acc with
  | nil => exact ⟨[], [], by simp [wordsL], List.nil_prefix⟩
  | cons c l ih =>
    unfold wordsL
    split
    · exact ⟨[], _, by rw [List.append_nil], List.nil_prefix⟩
    · obtain ⟨w, ws, h1, h2⟩ := ih (acc ++ [c])
      exact ⟨c :: w, ws, by rw [h1]; simp, List.cons_prefix_cons.2 ⟨rfl, h2⟩⟩
/-- a name begins with a small letter or is a point -/
theorem nameOk_head {s : B} (h : nameOk s = true) : ∃ c l, s = c :: l ∧ (c = 46 ∨ lower c = true) := by
  unfold nameOk at h
  simp only [Bool.or_eq_true, beq_iff_eq, Bool.and_eq_true] at h
  rcases h with h | ⟨h, -⟩
  · exact ⟨46, [], h, .inl rfl⟩
  · obtain ⟨w, ws, h1, h2⟩ := wordsL_head [] s
    unfold words at h
    rw [h1, List.nil_append, List.all_cons, Bool.and_eq_true] at h
    obtain ⟨ha, hb, -⟩ := wordOk_facts h.1
    cases w with
    | nil => simp at hb
    | cons c w =>
      obtain ⟨t, ht⟩ := h2
      exact ⟨c, w ++ t, ht.symm, .inr (ha c (by simp))⟩
theorem nameOk_kind {s : B} (h : nameOk s = true) : s ≠ [] ∧ isKind (s.getD 0 0) = false ∧ isSkip (s.getD 0 0) = false := by
  obtain ⟨c, l, rfl, hc⟩ := nameOk_head h
  refine ⟨by simp, ?_⟩
  show isKind c = false ∧ isSkip c = false
  rcases hc with rfl | hc
  · decide
  · exact ⟨(lower_facts hc).1, (lower_facts hc).2.1⟩

/-! ### one tag -/
def PosOk (s : B) (p : Nat) : Prop := p ≤ s.length ∧ (p = 0 ∨ blankB (s.getD (p - 1) 0) = false)
/-- what may stand behind: nothing, or what begins with a brace -/
def Tail (t : B) : Prop := t = [] ∨ ∃ t', t = 123 :: t'
/-- what the specification found -/
structure Found (s : B) (p : Nat) (o c : B) (t : Tag) (a2 e : Nat) : Prop where
  fo : find s o p = some t.at0
  kd : t.kind = kindAt s (t.at0 + o.length)
  ha : a2 = if t.kind = 0 then t.at0 + o.length else t.at0 + o.length + 1
  fe : find s (tagEnd t.kind c) a2 = some e
  bd : t.body = trimBy wsB (sub s a2 e)
  to : t.to = e + (tagEnd t.kind c).length
theorem snext_some {s o c : B} {p : Nat} {t : Tag} (h : snext s p o c = .some t) : ∃ a2 e, Found s p o c t a2 e := by
  unfold snext at h
  split at h
  · cases h
  · rename_i f hf
    dsimp only at h
    split at h
    · cases h
    · rename_i e he
      cases h
      exact ⟨_, e, hf, rfl, rfl, he, rfl, rfl⟩
theorem tagEnd_ne {k : UInt8} {c : B} (hc : c ≠ []) : tagEnd k c ≠ [] := by
  unfold tagEnd
  split
  · simp
  · split
    · simp
    · exact hc
theorem kindAt_cases (s : B) (i : Nat) (h : i < s.length) : (isKind (s.getD i 0) = true ∧ kindAt s i = s.getD i 0) ∨ (isKind (s.getD i 0) = false ∧ kindAt s i = 0) := by
  unfold kindAt
  by_cases hk : isKind (s.getD i 0) = true
  · exact .inl ⟨hk, if_pos ⟨h, hk⟩⟩
  · exact .inr ⟨by simpa using hk, if_neg (fun x => hk x.2)⟩
theorem isKind_cases {k : UInt8} (h : isKind k = true) : k = 35 ∨ k = 94 ∨ k = 47 ∨ k = 33 ∨ k = 62 ∨ k = 38 ∨ k = 61 ∨ k = 123 := by
  simpa [isKind, or_assoc] using h

/-- the package's tag text -/
def tagText (s : B) (t : Tag) (a2 e : Nat) : B :=
  if t.kind = 0 then t.body else if t.kind = 123 then 123 :: (sub s a2 e ++ [125]) else if t.kind = 61 then 61 :: (sub s a2 e ++ [61]) else t.kind :: trimR spB (sub s a2 e)

theorem find_from {s pat : B} {i j f : Nat} (h : find s pat j = some f) (hij : i ≤ j) (hn : ∀ m, i ≤ m → m < j → ¬ At s pat m) : find s pat i = some f := by
  have h1 := find_some h
  refine find_eq (by omega) h1.2.1 fun m a b => ?_
  rcases Nat.lt_or_ge m j with hm | hm
  · exact hn m a hm
  · exact h1.2.2 m hm b
theorem not_at_head {s : B} {q : UInt8} {l : B} {i : Nat} (h : s.getD i 0 ≠ q) : ¬ At s (q :: l) i := fun ha => h (by have := ha.get 0 (by simp); simpa using this)
theorem mem_sub_getD (s : B) (a b j : Nat) (h1 : a ≤ j) (h2 : j < b) (hb : b ≤ s.length) : s.getD j 0 ∈ sub s a b := by
  rw [← sub_append s a j b h1 (by omega), sub_cons s j b h2 hb]
  simp

/-- the package finds the same end, and the same tag -/
theorem tag_found {s o c : B} {p a2 e : Nat} {t : Tag} (F : Found s p o c t a2 e) (hs : signs s) (hp : (o, c) ∈ pairs) (h0 : t.kind = 0 → nameOk t.body = true) (h61 : t.kind = 61 → delim t.body o ≠ none) (u : B) :
    ∃ e', find (s ++ u) (tagPat (s ++ u) (t.at0 + o.length) c) (t.at0 + o.length) = some e' ∧ e' + (tagPat (s ++ u) (t.at0 + o.length) c).length = t.to ∧ t.to ≤ s.length ∧
      trimBy spB (sub (s ++ u) (t.at0 + o.length) (t.to - c.length)) = tagText s t a2 e ∧ tagText s t a2 e ≠ [] ∧ t.at0 + o.length ≤ e ∧ a2 ≤ e ∧ e < t.to := by
  obtain ⟨hon, hcn, -, -⟩ := pairs_ne hp
  obtain ⟨q, l, hq, hqk, hqw, hqs, hq61⟩ := pairs_head hp
  have hcl : 0 < c.length := List.length_pos_iff.2 hcn
  have hte := find_le F.fe (tagEnd_ne hcn)
  have hae := (find_some F.fe).1
  have hto := F.to
  have hlt : t.at0 + o.length < s.length := by
    have : 0 < (tagEnd t.kind c).length := List.length_pos_iff.2 (tagEnd_ne hcn)
    have := F.ha
    split at this <;> omega
  generalize ha1 : t.at0 + o.length = a1 at *
  have hx : (s ++ u).getD a1 0 = s.getD a1 0 := getD_app s u a1 hlt
  have hpat : tagPat (s ++ u) a1 c = if s.getD a1 0 = 123 then 125 :: c else c := by
    unfold tagPat
    rw [hx]
    by_cases h : s.getD a1 0 = 123
    · rw [if_pos ⟨by rw [List.length_append]; omega, h⟩, if_pos h]
    · rw [if_neg (fun x => h x.2), if_neg h]
  rcases kindAt_cases s a1 hlt with ⟨hk, hkk⟩ | ⟨hk, hkk⟩
  · -- a sign
    have hkd : t.kind = s.getD a1 0 := by rw [F.kd, ha1, hkk]
    have hk0 : t.kind ≠ 0 := by
      rw [hkd]; intro h
      rw [h] at hk; exact absurd hk (by decide)
    have ha2 : a2 = a1 + 1 := by have := F.ha; rw [if_neg hk0, ha1] at this; exact this
    have hqne : s.getD a1 0 ≠ q := by
      intro h
      rw [h, hqk] at hk; cases hk
    have hcons : ∀ b, a2 ≤ b → b ≤ s.length → sub s a1 b = t.kind :: sub s a2 b := fun b h1 h2 => by
      rw [sub_cons s a1 b (by omega) h2, ha2, hkd]
    have hsp : spB t.kind = false := by
      rw [hkd]
      rcases isKind_cases hk with h | h | h | h | h | h | h | h <;> rw [h] <;> decide
    by_cases h123 : t.kind = 123
    · have hpat' : tagPat (s ++ u) a1 c = 125 :: c := by rw [hpat, if_pos (by rw [← hkd, h123])]
      have hend : tagEnd t.kind c = 125 :: c := by unfold tagEnd; rw [if_pos h123]
      have hfe := F.fe
      rw [hend] at hfe hte
      rw [hend] at hto
      have hat := (find_some hfe).2.1
      have he : s.getD e 0 = 125 := by have := hat.get 0 (by simp); simpa using this
      simp only [List.length_cons] at hto hte
      have hf1 : find s (125 :: c) a1 = some e := by
        rw [find_succ (by rw [← hkd, h123]; decide), ← ha2]; exact hfe
      refine ⟨e, by rw [hpat']; exact find_app u (by simp) hf1, by rw [hpat']; simp only [List.length_cons]; omega, by omega, ?_, ?_, by omega, hae, by omega⟩
      · rw [sub_app _ _ _ _ (by omega), show t.to - c.length = e + 1 by omega, hcons _ (by omega) (by omega), sub_snoc' s a2 e hae (by omega) 125 he, h123, trimBy_both (by decide) (by decide)]
        unfold tagText
        rw [if_neg hk0, if_pos h123]
      · unfold tagText; rw [if_neg hk0, if_pos h123]; simp
    · have hpat' : tagPat (s ++ u) a1 c = c := by rw [hpat, if_neg (by rw [← hkd]; exact h123)]
      by_cases hk61 : t.kind = 61
      · have hend : tagEnd t.kind c = 61 :: c := by unfold tagEnd; rw [if_neg h123, if_pos hk61]
        have hfe := F.fe
        rw [hend] at hfe hte
        rw [hend] at hto
        have hat := (find_some hfe).2.1
        have he : s.getD e 0 = 61 := by have := hat.get 0 (by simp); simpa using this
        simp only [List.length_cons] at hto hte
        obtain ⟨⟨o', c'⟩, hd⟩ := Option.ne_none_iff_exists'.1 (h61 hk61)
        obtain ⟨hp', hb', hne⟩ := delim_some hd
        have hap := pairs_apart hp hp' hne q l hq
        have hnm : ∀ j, a1 ≤ j → j < e + 1 → s.getD j 0 ≠ q := by
          intro j h1 h2 h3
          rcases Nat.lt_or_ge j a2 with h | h
          · have : j = a1 := by omega
            subst this; exact hqne h3
          · rcases Nat.lt_or_ge j e with h' | h'
            · have hm := mem_sub_getD s a2 e j h h' (by omega)
              rw [h3] at hm
              rcases mem_trimBy_or (f := wsB) hm with hw | hw
              · rw [hqw] at hw; cases hw
              · rw [← F.bd, hb'] at hw; exact hap hw
            · have : j = e := by omega
              subst this; rw [he] at h3; exact hq61 h3.symm
        have hatc : At s c (e + 1) := at_of_get (by omega) fun j hj => by
          have := hat.get (j + 1) (by simp; omega)
          rw [show e + 1 + j = e + (j + 1) by omega, this]
          simp [List.getD_eq_getElem?_getD]
        have hf1 : find s c a1 = some (e + 1) := find_eq (by omega) hatc fun j h1 h2 => by rw [hq]; exact not_at_head (hnm j h1 h2)
        refine ⟨e + 1, by rw [hpat']; exact find_app u hcn hf1, by rw [hpat']; omega, by omega, ?_, ?_, by omega, hae, by omega⟩
        · rw [sub_app _ _ _ _ (by omega), show t.to - c.length = e + 1 by omega, hcons _ (by omega) (by omega), sub_snoc' s a2 e hae (by omega) 61 he, hk61, trimBy_both (by decide) (by decide)]
          unfold tagText
          rw [if_neg hk0, if_neg h123, if_pos hk61]
        · unfold tagText; rw [if_neg hk0, if_neg h123, if_pos hk61]; simp
      · have hend : tagEnd t.kind c = c := by unfold tagEnd; rw [if_neg h123, if_neg hk61]
        have hfe := F.fe
        rw [hend] at hfe hte
        rw [hend] at hto
        have hf1 : find s c a1 = some e := find_from hfe (by omega) fun m h1 h2 => by
          have : m = a1 := by omega
          subst this; rw [hq]; exact not_at_head hqne
        refine ⟨e, by rw [hpat']; exact find_app u hcn hf1, by rw [hpat']; omega, by omega, ?_, ?_, by omega, hae, by omega⟩
        · rw [sub_app _ _ _ _ (by omega), show t.to - c.length = e by omega, hcons _ hae (by omega), trimBy_cons hsp]
          unfold tagText
          rw [if_neg hk0, if_neg h123, if_neg hk61]
        · unfold tagText; rw [if_neg hk0, if_neg h123, if_neg hk61]; simp
  · -- no sign
    have hk0 : t.kind = 0 := by rw [F.kd, ha1, hkk]
    have ha2 : a2 = a1 := by have := F.ha; rw [if_pos hk0, ha1] at this; exact this
    have hx123 : s.getD a1 0 ≠ 123 := fun h => by rw [h] at hk; exact absurd hk (by decide)
    have hpat' : tagPat (s ++ u) a1 c = c := by rw [hpat, if_neg hx123]
    have hend : tagEnd t.kind c = c := by unfold tagEnd; rw [hk0]; rfl
    have hfe := F.fe
    rw [hend] at hfe hte
    rw [hend] at hto
    subst ha2
    refine ⟨e, by rw [hpat']; exact find_app u hcn hfe, by rw [hpat']; omega, by omega, ?_, ?_, by omega, hae, by omega⟩
    · rw [sub_app _ _ _ _ (by omega), show t.to - c.length = e by omega, trim_signs hs, ← F.bd]
      unfold tagText
      rw [if_pos hk0]
    · unfold tagText; rw [if_pos hk0]; exact (nameOk_kind (h0 hk0)).1
theorem tagText_head {s o c : B} {p a2 e : Nat} {t : Tag} (F : Found s p o c t a2 e) : (t.kind ≠ 0 → (tagText s t a2 e).getD 0 0 = t.kind) ∧ (t.kind = 0 → tagText s t a2 e = t.body) := by
  refine ⟨fun h => ?_, fun h => ?_⟩
  · unfold tagText
    rw [if_neg h]
    split
    · rename_i h'; rw [h']; rfl
    · split
      · rename_i h'; rw [h']; rfl
      · rfl
  · unfold tagText; rw [if_pos h]

/-- one text and one tag, by the package's reader -/
structure Step (s u : B) (p : Nat) (o c : B) (t : Tag) (a2 e : Nat) (tr : TextR) (tg : TagR) : Prop where
  rt : rdText (s ++ u) p o = some tr
  rg : rdTag (s ++ u) tr.pos c tr.may = some tg
  tag : tg.tag = tagText s t a2 e
  pos : tg.pos = (alOf s t).2.1
  txt : u = [] → tr.text ++ (if tg.alone then [] else tr.pad) = sub s p (frOf s t p)
  pad : u = [] → t.kind = 62 → tr.pad = sub s (frOf s t p) t.at0

theorem kind_isKind {s o c : B} {p a2 e : Nat} {t : Tag} (F : Found s p o c t a2 e) : t.kind = 0 ∨ isKind t.kind = true := by
  rw [F.kd]
  unfold kindAt
  split
  · rename_i h; exact .inr h.2
  · exact .inl rfl
theorem kinded_skip {k : UInt8} (hk : isKind k = true) (h : kinded k) : isSkip k = true := by
  obtain ⟨h0, h1, h2⟩ := h
  rcases isKind_cases hk with h | h | h | h | h | h | h | h <;> subst h <;> first | decide | exact absurd rfl h1 | exact absurd rfl h2

theorem step_of {s o c : B} {p a2 e : Nat} {t : Tag} (F : Found s p o c t a2 e) (hs : signs s) (hp : (o, c) ∈ pairs) (h0 : t.kind = 0 → nameOk t.body = true) (h61 : t.kind = 61 → delim t.body o ≠ none)
    (hpos : PosOk s p) (hal : (alOf s t).2.2 = false) (u : B) (hu : Tail u) : ∃ tr tg, Step s u p o c t a2 e tr tg := by
  obtain ⟨hon, hcn, -, -⟩ := pairs_ne hp
  obtain ⟨e', hfe, hto, htl, htag, hne, hle1, hle2, hlt⟩ := tag_found F hs hp h0 h61 u
  have hpf := (find_some F.fo).1
  have hfl := find_le F.fo hon
  have hol : 0 < o.length := List.length_pos_iff.2 hon
  have hb := backTo_limit s p t.at0 hpf hpos.2
  have hbl := backTo_le s 0 t.at0
  have hbg : p ≤ backTo s 0 t.at0 := by rw [← hb]; exact backTo_ge s p t.at0 hpf
  generalize ha : backTo s 0 t.at0 = a at *
  -- the text
  have hrt : rdText (s ++ u) p o = some (if a = 0 ∨ s.getD (a - 1) 0 = 10 then ⟨sub s p a, sub s a t.at0, true, t.at0 + o.length⟩ else ⟨sub s p t.at0, [], false, t.at0 + o.length⟩) := by
    unfold rdText
    rw [find_app u hon F.fo]
    dsimp only
    rw [backTo_app s u p t.at0 (by omega), hb]
    by_cases h : a = 0 ∨ s.getD (a - 1) 0 = 10
    · have h' : a = 0 ∨ (s ++ u).getD (a - 1) 0 = 10 := by
        rcases h with h | h
        · exact .inl h
        · rcases Nat.eq_zero_or_pos a with h1 | h1
          · exact .inl h1
          · right; rw [getD_app s u _ (by omega)]; exact h
      rw [if_pos h, if_pos h', sub_app _ _ _ _ (by omega), sub_app _ _ _ _ (by omega)]
    · have h' : ¬ (a = 0 ∨ (s ++ u).getD (a - 1) 0 = 10) := by
        intro hc
        apply h
        rcases hc with h | h
        · exact .inl h
        · rcases Nat.eq_zero_or_pos a with h1 | h1
          · exact .inl h1
          · right; rw [getD_app s u _ (by omega)] at h; exact h
      rw [if_neg h, if_neg h', sub_app _ _ _ _ (by omega)]
  have hrg : ∀ may, rdTag (s ++ u) (t.at0 + o.length) c may = if may then
        if isSkip ((tagText s t a2 e).getD 0 0) then
          if eow (s ++ u) t.to = (s ++ u).length then some ⟨tagText s t a2 e, true, eow (s ++ u) t.to⟩
          else if (s ++ u).getD (eow (s ++ u) t.to) 0 = 10 then some ⟨tagText s t a2 e, true, eow (s ++ u) t.to + 1⟩
          else if eow (s ++ u) t.to + 1 < (s ++ u).length ∧ (s ++ u).getD (eow (s ++ u) t.to) 0 = 13 ∧ (s ++ u).getD (eow (s ++ u) t.to + 1) 0 = 10 then some ⟨tagText s t a2 e, true, eow (s ++ u) t.to + 2⟩
          else some ⟨tagText s t a2 e, false, t.to⟩
        else some ⟨tagText s t a2 e, false, t.to⟩
      else some ⟨tagText s t a2 e, true, t.to⟩ := by
    intro may
    unfold rdTag
    rw [hfe]
    dsimp only
    rw [hto, htag, if_neg hne]
  by_cases hmay : a = 0 ∨ s.getD (a - 1) 0 = 10
  · rw [if_pos hmay] at hrt
    by_cases hk : kinded t.kind
    · have hki : isKind t.kind = true := (kind_isKind F).resolve_left hk.1
      have hhead : (tagText s t a2 e).getD 0 0 = t.kind := (tagText_head F).1 hk.1
      have hskip : isSkip ((tagText s t a2 e).getD 0 0) = true := by rw [hhead]; exact kinded_skip hki hk
      have hg := hrg true
      rw [if_pos rfl, if_pos hskip] at hg
      have hal' := hal
      unfold alOf at hal'
      rw [if_pos hk] at hal'
      unfold alone at hal'
      rw [ha] at hal'
      have hfge := fwd_ge s t.to
      have hfle := fwd_le s t.to htl
      have hnm : ¬ (0 < a ∧ s.getD (a - 1) 0 ≠ 10) := by
        rintro ⟨h1, h2⟩
        rcases hmay with h | h
        · omega
        · exact h2 h
      by_cases hbe : fwd s t.to < s.length
      · -- the line goes on, or ends
        have hfw : fwd (s ++ u) t.to = fwd s t.to := fwd_app s u t.to htl hbe
        have heow : eow (s ++ u) t.to = fwd s t.to := by
          unfold eow; rw [hfw, if_pos (by rw [List.length_append]; omega)]
        have hgd : (s ++ u).getD (fwd s t.to) 0 = s.getD (fwd s t.to) 0 := getD_app s u _ hbe
        rw [heow, if_neg (by rw [List.length_append]; omega), hgd] at hg
        by_cases h10 : s.getD (fwd s t.to) 0 = 10
        · rw [if_pos h10] at hg
          have hala : alOf s t = (a, min (fwd s t.to + 1) s.length, decide (fwd s t.to = s.length ∧ t.to < fwd s t.to)) := by
            unfold alOf
            rw [if_pos hk]
            unfold alone
            rw [ha, if_neg (by rintro (h | ⟨-, h⟩); exact hnm h; exact h h10)]
          have hfr : frOf s t p = a := by unfold frOf; rw [if_pos hk, hala]; dsimp only; omega
          refine ⟨_, _, hrt, hg, rfl, ?_, fun _ => ?_, fun _ _ => ?_⟩
          · rw [hala]; dsimp only; omega
          · rw [hfr]; simp
          · rw [hfr]
        · rw [if_neg h10, if_neg (fun h => signB_blank (signs_getD hs _ hbe) h.2.1)] at hg
          rw [if_pos (.inr ⟨hbe, h10⟩)] at hal'
          have hala : alOf s t = (t.at0, t.to, (alOf s t).2.2) := by
            unfold alOf
            rw [if_pos hk]
            unfold alone
            rw [ha, if_pos (.inr ⟨hbe, h10⟩)]
          have hfr : frOf s t p = t.at0 := by unfold frOf; rw [if_pos hk, hala]; dsimp only; omega
          refine ⟨_, _, hrt, hg, rfl, ?_, fun _ => ?_, fun _ h62 => ?_⟩
          · rw [hala]
          · rw [hfr]
            simp only [Bool.false_eq_true, if_false]
            exact sub_append s p a t.at0 hbg hbl
          · rw [hfr]
            simp only [h62, beq_self_eq_true, Bool.true_and, Bool.or_eq_false_iff, Bool.and_eq_false_iff, decide_eq_false_iff_not] at hal'
            have : a = t.at0 := by
              rcases hal'.2 with h | h
              · rcases hmay with h' | h'
                · exact absurd h' h.1
                · exact absurd h' h.2
              · omega
            rw [this]
      · -- the end of all
        have hbe' : fwd s t.to = s.length := by omega
        have hala : alOf s t = (a, min (fwd s t.to + 1) s.length, decide (fwd s t.to = s.length ∧ t.to < fwd s t.to)) := by
          unfold alOf
          rw [if_pos hk]
          unfold alone
          rw [ha, if_neg (by rintro (h | ⟨h, -⟩); exact hnm h; omega)]
        have hte : t.to = s.length := by
          rw [hala] at hal
          simp only [decide_eq_false_iff_not] at hal
          omega
        have hfr : frOf s t p = a := by unfold frOf; rw [if_pos hk, hala]; dsimp only; omega
        have hfu : fwd (s ++ u) t.to = s.length := by rw [hte]; exact fwd_end s u hu
        rcases hu with rfl | ⟨u', rfl⟩
        · have heow : eow (s ++ []) t.to = (s ++ []).length := by
            unfold eow
            rw [hfu, List.append_nil, if_neg (by omega), hte]
          rw [if_pos heow] at hg
          refine ⟨_, _, hrt, hg, rfl, ?_, fun _ => ?_, fun _ _ => ?_⟩
          · rw [heow, hala, List.append_nil]; dsimp only; omega
          · rw [hfr]; simp
          · rw [hfr]
        · have heow : eow (s ++ 123 :: u') t.to = s.length := by
            unfold eow
            rw [hfu, if_pos (by rw [List.length_append]; simp)]
          have hgd : (s ++ 123 :: u').getD s.length 0 = 123 := by simp [List.getD_eq_getElem?_getD]
          rw [heow, if_neg (by rw [List.length_append]; simp), hgd, if_neg (by decide), if_neg (by rintro ⟨-, h, -⟩; exact absurd h (by decide))] at hg
          refine ⟨_, _, hrt, hg, rfl, ?_, fun h => ?_, fun h => ?_⟩
          · rw [hala]; dsimp only; omega
          · cases h
          · cases h
    · -- no line's tag
      have hns : isSkip ((tagText s t a2 e).getD 0 0) = false := by
        rcases kind_isKind F with h | h
        · rw [(tagText_head F).2 h]; exact (nameOk_kind (h0 h)).2.2
        · by_cases hk0 : t.kind = 0
          · rw [(tagText_head F).2 hk0]; exact (nameOk_kind (h0 hk0)).2.2
          · rw [(tagText_head F).1 hk0]
            have : t.kind = 38 ∨ t.kind = 123 := by
              by_cases h38 : t.kind = 38
              · exact .inl h38
              · by_cases h123 : t.kind = 123
                · exact .inr h123
                · exact absurd ⟨hk0, h38, h123⟩ hk
            rcases this with h | h <;> rw [h] <;> decide
      have hg := hrg true
      rw [if_pos rfl, hns] at hg
      simp only [Bool.false_eq_true, if_false] at hg
      have hfr : frOf s t p = t.at0 := by unfold frOf; rw [if_neg hk]
      refine ⟨_, _, hrt, hg, rfl, ?_, fun _ => ?_, fun _ h62 => ?_⟩
      · unfold alOf; rw [if_neg hk]
      · rw [hfr]
        simp only [Bool.false_eq_true, if_false]
        exact sub_append s p a t.at0 hbg hbl
      · exact absurd (by rw [h62]; decide) hk
  · rw [if_neg hmay] at hrt
    have hg := hrg false
    simp only [Bool.false_eq_true, if_false] at hg
    have hala : (alOf s t).1 = t.at0 ∧ (alOf s t).2.1 = t.to := by
      unfold alOf
      split
      · unfold alone
        rw [ha, if_pos (.inl ⟨by omega, fun h => hmay (.inr h)⟩)]
        exact ⟨rfl, rfl⟩
      · exact ⟨rfl, rfl⟩
    have hfr : frOf s t p = t.at0 := by
      unfold frOf
      split
      · rw [hala.1]; omega
      · rfl
    refine ⟨_, _, hrt, hg, rfl, hala.2.symm, fun _ => ?_, fun _ _ => ?_⟩
    · rw [hfr]; simp
    · rw [hfr, sub_self]
end Go.Proofs.YtfakghnpkdoclaaDoor.Mu
