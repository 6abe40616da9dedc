/-
  Plain Lean, no program: what the specification reads, the package reads, too: the same parts; and so with more text behind.
-/
import Derived.Test.YtfakghnpkdoclaaDoorPure3
set_option linter.unusedVariables false
set_option linter.unusedSimpArgs false
namespace Go.Proofs.YtfakghnpkdoclaaDoor.Mu

def txs (l : List B) : List Elem := l.map .text
/-- a part's texts: at most two, none longer than all -/
def TxOk (s : B) (x : List B) : Prop := x.length ≤ 2 ∧ ∀ y ∈ x, y.length ≤ s.length
/-- blanks that stand in s -/
def IndOk (s ind : B) : Prop := (∀ b ∈ ind, blankB b = true) ∧ ∃ a b, b ≤ s.length ∧ ind = sub s a b

/-- the parts of the specification, the parts of the package -/
inductive Rel (s : B) (raw : Bool) : List Node → List Elem → Prop where
  | fin (x : List B) : TxOk s x → Rel s raw (addT x.flatten) (txs x)
  | rem (x : List B) {ns : List Node} {es : List Elem} : TxOk s x → Rel s raw ns es → Rel s raw (addT x.flatten ++ [.mk 6 [] false [] []] ++ ns) (txs x ++ [] ++ es)
  | var (x : List B) (n : B) (r : Bool) {ns : List Node} {es : List Elem} : TxOk s x → nameOk n = true → Rel s raw ns es → Rel s raw (addT x.flatten ++ [.mk 2 n r [] []] ++ ns) (txs x ++ [.var n (r || raw)] ++ es)
  | sect (x : List B) (n : B) (inv : Bool) {ks : List Node} {fs : List Elem} {ns : List Node} {es : List Elem} : TxOk s x → nameOk n = true → Rel s raw ks fs → Rel s raw ns es →
      Rel s raw (addT x.flatten ++ [.mk (if inv then 4 else 3) n false [] ks] ++ ns) (txs x ++ [.sect n inv fs] ++ es)
  | part (x : List B) (n ind : B) {ns : List Node} {es : List Elem} : TxOk s x → wordOk n = true → IndOk s ind → Rel s raw ns es → Rel s raw (addT x.flatten ++ [.mk 5 n false ind []] ++ ns) (txs x ++ [.part n ind] ++ es)

mutual
/-- every partial has one of these names -/
def wiN (names : List B) : Node → Prop
  | .mk k t _ _ kids => wiL names kids ∧ (k = 5 → t ∈ names)
def wiL (names : List B) : List Node → Prop
  | [] => True
  | n :: l => wiN names n ∧ wiL names l
end
theorem wiL_append {names : List B} : ∀ {l m : List Node}, wiL names (l ++ m) ↔ wiL names l ∧ wiL names m
  | [], m => by simp [wiL]
  | n :: l, m => by
    simp only [List.cons_append, wiL, wiL_append (l := l), and_assoc]

/-! ### the specification's reader, kind by kind -/
def st1 (s : B) (t : Tag) (st : PSt) : PSt := { st with pos := (alOf s t).2.1, bad := (alOf s t).2.2 }
def tx1 (s : B) (t : Tag) (st : PSt) : List Node := addT (sub s st.pos (frOf s t st.pos))
theorem parts_bad (s : B) (n : Nat) (st : PSt) (name : B) (h : st.bad = true) : (parts s n st name).2.bad = true := by
  cases n with
  | zero => rfl
  | succ n => unfold parts; rw [if_pos h]; exact h
theorem parts_none {s : B} {n : Nat} {st : PSt} {name : B} {b : Bool} (hb : st.bad = false) (hn : snext s st.pos st.o st.c = .none b) :
    parts s (n + 1) st name = (addT (s.drop st.pos), { st with bad := b || !(name == []), pos := s.length }) := by
  simp only [parts, hb, hn, Bool.false_eq_true, if_false]
section
variable {s : B} {n : Nat} {st : PSt} {name : B} {t : Tag} (hb : st.bad = false) (hn : snext s st.pos st.o st.c = .some t)
include hb hn
theorem parts_33 (hk : t.kind = 33) : parts s (n + 1) st name = (tx1 s t st ++ .mk 6 [] false [] [] :: (parts s n (st1 s t st) name).1, (parts s n (st1 s t st) name).2) := by
  rw [parts, if_neg (by rw [hb]; decide), hn]
  simp only [hk, if_true]
  rfl
def st61 (s : B) (t : Tag) (st : PSt) : PSt := match delim t.body st.o with
  | some (o, c) => { st1 s t st with o := o, c := c }
  | none => { st1 s t st with bad := true }
theorem parts_61 (hk : t.kind = 61) : parts s (n + 1) st name = (tx1 s t st ++ .mk 6 [] false [] [] :: (parts s n (st61 s t st) name).1, (parts s n (st61 s t st) name).2) := by
  rw [parts, if_neg (by rw [hb]; decide), hn]
  simp only [hk, if_true, show ¬ (61 : UInt8) = 33 by decide, if_false]
  rfl
theorem parts_47 (hk : t.kind = 47) : parts s (n + 1) st name = (tx1 s t st, { st1 s t st with bad := (st1 s t st).bad || !(t.body == name) || name == [] }) := by
  rw [parts, if_neg (by rw [hb]; decide), hn]
  simp only [hk, if_true, show ¬ (47 : UInt8) = 33 by decide, show ¬ (47 : UInt8) = 61 by decide, if_false]
  rfl
def st35 (s : B) (t : Tag) (st : PSt) : PSt := { st1 s t st with deep := st.deep + 1, bad := (st1 s t st).bad || !nameOk t.body || decide (16 < st.deep + 1) }
def back (st : PSt) : PSt := { st with deep := st.deep - 1 }
theorem parts_35 (hk : t.kind = 35 ∨ t.kind = 94) : parts s (n + 1) st name =
    (tx1 s t st ++ .mk (if t.kind = 94 then 4 else 3) t.body false [] (parts s n (st35 s t st) t.body).1 :: (parts s n (back (parts s n (st35 s t st) t.body).2) name).1, (parts s n (back (parts s n (st35 s t st) t.body).2) name).2) := by
  rw [parts, if_neg (by rw [hb]; decide), hn]
  have h1 : ¬ t.kind = 33 := by rcases hk with h | h <;> rw [h] <;> decide
  have h2 : ¬ t.kind = 61 := by rcases hk with h | h <;> rw [h] <;> decide
  have h3 : ¬ t.kind = 47 := by rcases hk with h | h <;> rw [h] <;> decide
  simp only [h1, h2, h3, hk, if_true, if_false]
  rfl
def st62 (s : B) (t : Tag) (st : PSt) : PSt := { st1 s t st with bad := (st1 s t st).bad || !wordOk t.body }
theorem parts_62 (hk : t.kind = 62) : parts s (n + 1) st name =
    (tx1 s t st ++ .mk 5 t.body false (sub s (frOf s t st.pos) t.at0) [] :: (parts s n (st62 s t st) name).1, (parts s n (st62 s t st) name).2) := by
  rw [parts, if_neg (by rw [hb]; decide), hn]
  simp only [hk, if_true, show ¬ (62 : UInt8) = 33 by decide, show ¬ (62 : UInt8) = 61 by decide, show ¬ (62 : UInt8) = 47 by decide, show ¬ ((62 : UInt8) = 35 ∨ (62 : UInt8) = 94) by decide, if_false]
  rfl
def st2 (s : B) (t : Tag) (st : PSt) : PSt := { st1 s t st with bad := (st1 s t st).bad || !nameOk t.body }
theorem parts_var (hk : ¬ kinded t.kind) : parts s (n + 1) st name =
    (tx1 s t st ++ .mk 2 t.body (!(t.kind == 0)) [] [] :: (parts s n (st2 s t st) name).1, (parts s n (st2 s t st) name).2) := by
  rw [parts, if_neg (by rw [hb]; decide), hn]
  have hne : ∀ k : UInt8, kinded k → ¬ t.kind = k := fun k h e => hk (e ▸ h)
  simp only [hne 33 (by decide), hne 61 (by decide), hne 47 (by decide), hne 62 (by decide), hne 35 (by decide), hne 94 (by decide), or_self, if_false]
  rfl
end

/-! ### the same tag with more text behind -/
theorem kindAt_app (s u : B) (i : Nat) (h : i < s.length) : kindAt (s ++ u) i = kindAt s i := by
  unfold kindAt
  rw [getD_app s u i h]
  simp only [h, show i < (s ++ u).length by rw [List.length_append]; omega]
theorem snext_app {s o c : B} {p : Nat} {t : Tag} (u : B) (ho : o ≠ []) (hc : c ≠ []) (h : snext s p o c = .some t) : snext (s ++ u) p o c = .some t := by
  obtain ⟨a2, e, F⟩ := snext_some h
  have hfe := F.fe
  have hte := find_le hfe (tagEnd_ne hc)
  have hae := (find_some hfe).1
  have hpos : 0 < (tagEnd t.kind c).length := List.length_pos_iff.2 (tagEnd_ne hc)
  have hlt : t.at0 + o.length < s.length := by
    have := F.ha
    split at this <;> omega
  unfold snext
  rw [find_app u ho F.fo]
  dsimp only
  rw [kindAt_app s u _ hlt, ← F.kd, ← F.ha, find_app u (tagEnd_ne hc) hfe]
  dsimp only
  rw [sub_app _ _ _ _ (by omega), ← F.bd, ← F.to]
theorem alOf_app {s : B} {t : Tag} (u' : B) (hk : t.kind ≠ 62) (h0 : t.at0 ≤ s.length) (h1 : t.to ≤ s.length) (hal : (alOf s t).2.2 = false) :
    (alOf (s ++ 123 :: u') t).2 = (alOf s t).2 := by
  unfold alOf at *
  split
  · rename_i hkk
    rw [if_pos hkk] at hal
    have hk62 : (t.kind == 62) = false := by simpa using hk
    rw [hk62] at hal ⊢
    unfold alone at *
    dsimp only at *
    rw [backTo_app _ _ _ _ h0]
    have hbl := backTo_le s 0 t.at0
    generalize backTo s 0 t.at0 = a at *
    have hc1 : (0 < a ∧ (s ++ 123 :: u').getD (a - 1) 0 ≠ 10) ↔ (0 < a ∧ s.getD (a - 1) 0 ≠ 10) := by
      constructor
      · rintro ⟨h, h'⟩; exact ⟨h, by rwa [getD_app s _ _ (by omega)] at h'⟩
      · rintro ⟨h, h'⟩; exact ⟨h, by rwa [getD_app s _ _ (by omega)]⟩
    by_cases hbe : fwd s t.to < s.length
    · rw [fwd_app s _ _ h1 hbe, getD_app s _ _ hbe]
      have e1 : decide (fwd s t.to = (s ++ 123 :: u').length ∧ t.to < fwd s t.to) = decide (fwd s t.to = s.length ∧ t.to < fwd s t.to) := by
        rw [decide_eq_decide, List.length_append]; simp; omega
      have e2 : (fwd s t.to < (s ++ 123 :: u').length ∧ s.getD (fwd s t.to) 0 ≠ 10) ↔ (fwd s t.to < s.length ∧ s.getD (fwd s t.to) 0 ≠ 10) := by
        rw [List.length_append]; simp; omega
      rw [e1]
      by_cases hc : (0 < a ∧ s.getD (a - 1) 0 ≠ 10) ∨ (fwd s t.to < s.length ∧ s.getD (fwd s t.to) 0 ≠ 10)
      · rw [if_pos hc, if_pos (hc.imp hc1.2 e2.2)]
        simp
      · rw [if_neg hc, if_neg (fun h => hc (h.imp hc1.1 e2.1))]
        simp only [Prod.mk.injEq, and_true]
        rw [List.length_append]; simp; omega
    · have hfle := fwd_le s t.to h1
      have hbe' : fwd s t.to = s.length := by omega
      have hto : t.to = s.length := by
        split at hal
        · simp only [Bool.false_and, Bool.or_false, decide_eq_false_iff_not] at hal; omega
        · simp only [decide_eq_false_iff_not] at hal; omega
      have hfu : fwd (s ++ 123 :: u') t.to = s.length := by rw [hto]; exact fwd_end s _ (.inr ⟨u', rfl⟩)
      have hgd : (s ++ 123 :: u').getD s.length 0 = 123 := by simp [List.getD_eq_getElem?_getD]
      rw [hfu, hgd, if_pos (.inr ⟨by rw [List.length_append]; simp, by decide⟩), hbe']
      have e1 : decide (s.length = (s ++ 123 :: u').length ∧ t.to < s.length) = false := by rw [hto]; simp
      rw [e1]
      have e2 : decide (s.length = s.length ∧ t.to < s.length) = false := by rw [hto]; simp
      rw [e2]
      split
      · simp
      · simp; omega
  · rfl
theorem st1_app {s : B} {t : Tag} {st : PSt} (u' : B) (hk : t.kind ≠ 62) (h0 : t.at0 ≤ s.length) (h1 : t.to ≤ s.length) (hal : (alOf s t).2.2 = false) : st1 (s ++ 123 :: u') t st = st1 s t st := by
  unfold st1
  rw [alOf_app u' hk h0 h1 hal]

/-! ### both readers -/
def nmOf (name : B) : Option B := if name = [] then none else some name
def CoreSec (s : B) (n : Nat) (st : PSt) (name : B) (ns : List Node) (st' : PSt) : Prop :=
  ∀ u raw, Tail u →
    (∃ es, iparse (s ++ u) raw n st.deep ⟨st.pos, st.o, st.c⟩ (some name) = some (some (es, ⟨st'.pos, st'.o, st'.c⟩)) ∧ (u = [] → Rel s raw ns es)) ∧
    (u ≠ [] → wiL [] ns → ∃ ns2, parts (s ++ u) n st name = (ns2, st'))
def CoreTop (s : B) (n : Nat) (st : PSt) (ns : List Node) : Prop :=
  ∃ n' pe oe ce, PosOk s pe ∧ (oe, ce) ∈ pairs ∧ find s oe pe = none ∧ n + st.pos ≤ n' + pe ∧ 1 ≤ n' ∧ ∀ u raw, Tail u →
    (∃ es, iparse (s ++ u) raw n st.deep ⟨st.pos, st.o, st.c⟩ none = pre es (iparse (s ++ u) raw n' st.deep ⟨pe, oe, ce⟩ none) ∧ (u = [] → Rel s raw ns (es ++ [.text (s.drop pe)]))) ∧
    (u ≠ [] → wiL [] ns → ∃ ns2, parts (s ++ u) n st [] = (ns2 ++ (parts (s ++ u) n' ⟨pe, st.deep, oe, ce, false⟩ []).1, (parts (s ++ u) n' ⟨pe, st.deep, oe, ce, false⟩ []).2))
structure Core (s : B) (n : Nat) (st : PSt) (name : B) (ns : List Node) (st' : PSt) : Prop where
  sec : name ≠ [] → CoreSec s n st name ns st' ∧ PosOk s st'.pos ∧ (st'.o, st'.c) ∈ pairs ∧ st'.deep = st.deep ∧ st.pos ≤ st'.pos
  top : name = [] → CoreTop s n st ns

theorem Core.extend {s : B} {n : Nat} {st sx st' : PSt} {name : B} {N0 ns1 : List Node} (h : Core s n sx name ns1 st') (hpos : st.pos < sx.pos) (hdeep : sx.deep = st.deep)
    (himp : ∀ u raw, Tail u → ∃ es0, iparse (s ++ u) raw (n + 1) st.deep ⟨st.pos, st.o, st.c⟩ (nmOf name) = pre es0 (iparse (s ++ u) raw n sx.deep ⟨sx.pos, sx.o, sx.c⟩ (nmOf name)) ∧ (u = [] → ∀ ns es, Rel s raw ns es → Rel s raw (N0 ++ ns) (es0 ++ es)))
    (hspec : ∀ u, Tail u → u ≠ [] → wiL [] N0 → ∃ N1, parts (s ++ u) (n + 1) st name = (N1 ++ (parts (s ++ u) n sx name).1, (parts (s ++ u) n sx name).2)) :
    Core s (n + 1) st name (N0 ++ ns1) st' := by
  constructor
  · intro hne
    obtain ⟨h1, h2, h3, h4, h5⟩ := h.sec hne
    refine ⟨fun u raw hu => ?_, h2, h3, h4.trans hdeep, by omega⟩
    obtain ⟨⟨es, a1, a2⟩, a3⟩ := h1 u raw hu
    obtain ⟨es0, b1, b2⟩ := himp u raw hu
    have hnm : nmOf name = some name := by unfold nmOf; rw [if_neg hne]
    rw [hnm] at b1
    refine ⟨⟨es0 ++ es, by rw [b1, a1]; rfl, fun hu0 => b2 hu0 _ _ (a2 hu0)⟩, fun hu0 hw => ?_⟩
    obtain ⟨w1, w2⟩ := wiL_append.1 hw
    obtain ⟨N1, hN⟩ := hspec u hu hu0 w1
    obtain ⟨ns2, hn2⟩ := a3 hu0 w2
    exact ⟨N1 ++ ns2, by rw [hN, hn2]⟩
  · intro he
    obtain ⟨n', pe, oe, ce, h1, h2, h3, h4, h4', h5⟩ := h.top he
    refine ⟨n', pe, oe, ce, h1, h2, h3, by omega, h4', fun u raw hu => ?_⟩
    obtain ⟨⟨es, a1, a2⟩, a3⟩ := h5 u raw hu
    obtain ⟨es0, b1, b2⟩ := himp u raw hu
    have hnm : nmOf name = none := by unfold nmOf; rw [if_pos he]
    rw [hnm] at b1
    refine ⟨⟨es0 ++ es, by rw [b1, a1, pre_pre, hdeep], fun hu0 => by rw [List.append_assoc]; exact b2 hu0 _ _ (a2 hu0)⟩, fun hu0 hw => ?_⟩
    obtain ⟨w1, w2⟩ := wiL_append.1 hw
    obtain ⟨N1, hN⟩ := hspec u hu hu0 w1
    obtain ⟨ns2, hn2⟩ := a3 hu0 w2
    subst he
    exact ⟨N1 ++ ns2, by rw [hN, hn2, List.append_assoc, hdeep]⟩

theorem txOf_rel {s : B} {u : B} {p : Nat} {o c : B} {t : Tag} {a2 e : Nat} {tr : TextR} {tg : TagR} (S : Step s u p o c t a2 e tr tg) (hu : u = []) (ho : o ≠ []) :
    ∃ x, TxOk s x ∧ txOf tr tg = txs x ∧ x.flatten = sub s p (frOf s t p) := by
  have h := S.txt hu
  have hrt := S.rt
  rw [hu, List.append_nil] at hrt
  have hl := rdText_pos hrt ho
  unfold txOf
  cases hal : tg.alone with
  | true =>
    rw [hal] at h
    exact ⟨[tr.text], ⟨by simp, by simpa using hl.2.2.1⟩, rfl, by simpa using h⟩
  | false =>
    rw [hal] at h
    refine ⟨[tr.text, tr.pad], ⟨by simp, ?_⟩, rfl, by simpa using h⟩
    intro y hy
    simp only [List.mem_cons, List.not_mem_nil, or_false] at hy
    rcases hy with rfl | rfl
    · exact hl.2.2.1
    · exact hl.2.2.2
theorem found_to {s o c : B} {p a2 e : Nat} {t : Tag} (F : Found s p o c t a2 e) (hp : (o, c) ∈ pairs) : t.at0 + o.length < t.to ∧ t.to ≤ s.length ∧ p ≤ t.at0 ∧ a2 ≤ e ∧ e ≤ s.length := by
  obtain ⟨hon, hcn, -, -⟩ := pairs_ne hp
  have hte := find_le F.fe (tagEnd_ne hcn)
  have hae := (find_some F.fe).1
  have hpos : 0 < (tagEnd t.kind c).length := List.length_pos_iff.2 (tagEnd_ne hcn)
  have h1 := F.ha
  have h2 := F.to
  have h3 := (find_some F.fo).1
  split at h1 <;> omega
/-- where the reader stands behind a tag -/
theorem pos_after {s o c : B} {p a2 e : Nat} {t : Tag} (F : Found s p o c t a2 e) (hp : (o, c) ∈ pairs) (hal : (alOf s t).2.2 = false) : PosOk s (alOf s t).2.1 ∧ p < (alOf s t).2.1 := by
  obtain ⟨h1, h2, h3, h4, h5⟩ := found_to F hp
  obtain ⟨hon, hcn, -, -⟩ := pairs_ne hp
  have hol : 0 < o.length := List.length_pos_iff.2 hon
  have hcl : 0 < c.length := List.length_pos_iff.2 hcn
  have hto : PosOk s t.to := by
    refine ⟨h2, .inr ?_⟩
    have hat := (find_some F.fe).2.1
    have hx : (tagEnd t.kind c).getD ((tagEnd t.kind c).length - 1) 0 = c.getD (c.length - 1) 0 := by
      unfold tagEnd
      split
      · rw [List.length_cons, Nat.add_sub_cancel]
        obtain ⟨m, hm⟩ : ∃ m, c.length = m + 1 := ⟨c.length - 1, by omega⟩
        rw [hm, Nat.add_sub_cancel]
        rfl
      · split
        · rw [List.length_cons, Nat.add_sub_cancel]
          obtain ⟨m, hm⟩ : ∃ m, c.length = m + 1 := ⟨c.length - 1, by omega⟩
          rw [hm, Nat.add_sub_cancel]
          rfl
        · rfl
    have hl : 0 < (tagEnd t.kind c).length := List.length_pos_iff.2 (tagEnd_ne hcn)
    have := hat.get ((tagEnd t.kind c).length - 1) (by omega)
    rw [hx] at this
    rw [F.to, show e + (tagEnd t.kind c).length - 1 = e + ((tagEnd t.kind c).length - 1) by omega, this]
    exact pairs_last hp
  unfold alOf at *
  split
  · rename_i hk
    rw [if_pos hk] at hal
    unfold alone at *
    dsimp only at *
    have hfle := fwd_le s t.to h2
    have hfge := fwd_ge s t.to
    split
    · exact ⟨hto, by show p < t.to; omega⟩
    · rename_i hc
      rw [if_neg hc] at hal
      simp only [decide_eq_false_iff_not] at hal
      dsimp only
      by_cases hbe : fwd s t.to < s.length
      · have h10 : s.getD (fwd s t.to) 0 = 10 := Classical.byContradiction fun h => hc (.inr ⟨hbe, h⟩)
        rw [Nat.min_eq_left (by omega)]
        refine ⟨⟨by omega, .inr ?_⟩, by omega⟩
        rw [Nat.add_sub_cancel, h10]
        decide
      · have : t.to = s.length := by omega
        have hm : min (fwd s t.to + 1) s.length = t.to := by omega
        rw [hm]
        exact ⟨hto, by omega⟩
  · exact ⟨hto, by show p < t.to; omega⟩
theorem drop_tagText {s : B} (hs : signs s) {t : Tag} {a2 e : Nat} (hk : t.kind ≠ 0 ∧ t.kind ≠ 123 ∧ t.kind ≠ 61) (hb : t.body = trimBy wsB (sub s a2 e)) : trimBy spB ((tagText s t a2 e).drop 1) = t.body := by
  unfold tagText
  rw [if_neg hk.1, if_neg hk.2.1, if_neg hk.2.2, List.drop_one, List.tail_cons, trimR_signs hs, hb]
theorem indOk_of {s u : B} {p : Nat} {o c : B} {t : Tag} {a2 e : Nat} {tr : TextR} {tg : TagR} (S : Step s u p o c t a2 e tr tg) (F : Found s p o c t a2 e) (hu : u = []) (h62 : t.kind = 62) (hp : (o, c) ∈ pairs) : IndOk s tr.pad := by
  have hfo := (find_some F.fo)
  have h1 := found_to F hp
  have hrt := S.rt
  rw [hu, List.append_nil] at hrt
  unfold rdText at hrt
  rw [F.fo] at hrt
  dsimp only at hrt
  split at hrt
  · cases hrt
    refine ⟨fun b hb => ?_, _, _, by omega, rfl⟩
    dsimp only at hb
    have key : ∀ i b, b ∈ sub s (backTo s p i) i → i ≤ s.length → blankB b = true := by
      intro i
      induction i with
      | zero => intro b hb hi; simp [backTo, sub] at hb
      | succ i ih =>
        intro b hb hi
        unfold backTo at hb
        split at hb
        · rename_i hc
          rw [sub_snoc s _ i (backTo_le s p i) (by omega)] at hb
          rcases List.mem_append.1 hb with hb | hb
          · exact ih b hb (by omega)
          · rw [List.mem_singleton.1 hb]; exact hc.2
        · rw [sub_self] at hb; cases hb
    exact key _ b hb (by omega)
  · cases hrt
    exact ⟨fun b hb => absurd hb (by simp), 0, 0, by omega, (sub_self s 0).symm⟩
end Go.Proofs.YtfakghnpkdoclaaDoor.Mu
