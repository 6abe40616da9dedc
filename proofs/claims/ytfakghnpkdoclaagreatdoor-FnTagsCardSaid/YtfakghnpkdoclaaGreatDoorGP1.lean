/-
  Plain bytes and the specification's reader, mirrored. (Joined by wip/pack.py.)
-/
set_option linter.unusedVariables false
set_option linter.unusedSimpArgs false
namespace Go.Proofs.YtfakghnpkdoclaaGreatDoor.Mu
abbrev B := List UInt8
def blankB (b : UInt8) : Bool := b == 32 || b == 9
def wsB (b : UInt8) : Bool := b == 32 || b == 9 || b == 10
def spB (b : UInt8) : Bool := b == 9 || b == 10 || b == 11 || b == 12 || b == 13 || b == 32
def sub (s : B) (a b : Nat) : B := (s.take b).drop a
def findL (pat : B) : B → Option Nat
 | [] => if pat.isPrefixOf [] then some 0 else none
 | c :: l => if pat.isPrefixOf (c :: l) then some 0 else (findL pat l).map (· + 1)
def find (s pat : B) (i : Nat) : Option Nat := (findL pat (s.drop i)).map (· + i)
def trimBy (f : UInt8 → Bool) (l : B) : B := ((l.dropWhile f).reverse.dropWhile f).reverse
def backTo (s : B) (p : Nat) : Nat → Nat
 | 0 => 0
 | i + 1 => if p < i + 1 ∧ blankB (s.getD i 0) = true then backTo s p i else i + 1
def fwd (s : B) (b : Nat) : Nat := b + ((s.drop b).takeWhile blankB).length
inductive Node where
 | mk (kind : Nat) (text : B) (raw : Bool) (indent : B) (kids : List Node)
structure Tag where
 kind : UInt8
 body : B
 at0 : Nat
 to : Nat
inductive Nx where
 | none (bad : Bool)
 | some (t : Tag)
def isKind (b : UInt8) : Bool := b == 35 || b == 94 || b == 47 || b == 33 || b == 62 || b == 38 || b == 61 || b == 123
def tagEnd (kind : UInt8) (c : B) : B := if kind = 123 then 125 :: c else if kind = 61 then 61 :: c else c
def kindAt (s : B) (i : Nat) : UInt8 := if i < s.length ∧ isKind (s.getD i 0) = true then s.getD i 0 else 0
def snext (s : B) (i : Nat) (o c : B) : Nx :=
 match find s o i with
 | none => .none false
 | some f =>
  let a1 := f + o.length
  let k := kindAt s a1
  let a2 := if k = 0 then a1 else a1 + 1
  match find s (tagEnd k c) a2 with
  | none => .none true
  | some t => .some ⟨k, trimBy wsB (sub s a2 t), f, t + (tagEnd k c).length⟩
def alone (s : B) (f t : Nat) (partial_ : Bool) : Nat × Nat × Bool :=
 let a := backTo s 0 f
 let b := fwd s t
 let bad := decide (b = s.length ∧ t < b)
 if (0 < a ∧ s.getD (a - 1) 0 ≠ 10) ∨ (b < s.length ∧ s.getD b 0 ≠ 10) then
  (f, t, bad || (partial_ && (decide (a = 0) || decide (s.getD (a - 1) 0 = 10)) && decide (a < f)))
 else (a, min (b + 1) s.length, bad)
def pairs : List (B × B) := [([60, 37], [37, 62]), ([91, 91], [93, 93]), ([124], [124]), ([123, 123], [125, 125])]
def delim (body o : B) : Option (B × B) := pairs.find? fun l => (body == l.1 ++ [32] ++ l.2) && !(l.1 == o)
def lower (b : UInt8) : Bool := 97 ≤ b && b ≤ 122
def wordOk (s : B) : Bool := s.all lower && decide (0 < s.length) && decide (s.length ≤ 8)
def wordsL : B → B → List B
 | acc, [] => [acc]
 | acc, c :: l => if c = 46 then acc :: wordsL [] l else wordsL (acc ++ [c]) l
def words (s : B) : List B := wordsL [] s
def nameOk (s : B) : Bool := s == [46] || ((words s).all wordOk && decide ((words s).length ≤ 3))
structure PSt where
 pos : Nat
 deep : Nat
 o : B
 c : B
 bad : Bool
def addT (t : B) : List Node := if t = [] then [] else [.mk 1 t false [] []]
def kinded (k : UInt8) : Prop := k ≠ 0 ∧ k ≠ 38 ∧ k ≠ 123
instance (k : UInt8) : Decidable (kinded k) := by unfold kinded; infer_instance
def alOf (s : B) (t : Tag) : Nat × Nat × Bool := if kinded t.kind then alone s t.at0 t.to (t.kind == 62) else (t.at0, t.to, false)
def frOf (s : B) (t : Tag) (p : Nat) : Nat := if kinded t.kind then max (alOf s t).1 p else t.at0
def parts (s : B) : Nat → PSt → B → List Node × PSt
 | 0, st, _ => ([], { st with bad := true })
 | n + 1, st, name =>
  if st.bad then ([], st) else
  match snext s st.pos st.o st.c with
  | .none b => (addT (s.drop st.pos), { st with bad := b || !(name == []), pos := s.length })
  | .some t =>
   let tx := addT (sub s st.pos (frOf s t st.pos))
   let st1 := { st with pos := (alOf s t).2.1, bad := (alOf s t).2.2 }
   if t.kind = 33 then
    let r := parts s n st1 name
    (tx ++ .mk 6 [] false [] [] :: r.1, r.2)
   else if t.kind = 61 then
    let st2 := match delim t.body st.o with
     | some (o, c) => { st1 with o := o, c := c }
     | none => { st1 with bad := true }
    let r := parts s n st2 name
    (tx ++ .mk 6 [] false [] [] :: r.1, r.2)
   else if t.kind = 47 then
    (tx, { st1 with bad := st1.bad || !(t.body == name) || name == [] })
   else if t.kind = 35 ∨ t.kind = 94 then
    let st2 := { st1 with deep := st.deep + 1, bad := st1.bad || !nameOk t.body || decide (16 < st.deep + 1) }
    let k := parts s n st2 t.body
    let r := parts s n { k.2 with deep := k.2.deep - 1 } name
    (tx ++ .mk (if t.kind = 94 then 4 else 3) t.body false [] k.1 :: r.1, r.2)
   else if t.kind = 62 then
    let r := parts s n { st1 with bad := st1.bad || !wordOk t.body } name
    (tx ++ .mk 5 t.body false (sub s (frOf s t st.pos) t.at0) [] :: r.1, r.2)
   else
    let r := parts s n { st1 with bad := st1.bad || !nameOk t.body } name
    (tx ++ .mk 2 t.body (!(t.kind == 0)) [] [] :: r.1, r.2)
def start : PSt := ⟨0, 0, [123, 123], [125, 125], false⟩
def parse (s : B) : List Node × Bool := let r := parts s (s.length + 4) start []; (r.1, !r.2.bad)
inductive Elem where
 | text (t : B)
 | var (name : B) (raw : Bool)
 | sect (name : B) (inv : Bool) (elems : List Elem)
 | part (name : B) (indent : B)
structure TextR where
 text : B
 pad : B
 may : Bool
 pos : Nat
def rdText (s : B) (p : Nat) (o : B) : Option TextR :=
 match find s o p with
 | none => none
 | some i =>
  let j := backTo s p i
  if j = 0 ∨ s.getD (j - 1) 0 = 10 then some ⟨sub s p j, sub s j i, true, i + o.length⟩
  else some ⟨sub s p i, [], false, i + o.length⟩
structure TagR where
 tag : B
 alone : Bool
 pos : Nat
def isSkip (b : UInt8) : Bool := b == 35 || b == 94 || b == 47 || b == 60 || b == 62 || b == 61 || b == 33
def eow (s : B) (p : Nat) : Nat := if fwd s p < s.length then fwd s p else p
def tagPat (s : B) (p : Nat) (c : B) : B := if p < s.length ∧ s.getD p 0 = 123 then 125 :: c else c
def rdTag (s : B) (p : Nat) (c : B) (may : Bool) : Option TagR :=
 match find s (tagPat s p c) p with
 | none => none
 | some e =>
  let p1 := e + (tagPat s p c).length
  let tag := trimBy spB (sub s p (p1 - c.length))
  if tag = [] then none
  else if may then
   if isSkip (tag.getD 0 0) then
    let w := eow s p1
    if w = s.length then some ⟨tag, true, w⟩
    else if s.getD w 0 = 10 then some ⟨tag, true, w + 1⟩
    else if w + 1 < s.length ∧ s.getD w 0 = 13 ∧ s.getD (w + 1) 0 = 10 then some ⟨tag, true, w + 2⟩
    else some ⟨tag, false, p1⟩
   else some ⟨tag, false, p1⟩
  else some ⟨tag, true, p1⟩
structure ISt where
 pos : Nat
 o : B
 c : B
def cutSp (l : B) : Option (B × B) := (find l [32] 0).map fun i => (l.take i, l.drop (i + 1))
def custom (tag : B) : Option (B × B) :=
 if tag.length < 3 ∨ tag.getLast? ≠ some 61 then none else
  match cutSp (trimBy spB ((tag.drop 1).dropLast)) with
  | none => none
  | some (o, c) => if o = [] ∨ c = [] ∨ 1000 < o.length ∨ 1000 < c.length then none else some (o, c)
def iparse (s : B) (raw : Bool) : Nat → Nat → ISt → Option B → Option (Option (List Elem × ISt))
 | 0, _, _, _ => none
 | n + 1, depth, st, name =>
  match rdText s st.pos st.o with
  | none => match name with
   | none => some (some ([.text (s.drop st.pos)], { st with pos := s.length }))
   | some _ => some none
  | some tr =>
   match rdTag s tr.pos st.c tr.may with
   | none => some none
   | some tg =>
    let tx := .text tr.text :: (if tg.alone then [] else [Elem.text tr.pad])
    let st1 := { st with pos := tg.pos }
    let k := tg.tag.getD 0 0
    let go (es : List Elem) (st2 : ISt) := (iparse s raw n depth st2 name).map fun r => r.map fun x => (tx ++ es ++ x.1, x.2)
    if k = 33 then go [] st1
    else if k = 35 ∨ k = 94 then
     if 10000 < depth + 1 then some none else
     match iparse s raw n (depth + 1) st1 (some (trimBy spB (tg.tag.drop 1))) with
     | none => none
     | some none => some none
     | some (some x) => go [.sect (trimBy spB (tg.tag.drop 1)) (k == 94) x.1] x.2
    else if k = 47 then match name with
     | none => some none
     | some nm => if trimBy spB (tg.tag.drop 1) = nm then some (some (tx, st1)) else some none
    else if k = 62 then go [.part (trimBy spB (tg.tag.drop 1)) tr.pad] st1
    else if k = 61 then match custom tg.tag with
     | none => none
     | some (o, c) => go [] { st1 with o := o, c := c }
    else if k = 123 then
     go (if tg.tag.getLast? = some 125 then [.var (trimBy spB ((tg.tag.drop 1).dropLast)) true] else []) st1
    else if k = 38 then go [.var (trimBy spB (tg.tag.drop 1)) true] st1
    else go [.var tg.tag raw] st1
end Go.Proofs.YtfakghnpkdoclaaGreatDoor.Mu
namespace Go.Proofs.YtfakghnpkdoclaaGreatDoor.Mu
theorem sub_length (s : B) (a b : Nat) (h : b ≤ s.length) : (sub s a b).length = b - a := by
 simp [sub, List.length_drop, List.length_take, Nat.min_eq_left h]
theorem sub_self (s : B) (a : Nat) : sub s a a = [] := by simp [sub]
theorem sub_cons (s : B) (a b : Nat) (h : a < b) (hb : b ≤ s.length) : sub s a b = s.getD a 0 :: sub s (a + 1) b := by
 unfold sub
 have h1 : a < (s.take b).length := by simp; omega
 rw [List.drop_eq_getElem_cons h1]
 simp [List.getD_eq_getElem?_getD, show a < s.length by omega]
theorem sub_append (s : B) (a b c : Nat) (h1 : a ≤ b) (h2 : b ≤ c) : sub s a b ++ sub s b c = sub s a c := by
 unfold sub
 rw [List.drop_take, List.drop_take, List.drop_take]
 have : s.drop b = (s.drop a).drop (b - a) := by rw [List.drop_drop]; congr 1; omega
 rw [this, show c - a = (b - a) + (c - b) by omega, List.take_add]
theorem sub_snoc (s : B) (a b : Nat) (h : a ≤ b) (hb : b < s.length) : sub s a (b + 1) = sub s a b ++ [s.getD b 0] := by
 rw [← sub_append s a b (b + 1) h (by omega), sub_cons s b (b + 1) (by omega) (by omega), sub_self]
theorem sub_to_end (s : B) (a : Nat) : sub s a s.length = s.drop a := by simp [sub]
theorem mem_sub {s : B} {a b : Nat} {x : UInt8} (h : x ∈ sub s a b) : x ∈ s :=
 List.mem_of_mem_take (List.mem_of_mem_drop h)
theorem findL_some {pat : B} : ∀ {l : B} {i : Nat}, findL pat l = some i → pat <+: l.drop i ∧ ∀ j, j < i → ¬ pat <+: l.drop j
 | [], i, h => by
  simp only [findL] at h
  split at h
  · rename_i hp
    cases h
    exact ⟨by simpa using hp, fun j hj => by omega⟩
  · cases h
 | c :: l, i, h => by
  simp only [findL] at h
  split at h
  · rename_i hp
    cases h
    exact ⟨by simpa using hp, fun j hj => by omega⟩
  · rename_i hp
    cases hl : findL pat l with
    | none => simp [hl] at h
    | some k =>
     simp only [hl, Option.map_some, Option.some.injEq] at h;subst h;have ih := findL_some hl;refine ⟨by simpa using ih.1, fun j hj => ?_⟩
     cases j with
     | zero => simpa using hp
     | succ j => simpa using ih.2 j (by omega)
theorem findL_none {pat : B} : ∀ {l : B}, findL pat l = none → ∀ j, ¬ pat <+: l.drop j
 | [], h, j => by
  simp only [findL] at h
  split at h
  · cases h
  · rename_i hp
    simpa using hp
 | c :: l, h, j => by
  simp only [findL] at h
  split at h
  · cases h
  · rename_i hp
    cases hl : findL pat l with
    | some k => simp [hl] at h
    | none =>
     cases j with
     | zero => simpa using hp
     | succ j => simpa using findL_none hl j
def At (s pat : B) (i : Nat) : Prop := pat <+: s.drop i
theorem find_some {s pat : B} {i f : Nat} (h : find s pat i = some f) : i ≤ f ∧ At s pat f ∧ ∀ j, i ≤ j → j < f → ¬ At s pat j := by
 unfold find at h
 cases hl : findL pat (s.drop i) with
 | none => simp [hl] at h
 | some k =>
  simp only [hl, Option.map_some, Option.some.injEq] at h;subst h;have := findL_some hl;refine ⟨by omega, ?_, fun j h1 h2 => ?_⟩
  · have h0 := this.1
    rw [List.drop_drop] at h0;unfold At;rw [Nat.add_comm k i]; exact h0
  · have h0 := this.2 (j - i) (by omega)
    rw [List.drop_drop, show i + (j - i) = j by omega] at h0;exact h0
theorem find_none {s pat : B} {i : Nat} (h : find s pat i = none) : ∀ j, i ≤ j → ¬ At s pat j := by
 unfold find at h
 cases hl : findL pat (s.drop i) with
 | some k => simp [hl] at h
 | none =>
  intro j hj;have h0 := findL_none hl (j - i);rw [List.drop_drop, show i + (j - i) = j by omega] at h0;exact h0
theorem find_eq {s pat : B} {i f : Nat} (h1 : i ≤ f) (h2 : At s pat f) (h3 : ∀ j, i ≤ j → j < f → ¬ At s pat j) : find s pat i = some f := by
 cases h : find s pat i with
 | none => exact absurd h2 (find_none h f h1)
 | some g =>
  have hg := find_some h
  rcases Nat.lt_trichotomy f g with hlt | rfl | hlt
  · exact absurd h2 (hg.2.2 f h1 hlt)
  · rfl
  · exact absurd hg.2.1 (h3 g hg.1 hlt)
theorem find_eq_none {s pat : B} {i : Nat} (h : ∀ j, i ≤ j → ¬ At s pat j) : find s pat i = none := by
 cases hf : find s pat i with
 | none => rfl
 | some g => exact absurd (find_some hf).2.1 (h g (find_some hf).1)
theorem At.le {s pat : B} {i : Nat} (h : At s pat i) (hp : pat ≠ []) : i + pat.length ≤ s.length := by
 have := h.length_le
 simp only [List.length_drop] at this
 have : 0 < pat.length := List.length_pos_iff.2 hp
 omega
theorem At.get {s pat : B} {i : Nat} (h : At s pat i) (j : Nat) (hj : j < pat.length) : s.getD (i + j) 0 = pat.getD j 0 := by
 obtain ⟨t, ht⟩ := h
 have h1 : (s.drop i)[j]? = pat[j]? := by rw [← ht, List.getElem?_append_left hj]
 rw [List.getElem?_drop] at h1
 simp [List.getD_eq_getElem?_getD, h1]
theorem at_of_get {s pat : B} {i : Nat} (hl : i + pat.length ≤ s.length) (h : ∀ j, j < pat.length → s.getD (i + j) 0 = pat.getD j 0) : At s pat i := by
 unfold At
 rw [List.prefix_iff_eq_take]
 apply List.ext_getElem
 · simp; omega
 · intro j h1 h2
   have := h j h1;simp [List.getD_eq_getElem?_getD, h1, show i + j < s.length by omega] at this;simp [this]
theorem find_le {s pat : B} {i f : Nat} (h : find s pat i = some f) (hp : pat ≠ []) : f + pat.length ≤ s.length := (find_some h).2.1.le hp
theorem find_succ {s : B} {q : UInt8} {pat : B} {i : Nat} (h : s.getD i 0 ≠ q) : find s (q :: pat) i = find s (q :: pat) (i + 1) := by
 have hn : ¬ At s (q :: pat) i := fun ha => h (by have := ha.get 0 (by simp); simpa using this)
 cases hf : find s (q :: pat) (i + 1) with
 | none =>
  refine find_eq_none fun j hj => ?_
  rcases Nat.eq_or_lt_of_le hj with rfl | hlt
  · exact hn
  · exact find_none hf j hlt
 | some f =>
  have h1 := find_some hf;refine find_eq (by omega) h1.2.1 fun j hj hjf => ?_
  rcases Nat.eq_or_lt_of_le hj with rfl | hlt
  · exact hn
  · exact h1.2.2 j hlt hjf
theorem backTo_le (s : B) (p i : Nat) : backTo s p i ≤ i := by
 induction i with
 | zero => simp [backTo]
 | succ i ih => unfold backTo; split <;> omega
theorem backTo_ge (s : B) (p i : Nat) (h : p ≤ i) : p ≤ backTo s p i := by
 induction i with
 | zero => simp [backTo]; omega
 | succ i ih =>
  unfold backTo;split
  · exact ih (by omega)
  · exact h
theorem backTo_limit (s : B) (p i : Nat) (h : p ≤ i) (hp : p = 0 ∨ blankB (s.getD (p - 1) 0) = false) : backTo s p i = backTo s 0 i := by
 induction i with
 | zero => simp [backTo]
 | succ i ih =>
  unfold backTo
  by_cases hb : blankB (s.getD i 0) = true
  · by_cases hlt : p < i + 1
    · rw [if_pos ⟨hlt, hb⟩, if_pos ⟨by omega, hb⟩]
      exact ih (by omega)
    · have : p = i + 1 := by omega
      subst this
      rcases hp with h0 | h0
      · omega
      · simp only [Nat.add_sub_cancel] at h0
        rw [h0] at hb; cases hb
  · rw [if_neg (fun h => hb h.2), if_neg (fun h => hb h.2)]
theorem fwd_ge (s : B) (b : Nat) : b ≤ fwd s b := by unfold fwd; omega
theorem fwd_le (s : B) (b : Nat) (h : b ≤ s.length) : fwd s b ≤ s.length := by
 unfold fwd
 have := (List.takeWhile_prefix blankB (l := s.drop b)).length_le
 simp at this; omega
theorem fwd_stop (s : B) (b : Nat) (h : fwd s b < s.length) : blankB (s.getD (fwd s b) 0) = false := by
 unfold fwd at *
 have h1 : (s.drop b).takeWhile blankB ++ (s.drop b).dropWhile blankB = s.drop b := List.takeWhile_append_dropWhile
 have h2 : (s.drop b)[((s.drop b).takeWhile blankB).length]? = ((s.drop b).dropWhile blankB)[0]? := by
  have h3 : ∀ (x y z : B), x ++ y = z → z[x.length]? = y[0]? := by
   intro x y z hz;subst hz;rw [List.getElem?_append_right (Nat.le_refl _), Nat.sub_self]
  exact h3 _ _ _ h1
 rw [List.getElem?_drop] at h2
 rw [List.getD_eq_getElem?_getD, h2]
 cases hd : (s.drop b).dropWhile blankB with
 | nil =>
  rw [hd] at h2;simp [h] at h2
 | cons c l =>
  have := List.head?_dropWhile_not blankB (s.drop b);rw [hd] at this;simpa using this
theorem fwd_blank (s : B) (b j : Nat) (h1 : b ≤ j) (h2 : j < fwd s b) : blankB (s.getD j 0) = true := by
 unfold fwd at h2
 have hlt : j - b < ((s.drop b).takeWhile blankB).length := by omega
 have hm : ((s.drop b).takeWhile blankB)[j - b] ∈ (s.drop b).takeWhile blankB := List.getElem_mem hlt
 have hall := List.all_takeWhile (p := blankB) (l := s.drop b)
 have hb := (List.all_eq_true.1 hall) _ hm
 have he : (s.drop b)[j - b]? = ((s.drop b).takeWhile blankB)[j - b]? := by
  conv => lhs; rw [← List.takeWhile_append_dropWhile (p := blankB) (l := s.drop b)]
  rw [List.getElem?_append_left hlt]
 rw [List.getElem?_drop, show b + (j - b) = j by omega] at he
 rw [List.getD_eq_getElem?_getD, he, List.getElem?_eq_getElem hlt]
 exact hb
theorem fwd_eq (s : B) (p j : Nat) (h1 : p ≤ j) (h2 : j ≤ s.length) (hb : ∀ q, p ≤ q → q < j → blankB (s.getD q 0) = true) (hs : j = s.length ∨ blankB (s.getD j 0) = false) : fwd s p = j := by
 have hle := fwd_le s p (by omega)
 have hge := fwd_ge s p
 rcases Nat.lt_trichotomy (fwd s p) j with h | h | h
 · have := fwd_stop s p (by omega)
   rw [hb _ hge h] at this;cases this
 · exact h
 · have := fwd_blank s p j h1 h
   rcases hs with hs | hs
   · omega
   · rw [hs] at this; cases this
theorem eow_all (s : B) (p : Nat) (h : p ≤ s.length) (hb : ∀ q, p ≤ q → q < s.length → blankB (s.getD q 0) = true) : eow s p = p := by
 unfold eow
 rw [fwd_eq s p s.length h (Nat.le_refl _) hb (.inl rfl), if_neg (by omega)]
theorem eow_at (s : B) (p j : Nat) (h1 : p ≤ j) (h2 : j < s.length) (hb : ∀ q, p ≤ q → q < j → blankB (s.getD q 0) = true) (hs : blankB (s.getD j 0) = false) : eow s p = j := by
 unfold eow
 rw [fwd_eq s p j h1 (by omega) hb (.inr hs), if_pos h2]
theorem eow_le (s : B) (p : Nat) (h : p ≤ s.length) : p ≤ eow s p ∧ eow s p ≤ s.length := by
 unfold eow
 have := fwd_le s p h
 have := fwd_ge s p
 split <;> omega
def trimR (f : UInt8 → Bool) (l : B) : B := (l.reverse.dropWhile f).reverse
theorem dropWhile_congr {f g : UInt8 → Bool} {l : B} (h : ∀ b ∈ l, f b = g b) : l.dropWhile f = l.dropWhile g := by
 induction l with
 | nil => rfl
 | cons c l ih =>
  have hc := h c (by simp);have ih := ih (fun b hb => h b (by simp [hb]));simp only [List.dropWhile_cons, hc, ih]
theorem mem_dropWhile {f : UInt8 → Bool} {l : B} {x : UInt8} (h : x ∈ l.dropWhile f) : x ∈ l := (List.dropWhile_suffix f).subset h
theorem dropWhile_nil_iff {f : UInt8 → Bool} : ∀ {l : B}, l.dropWhile f = [] ↔ ∀ b ∈ l, f b = true
 | [] => by simp
 | c :: l => by
  cases hc : f c with
  | true => simp [hc, dropWhile_nil_iff (l := l)]
  | false => simp [hc]
theorem trimBy_congr {f g : UInt8 → Bool} {l : B} (h : ∀ b ∈ l, f b = g b) : trimBy f l = trimBy g l := by
 unfold trimBy
 rw [dropWhile_congr h, dropWhile_congr (f := f) (g := g) (l := (l.dropWhile g).reverse)]
 intro b hb
 exact h b (mem_dropWhile (List.mem_reverse.1 hb))
theorem mem_trimBy {f : UInt8 → Bool} {l : B} {x : UInt8} (h : x ∈ trimBy f l) : x ∈ l := by
 unfold trimBy at h
 exact mem_dropWhile (List.mem_reverse.1 (mem_dropWhile (List.mem_reverse.1 h)))
theorem dropWhile_length (f : UInt8 → Bool) (l : B) : (l.dropWhile f).length ≤ l.length := (List.dropWhile_suffix f).length_le
theorem trimBy_length (f : UInt8 → Bool) (l : B) : (trimBy f l).length ≤ l.length := by
 unfold trimBy
 rw [List.length_reverse]
 have h1 := dropWhile_length f (l.dropWhile f).reverse
 have h2 := dropWhile_length f l
 rw [List.length_reverse] at h1
 omega
theorem trimR_snoc {f : UInt8 → Bool} {q : UInt8} (hq : f q = false) (l : B) : trimR f (l ++ [q]) = l ++ [q] := by
 simp [trimR, hq]
theorem trimR_cons {f : UInt8 → Bool} {k : UInt8} (hk : f k = false) (l : B) : trimR f (k :: l) = k :: trimR f l := by
 unfold trimR
 rw [List.reverse_cons, List.dropWhile_append]
 split
 · rename_i h
   have h0 : l.reverse.dropWhile f = [] := by simpa using h
   simp [hk, h0]
 · simp
theorem trimBy_cons {f : UInt8 → Bool} {k : UInt8} (hk : f k = false) (l : B) : trimBy f (k :: l) = k :: trimR f l := by
 have : trimBy f (k :: l) = trimR f (k :: l) := by simp [trimBy, trimR, hk]
 rw [this, trimR_cons hk]
theorem trimBy_both {f : UInt8 → Bool} {k q : UInt8} (hk : f k = false) (hq : f q = false) (l : B) : trimBy f (k :: (l ++ [q])) = k :: (l ++ [q]) := by
 rw [trimBy_cons hk, trimR_snoc hq]
theorem dropWhile_trimR_nil {f : UInt8 → Bool} {l : B} (h : ∀ b ∈ l, f b = true) : trimR f l = [] := by
 unfold trimR
 have : l.reverse.dropWhile f = [] := by
  apply dropWhile_nil_iff.2;intro x hx;exact h x (List.mem_reverse.1 hx)
 rw [this]; rfl
theorem trimBy_trimR (f : UInt8 → Bool) (l : B) : trimBy f (trimR f l) = trimBy f l := by
 induction l with
 | nil => rfl
 | cons c l ih =>
  by_cases hc : f c = true
  · by_cases hl : ∀ b ∈ l, f b = true
    · have h1 : trimR f (c :: l) = [] := dropWhile_trimR_nil (by intro b hb; rcases List.mem_cons.1 hb with rfl | hb; exact hc; exact hl b hb)
      have h2 : (c :: l).dropWhile f = [] := dropWhile_nil_iff.2 (by intro b hb; rcases List.mem_cons.1 hb with rfl | hb; exact hc; exact hl b hb);rw [h1];simp [trimBy, h2]
    · have h1 : trimR f (c :: l) = c :: trimR f l := by
       unfold trimR;rw [List.reverse_cons, List.dropWhile_append];split
       · rename_i h
         exfalso; apply hl
         have h0 : l.reverse.dropWhile f = [] := by simpa using h
         intro b hb;exact dropWhile_nil_iff.1 h0 b (List.mem_reverse.2 hb)
       · simp
      rw [h1];have e1 : trimBy f (c :: trimR f l) = trimBy f (trimR f l) := by simp [trimBy, hc]
      have e2 : trimBy f (c :: l) = trimBy f l := by simp [trimBy, hc]
      rw [e1, e2, ih]
  · have hc' : f c = false := by simpa using hc
    rw [trimR_cons hc', trimBy_cons hc', trimBy_cons hc']
    congr 1
    unfold trimR;simp only [List.reverse_reverse]
    congr 1
    have : ∀ m : B, (m.dropWhile f).dropWhile f = m.dropWhile f := by
     intro m
     induction m with
     | nil => rfl
     | cons a m ihm =>
      by_cases ha : f a = true
      · simp [ha, ihm]
      · simp [ha]
    exact this _
end Go.Proofs.YtfakghnpkdoclaaGreatDoor.Mu
