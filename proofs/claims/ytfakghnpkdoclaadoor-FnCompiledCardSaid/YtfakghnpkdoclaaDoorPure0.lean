/-
  Plain Lean, no program: bytes, templates' signs, the reader of the specification and the reader of the package, as functions on lists of bytes. Nothing is proved of the Go code here.
-/
set_option linter.unusedVariables false
set_option linter.unusedSimpArgs false
namespace Go.Proofs.YtfakghnpkdoclaaDoor.Mu

abbrev B := List UInt8

/-- a blank or a tab -/
def blankB (b : UInt8) : Bool := b == 32 || b == 9
/-- a blank, a tab or a new line -/
def wsB (b : UInt8) : Bool := b == 32 || b == 9 || b == 10
/-- what strings.TrimSpace strips of ASCII -/
def spB (b : UInt8) : Bool := b == 9 || b == 10 || b == 11 || b == 12 || b == 13 || b == 32

/-- the part from a up to b -/
def sub (s : B) (a b : Nat) : B := (s.take b).drop a

def findL (pat : B) : B → Option Nat
  | [] => if pat.isPrefixOf [] then some 0 else none
  | c :: l => if pat.isPrefixOf (c :: l) then some 0 else (findL pat l).map (· + 1)
/-- the first place from one on where a text stands -/
def find (s pat : B) (i : Nat) : Option Nat := (findL pat (s.drop i)).map (· + i)

def trimBy (f : UInt8 → Bool) (l : B) : B := ((l.dropWhile f).reverse.dropWhile f).reverse

/-- back over blanks, not beyond p -/
def backTo (s : B) (p : Nat) : Nat → Nat
  | 0 => 0
  | i + 1 => if p < i + 1 ∧ blankB (s.getD i 0) = true then backTo s p i else i + 1
/-- on over blanks -/
def fwd (s : B) (b : Nat) : Nat := b + ((s.drop b).takeWhile blankB).length

/-! ### the reader of the specification -/

inductive Node where
  | mk (kind : Nat) (text : B) (raw : Bool) (indent : B) (kids : List Node)

structure Tag where
  kind : UInt8
  body : B
  at0 : Nat
  to : Nat

inductive Nx where
  | none (bad : Bool)
  | some (t : Tag)

/-- the signs that begin a tag of a kind of its own -/
def isKind (b : UInt8) : Bool := b == 35 || b == 94 || b == 47 || b == 33 || b == 62 || b == 38 || b == 61 || b == 123

def tagEnd (kind : UInt8) (c : B) : B := if kind = 123 then 125 :: c else if kind = 61 then 61 :: c else c

def kindAt (s : B) (i : Nat) : UInt8 := if i < s.length ∧ isKind (s.getD i 0) = true then s.getD i 0 else 0

def snext (s : B) (i : Nat) (o c : B) : Nx :=
  match find s o i with
  | none => .none false
  | some f =>
    let a1 := f + o.length
    let k := kindAt s a1
    let a2 := if k = 0 then a1 else a1 + 1
    match find s (tagEnd k c) a2 with
    | none => .none true
    | some t => .some ⟨k, trimBy wsB (sub s a2 t), f, t + (tagEnd k c).length⟩

/-- where the line of a tag that stands alone begins, where the next one does; whether nothing is said of it -/
def alone (s : B) (f t : Nat) (partial_ : Bool) : Nat × Nat × Bool :=
  let a := backTo s 0 f
  let b := fwd s t
  let bad := decide (b = s.length ∧ t < b)
  if (0 < a ∧ s.getD (a - 1) 0 ≠ 10) ∨ (b < s.length ∧ s.getD b 0 ≠ 10) then
    (f, t, bad || (partial_ && (decide (a = 0) || decide (s.getD (a - 1) 0 = 10)) && decide (a < f)))
  else (a, min (b + 1) s.length, bad)

def pairs : List (B × B) := [([60, 37], [37, 62]), ([91, 91], [93, 93]), ([124], [124]), ([123, 123], [125, 125])]

/-- other signs for tags: the first pair that fits -/
def delim (body o : B) : Option (B × B) := pairs.find? fun l => (body == l.1 ++ [32] ++ l.2) && !(l.1 == o)

def lower (b : UInt8) : Bool := 97 ≤ b && b ≤ 122
def wordOk (s : B) : Bool := s.all lower && decide (0 < s.length) && decide (s.length ≤ 8)
def wordsL : B → B → List B
  | acc, [] => [acc]
  | acc, c :: l => if c = 46 then acc :: wordsL [] l else wordsL (acc ++ [c]) l
def words (s : B) : List B := wordsL [] s
def nameOk (s : B) : Bool := s == [46] || ((words s).all wordOk && decide ((words s).length ≤ 3))

structure PSt where
  pos : Nat
  deep : Nat
  o : B
  c : B
  bad : Bool

def addT (t : B) : List Node := if t = [] then [] else [.mk 1 t false [] []]

/-- does a tag of this kind take its line with it where it stands alone -/
def kinded (k : UInt8) : Prop := k ≠ 0 ∧ k ≠ 38 ∧ k ≠ 123
instance (k : UInt8) : Decidable (kinded k) := by unfold kinded; infer_instance
def alOf (s : B) (t : Tag) : Nat × Nat × Bool := if kinded t.kind then alone s t.at0 t.to (t.kind == 62) else (t.at0, t.to, false)
def frOf (s : B) (t : Tag) (p : Nat) : Nat := if kinded t.kind then max (alOf s t).1 p else t.at0

/-- the parts of a template up to the end of a section of a name -/
def parts (s : B) : Nat → PSt → B → List Node × PSt
  | 0, st, _ => ([], { st with bad := true })
  | n + 1, st, name =>
    if st.bad then ([], st) else
    match snext s st.pos st.o st.c with
    | .none b => (addT (s.drop st.pos), { st with bad := b || !(name == []), pos := s.length })
    | .some t =>
      let tx := addT (sub s st.pos (frOf s t st.pos))
      let st1 := { st with pos := (alOf s t).2.1, bad := (alOf s t).2.2 }
      if t.kind = 33 then
        let r := parts s n st1 name
        (tx ++ .mk 6 [] false [] [] :: r.1, r.2)
      else if t.kind = 61 then
        let st2 := match delim t.body st.o with
          | some (o, c) => { st1 with o := o, c := c }
          | none => { st1 with bad := true }
        let r := parts s n st2 name
        (tx ++ .mk 6 [] false [] [] :: r.1, r.2)
      else if t.kind = 47 then
        (tx, { st1 with bad := st1.bad || !(t.body == name) || name == [] })
      else if t.kind = 35 ∨ t.kind = 94 then
        let st2 := { st1 with deep := st.deep + 1, bad := st1.bad || !nameOk t.body || decide (16 < st.deep + 1) }
        let k := parts s n st2 t.body
        let r := parts s n { k.2 with deep := k.2.deep - 1 } name
        (tx ++ .mk (if t.kind = 94 then 4 else 3) t.body false [] k.1 :: r.1, r.2)
      else if t.kind = 62 then
        let r := parts s n { st1 with bad := st1.bad || !wordOk t.body } name
        (tx ++ .mk 5 t.body false (sub s (frOf s t st.pos) t.at0) [] :: r.1, r.2)
      else
        let r := parts s n { st1 with bad := st1.bad || !nameOk t.body } name
        (tx ++ .mk 2 t.body (!(t.kind == 0)) [] [] :: r.1, r.2)

def start : PSt := ⟨0, 0, [123, 123], [125, 125], false⟩
def parse (s : B) : List Node × Bool := let r := parts s (s.length + 4) start []; (r.1, !r.2.bad)

/-! ### the reader of the package -/

inductive Elem where
  | text (t : B)
  | var (name : B) (raw : Bool)
  | sect (name : B) (inv : Bool) (elems : List Elem)
  | part (name : B) (indent : B)

structure TextR where
  text : B
  pad : B
  may : Bool
  pos : Nat

def rdText (s : B) (p : Nat) (o : B) : Option TextR :=
  match find s o p with
  | none => none
  | some i =>
    let j := backTo s p i
    if j = 0 ∨ s.getD (j - 1) 0 = 10 then some ⟨sub s p j, sub s j i, true, i + o.length⟩
    else some ⟨sub s p i, [], false, i + o.length⟩

structure TagR where
  tag : B
  alone : Bool
  pos : Nat

/-- the signs behind which a line's end is skipped -/
def isSkip (b : UInt8) : Bool := b == 35 || b == 94 || b == 47 || b == 60 || b == 62 || b == 61 || b == 33

def eow (s : B) (p : Nat) : Nat := if fwd s p < s.length then fwd s p else p

def tagPat (s : B) (p : Nat) (c : B) : B := if p < s.length ∧ s.getD p 0 = 123 then 125 :: c else c

def rdTag (s : B) (p : Nat) (c : B) (may : Bool) : Option TagR :=
  match find s (tagPat s p c) p with
  | none => none
  | some e =>
    let p1 := e + (tagPat s p c).length
    let tag := trimBy spB (sub s p (p1 - c.length))
    if tag = [] then none
    else if may then
      if isSkip (tag.getD 0 0) then
        let w := eow s p1
        if w = s.length then some ⟨tag, true, w⟩
        else if s.getD w 0 = 10 then some ⟨tag, true, w + 1⟩
        else if w + 1 < s.length ∧ s.getD w 0 = 13 ∧ s.getD (w + 1) 0 = 10 then some ⟨tag, true, w + 2⟩
        else some ⟨tag, false, p1⟩
      else some ⟨tag, false, p1⟩
    else some ⟨tag, true, p1⟩

/-- how many lines' ends a text holds -/
def lines (l : B) : Nat := l.countP (· == 10)

structure ISt where
  pos : Nat
  o : B
  c : B

/-- cut at the first blank -/
def cutSp (l : B) : Option (B × B) := (find l [32] 0).map fun i => (l.take i, l.drop (i + 1))

/-- what a tag for other signs gives -/
def custom (tag : B) : Option (B × B) :=
  if tag.length < 3 ∨ tag.getLast? ≠ some 61 then none else
    match cutSp (trimBy spB ((tag.drop 1).dropLast)) with
    | none => none
    | some (o, c) => if o = [] ∨ c = [] ∨ 1000 < o.length ∨ 1000 < c.length then none else some (o, c)

/-- 'none': nothing is said of it here; 'some none': an error -/
def iparse (s : B) (raw : Bool) : Nat → Nat → ISt → Option B → Option (Option (List Elem × ISt))
  | 0, _, _, _ => none
  | n + 1, depth, st, name =>
    match rdText s st.pos st.o with
    | none => match name with
      | none => some (some ([.text (s.drop st.pos)], { st with pos := s.length }))
      | some _ => some none
    | some tr =>
      match rdTag s tr.pos st.c tr.may with
      | none => some none
      | some tg =>
        let tx := .text tr.text :: (if tg.alone then [] else [Elem.text tr.pad])
        let st1 := { st with pos := tg.pos }
        let k := tg.tag.getD 0 0
        let go (es : List Elem) (st2 : ISt) := (iparse s raw n depth st2 name).map fun r => r.map fun x => (tx ++ es ++ x.1, x.2)
        if k = 33 then go [] st1
        else if k = 35 ∨ k = 94 then
          if 10000 < depth + 1 then some none else
          match iparse s raw n (depth + 1) st1 (some (trimBy spB (tg.tag.drop 1))) with
          | none => none
          | some none => some none
          | some (some x) => go [.sect (trimBy spB (tg.tag.drop 1)) (k == 94) x.1] x.2
        else if k = 47 then match name with
          | none => some none
          | some nm => if trimBy spB (tg.tag.drop 1) = nm then some (some (tx, st1)) else some none
        else if k = 62 then go [.part (trimBy spB (tg.tag.drop 1)) tr.pad] st1
        else if k = 61 then match custom tg.tag with
          | none => none
          | some (o, c) => go [] { st1 with o := o, c := c }
        else if k = 123 then
          go (if tg.tag.getLast? = some 125 then [.var (trimBy spB ((tg.tag.drop 1).dropLast)) true] else []) st1
        else if k = 38 then go [.var (trimBy spB (tg.tag.drop 1)) true] st1
        else go [.var tg.tag raw] st1

end Go.Proofs.YtfakghnpkdoclaaDoor.Mu
