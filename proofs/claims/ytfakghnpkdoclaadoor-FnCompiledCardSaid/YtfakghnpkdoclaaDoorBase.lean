/-
  What the walks share: how a world may grow, blocks and cells, the package's template in memory.
-/
import Derived.Test.YtfakghnpkdoclaaDoorProg
import Derived.Test.YtfakghnpkdoclaaDoorPure1
import Derived.WalkKit
import Derived.WalkLawsBesides
import Derived.WalkSpells
import Derived.Deep.QuietTactic
import Derived.BigQuiet
import Derived.Deep.LoopGhost
import Derived.Deep.Draws
import Derived.Maps.AppendAt
import Derived.Lib.Hide
import Derived.Lib.Strings
import Derived.LaidEql
import Derived.StillTailTactics
import Derived.Shelf.Strings.TrimSpace
import Derived.Outline
import Derived.Deep.DeepCutAuto
set_option linter.unusedVariables false
set_option linter.unusedSimpArgs false
namespace Go.Proofs.YtfakghnpkdoclaaDoor
open Go.RowKit

/-- w' is w, grown; of what was there only blocks in M may have turned -/
structure Fr (M : Nat → Prop) (w w' : World) : Prop where
  os : w'.os = w.os
  tape : w'.tape = w.tape
  output : w'.output = w.output
  size : w.heap.size ≤ w'.heap.size
  block : ∀ k, k < w.heap.size → ¬ M k → w'.heap[k]? = w.heap[k]?

def No : Nat → Prop := fun _ => False
abbrev F0 (w w' : World) : Prop := Fr No w w'

theorem Fr.refl (M : Nat → Prop) (w : World) : Fr M w w := ⟨rfl, rfl, rfl, Nat.le_refl _, fun _ _ _ => rfl⟩
theorem Fr.trans' {M N : Nat → Prop} {a b c : World} (h : Fr M a b) (k : Fr N b c) (hN : ∀ i, i < a.heap.size → N i → M i) : Fr M a c :=
  ⟨k.os.trans h.os, k.tape.trans h.tape, k.output.trans h.output, Nat.le_trans h.size k.size,
   fun i hi hm => (k.block i (Nat.lt_of_lt_of_le hi h.size) (fun hn => hm (hN i hi hn))).trans (h.block i hi hm)⟩
theorem Fr.trans {M : Nat → Prop} {a b c : World} (h : Fr M a b) (k : Fr M b c) : Fr M a c := h.trans' k (fun _ _ h => h)
theorem Fr.trans0 {M : Nat → Prop} {a b c : World} (h : Fr M a b) (k : F0 b c) : Fr M a c := h.trans' k (fun _ _ h => h.elim)
theorem Fr.mono {M N : Nat → Prop} {a b : World} (h : Fr M a b) (hN : ∀ i, i < a.heap.size → M i → N i) : Fr N a b :=
  ⟨h.os, h.tape, h.output, h.size, fun i hi hm => h.block i hi (fun hn => hm (hN i hi hn))⟩
theorem Fr.of0 {M : Nat → Prop} {a b : World} (h : F0 a b) : Fr M a b := h.mono (fun _ _ h => h.elim)
theorem Fr.drewN (M : Nat → Prop) (w : World) (n : Nat) : Fr M w (w.drewN n) := ⟨rfl, rfl, rfl, Nat.le_refl _, fun _ _ _ => rfl⟩
theorem Fr.drew (M : Nat → Prop) (w : World) : Fr M w w.drew := ⟨rfl, rfl, rfl, Nat.le_refl _, fun _ _ _ => rfl⟩
theorem Fr.alloc (M : Nat → Prop) (w : World) (o : Obj) : Fr M w (w.alloc o) :=
  ⟨rfl, rfl, rfl, by simp, fun k hk _ => Below.heap_alloc _ _ _ (by omega)⟩
theorem Fr.setCell {M : Nat → Prop} (w : World) (a : Addr) (v : Value) (h : M a.block ∨ w.heap.size ≤ a.block) : Fr M w (w.setCell a v) :=
  ⟨rfl, rfl, rfl, by simp [World.setCell], fun k hk hm => Below.heap_setCell _ _ _ _ (by
    intro he
    rcases h with h | h
    · exact hm (he ▸ h)
    · omega)⟩
theorem Fr.grown {M : Nat → Prop} {w w' : World} {row : Option Nat} (h : w.grownBy w' row) (hr : ∀ k, row = some k → M k ∨ w.heap.size ≤ k) : Fr M w w' :=
  ⟨h.os, h.tape, h.output, h.size, fun k hk hm => h.block k hk (by
    intro he
    rcases hr k he.symm with h | h
    · exact hm h
    · omega)⟩
theorem Fr.ofBelow {w w' : World} (h : Below w.heap.size w w') : F0 w w' := ⟨h.os, h.tape, h.output, h.size, fun k hk _ => h.block k hk⟩
theorem Fr.below {M : Nat → Prop} {w w' : World} (h : Fr M w w') {B : Nat} (hB : B ≤ w.heap.size) (hM : ∀ k, k < B → ¬ M k) : Below B w w' :=
  ⟨h.os, h.tape, h.output, h.size, fun k hk => h.block k (by omega) (hM k hk)⟩
theorem F0.below {w w' : World} (h : F0 w w') : Below w.heap.size w w' := Fr.below h (Nat.le_refl _) (fun _ _ h => h)

theorem Fr.setA {M : Nat → Prop} {w w' : World} (h : Fr M w w') (a : Addr) (v : Value) (ha : M a.block ∨ w.heap.size ≤ a.block) : Fr M w (w'.setCell a v) :=
  ⟨h.os, h.tape, h.output, by have := h.size; simp [World.setCell]; omega, fun k hk hm => (Below.heap_setCell _ _ _ _ (by
    intro he
    rcases ha with h | h
    · exact hm (he ▸ h)
    · omega)).trans (h.block k hk hm)⟩
theorem Fr.allocA {M : Nat → Prop} {w w' : World} (h : Fr M w w') (o : Obj) : Fr M w (w'.alloc o) := h.trans (Fr.alloc _ _ _)
theorem Fr.drewNA {M : Nat → Prop} {w w' : World} (h : Fr M w w') (n : Nat) : Fr M w (w'.drewN n) := h.trans (Fr.drewN _ _ _)
theorem Fr.drewA {M : Nat → Prop} {w w' : World} (h : Fr M w w') : Fr M w w'.drew := h.trans (Fr.drew _ _)
theorem Fr.grownA {M : Nat → Prop} {w w' w2 : World} {r : Option Nat} (h : Fr M w w') (hg : w'.grownBy w2 r) (hr : ∀ k, r = some k → M k ∨ w.heap.size ≤ k) : Fr M w w2 :=
  ⟨hg.os.trans h.os, hg.tape.trans h.tape, hg.output.trans h.output, Nat.le_trans h.size hg.size, fun k hk hm => (hg.block k (Nat.lt_of_lt_of_le hk h.size) (by
    intro he
    rcases hr k he.symm with h | h
    · exact hm h
    · omega)).trans (h.block k hk hm)⟩

/-- the same world, but for draws -/
def Sm (w w' : World) : Prop := ∃ n, w' = w.drewN n
theorem Sm.refl (w : World) : Sm w w := ⟨0, rfl⟩
theorem Sm.mk (w : World) (n : Nat) : Sm w (w.drewN n) := ⟨n, rfl⟩
theorem Sm.trans {a b c : World} (h : Sm a b) (k : Sm b c) : Sm a c := by
  obtain ⟨n, rfl⟩ := h
  obtain ⟨m, rfl⟩ := k
  exact ⟨n + m, World.drewN_drewN _ _ _⟩
theorem Sm.drewN {a b : World} (h : Sm a b) (n : Nat) : Sm a (b.drewN n) := h.trans ⟨n, rfl⟩
theorem Sm.drew {a b : World} (h : Sm a b) : Sm a b.drew := h.trans ⟨1, rfl⟩
theorem Sm.heap {a b : World} (h : Sm a b) : b.heap = a.heap := by obtain ⟨n, rfl⟩ := h; rfl
theorem Sm.fr {a b : World} (h : Sm a b) (M : Nat → Prop) : Fr M a b := by obtain ⟨n, rfl⟩ := h; exact Fr.drewN _ _ _
theorem Sm.cell {a b : World} (h : Sm a b) (x : Addr) : b.cell? x = a.cell? x := by obtain ⟨n, rfl⟩ := h; rfl

/-! ### blocks -/
theorem blk_lt {w : World} {b : Nat} {o : Obj} (h : w.heap[b]? = some o) : b < w.heap.size := lt_of_block h
theorem Fr.blk {M : Nat → Prop} {w w' : World} (h : Fr M w w') {b : Nat} {o : Obj} (hb : w.heap[b]? = some o) (hm : ¬ M b) : w'.heap[b]? = some o :=
  (h.block b (blk_lt hb) hm).trans hb
theorem blk_alloc {w : World} {b : Nat} {o : Obj} (x : Obj) (h : w.heap[b]? = some o) : (w.alloc x).heap[b]? = some o :=
  (Below.heap_alloc w x b (blk_lt h)).trans h
theorem blk_new (w : World) (o : Obj) : (w.alloc o).heap[w.heap.size]? = some o := heap_alloc_new w o
theorem blk_set {w : World} {b i : Nat} {cs : Array Value} {T : TypeId} {fr : Nat × Nat} (v : Value) (h : w.heap[b]? = some (.cells cs T fr)) :
    (w.setCell ⟨b, i, none⟩ v).heap[b]? = some (.cells (cs.setIfInBounds i v) T fr) := by
  simp only [World.setCell, Array.getElem?_modify, h, if_true, Option.map_some]
  simp
theorem blk_set_ne {w : World} {b : Nat} {o : Obj} (a : Addr) (v : Value) (h : w.heap[b]? = some o) (hne : b ≠ a.block) : (w.setCell a v).heap[b]? = some o :=
  (Below.heap_setCell w a v b hne).trans h
theorem blk_cell {w : World} {b : Nat} {cs : Array Value} {T : TypeId} {fr : Nat × Nat} (h : w.heap[b]? = some (.cells cs T fr)) (i : Nat) : w.cell? ⟨b, i, none⟩ = cs[i]? := by
  simp [World.cell?, h]
theorem blk_free {w : World} {b : Nat} {cs : Array Value} {T : TypeId} (h : w.heap[b]? = some (.cells cs T (0, 0))) (i : Nat) : w.frozen? ⟨b, i, none⟩ = false := by
  simp [World.frozen?, h]

/-- a region that draws its order, all of whose operations but the last ones only read -/
theorem still_tail {P : Program} {id : Nat} {Q : Exit → Act → World → Prop} {a : Act} {w : World} {l : List Oper} (n : Nat) (hm : P.follows .mixedOrders = true) (hB : Region.lexTailB .any l.toArray n = true)
    (h : wpStill P l.toArray w.drew (fun a' => wpList P l.toArray Q (l.drop n) a' w.drew) (l.take n) a) : (Code.region id l.toArray true).wp P Q a w :=
  wp_region_still_tail n hm hB h

/-- a region of a function's text, by its number -/
def findR (id : Nat) : Code → Option Code
  | .region i ops d => if i = id then some (.region i ops d) else none
  | .seq a b => match findR id a with
    | some c => some c
    | none => findR id b
  | .cond _ a b => match findR id a with
    | some c => some c
    | none => findR id b
  | .block _ b => findR id b
  | .loop b => findR id b
  | .scope b => findR id b
  | _ => none
def regionAt (f : Func) (id : Nat) : Code := match f.body with
  | some c => match findR id c with
    | some r => r
    | none => .skip
  | none => .skip

/-! ### bytes -/
def L (s : ByteArray) : Mu.B := s.data.toList
theorem L_length (s : ByteArray) : (L s).length = s.size := rfl
theorem L_get (s : ByteArray) (k : Nat) (h : k < s.size) : (L s).getD k 0 = s[k]'h := by
  have : k < s.data.toList.length := h
  unfold L
  rw [List.getD_eq_getElem?_getD, List.getElem?_eq_getElem this]
  rfl
theorem L_extract (s : ByteArray) (a b : Nat) : L (s.extract a b) = Mu.sub (L s) a b := by
  unfold L Mu.sub
  rw [Lib.extract_data]
  rw [List.drop_take]
theorem L_mk (l : Mu.B) : L ⟨l.toArray⟩ = l := by simp [L]
theorem L_inj {a b : ByteArray} (h : L a = L b) : a = b := by
  have : a.data = b.data := Array.toList_inj.1 h
  cases a; cases b; simpa using this
theorem mk_L (s : ByteArray) : (⟨(L s).toArray⟩ : ByteArray) = s := L_inj (by rw [L_mk])
theorem byte_ne {a b : UInt8} (h : ((a.toNat : Int) != (b.toNat : Int)) = true) : a ≠ b := by
  rintro rfl
  simp at h
theorem byte_eq {a b : UInt8} (h : ((a.toNat : Int) != (b.toNat : Int)) = false) : a = b := by
  have h1 : (a.toNat : Int) = (b.toNat : Int) := by simpa using h
  have : a.toNat = b.toNat := by omega
  exact UInt8.toNat_inj.1 this

theorem byte_ne' {a b : UInt8} (h : a ≠ b) : ((a.toNat : Int) != (b.toNat : Int)) = true := by
  have : a.toNat ≠ b.toNat := fun e => h (UInt8.toNat_inj.1 e)
  simp only [bne_iff_ne, ne_eq]
  omega
theorem byte_eq' {a b : UInt8} (h : a = b) : ((a.toNat : Int) != (b.toNat : Int)) = false := by
  subst h; simp

theorem byte_lit_eq {a b : UInt8} (h : a = b) : ((a.toNat : Int) != (b.toNat : Int)) = false := by subst h; simp
theorem byte_lit_ne {a b : UInt8} (h : a ≠ b) : ((a.toNat : Int) != (b.toNat : Int)) = true := byte_ne' h
theorem byte_is {a b : UInt8} (h : a = b) : ((a.toNat : Int) == (b.toNat : Int)) = true := by subst h; simp
theorem byte_isnt {a b : UInt8} (h : a ≠ b) : ((a.toNat : Int) == (b.toNat : Int)) = false := by
  have : a.toNat ≠ b.toNat := fun e => h (UInt8.toNat_inj.1 e)
  simp only [beq_eq_false_iff_ne, ne_eq]
  omega

/-! ### the package's template -/
structure Tm where
  s : ByteArray
  o : ByteArray
  c : ByteArray
  p : Nat
  line : Int
  el : Value
  raw : Bool
  prov : Value
  esc : Value
  am : Bool
def TmAt (w : World) (t : Nat) (x : Tm) : Prop :=
  w.heap[t]? = some (.cells #[.string x.s, .string x.o, .string x.c, .int .i64 x.p, .int .i64 x.line, x.el, .bool x.raw, x.prov, x.esc, .bool x.am] 76 (0, 0))
theorem TmAt.cells {w : World} {t : Nat} {x : Tm} (h : TmAt w t x) :
    w.cell? ⟨t, 0, none⟩ = some (.string x.s) ∧ w.cell? ⟨t, 1, none⟩ = some (.string x.o) ∧ w.cell? ⟨t, 2, none⟩ = some (.string x.c) ∧
    w.cell? ⟨t, 3, none⟩ = some (.int .i64 x.p) ∧ w.cell? ⟨t, 4, none⟩ = some (.int .i64 x.line) ∧ w.cell? ⟨t, 5, none⟩ = some x.el ∧
    w.cell? ⟨t, 6, none⟩ = some (.bool x.raw) ∧ w.cell? ⟨t, 7, none⟩ = some x.prov ∧ w.cell? ⟨t, 8, none⟩ = some x.esc ∧ w.cell? ⟨t, 9, none⟩ = some (.bool x.am) :=
  ⟨blk_cell h 0, blk_cell h 1, blk_cell h 2, blk_cell h 3, blk_cell h 4, blk_cell h 5, blk_cell h 6, blk_cell h 7, blk_cell h 8, blk_cell h 9⟩
theorem TmAt.free {w : World} {t : Nat} {x : Tm} (h : TmAt w t x) (i : Nat) : w.frozen? ⟨t, i, none⟩ = false := blk_free h i
theorem TmAt.fr {M : Nat → Prop} {w w' : World} {t : Nat} {x : Tm} (h : TmAt w t x) (hf : Fr M w w') (hm : ¬ M t) : TmAt w' t x := hf.blk h hm
theorem TmAt.fr0 {w w' : World} {t : Nat} {x : Tm} (h : TmAt w t x) (hf : F0 w w') : TmAt w' t x := hf.blk h id
theorem TmAt.drewN {w : World} {t : Nat} {x : Tm} (h : TmAt w t x) (n : Nat) : TmAt (w.drewN n) t x := h
theorem TmAt.sm {w w' : World} {t : Nat} {x : Tm} (h : TmAt w t x) (hs : Sm w w') : TmAt w' t x := by obtain ⟨n, rfl⟩ := hs; exact h
theorem TmAt.set1 {w : World} {t : Nat} {x : Tm} (h : TmAt w t x) (o : ByteArray) : TmAt (w.setCell ⟨t, 1, none⟩ (.string o)) t { x with o := o } := blk_set _ h
theorem TmAt.set2 {w : World} {t : Nat} {x : Tm} (h : TmAt w t x) (o : ByteArray) : TmAt (w.setCell ⟨t, 2, none⟩ (.string o)) t { x with c := o } := blk_set _ h
theorem TmAt.set3 {w : World} {t : Nat} {x : Tm} (h : TmAt w t x) (p : Nat) : TmAt (w.setCell ⟨t, 3, none⟩ (.int .i64 p)) t { x with p := p } := blk_set _ h
theorem TmAt.set4 {w : World} {t : Nat} {x : Tm} (h : TmAt w t x) (l : Int) : TmAt (w.setCell ⟨t, 4, none⟩ (.int .i64 l)) t { x with line := l } := blk_set _ h
theorem TmAt.set5 {w : World} {t : Nat} {x : Tm} (h : TmAt w t x) (v : Value) : TmAt (w.setCell ⟨t, 5, none⟩ v) t { x with el := v } := blk_set _ h
theorem TmAt.set9 {w : World} {t : Nat} {x : Tm} (h : TmAt w t x) (b : Bool) : TmAt (w.setCell ⟨t, 9, none⟩ (.bool b)) t { x with am := b } := blk_set _ h

/-! ### what the program's own variables hold -/
structure GlF (W : World) (eb : Addr) : Prop where
  eof : W.cell? ⟨0, 0, none⟩ = some (.iface 140 (.pointer (some eb)))
  space : Lib.TabIs Tryd.prog W "strings.asciiSpace" .u8 Lib.asciiSpaceTab
theorem spaceNamed : Tryd.prog.globalNamed "strings.asciiSpace" = some 1 := by kernel_rfl
/-- below block B the world is one in which they hold what they hold at the start -/
def Gl (B : Nat) (eb : Addr) (w : World) : Prop := ∃ W : World, W.heap.size = B ∧ GlF W eb ∧ Below B W w
theorem Gl.fr {B : Nat} {eb : Addr} {M : Nat → Prop} {w w' : World} (h : Gl B eb w) (hf : Fr M w w') (hM : ∀ k, k < B → ¬ M k) : Gl B eb w' := by
  obtain ⟨W, h1, h2, h3⟩ := h
  exact ⟨W, h1, h2, h3.trans (hf.below (by have := h3.size; omega) hM)⟩
theorem Gl.fr0 {B : Nat} {eb : Addr} {w w' : World} (h : Gl B eb w) (hf : F0 w w') : Gl B eb w' := h.fr hf (fun _ _ h => h)
theorem Gl.size {B : Nat} {eb : Addr} {w : World} (h : Gl B eb w) : B ≤ w.heap.size := by
  obtain ⟨W, h1, h2, h3⟩ := h
  have := h3.size; omega
theorem Gl.eof {B : Nat} {eb : Addr} {w : World} (h : Gl B eb w) : w.cell? ⟨0, 0, none⟩ = some (.iface 140 (.pointer (some eb))) := by
  obtain ⟨W, rfl, h2, h3⟩ := h
  exact (h3.cell (World.block_lt_of_cell? W _ h2.eof)).trans h2.eof
theorem Gl.space {B : Nat} {eb : Addr} {w : World} (h : Gl B eb w) : Lib.TabIs Tryd.prog w "strings.asciiSpace" .u8 Lib.asciiSpaceTab := by
  obtain ⟨W, rfl, h2, h3⟩ := h
  have hc := h2.space.cell spaceNamed 0 (by rw [Lib.asciiSpaceTab_length]; omega)
  exact var?_below h3 spaceNamed (World.block_lt_of_cell? W _ hc) h2.space
theorem infoErrPtr : (Tryd.prog.info? 140).map (fun i => i.comparable) = some true := by kernel_rfl
theorem infoErrStr : (Tryd.prog.info? 157).isSome = true := by kernel_rfl
theorem eq_nil_eof (v : Value) (w : World) : (binOp .eql 45 .nilIface (.iface 140 v)).run Tryd.prog w = .ok (.bool false) w :=
  run_eql_iface_nil_left (w := w) _ _ Tryd.underlying45
theorem eq_eof_eof (a : Addr) (w : World) : (binOp .eql 45 (.iface 140 (.pointer (some a))) (.iface 140 (.pointer (some a)))).run Tryd.prog w = .ok (.bool true) w := by
  obtain ⟨i, hi, hc⟩ : ∃ i, Tryd.prog.info? 140 = some i ∧ i.comparable = true := by
    have h := infoErrPtr
    cases hi : Tryd.prog.info? 140 with
    | none => rw [hi] at h; cases h
    | some i => rw [hi] at h; exact ⟨i, rfl, by simpa using h⟩
  obtain ⟨j, hj⟩ := Option.isSome_iff_exists.1 infoErrStr
  exact run_eql_iface_ptr_same (w := w) a Tryd.underlying45 Tryd.underlying140 hi hc hj

end Go.Proofs.YtfakghnpkdoclaaDoor
