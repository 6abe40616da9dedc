/-
  Worlds that grow, parts in memory. (Joined by wip/pack.py.)
-/
import Derived.Test.YtfakghnpkdoclaaGreatDoorProg
import Derived.Test.YtfakghnpkdoclaaGreatDoorGP1
import Derived.WalkKit
import Derived.WalkLawsBesides
import Derived.WalkSpells
import Derived.Deep.QuietTactic
import Derived.BigQuiet
import Derived.Deep.LoopGhost
import Derived.Deep.Draws
import Derived.Maps.AppendAt
import Derived.Lib.Hide
import Derived.Lib.Strings
import Derived.LaidEql
import Derived.StillTailTactics
import Derived.Shelf.Strings.TrimSpace
import Derived.Outline
import Derived.Deep.DeepCutAuto
set_option linter.unusedVariables false
set_option linter.unusedSimpArgs false
set_option maxRecDepth 100000
set_option maxHeartbeats 8000000
namespace Go.Proofs.YtfakghnpkdoclaaGreatDoor
open Go.RowKit
structure Fr (M : Nat → Prop) (w w' : World) : Prop where
 os : w'.os = w.os
 tape : w'.tape = w.tape
 output : w'.output = w.output
 size : w.heap.size ≤ w'.heap.size
 block : ∀ k, k < w.heap.size → ¬ M k → w'.heap[k]? = w.heap[k]?
def No : Nat → Prop := fun _ => False
abbrev F0 (w w' : World) : Prop := Fr No w w'
theorem Fr.refl (M : Nat → Prop) (w : World) : Fr M w w := ⟨rfl, rfl, rfl, Nat.le_refl _, fun _ _ _ => rfl⟩
theorem Fr.trans' {M N : Nat → Prop} {a b c : World} (h : Fr M a b) (k : Fr N b c) (hN : ∀ i, i < a.heap.size → N i → M i) : Fr M a c :=
 ⟨k.os.trans h.os, k.tape.trans h.tape, k.output.trans h.output, Nat.le_trans h.size k.size,
  fun i hi hm => (k.block i (Nat.lt_of_lt_of_le hi h.size) (fun hn => hm (hN i hi hn))).trans (h.block i hi hm)⟩
theorem Fr.trans {M : Nat → Prop} {a b c : World} (h : Fr M a b) (k : Fr M b c) : Fr M a c := h.trans' k (fun _ _ h => h)
theorem Fr.trans0 {M : Nat → Prop} {a b c : World} (h : Fr M a b) (k : F0 b c) : Fr M a c := h.trans' k (fun _ _ h => h.elim)
theorem Fr.mono {M N : Nat → Prop} {a b : World} (h : Fr M a b) (hN : ∀ i, i < a.heap.size → M i → N i) : Fr N a b :=
 ⟨h.os, h.tape, h.output, h.size, fun i hi hm => h.block i hi (fun hn => hm (hN i hi hn))⟩
theorem Fr.of0 {M : Nat → Prop} {a b : World} (h : F0 a b) : Fr M a b := h.mono (fun _ _ h => h.elim)
theorem Fr.drewN (M : Nat → Prop) (w : World) (n : Nat) : Fr M w (w.drewN n) := ⟨rfl, rfl, rfl, Nat.le_refl _, fun _ _ _ => rfl⟩
theorem Fr.drew (M : Nat → Prop) (w : World) : Fr M w w.drew := ⟨rfl, rfl, rfl, Nat.le_refl _, fun _ _ _ => rfl⟩
theorem Fr.alloc (M : Nat → Prop) (w : World) (o : Obj) : Fr M w (w.alloc o) :=
 ⟨rfl, rfl, rfl, by simp, fun k hk _ => Below.heap_alloc _ _ _ (by omega)⟩
theorem Fr.setCell {M : Nat → Prop} (w : World) (a : Addr) (v : Value) (h : M a.block ∨ w.heap.size ≤ a.block) : Fr M w (w.setCell a v) :=
 ⟨rfl, rfl, rfl, by simp [World.setCell], fun k hk hm => Below.heap_setCell _ _ _ _ (by
  intro he
  rcases h with h | h
  · exact hm (he ▸ h)
  · omega)⟩
theorem Fr.grown {M : Nat → Prop} {w w' : World} {row : Option Nat} (h : w.grownBy w' row) (hr : ∀ k, row = some k → M k ∨ w.heap.size ≤ k) : Fr M w w' :=
 ⟨h.os, h.tape, h.output, h.size, fun k hk hm => h.block k hk (by
  intro he
  rcases hr k he.symm with h | h
  · exact hm h
  · omega)⟩
theorem Fr.ofBelow {w w' : World} (h : Below w.heap.size w w') : F0 w w' := ⟨h.os, h.tape, h.output, h.size, fun k hk _ => h.block k hk⟩
theorem Fr.below {M : Nat → Prop} {w w' : World} (h : Fr M w w') {B : Nat} (hB : B ≤ w.heap.size) (hM : ∀ k, k < B → ¬ M k) : Below B w w' :=
 ⟨h.os, h.tape, h.output, h.size, fun k hk => h.block k (by omega) (hM k hk)⟩
theorem F0.below {w w' : World} (h : F0 w w') : Below w.heap.size w w' := Fr.below h (Nat.le_refl _) (fun _ _ h => h)
theorem Fr.setA {M : Nat → Prop} {w w' : World} (h : Fr M w w') (a : Addr) (v : Value) (ha : M a.block ∨ w.heap.size ≤ a.block) : Fr M w (w'.setCell a v) :=
 ⟨h.os, h.tape, h.output, by have := h.size; simp [World.setCell]; omega, fun k hk hm => (Below.heap_setCell _ _ _ _ (by
  intro he
  rcases ha with h | h
  · exact hm (he ▸ h)
  · omega)).trans (h.block k hk hm)⟩
theorem Fr.allocA {M : Nat → Prop} {w w' : World} (h : Fr M w w') (o : Obj) : Fr M w (w'.alloc o) := h.trans (Fr.alloc _ _ _)
theorem Fr.drewNA {M : Nat → Prop} {w w' : World} (h : Fr M w w') (n : Nat) : Fr M w (w'.drewN n) := h.trans (Fr.drewN _ _ _)
theorem Fr.drewA {M : Nat → Prop} {w w' : World} (h : Fr M w w') : Fr M w w'.drew := h.trans (Fr.drew _ _)
theorem Fr.grownA {M : Nat → Prop} {w w' w2 : World} {r : Option Nat} (h : Fr M w w') (hg : w'.grownBy w2 r) (hr : ∀ k, r = some k → M k ∨ w.heap.size ≤ k) : Fr M w w2 :=
 ⟨hg.os.trans h.os, hg.tape.trans h.tape, hg.output.trans h.output, Nat.le_trans h.size hg.size, fun k hk hm => (hg.block k (Nat.lt_of_lt_of_le hk h.size) (by
  intro he
  rcases hr k he.symm with h | h
  · exact hm h
  · omega)).trans (h.block k hk hm)⟩
def Sm (w w' : World) : Prop := ∃ n, w' = w.drewN n
theorem Sm.refl (w : World) : Sm w w := ⟨0, rfl⟩
theorem Sm.mk (w : World) (n : Nat) : Sm w (w.drewN n) := ⟨n, rfl⟩
theorem Sm.trans {a b c : World} (h : Sm a b) (k : Sm b c) : Sm a c := by
 obtain ⟨n, rfl⟩ := h
 obtain ⟨m, rfl⟩ := k
 exact ⟨n + m, World.drewN_drewN _ _ _⟩
theorem Sm.drewN {a b : World} (h : Sm a b) (n : Nat) : Sm a (b.drewN n) := h.trans ⟨n, rfl⟩
theorem Sm.drew {a b : World} (h : Sm a b) : Sm a b.drew := h.trans ⟨1, rfl⟩
theorem Sm.heap {a b : World} (h : Sm a b) : b.heap = a.heap := by obtain ⟨n, rfl⟩ := h; rfl
theorem Sm.fr {a b : World} (h : Sm a b) (M : Nat → Prop) : Fr M a b := by obtain ⟨n, rfl⟩ := h; exact Fr.drewN _ _ _
theorem Sm.cell {a b : World} (h : Sm a b) (x : Addr) : b.cell? x = a.cell? x := by obtain ⟨n, rfl⟩ := h; rfl
theorem blk_lt {w : World} {b : Nat} {o : Obj} (h : w.heap[b]? = some o) : b < w.heap.size := lt_of_block h
theorem Fr.blk {M : Nat → Prop} {w w' : World} (h : Fr M w w') {b : Nat} {o : Obj} (hb : w.heap[b]? = some o) (hm : ¬ M b) : w'.heap[b]? = some o :=
 (h.block b (blk_lt hb) hm).trans hb
theorem blk_alloc {w : World} {b : Nat} {o : Obj} (x : Obj) (h : w.heap[b]? = some o) : (w.alloc x).heap[b]? = some o :=
 (Below.heap_alloc w x b (blk_lt h)).trans h
theorem blk_new (w : World) (o : Obj) : (w.alloc o).heap[w.heap.size]? = some o := heap_alloc_new w o
theorem blk_set {w : World} {b i : Nat} {cs : Array Value} {T : TypeId} {fr : Nat × Nat} (v : Value) (h : w.heap[b]? = some (.cells cs T fr)) :
 (w.setCell ⟨b, i, none⟩ v).heap[b]? = some (.cells (cs.setIfInBounds i v) T fr) := by
 simp only [World.setCell, Array.getElem?_modify, h, if_true, Option.map_some]
 simp
theorem blk_set_ne {w : World} {b : Nat} {o : Obj} (a : Addr) (v : Value) (h : w.heap[b]? = some o) (hne : b ≠ a.block) : (w.setCell a v).heap[b]? = some o :=
 (Below.heap_setCell w a v b hne).trans h
theorem blk_cell {w : World} {b : Nat} {cs : Array Value} {T : TypeId} {fr : Nat × Nat} (h : w.heap[b]? = some (.cells cs T fr)) (i : Nat) : w.cell? ⟨b, i, none⟩ = cs[i]? := by
 simp [World.cell?, h]
theorem blk_free {w : World} {b : Nat} {cs : Array Value} {T : TypeId} (h : w.heap[b]? = some (.cells cs T (0, 0))) (i : Nat) : w.frozen? ⟨b, i, none⟩ = false := by
 simp [World.frozen?, h]
theorem still_tail {P : Program} {id : Nat} {Q : Exit → Act → World → Prop} {a : Act} {w : World} {l : List Oper} (n : Nat) (hm : P.follows .mixedOrders = true) (hB : Region.lexTailB .any l.toArray n = true)
 (h : wpStill P l.toArray w.drew (fun a' => wpList P l.toArray Q (l.drop n) a' w.drew) (l.take n) a) : (Code.region id l.toArray true).wp P Q a w :=
 wp_region_still_tail n hm hB h
def findR (id : Nat) : Code → Option Code
 | .region i ops d => if i = id then some (.region i ops d) else none
 | .seq a b => match findR id a with
  | some c => some c
  | none => findR id b
 | .cond _ a b => match findR id a with
  | some c => some c
  | none => findR id b
 | .block _ b => findR id b
 | .loop b => findR id b
 | .scope b => findR id b
 | _ => none
def regionAt (f : Func) (id : Nat) : Code := match f.body with
 | some c => match findR id c with
  | some r => r
  | none => .skip
 | none => .skip
def L (s : ByteArray) : Mu.B := s.data.toList
theorem L_length (s : ByteArray) : (L s).length = s.size := rfl
theorem L_get (s : ByteArray) (k : Nat) (h : k < s.size) : (L s).getD k 0 = s[k]'h := by
 have : k < s.data.toList.length := h
 unfold L
 rw [List.getD_eq_getElem?_getD, List.getElem?_eq_getElem this]
 rfl
theorem L_extract (s : ByteArray) (a b : Nat) : L (s.extract a b) = Mu.sub (L s) a b := by
 unfold L Mu.sub
 rw [Lib.extract_data]
 rw [List.drop_take]
theorem L_mk (l : Mu.B) : L ⟨l.toArray⟩ = l := by simp [L]
theorem L_inj {a b : ByteArray} (h : L a = L b) : a = b := by
 have : a.data = b.data := Array.toList_inj.1 h
 cases a; cases b; simpa using this
theorem byte_ne' {a b : UInt8} (h : a ≠ b) : ((a.toNat : Int) != (b.toNat : Int)) = true := by
 have : a.toNat ≠ b.toNat := fun e => h (UInt8.toNat_inj.1 e)
 simp only [bne_iff_ne, ne_eq]
 omega
theorem byte_eq' {a b : UInt8} (h : a = b) : ((a.toNat : Int) != (b.toNat : Int)) = false := by
 subst h; simp
theorem byte_lit_eq {a b : UInt8} (h : a = b) : ((a.toNat : Int) != (b.toNat : Int)) = false := by subst h; simp
theorem byte_lit_ne {a b : UInt8} (h : a ≠ b) : ((a.toNat : Int) != (b.toNat : Int)) = true := byte_ne' h
theorem byte_is {a b : UInt8} (h : a = b) : ((a.toNat : Int) == (b.toNat : Int)) = true := by subst h; simp
theorem byte_isnt {a b : UInt8} (h : a ≠ b) : ((a.toNat : Int) == (b.toNat : Int)) = false := by
 have : a.toNat ≠ b.toNat := fun e => h (UInt8.toNat_inj.1 e)
 simp only [beq_eq_false_iff_ne, ne_eq]
 omega
structure Tm where
 s : ByteArray
 o : ByteArray
 c : ByteArray
 p : Nat
 line : Int
 el : Value
 raw : Bool
 prov : Value
 esc : Value
 am : Bool
def TmAt (w : World) (t : Nat) (x : Tm) : Prop :=
 w.heap[t]? = some (.cells #[.string x.s, .string x.o, .string x.c, .int .i64 x.p, .int .i64 x.line, x.el, .bool x.raw, x.prov, x.esc, .bool x.am] 118 (0, 0))
theorem TmAt.cells {w : World} {t : Nat} {x : Tm} (h : TmAt w t x) :
 w.cell? ⟨t, 0, none⟩ = some (.string x.s) ∧ w.cell? ⟨t, 1, none⟩ = some (.string x.o) ∧ w.cell? ⟨t, 2, none⟩ = some (.string x.c) ∧
 w.cell? ⟨t, 3, none⟩ = some (.int .i64 x.p) ∧ w.cell? ⟨t, 4, none⟩ = some (.int .i64 x.line) ∧ w.cell? ⟨t, 5, none⟩ = some x.el ∧
 w.cell? ⟨t, 6, none⟩ = some (.bool x.raw) ∧ w.cell? ⟨t, 7, none⟩ = some x.prov ∧ w.cell? ⟨t, 8, none⟩ = some x.esc ∧ w.cell? ⟨t, 9, none⟩ = some (.bool x.am) :=
 ⟨blk_cell h 0, blk_cell h 1, blk_cell h 2, blk_cell h 3, blk_cell h 4, blk_cell h 5, blk_cell h 6, blk_cell h 7, blk_cell h 8, blk_cell h 9⟩
theorem TmAt.free {w : World} {t : Nat} {x : Tm} (h : TmAt w t x) (i : Nat) : w.frozen? ⟨t, i, none⟩ = false := blk_free h i
theorem TmAt.fr {M : Nat → Prop} {w w' : World} {t : Nat} {x : Tm} (h : TmAt w t x) (hf : Fr M w w') (hm : ¬ M t) : TmAt w' t x := hf.blk h hm
theorem TmAt.fr0 {w w' : World} {t : Nat} {x : Tm} (h : TmAt w t x) (hf : F0 w w') : TmAt w' t x := hf.blk h id
theorem TmAt.drewN {w : World} {t : Nat} {x : Tm} (h : TmAt w t x) (n : Nat) : TmAt (w.drewN n) t x := h
theorem TmAt.sm {w w' : World} {t : Nat} {x : Tm} (h : TmAt w t x) (hs : Sm w w') : TmAt w' t x := by obtain ⟨n, rfl⟩ := hs; exact h
theorem TmAt.set1 {w : World} {t : Nat} {x : Tm} (h : TmAt w t x) (o : ByteArray) : TmAt (w.setCell ⟨t, 1, none⟩ (.string o)) t { x with o := o } := blk_set _ h
theorem TmAt.set2 {w : World} {t : Nat} {x : Tm} (h : TmAt w t x) (o : ByteArray) : TmAt (w.setCell ⟨t, 2, none⟩ (.string o)) t { x with c := o } := blk_set _ h
theorem TmAt.set3 {w : World} {t : Nat} {x : Tm} (h : TmAt w t x) (p : Nat) : TmAt (w.setCell ⟨t, 3, none⟩ (.int .i64 p)) t { x with p := p } := blk_set _ h
theorem TmAt.set4 {w : World} {t : Nat} {x : Tm} (h : TmAt w t x) (l : Int) : TmAt (w.setCell ⟨t, 4, none⟩ (.int .i64 l)) t { x with line := l } := blk_set _ h
theorem TmAt.set5 {w : World} {t : Nat} {x : Tm} (h : TmAt w t x) (v : Value) : TmAt (w.setCell ⟨t, 5, none⟩ v) t { x with el := v } := blk_set _ h
theorem TmAt.set9 {w : World} {t : Nat} {x : Tm} (h : TmAt w t x) (b : Bool) : TmAt (w.setCell ⟨t, 9, none⟩ (.bool b)) t { x with am := b } := blk_set _ h
structure GlF (W : World) (eb : Addr) : Prop where
 eof : W.cell? ⟨0, 0, none⟩ = some (.iface 219 (.pointer (some eb)))
 space : Lib.TabIs Tryz.prog W "strings.asciiSpace" .u8 Lib.asciiSpaceTab
theorem spaceNamed : Tryz.prog.globalNamed "strings.asciiSpace" = some 1 := by kernel_rfl
def Gl (B : Nat) (eb : Addr) (w : World) : Prop := ∃ W : World, W.heap.size = B ∧ GlF W eb ∧ Below B W w
theorem Gl.fr {B : Nat} {eb : Addr} {M : Nat → Prop} {w w' : World} (h : Gl B eb w) (hf : Fr M w w') (hM : ∀ k, k < B → ¬ M k) : Gl B eb w' := by
 obtain ⟨W, h1, h2, h3⟩ := h
 exact ⟨W, h1, h2, h3.trans (hf.below (by have := h3.size; omega) hM)⟩
theorem Gl.fr0 {B : Nat} {eb : Addr} {w w' : World} (h : Gl B eb w) (hf : F0 w w') : Gl B eb w' := h.fr hf (fun _ _ h => h)
theorem Gl.size {B : Nat} {eb : Addr} {w : World} (h : Gl B eb w) : B ≤ w.heap.size := by
 obtain ⟨W, h1, h2, h3⟩ := h
 have := h3.size; omega
theorem Gl.eof {B : Nat} {eb : Addr} {w : World} (h : Gl B eb w) : w.cell? ⟨0, 0, none⟩ = some (.iface 219 (.pointer (some eb))) := by
 obtain ⟨W, rfl, h2, h3⟩ := h
 exact (h3.cell (World.block_lt_of_cell? W _ h2.eof)).trans h2.eof
theorem Gl.space {B : Nat} {eb : Addr} {w : World} (h : Gl B eb w) : Lib.TabIs Tryz.prog w "strings.asciiSpace" .u8 Lib.asciiSpaceTab := by
 obtain ⟨W, rfl, h2, h3⟩ := h
 have hc := h2.space.cell spaceNamed 0 (by rw [Lib.asciiSpaceTab_length]; omega)
 exact var?_below h3 spaceNamed (World.block_lt_of_cell? W _ hc) h2.space
theorem infoErrPtr : (Tryz.prog.info? 219).map (fun i => i.comparable) = some true := by kernel_rfl
theorem infoErrStr : (Tryz.prog.info? 221).isSome = true := by kernel_rfl
theorem eq_nil_eof (v : Value) (w : World) : (binOp .eql 62 .nilIface (.iface 219 v)).run Tryz.prog w = .ok (.bool false) w :=
 run_eql_iface_nil_left (w := w) _ _ Tryz.underlying62
theorem eq_eof_eof (a : Addr) (w : World) : (binOp .eql 62 (.iface 219 (.pointer (some a))) (.iface 219 (.pointer (some a)))).run Tryz.prog w = .ok (.bool true) w := by
 obtain ⟨i, hi, hc⟩ : ∃ i, Tryz.prog.info? 219 = some i ∧ i.comparable = true := by
  have h := infoErrPtr
  cases hi : Tryz.prog.info? 219 with
  | none => rw [hi] at h; cases h
  | some i => rw [hi] at h; exact ⟨i, rfl, by simpa using h⟩
 obtain ⟨j, hj⟩ := Option.isSome_iff_exists.1 infoErrStr
 exact run_eql_iface_ptr_same (w := w) a Tryz.underlying62 Tryz.underlying219 hi hc hj
end Go.Proofs.YtfakghnpkdoclaaGreatDoor
namespace Go.Proofs.YtfakghnpkdoclaaGreatDoor
open Go.RowKit
abbrev pv (T b : Nat) : Value := .iface T (.pointer (some ⟨b, 0, none⟩))
def RowAt (w : World) (S : Nat → Prop) (v : Value) (vs : List Value) : Prop :=
 ∃ a c, v = .slice a vs.length c ∧ (0 < vs.length → ∃ g, a = some ⟨g, 0, none⟩ ∧ S g ∧ ∀ j u, vs[j]? = some u → w.cell? ⟨g, j, none⟩ = some u)
def BytesAt (w : World) (S : Nat → Prop) (v : Value) (t : Mu.B) : Prop :=
 ∃ g c, v = .slice (some ⟨g, 0, none⟩) t.length c ∧ S g ∧ t.length ≤ c ∧ ∀ j, j < t.length → w.cell? ⟨g, j, none⟩ = some (.int .u8 (t.getD j 0).toNat)
mutual
def EAt (w : World) (S : Nat → Prop) (prov : Value) : Mu.Elem → Value → Prop
 | .text t, v => ∃ b sv, v = pv 154 b ∧ S b ∧ w.heap[b]? = some (.cells #[sv] 156 (0, 0)) ∧ BytesAt w S sv t
 | .var n raw, v => ∃ b nb, v = pv 173 b ∧ S b ∧ w.heap[b]? = some (.cells #[.string nb, .bool raw] 175 (0, 0)) ∧ L nb = n
 | .sect n inv es, v => ∃ b nb line sv vs, v = pv 165 b ∧ S b ∧ w.heap[b]? = some (.cells #[.string nb, .bool inv, .int .i64 line, sv] 163 (0, 0)) ∧ L nb = n ∧ RowAt w S sv vs ∧ EsAt w S prov es vs
 | .part n ind, v => ∃ b nb ib, v = pv 170 b ∧ S b ∧ w.heap[b]? = some (.cells #[.string nb, .string ib, prov] 185 (0, 0)) ∧ L nb = n ∧ L ib = ind
def EsAt (w : World) (S : Nat → Prop) (prov : Value) : List Mu.Elem → List Value → Prop
 | [], vs => vs = []
 | e :: es, vs => ∃ v vs', vs = v :: vs' ∧ EAt w S prov e v ∧ EsAt w S prov es vs'
end
def Keep (S : Nat → Prop) (w w' : World) : Prop := ∀ k, S k → w'.heap[k]? = w.heap[k]?
theorem RowAt.keep {w w' : World} {S S' : Nat → Prop} {v : Value} {vs : List Value} (h : RowAt w S v vs) (hk : Keep S w w') (hS : ∀ k, S k → S' k) : RowAt w' S' v vs := by
 obtain ⟨a, c, h1, h2⟩ := h
 refine ⟨a, c, h1, fun hp => ?_⟩
 obtain ⟨g, h3, h4, h5⟩ := h2 hp
 exact ⟨g, h3, hS _ h4, fun j u hj => (World.cell?_of_block (w := w) (a := ⟨g, j, none⟩) (hk _ h4)).trans (h5 j u hj)⟩
theorem BytesAt.keep {w w' : World} {S S' : Nat → Prop} {v : Value} {t : Mu.B} (h : BytesAt w S v t) (hk : Keep S w w') (hS : ∀ k, S k → S' k) : BytesAt w' S' v t := by
 obtain ⟨g, c, h1, h2, h3, h4⟩ := h
 exact ⟨g, c, h1, hS _ h2, h3, fun j hj => (World.cell?_of_block (w := w) (a := ⟨g, j, none⟩) (hk _ h2)).trans (h4 j hj)⟩
mutual
theorem EAt.keep {w w' : World} {S S' : Nat → Prop} {prov : Value} (hk : Keep S w w') (hS : ∀ k, S k → S' k) : ∀ (e : Mu.Elem) (v : Value), EAt w S prov e v → EAt w' S' prov e v
 | .text t, v, h => by
  unfold EAt at h ⊢;obtain ⟨b, sv, h1, h2, h3, h4⟩ := h;exact ⟨b, sv, h1, hS _ h2, (hk _ h2).trans h3, h4.keep hk hS⟩
 | .var n raw, v, h => by
  unfold EAt at h ⊢;obtain ⟨b, nb, h1, h2, h3, h4⟩ := h;exact ⟨b, nb, h1, hS _ h2, (hk _ h2).trans h3, h4⟩
 | .sect n inv es, v, h => by
  unfold EAt at h ⊢;obtain ⟨b, nb, line, sv, vs, h1, h2, h3, h4, h5, h6⟩ := h;exact ⟨b, nb, line, sv, vs, h1, hS _ h2, (hk _ h2).trans h3, h4, h5.keep hk hS, EsAt.keep hk hS es vs h6⟩
 | .part n ind, v, h => by
  unfold EAt at h ⊢;obtain ⟨b, nb, ib, h1, h2, h3, h4, h5⟩ := h;exact ⟨b, nb, ib, h1, hS _ h2, (hk _ h2).trans h3, h4, h5⟩
theorem EsAt.keep {w w' : World} {S S' : Nat → Prop} {prov : Value} (hk : Keep S w w') (hS : ∀ k, S k → S' k) : ∀ (es : List Mu.Elem) (vs : List Value), EsAt w S prov es vs → EsAt w' S' prov es vs
 | [], vs, h => by
  unfold EsAt at h ⊢;exact h
 | e :: es, vs, h => by
  unfold EsAt at h ⊢;obtain ⟨v, vs', h1, h2, h3⟩ := h;exact ⟨v, vs', h1, EAt.keep hk hS e v h2, EsAt.keep hk hS es vs' h3⟩
end
theorem EsAt.append {w : World} {S : Nat → Prop} {prov : Value} : ∀ {es fs : List Mu.Elem} {vs us : List Value}, EsAt w S prov es vs → EsAt w S prov fs us → EsAt w S prov (es ++ fs) (vs ++ us)
 | [], fs, vs, us, h, k => by
  unfold EsAt at h;subst h;exact k
 | e :: es, fs, vs, us, h, k => by
  unfold EsAt at h;obtain ⟨v, vs', rfl, h2, h3⟩ := h;show EsAt w S prov (e :: (es ++ fs)) (v :: (vs' ++ us));unfold EsAt;exact ⟨v, _, rfl, h2, EsAt.append h3 k⟩
theorem EsAt.one {w : World} {S : Nat → Prop} {prov : Value} {e : Mu.Elem} {v : Value} (h : EAt w S prov e v) : EsAt w S prov [e] [v] := by
 unfold EsAt
 exact ⟨v, [], rfl, h, by unfold EsAt; rfl⟩
theorem EsAt.length {w : World} {S : Nat → Prop} {prov : Value} : ∀ {es : List Mu.Elem} {vs : List Value}, EsAt w S prov es vs → vs.length = es.length
 | [], vs, h => by
  unfold EsAt at h;subst h; rfl
 | e :: es, vs, h => by
  unfold EsAt at h;obtain ⟨v, vs', rfl, h2, h3⟩ := h;simp [EsAt.length h3]
structure Got (w : World) (lo : Nat) (own : Nat → Prop) (prov v : Value) (es : List Mu.Elem) : Prop where
 out : ∃ (S : Nat → Prop) (vs : List Value), w.ownsRow 0 20 1 v es.length vs ∧ EsAt w S prov es vs ∧ (∀ k, S k → (lo ≤ k ∧ k < w.heap.size) ∧ v.ownBlock ≠ some k ∧ ¬ own k) ∧ (∀ k, v.ownBlock = some k → ¬ own k)
theorem Keep.fr {S M : Nat → Prop} {w w' : World} (hf : Fr M w w') (hS : ∀ k, S k → k < w.heap.size ∧ ¬ M k) : Keep S w w' := fun k hk => hf.block k (hS k hk).1 (hS k hk).2
theorem ownsRow_of_block {w w' : World} {B e size n : Nat} {v : Value} {xs : List Value} (h : w.ownsRow B e size v n xs) (hb : ∀ k, v.ownBlock = some k → w'.heap[k]? = w.heap[k]?) : w'.ownsRow B e size v n xs := by
 obtain ⟨h1, h2⟩ := h
 refine ⟨h1, ?_⟩
 rcases h2 with h2 | ⟨g, cap, cur, rfl, h3, h4, h5⟩
 · exact .inl h2
 · exact .inr ⟨g, cap, cur, rfl, h3, (hb g rfl).trans h4, h5⟩
theorem ownsRow_blk {w : World} {B e size n : Nat} {v : Value} {xs : List Value} (h : w.ownsRow B e size v n xs) {k : Nat} (hk : v.ownBlock = some k) : k < w.heap.size := (h.lt k hk).2
theorem Got.fr {w w' : World} {lo : Nat} {M own : Nat → Prop} {prov v : Value} {es : List Mu.Elem} (h : Got w lo own prov v es) (hf : Fr M w w') (hM : ∀ k, k < w.heap.size → M k → own k) : Got w' lo own prov v es := by
 obtain ⟨S, vs, h1, h2, h3, h4⟩ := h.out
 have hk : Keep S w w' := Keep.fr hf (fun k hk => ⟨(h3 k hk).1.2, fun hm => (h3 k hk).2.2 (hM k (h3 k hk).1.2 hm)⟩)
 refine ⟨S, vs, ownsRow_of_block h1 (fun k hb => hf.block k (ownsRow_blk h1 hb) (fun hm => h4 k hb (hM k (ownsRow_blk h1 hb) hm))), EsAt.keep hk (fun _ h => h) _ _ h2, fun k hk => ⟨⟨(h3 k hk).1.1, ?_⟩, (h3 k hk).2⟩, h4⟩
 have := (h3 k hk).1; have := hf.size; omega
theorem got_add {w w1 w2 : World} {lo : Nat} {own Sn : Nat → Prop} {prov v v' u : Value} {es : List Mu.Elem} {e : Mu.Elem} {S : Nat → Prop} {vs : List Value}
 (h2 : EsAt w S prov es vs) (h3 : ∀ k, S k → (lo ≤ k ∧ k < w.heap.size) ∧ v.ownBlock ≠ some k ∧ ¬ own k) (h4 : ∀ k, v.ownBlock = some k → ¬ own k)
 (hf : F0 w w1) (hown : ∀ k, own k → k < w1.heap.size) (hu : EAt w1 Sn prov e u) (hSn : ∀ k, Sn k → (lo ≤ k ∧ k < w1.heap.size) ∧ v.ownBlock ≠ some k ∧ ¬ own k)
 (ho : w2.ownsRow 0 20 1 v' (es.length + 1) (vs ++ [u])) (hg : w1.grownBy w2 v.ownBlock) {n : Nat} (hn : n = w1.heap.size) (hb : v'.ownBlock = v.ownBlock ∨ v'.ownBlock = some n) :
 Got w2 lo own prov v' (es ++ [e]) := by
 subst hn
 have hsz := hf.size
 have hsz2 := hg.size
 refine ⟨fun k => S k ∨ Sn k, vs ++ [u], by rw [List.length_append]; exact ho, ?_, ?_, ?_⟩
 · refine EsAt.append (EsAt.keep (S := S) (fun k hk => ?_) (fun k h => .inl h) _ _ h2) (EsAt.keep (w := w1) (S := Sn) (fun k hk => ?_) (fun k h => .inr h) _ _ (EsAt.one hu))
   · obtain ⟨a, b, c⟩ := h3 k hk
     exact (hg.block k (by omega) (fun h => b h.symm)).trans (hf.block k a.2 id)
   · obtain ⟨a, b, c⟩ := hSn k hk
     exact hg.block k a.2 (fun h => b h.symm)
 · have key : ∀ k, lo ≤ k ∧ k < w1.heap.size → v.ownBlock ≠ some k → ¬ own k → (lo ≤ k ∧ k < w2.heap.size) ∧ v'.ownBlock ≠ some k ∧ ¬ own k := by
    intro k h1 h2 h3;refine ⟨⟨h1.1, by omega⟩, ?_, h3⟩
    rcases hb with hb | hb
    · rw [hb]; exact h2
    · rw [hb]; intro h; injection h with h; omega
   rintro k (hk | hk)
   · obtain ⟨a, b, c⟩ := h3 k hk
     exact key k ⟨a.1, by omega⟩ b c
   · obtain ⟨a, b, c⟩ := hSn k hk
     exact key k a b c
 · intro k hk hn
   rcases hb with hb | hb
   · rw [hb] at hk; exact h4 k hk hn
   · rw [hb] at hk; injection hk with hk; have := hown k hn; omega
theorem got_nil (w : World) (lo : Nat) (own : Nat → Prop) (prov : Value) {v : Value} (h : w.ownsRow 0 20 1 v 0 []) (ho : ∀ k, v.ownBlock = some k → ¬ own k) : Got w lo own prov v [] :=
 ⟨fun _ => False, [], h, by unfold EsAt; rfl, fun k hk => hk.elim, ho⟩
theorem row_of_owns {w : World} {n e : Nat} {v : Value} {vs : List Value} (h : w.ownsRow 0 e 1 v n vs) : RowAt w (fun k => v.ownBlock = some k) v vs := by
 have hl : vs.length = n := by have := h.1; omega
 rcases h.2 with ⟨h1, h2⟩ | ⟨g, cap, cur, h1, _⟩
 · subst h1 h2
   exact ⟨none, 0, by rw [hl], fun hp => by omega⟩
 · refine ⟨some ⟨g, 0, none⟩, cap, by rw [hl]; exact h1, fun _ => ⟨g, rfl, by rw [h1]; rfl, fun j u hj => ?_⟩⟩
   have := h.cells (g := g) (by rw [h1]; rfl) j u hj;have ha : (⟨g, 0, none⟩ : Addr).add j = ⟨g, j, none⟩ := by unfold Addr.add; split <;> simp_all
   rwa [ha] at this
theorem Got.mono_lo {w : World} {lo lo' : Nat} {own : Nat → Prop} {prov v : Value} {es : List Mu.Elem} (h : Got w lo own prov v es) (hl : lo' ≤ lo) : Got w lo' own prov v es := by
 obtain ⟨S, vs, h1, h2, h3, h4⟩ := h.out
 exact ⟨S, vs, h1, h2, fun k hk => ⟨⟨by have := (h3 k hk).1.1; omega, (h3 k hk).1.2⟩, (h3 k hk).2⟩, h4⟩
theorem Got.all {w : World} {lo : Nat} {own : Nat → Prop} {prov v : Value} {es : List Mu.Elem} (h : Got w lo own prov v es) (hlo : ∀ k, v.ownBlock = some k → lo ≤ k) :
 ∃ (S : Nat → Prop) (vs : List Value), RowAt w S v vs ∧ EsAt w S prov es vs ∧ ∀ k, S k → (lo ≤ k ∧ k < w.heap.size) ∧ ¬ own k := by
 obtain ⟨S, vs, h1, h2, h3, h4⟩ := h.out
 refine ⟨fun k => S k ∨ v.ownBlock = some k, vs, (row_of_owns h1).keep (fun _ _ => rfl) (fun k h => .inr h), EsAt.keep (fun _ _ => rfl) (fun k h => .inl h) _ _ h2, ?_⟩
 rintro k (hk | hk)
 · exact ⟨(h3 k hk).1, (h3 k hk).2.2⟩
 · exact ⟨⟨hlo k hk, ownsRow_blk h1 hk⟩, h4 k hk⟩
end Go.Proofs.YtfakghnpkdoclaaGreatDoor
namespace Go.Proofs.YtfakghnpkdoclaaGreatDoor
open Go.RowKit
theorem newError_any (l : Int) (c : ByteArray) (w : World) :
 Calls Tryz.prog 90 #[.int .i64 l, .string c] w fun e w' => e = .returned (.agg #[.int .i64 l, .string c, .string ⟨#[]⟩]) ∧ F0 w w' := by
 go_enter Tryz.func90, Tryz.ntmps90
 go_wp2
 refine bodyPost_ret (v := .agg #[.int .i64 l, .string c, .string ⟨#[]⟩]) (by simp [results, Tryz.results90, go_sem]) rfl ⟨rfl, ?_⟩
 exact Fr.alloc _ _ _
theorem newErrorWithReason_any (l : Int) (c r : ByteArray) (w : World) :
 Calls Tryz.prog 100 #[.int .i64 l, .string c, .string r] w fun e w' => e = .returned (.agg #[.int .i64 l, .string c, .string r]) ∧ F0 w w' := by
 go_enter Tryz.func100, Tryz.ntmps100
 go_wp2
 refine bodyPost_ret (v := .agg #[.int .i64 l, .string c, .string r]) (by simp [results, Tryz.results100, go_sem]) rfl ⟨rfl, ?_⟩
 exact Fr.alloc _ _ _
end Go.Proofs.YtfakghnpkdoclaaGreatDoor
namespace Go.Proofs.YtfakghnpkdoclaaGreatDoor
open Go.RowKit
def PsAt (w : World) (v : Value) (ps : List (ByteArray × ByteArray)) : Prop :=
 ∃ a c, v = .slice a ps.length c ∧ ps.length ≤ c ∧ (0 < ps.length → ∃ b o, a = some ⟨b, o, none⟩ ∧ ∀ k (h : k < ps.length), w.cell? ⟨b, o + k * 2, none⟩ = some (.string ps[k].1) ∧ w.cell? ⟨b, o + k * 2 + 1, none⟩ = some (.string ps[k].2))
theorem F0.cell {w w' : World} (hf : F0 w w') {a : Addr} {v : Value} (h : w.cell? a = some v) : w'.cell? a = some v :=
 (hf.below.cell (World.block_lt_of_cell? w _ h)).trans h
theorem PsAt.f0 {w w' : World} {v : Value} {ps : List (ByteArray × ByteArray)} (h : PsAt w v ps) (hf : F0 w w') : PsAt w' v ps := by
 obtain ⟨a, c, h1, h2, h3⟩ := h
 exact ⟨a, c, h1, h2, fun h0 => by
  obtain ⟨b, o, h4, h5⟩ := h3 h0;exact ⟨b, o, h4, fun k hk => ⟨hf.cell (h5 k hk).1, hf.cell (h5 k hk).2⟩⟩⟩
theorem PsAt.at {w : World} {a : Option Addr} {c : Nat} {ps : List (ByteArray × ByteArray)} (h : PsAt w (.slice a ps.length c) ps) {k : Nat} (hk : k < ps.length) : ∃ b o pn pt, a = some ⟨b, o, none⟩ ∧ ps[k] = (pn, pt) ∧
 w.cell? ⟨b, o + k * 2, none⟩ = some (.string pn) ∧ w.cell? ⟨b, o + k * 2 + 1, none⟩ = some (.string pt) ∧ b < w.heap.size := by
 obtain ⟨a', c', h1, h2, h3⟩ := h
 obtain ⟨b, o, h4, h5⟩ := h3 (by omega)
 injection h1 with e1 e2 e3
 subst e1 h4
 exact ⟨b, o, ps[k].1, ps[k].2, rfl, rfl, (h5 k hk).1, (h5 k hk).2, World.block_lt_of_cell? w _ (h5 k hk).1⟩
theorem PsAt.drop {w : World} {b o n c k : Nat} {ps : List (ByteArray × ByteArray)} (h : PsAt w (.slice (some ⟨b, o, none⟩) n c) ps) (hk : k ≤ ps.length) : PsAt w (.slice (some ⟨b, o + k * 2, none⟩) (n - k) (c - k)) (ps.drop k) := by
 obtain ⟨a, c', h1, h2, h3⟩ := h
 injection h1 with e1 e2 e3
 subst e1 e2 e3
 refine ⟨_, _, by rw [List.length_drop], by rw [List.length_drop]; omega, fun h0 => ?_⟩
 rw [List.length_drop] at h0
 obtain ⟨b', o', h4, h5⟩ := h3 (by omega)
 injection h4 with h4
 injection h4 with h6 h7
 subst h6 h7
 refine ⟨_, _, rfl, fun j hj => ?_⟩
 rw [List.length_drop] at hj
 have := h5 (k + j) (by omega)
 rw [List.getElem_drop]
 rw [Nat.add_mul, ← Nat.add_assoc] at this
 exact this
theorem PsAt.take {w : World} {a : Option Addr} {n c k : Nat} {ps : List (ByteArray × ByteArray)} (h : PsAt w (.slice a n c) ps) (hk : k ≤ ps.length) : PsAt w (.slice a k c) (ps.take k) := by
 obtain ⟨a', c', h1, h2, h3⟩ := h
 injection h1 with e1 e2 e3
 subst e1 e2 e3
 have hl : (ps.take k).length = k := by rw [List.length_take]; omega
 refine ⟨_, _, by rw [hl], by omega, fun h0 => ?_⟩
 rw [hl] at h0
 obtain ⟨b', o', h4, h5⟩ := h3 (by omega)
 refine ⟨_, _, h4, fun j hj => ?_⟩
 rw [hl] at hj
 rw [List.getElem_take]
 exact h5 j (by omega)
def pnames (ps : List (ByteArray × ByteArray)) : List Mu.B := ps.map (fun p => L p.1)
theorem any_take {ps : List (ByteArray × ByteArray)} {f : ByteArray × ByteArray → Bool} {j : Nat} (h : j < ps.length) : (ps.take (j + 1)).any f = ((ps.take j).any f || f ps[j]) := by
 rw [List.take_succ_eq_append_getElem h, List.any_append]
 simp
end Go.Proofs.YtfakghnpkdoclaaGreatDoor
