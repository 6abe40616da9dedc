/-
  The package's reader: what the walks of parseSection and parse share.
-/
import Derived.Test.YtfakghnpkdoclaaDoorDel
import Derived.Test.YtfakghnpkdoclaaDoorElem
import Derived.Test.YtfakghnpkdoclaaDoorPure2
import Derived.Deep.AppendLies
import Derived.Deep.RegionLaw
import Derived.Deep.RegionHeld3
set_option linter.unusedVariables false
set_option linter.unusedSimpArgs false
namespace Go.Proofs.YtfakghnpkdoclaaDoor
open Go.RowKit

theorem infoAny : (Tryd.prog.info? 20).map (fun i => (i.zero, i.size, i.bytes)) = some (some .nilIface, 1, 16) := by kernel_rfl
theorem conv_bytes (w : World) (s : ByteArray) : (convert 9 84 (.string s)).run Tryd.prog w = .ok (.slice (some ⟨w.heap.size, 0, none⟩) s.size (grownCap w s.size 0 5)) (Lib.bytesWorld w 5 s) :=
  Lib.run_convert_string_bytes w _ _ _ s Tryd.underlying9 Tryd.underlying84 Tryd.underlying5
/-- the section in memory -/
structure Se where
  nm : ByteArray
  inv : Bool
  line : Int
  v : Value
def SeAt (w : World) (b : Nat) (y : Se) : Prop := w.heap[b]? = some (.cells #[.string y.nm, .bool y.inv, .int .i64 y.line, y.v] 93 (0, 0))
theorem SeAt.cells {w : World} {b : Nat} {y : Se} (h : SeAt w b y) : w.cell? ⟨b, 0, none⟩ = some (.string y.nm) ∧ w.cell? ⟨b, 2, none⟩ = some (.int .i64 y.line) ∧ w.cell? ⟨b, 3, none⟩ = some y.v ∧ w.frozen? ⟨b, 3, none⟩ = false :=
  ⟨blk_cell h 0, blk_cell h 2, blk_cell h 3, blk_free h 3⟩
theorem one_new (w : World) (u : Value) (T : TypeId) {n : Nat} (hn : n = w.heap.size) : ∀ (j : Nat) (v : Value), [u][j]? = some v → (w.alloc (.cells #[u] T)).cell? ((⟨n, 0, none⟩ : Addr).add j) = some v := by
  subst hn
  intro j v hj
  cases j with
  | zero =>
    have hv : u = v := by simpa using hj
    subst hv
    have ha : (⟨w.heap.size, 0, none⟩ : Addr).add 0 = ⟨w.heap.size, 0, none⟩ := rfl
    rw [ha, blk_cell (blk_new w _) 0]
    rfl
  | succ j => simp at hj
theorem one_new' (w : World) (u : Value) (T : TypeId) {n : Nat} (hn : n = w.heap.size) : ∀ (j : Nat) (v : Value), [u][j]? = some v → (w.alloc (.cells #[u] T)).drew.cell? ((⟨n, 0, none⟩ : Addr).add j) = some v := one_new w u T hn
theorem grown_drew {w w' : World} {r : Option Nat} (h : w.drew.grownBy w' r) : w.grownBy w' r := ⟨h.os, h.tape, h.output, h.size, h.block⟩
theorem own_at {v : Value} {g n cap H : Nat} (h : v.ownBlock = some g ∨ g = H) : (Value.slice (some ⟨g, 0, none⟩) n cap).ownBlock = v.ownBlock ∨ (Value.slice (some ⟨g, 0, none⟩) n cap).ownBlock = some H := by
  rcases h with h | h
  · exact .inl h.symm
  · exact .inr (by rw [h]; rfl)
theorem byte_beq (a b : UInt8) : ((a.toNat : Int) == (b.toNat : Int)) = (a == b) := by
  by_cases h : a = b
  · subst h; simp
  · rw [byte_isnt h]; exact (beq_eq_false_iff_ne.2 h).symm
theorem one_cell {u : Value} (h : u.oneCell' = true) : ∀ v ∈ [u], v.oneCell' = true := by
  intro v hv
  rw [List.mem_singleton.1 hv]; exact h
theorem owns_pos {w : World} {B e s n : Nat} {v : Value} {xs : List Value} (h : w.ownsRow B e s v (n + 1) xs) : ∃ g cp, v = .slice (some ⟨g, 0, none⟩) (n + 1) cp := by
  rcases h.2 with ⟨_, h⟩ | ⟨g, cap', _, h, _⟩
  · omega
  · exact ⟨g, cap', h⟩
theorem own_cells {w w1 w2 : World} {lo : Nat} {own : Nat → Prop} {prov v : Value} {es : List Mu.Elem} (h : Got w lo own prov v es) (hf : F0 w w1) (hg : w1.grownBy w2 v.ownBlock) {k : Nat} (hk : own k) (hlt : k < w.heap.size) :
    w2.heap[k]? = w.heap[k]? := by
  obtain ⟨S, vs, h1, h2, h3, h4⟩ := h.out
  have hs := hf.size
  exact (hg.block k (by omega) (fun h => h4 k h.symm hk)).trans (hf.block k hlt id)
theorem fresh_ok {w w1 : World} {lo : Nat} {own Sn : Nat → Prop} {prov v : Value} {es : List Mu.Elem} (h : Got w lo own prov v es) (hlo : lo ≤ w.heap.size) (hown : ∀ k, own k → k < w.heap.size) (hS : ∀ k, Sn k → w.heap.size ≤ k ∧ k < w1.heap.size) :
    ∀ k, Sn k → (lo ≤ k ∧ k < w1.heap.size) ∧ v.ownBlock ≠ some k ∧ ¬ own k := by
  obtain ⟨S, vs, h1, h2, h3, h4⟩ := h.out
  intro k hk
  obtain ⟨a, c⟩ := hS k hk
  refine ⟨⟨by omega, c⟩, fun h => ?_, fun h => ?_⟩
  · have := ownsRow_blk h1 h; omega
  · have := hown k h; omega

/-! ### new parts in new blocks -/
theorem fr_text (w : World) (s : ByteArray) (u : Value) : F0 w (((Lib.bytesWorld w 5 s).alloc (.cells #[.slice (some ⟨w.heap.size, 0, none⟩) s.size (grownCap w s.size 0 5)] 86)).alloc (.cells #[u] 20)) :=
  ((fr_bytes _ _ _).trans (Fr.alloc _ _ _)).trans (Fr.alloc _ _ _)
theorem text_at (w : World) (s : ByteArray) (u : Value) (prov : Value) :
    EAt (((Lib.bytesWorld w 5 s).alloc (.cells #[.slice (some ⟨w.heap.size, 0, none⟩) s.size (grownCap w s.size 0 5)] 86)).alloc (.cells #[u] 20))
      (fun k => w.heap.size ≤ k ∧ k < w.heap.size + 3) prov (.text (L s)) (pv 83 (w.heap.size + 1)) := by
  have hs := Lib.bytesWorld_size w 5 s
  have hg := grownCap_ge w s.size 0 5
  unfold EAt
  refine ⟨w.heap.size + 1, _, rfl, ⟨by omega, by omega⟩, ?_, w.heap.size, _, rfl, ⟨by omega, by omega⟩, hg, fun j hj => ?_⟩
  · have := blk_new (Lib.bytesWorld w 5 s) (.cells #[.slice (some ⟨w.heap.size, 0, none⟩) s.size (grownCap w s.size 0 5)] 86)
    rw [hs] at this
    exact blk_alloc _ this
  · have h1 := Lib.bytesWorld_cell w 5 s j hj
    have h2 : w.heap.size < (Lib.bytesWorld w 5 s).heap.size := by omega
    rw [World.cell?_alloc_past _ _ _ (by simp; omega), World.cell?_alloc_past _ _ _ h2]
    exact h1
theorem fr_two (w : World) (o p : Obj) : F0 w ((w.alloc o).alloc p) := (Fr.alloc _ _ _).trans (Fr.alloc _ _ _)
theorem var_at (w : World) (n : ByteArray) (raw : Bool) (u : Value) (prov : Value) :
    EAt ((w.alloc (.cells #[.string n, .bool raw] 105)).alloc (.cells #[u] 20)) (fun k => w.heap.size ≤ k ∧ k < w.heap.size + 2) prov (.var (L n) raw) (pv 103 w.heap.size) := by
  unfold EAt
  exact ⟨w.heap.size, n, rfl, ⟨by omega, by omega⟩, blk_alloc _ (blk_new _ _), rfl⟩
theorem part_at (w : World) (n ind : ByteArray) (u : Value) (prov : Value) :
    EAt ((w.alloc (.cells #[.string n, .string ind, prov] 114)).alloc (.cells #[u] 20)) (fun k => w.heap.size ≤ k ∧ k < w.heap.size + 2) prov (.part (L n) (L ind)) (pv 100 w.heap.size) := by
  unfold EAt
  exact ⟨w.heap.size, n, ind, rfl, ⟨by omega, by omega⟩, blk_alloc _ (blk_new _ _), rfl, rfl⟩

theorem part_at' (w : World) (n ind : ByteArray) (T : TypeId) (pp : Value) (u : Value) {prov : Value} (hp : prov = .iface T pp) :
    EAt ((w.alloc (.cells #[.string n, .string ind, .iface T pp] 114)).alloc (.cells #[u] 20)) (fun k => w.heap.size ≤ k ∧ k < w.heap.size + 2) prov (.part (L n) (L ind)) (pv 100 w.heap.size) := by
  subst hp
  exact part_at w n ind u _

/-! ### parseSection's state -/
structure SecSt (w : World) (lo t b : Nat) (x : Tm) (y : Se) (es : List Mu.Elem) : Prop where
  tm : TmAt w t x
  se : SeAt w b y
  bt : b ≠ t
  lw : lo ≤ w.heap.size
  got : Got w lo (fun k => k = t ∨ k = b) x.prov y.v es
theorem SecSt.ownlt {w : World} {lo t b : Nat} {x : Tm} {y : Se} {es : List Mu.Elem} (h : SecSt w lo t b x y es) : ∀ k, (k = t ∨ k = b) → k < w.heap.size := by
  rintro k (rfl | rfl)
  · exact blk_lt h.tm
  · exact blk_lt h.se
def SecAdd (lo : Nat) (w1 w' : World) (t b : Nat) (x : Tm) (y : Se) (es : List Mu.Elem) (e : Mu.Elem) : Prop :=
  ∃ v', Fr (fun k => k = b ∨ y.v.ownBlock = some k) w1 w' ∧ SecSt w' lo t b x { y with v := v' } (es ++ [e]) ∧ (v'.ownBlock = y.v.ownBlock ∨ ∃ g, v'.ownBlock = some g ∧ w1.heap.size ≤ g)
theorem sec_add {w w1 w2 : World} {lo t b : Nat} {x : Tm} {y : Se} {es : List Mu.Elem} {e : Mu.Elem} {v' u : Value} {S Sn : Nat → Prop} {vs : List Value} (hst : SecSt w lo t b x y es)
    (h2 : EsAt w S x.prov es vs) (h3 : ∀ k, S k → (lo ≤ k ∧ k < w.heap.size) ∧ y.v.ownBlock ≠ some k ∧ ¬ (k = t ∨ k = b)) (h4 : ∀ k, y.v.ownBlock = some k → ¬ (k = t ∨ k = b))
    (hf : F0 w w1) (hu : EAt w1 Sn x.prov e u) (hSn : ∀ k, Sn k → (lo ≤ k ∧ k < w1.heap.size) ∧ y.v.ownBlock ≠ some k ∧ ¬ (k = t ∨ k = b))
    (ho : w2.ownsRow 0 20 1 v' (es.length + 1) (vs ++ [u])) (hg : w1.grownBy w2 y.v.ownBlock) {n : Nat} (hn : n = w1.heap.size) (hb : v'.ownBlock = y.v.ownBlock ∨ v'.ownBlock = some n) :
    SecAdd lo w (w2.setCell ⟨b, 3, none⟩ v') t b x y es e := by
  have hs := hf.size
  have hs2 := hg.size
  have e1 := own_cells hst.got hf hg (k := b) (.inr rfl) (blk_lt hst.se)
  have e2 := own_cells hst.got hf hg (k := t) (.inl rfl) (blk_lt hst.tm)
  have G := got_add h2 h3 h4 hf (fun k hk => by have := hst.ownlt k hk; omega) hu hSn ho hg hn hb
  refine ⟨v', ?_, ⟨?_, ?_, hst.bt, by have := hst.lw; simp [World.setCell]; omega, G.fr (M := fun k => k = b) (Fr.setCell _ _ _ (.inl rfl)) (fun k _ h => .inr h)⟩, ?_⟩
  · exact ((Fr.of0 hf).trans' (Fr.grown (M := fun k => k = b ∨ y.v.ownBlock = some k) hg (fun k h => .inl (.inr h))) (fun _ _ h => h)).trans (Fr.setCell _ _ _ (.inl (.inl rfl)))
  · exact blk_set_ne _ _ (e2.trans hst.tm) (fun h => hst.bt h.symm)
  · exact blk_set _ (e1.trans hst.se)
  · rcases hb with hb | hb
    · exact .inl hb
    · exact .inr ⟨n, hb, by omega⟩
/-- what parseSection has come to, in a round -/
structure SecMid (w0 : World) (lo t b : Nat) (x0 : Tm) (y0 : Se) (wr : World) (x : Tm) (y : Se) (es : List Mu.Elem) : Prop where
  st : SecSt wr lo t b x y es
  fr : Fr (fun k => k = t ∨ k = b ∨ y0.v.ownBlock = some k) w0 wr
  sx : x.s = x0.s ∧ x.raw = x0.raw ∧ x.prov = x0.prov ∧ x.esc = x0.esc ∧ x.am = x0.am ∧ x.el = x0.el
  sy : y.nm = y0.nm ∧ y.inv = y0.inv ∧ y.line = y0.line
  ow : y.v.ownBlock = y0.v.ownBlock ∨ ∃ k, y.v.ownBlock = some k ∧ w0.heap.size ≤ k
theorem SecMid.tstep {w0 : World} {lo t b : Nat} {x0 : Tm} {y0 : Se} {w w' : World} {x x' : Tm} {y : Se} {es : List Mu.Elem} (h : SecMid w0 lo t b x0 y0 w x y es) (hf : Fr (· = t) w w') (ht : TmAt w' t x')
    (hx : x'.s = x.s ∧ x'.raw = x.raw ∧ x'.prov = x.prov ∧ x'.esc = x.esc ∧ x'.am = x.am ∧ x'.el = x.el) : SecMid w0 lo t b x0 y0 w' x' y es := by
  obtain ⟨e1, e2, e3, e4, e5, e6⟩ := hx
  obtain ⟨d1, d2, d3, d4, d5, d6⟩ := h.sx
  refine ⟨⟨ht, hf.blk h.st.se h.st.bt, h.st.bt, by have := h.st.lw; have := hf.size; omega, ?_⟩, h.fr.trans' hf (fun k _ h => .inl h), ⟨e1.trans d1, e2.trans d2, e3.trans d3, e4.trans d4, e5.trans d5, e6.trans d6⟩, h.sy, h.ow⟩
  rw [e3]
  exact h.st.got.fr hf (fun k _ h => .inl h)
theorem SecMid.step0 {w0 : World} {lo t b : Nat} {x0 : Tm} {y0 : Se} {w w' : World} {x : Tm} {y : Se} {es : List Mu.Elem} (h : SecMid w0 lo t b x0 y0 w x y es) (hf : F0 w w') : SecMid w0 lo t b x0 y0 w' x y es :=
  h.tstep (Fr.of0 hf) (h.st.tm.fr0 hf) ⟨rfl, rfl, rfl, rfl, rfl, rfl⟩
theorem SecMid.add {w0 : World} {lo t b : Nat} {x0 : Tm} {y0 : Se} {w w' : World} {x : Tm} {y : Se} {es : List Mu.Elem} {e : Mu.Elem} (h : SecMid w0 lo t b x0 y0 w x y es) (ha : SecAdd lo w w' t b x y es e) :
    ∃ y', SecMid w0 lo t b x0 y0 w' x y' (es ++ [e]) ∧ Fr (fun k => k = b ∨ y.v.ownBlock = some k) w w' ∧ (y'.v.ownBlock = y.v.ownBlock ∨ ∃ g, y'.v.ownBlock = some g ∧ w.heap.size ≤ g) := by
  obtain ⟨v', hf, hst, ho⟩ := ha
  have hsz := h.fr.size
  refine ⟨_, ⟨hst, h.fr.trans' hf (fun k hk hm => ?_), h.sx, h.sy, ?_⟩, hf, ho⟩
  · rcases hm with hm | hm
    · exact .inr (.inl hm)
    · rcases h.ow with ho | ⟨j, hj, hlt⟩
      · exact .inr (.inr (ho ▸ hm))
      · rw [hj] at hm; injection hm with hm; omega
  · rcases ho with ho | ⟨g, hg, hlt⟩
    · show v'.ownBlock = _ ∨ _
      rw [ho]; exact h.ow
    · exact .inr ⟨g, hg, by omega⟩
/-- a block that the section's walk does not write -/
def Blk (w : World) (t b : Nat) (y : Se) (r : Nat) (o : Obj) : Prop := w.heap[r]? = some o ∧ r ≠ t ∧ r ≠ b ∧ y.v.ownBlock ≠ some r
theorem Blk.tstep {w w' : World} {t b : Nat} {y : Se} {r : Nat} {o : Obj} (h : Blk w t b y r o) (hf : Fr (· = t) w w') : Blk w' t b y r o := ⟨hf.blk h.1 h.2.1, h.2⟩
theorem Blk.step0 {w w' : World} {t b : Nat} {y : Se} {r : Nat} {o : Obj} (h : Blk w t b y r o) (hf : F0 w w') : Blk w' t b y r o := ⟨hf.blk h.1 id, h.2⟩
theorem Blk.add {w w' : World} {t b : Nat} {y y' : Se} {r : Nat} {o : Obj} (h : Blk w t b y r o) (hf : Fr (fun k => k = b ∨ y.v.ownBlock = some k) w w') (ho : y'.v.ownBlock = y.v.ownBlock ∨ ∃ g, y'.v.ownBlock = some g ∧ w.heap.size ≤ g) :
    Blk w' t b y' r o := by
  have hr := blk_lt h.1
  refine ⟨hf.blk h.1 (fun hm => hm.elim h.2.2.1 h.2.2.2), h.2.1, h.2.2.1, fun he => ?_⟩
  rcases ho with ho | ⟨g, hg, hlt⟩
  · exact h.2.2.2 (ho ▸ he)
  · rw [hg] at he; injection he with he; omega
theorem SecMid.blk {w0 : World} {lo t b : Nat} {x0 : Tm} {y0 : Se} {w w' : World} {x : Tm} {y : Se} {es : List Mu.Elem} (h : SecMid w0 lo t b x0 y0 w x y es) {r : Nat} {o : Obj} (hb : w'.heap[r]? = some o) (hr : w.heap.size ≤ r) : Blk w' t b y r o := by
  obtain ⟨S, vs, h1, -⟩ := h.st.got.out
  have h2 := blk_lt h.st.tm
  have h3 := blk_lt h.st.se
  refine ⟨hb, by omega, by omega, fun he => ?_⟩
  have := ownsRow_blk h1 he; omega
theorem SecMid.row_lt {w0 : World} {lo t b : Nat} {x0 : Tm} {y0 : Se} {w : World} {x : Tm} {y : Se} {es : List Mu.Elem} (h : SecMid w0 lo t b x0 y0 w x y es) : ∀ k, y.v.ownBlock = some k → k < w.heap.size := by
  obtain ⟨S, vs, h1, -⟩ := h.st.got.out
  exact fun k hk => ownsRow_blk h1 hk
/-- what parseSection has come to after some rounds -/
structure SecInv (w0 : World) (lo t b depth : Nat) (x0 : Tm) (y0 : Se) (R : Option (List Mu.Elem × Mu.ISt)) (g : Nat) (wr : World) (x : Tm) (y : Se) (es : List Mu.Elem) : Prop where
  mid : SecMid w0 lo t b x0 y0 wr x y es
  pos : x.p ≤ x.s.size ∧ (0 < x.o.size ∧ x.o.size ≤ 1000) ∧ 0 < x.c.size ∧ x.c.size ≤ 1000
  len : es.length + 4 * g ≤ 8589934600
  res : Mu.pre es (Mu.iparse (L x.s) x.raw g depth ⟨x.p, L x.o, L x.c⟩ (some (L y.nm))) = some R
/-- what parseSection hands back -/
def SecPost (w0 : World) (lo t b : Nat) (x0 : Tm) (y0 : Se) (R : Option (List Mu.Elem × Mu.ISt)) (e : Ending) (w' : World) : Prop :=
  match R with
  | none => (∃ T v, e = .returned (.iface T v)) ∧ Fr (fun k => k = t ∨ k = b ∨ y0.v.ownBlock = some k) w0 w'
  | some (es, st) => e = .returned .nilIface ∧ ∃ x y, SecMid w0 lo t b x0 y0 w' x y es ∧ (x.p = st.pos ∧ L x.o = st.o ∧ L x.c = st.c) ∧ (x.p ≤ x.s.size ∧ (0 < x.o.size ∧ x.o.size ≤ 1000) ∧ 0 < x.c.size ∧ x.c.size ≤ 1000)
/-- a section that has been read, as a part -/
theorem sect_at {w0 w : World} {lo t b : Nat} {x0 x : Tm} {y0 y : Se} {es : List Mu.Elem} (h : SecMid w0 w0.heap.size t b x0 y0 w x y es) (hlo : lo ≤ b ∧ lo ≤ w0.heap.size) (hr : ∀ k, y0.v.ownBlock = some k → lo ≤ k) (u : Value) :
    EAt (w.alloc (.cells #[u] 20)) (fun k => lo ≤ k ∧ k < w.heap.size) x.prov (.sect (L y0.nm) y0.inv es) (pv 95 b) := by
  obtain ⟨S, vs, h1, h2, h3⟩ := (h.st.got.mono_lo hlo.2).all (fun k hk => by
    rcases h.ow with ho | ⟨j, hj, hlt⟩
    · exact hr k (ho ▸ hk)
    · rw [hj] at hk; injection hk with hk; omega)
  have hb := blk_lt h.st.se
  obtain ⟨e1, e2, e3⟩ := h.sy
  have hse := h.st.se
  unfold SeAt at hse
  rw [e1, e2] at hse
  unfold EAt
  have hk : Keep S w (w.alloc (.cells #[u] 20)) := fun k hk => Below.heap_alloc _ _ _ (h3 k hk).1.2
  exact ⟨b, y0.nm, y.line, y.v, vs, rfl, ⟨hlo.1, hb⟩, blk_alloc _ hse, rfl, h1.keep hk (fun k hk => (h3 k hk).1), EsAt.keep hk (fun k hk => (h3 k hk).1) _ _ h2⟩
/-- a section before it is read -/
theorem sec_start {w : World} {t b g : Nat} {x : Tm} {nm : ByteArray} {inv : Bool} {line : Int} (ht : TmAt w t x) (hb : w.heap[b]? = some (.cells #[.string nm, .bool inv, .int .i64 line, .slice (some ⟨g, 0, none⟩) 0 0] 93 (0, 0)))
    (hg : w.heap[g]? = some (.cells #[] 20 (0, 0))) (hbt : b ≠ t) (hgt : g ≠ t) (hgb : g ≠ b) :
    SecMid w w.heap.size t b x ⟨nm, inv, line, .slice (some ⟨g, 0, none⟩) 0 0⟩ w x ⟨nm, inv, line, .slice (some ⟨g, 0, none⟩) 0 0⟩ [] := by
  refine ⟨⟨ht, hb, hbt, Nat.le_refl _, got_nil _ _ _ _ ⟨rfl, .inr ⟨g, 0, #[], rfl, Nat.zero_le _, hg, Nat.le_refl _, Nat.zero_le _, rfl, rfl⟩⟩ ?_⟩, Fr.refl _ _, ⟨rfl, rfl, rfl, rfl, rfl, rfl⟩, ⟨rfl, rfl, rfl⟩, .inl rfl⟩
  intro k hk
  have : g = k := by simpa [Value.ownBlock] using hk
  subst this
  rintro (h | h)
  · exact hgt h
  · exact hgb h
end Go.Proofs.YtfakghnpkdoclaaDoor
