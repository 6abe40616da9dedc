/-
  The package's reader: what parse's walk leans on (the top level: the parts lie in the template's own field).
-/
import Derived.Test.YtfakghnpkdoclaaDoorSec0
set_option linter.unusedVariables false
set_option linter.unusedSimpArgs false
namespace Go.Proofs.YtfakghnpkdoclaaDoor
open Go.RowKit

structure TopSt (w : World) (lo t : Nat) (x : Tm) (es : List Mu.Elem) : Prop where
  tm : TmAt w t x
  lw : lo ≤ w.heap.size
  got : Got w lo (fun k => k = t) x.prov x.el es
theorem TopSt.ownlt {w : World} {lo t : Nat} {x : Tm} {es : List Mu.Elem} (h : TopSt w lo t x es) : ∀ k, (k = t) → k < w.heap.size := by
  rintro k rfl
  exact blk_lt h.tm
def TopAdd (lo : Nat) (w1 w' : World) (t : Nat) (x : Tm) (es : List Mu.Elem) (e : Mu.Elem) : Prop :=
  ∃ v', Fr (fun k => k = t ∨ x.el.ownBlock = some k) w1 w' ∧ TopSt w' lo t { x with el := v' } (es ++ [e]) ∧ (v'.ownBlock = x.el.ownBlock ∨ ∃ g, v'.ownBlock = some g ∧ w1.heap.size ≤ g)
theorem top_add {w w1 w2 : World} {lo t : Nat} {x : Tm} {es : List Mu.Elem} {e : Mu.Elem} {v' u : Value} {S Sn : Nat → Prop} {vs : List Value} (hst : TopSt w lo t x es)
    (h2 : EsAt w S x.prov es vs) (h3 : ∀ k, S k → (lo ≤ k ∧ k < w.heap.size) ∧ x.el.ownBlock ≠ some k ∧ ¬ (k = t)) (h4 : ∀ k, x.el.ownBlock = some k → ¬ (k = t))
    (hf : F0 w w1) (hu : EAt w1 Sn x.prov e u) (hSn : ∀ k, Sn k → (lo ≤ k ∧ k < w1.heap.size) ∧ x.el.ownBlock ≠ some k ∧ ¬ (k = t))
    (ho : w2.ownsRow 0 20 1 v' (es.length + 1) (vs ++ [u])) (hg : w1.grownBy w2 x.el.ownBlock) {n : Nat} (hn : n = w1.heap.size) (hb : v'.ownBlock = x.el.ownBlock ∨ v'.ownBlock = some n) :
    TopAdd lo w (w2.setCell ⟨t, 5, none⟩ v') t x es e := by
  have hs := hf.size
  have hs2 := hg.size
  have e2 := own_cells hst.got hf hg (k := t) rfl (blk_lt hst.tm)
  have G := got_add h2 h3 h4 hf (fun k hk => by have := hst.ownlt k hk; omega) hu hSn ho hg hn hb
  have htm : TmAt w2 t x := e2.trans hst.tm
  refine ⟨v', ?_, ⟨htm.set5 v', by have := hst.lw; simp [World.setCell]; omega, G.fr (M := fun k => k = t) (Fr.setCell _ _ _ (.inl rfl)) (fun k _ h => h)⟩, ?_⟩
  · exact ((Fr.of0 hf).trans' (Fr.grown (M := fun k => k = t ∨ x.el.ownBlock = some k) hg (fun k h => .inl (.inr h))) (fun _ _ h => h)).trans (Fr.setCell _ _ _ (.inl (.inl rfl)))
  · rcases hb with hb | hb
    · exact .inl hb
    · exact .inr ⟨n, hb, by omega⟩
/-- what parse has come to, in a round -/
structure TopMid (w0 : World) (lo t : Nat) (x0 : Tm) (wr : World) (x : Tm) (es : List Mu.Elem) : Prop where
  st : TopSt wr lo t x es
  fr : Fr (fun k => k = t ∨ x0.el.ownBlock = some k) w0 wr
  sx : x.s = x0.s ∧ x.raw = x0.raw ∧ x.prov = x0.prov ∧ x.esc = x0.esc ∧ x.am = x0.am
  ow : x.el.ownBlock = x0.el.ownBlock ∨ ∃ k, x.el.ownBlock = some k ∧ w0.heap.size ≤ k
theorem TopMid.tstep {w0 : World} {lo t : Nat} {x0 : Tm} {w w' : World} {x x' : Tm} {es : List Mu.Elem} (h : TopMid w0 lo t x0 w x es) (hf : Fr (· = t) w w') (ht : TmAt w' t x')
    (hx : x'.s = x.s ∧ x'.raw = x.raw ∧ x'.prov = x.prov ∧ x'.esc = x.esc ∧ x'.am = x.am ∧ x'.el = x.el) : TopMid w0 lo t x0 w' x' es := by
  obtain ⟨e1, e2, e3, e4, e5, e6⟩ := hx
  obtain ⟨d1, d2, d3, d4, d5⟩ := h.sx
  refine ⟨⟨ht, by have := h.st.lw; have := hf.size; omega, ?_⟩, h.fr.trans' hf (fun k _ h => .inl h), ⟨e1.trans d1, e2.trans d2, e3.trans d3, e4.trans d4, e5.trans d5⟩, by rw [e6]; exact h.ow⟩
  rw [e3, e6]
  exact h.st.got.fr hf (fun k _ h => h)
theorem TopMid.step0 {w0 : World} {lo t : Nat} {x0 : Tm} {w w' : World} {x : Tm} {es : List Mu.Elem} (h : TopMid w0 lo t x0 w x es) (hf : F0 w w') : TopMid w0 lo t x0 w' x es :=
  h.tstep (Fr.of0 hf) (h.st.tm.fr0 hf) ⟨rfl, rfl, rfl, rfl, rfl, rfl⟩
theorem TopMid.add {w0 : World} {lo t : Nat} {x0 : Tm} {w w' : World} {x : Tm} {es : List Mu.Elem} {e : Mu.Elem} (h : TopMid w0 lo t x0 w x es) (ha : TopAdd lo w w' t x es e) :
    ∃ v', TopMid w0 lo t x0 w' { x with el := v' } (es ++ [e]) ∧ Fr (fun k => k = t ∨ x.el.ownBlock = some k) w w' ∧ (v'.ownBlock = x.el.ownBlock ∨ ∃ g, v'.ownBlock = some g ∧ w.heap.size ≤ g) := by
  obtain ⟨v', hf, hst, ho⟩ := ha
  have hsz := h.fr.size
  refine ⟨v', ⟨hst, h.fr.trans' hf (fun k hk hm => ?_), h.sx, ?_⟩, hf, ho⟩
  · rcases hm with hm | hm
    · exact .inl hm
    · rcases h.ow with ho | ⟨j, hj, hlt⟩
      · exact .inr (ho ▸ hm)
      · rw [hj] at hm; injection hm with hm; omega
  · rcases ho with ho | ⟨g, hg, hlt⟩
    · show v'.ownBlock = _ ∨ _
      rw [ho]; exact h.ow
    · exact .inr ⟨g, hg, by omega⟩
/-- a block that parse's walk does not write -/
def TBlk (w : World) (t : Nat) (v : Value) (r : Nat) (o : Obj) : Prop := w.heap[r]? = some o ∧ r ≠ t ∧ v.ownBlock ≠ some r
theorem TBlk.tstep {w w' : World} {t : Nat} {v : Value} {r : Nat} {o : Obj} (h : TBlk w t v r o) (hf : Fr (· = t) w w') : TBlk w' t v r o := ⟨hf.blk h.1 h.2.1, h.2⟩
theorem TBlk.step0 {w w' : World} {t : Nat} {v : Value} {r : Nat} {o : Obj} (h : TBlk w t v r o) (hf : F0 w w') : TBlk w' t v r o := ⟨hf.blk h.1 id, h.2⟩
theorem TBlk.add {w w' : World} {t : Nat} {v v' : Value} {r : Nat} {o : Obj} (h : TBlk w t v r o) (hf : Fr (fun k => k = t ∨ v.ownBlock = some k) w w') (ho : v'.ownBlock = v.ownBlock ∨ ∃ g, v'.ownBlock = some g ∧ w.heap.size ≤ g) :
    TBlk w' t v' r o := by
  have hr := blk_lt h.1
  refine ⟨hf.blk h.1 (fun hm => hm.elim h.2.1 h.2.2), h.2.1, fun he => ?_⟩
  rcases ho with ho | ⟨g, hg, hlt⟩
  · exact h.2.2 (ho ▸ he)
  · rw [hg] at he; injection he with he; omega
theorem TopMid.blk {w0 : World} {lo t : Nat} {x0 : Tm} {w w' : World} {x : Tm} {es : List Mu.Elem} (h : TopMid w0 lo t x0 w x es) {r : Nat} {o : Obj} (hb : w'.heap[r]? = some o) (hr : w.heap.size ≤ r) : TBlk w' t x.el r o := by
  obtain ⟨S, vs, h1, -⟩ := h.st.got.out
  have h2 := blk_lt h.st.tm
  refine ⟨hb, by omega, fun he => ?_⟩
  have := ownsRow_blk h1 he; omega
/-- what parse has come to after some rounds -/
structure TopInv (w0 : World) (lo t : Nat) (x0 : Tm) (R : Option (List Mu.Elem × Mu.ISt)) (g : Nat) (wr : World) (x : Tm) (es : List Mu.Elem) : Prop where
  mid : TopMid w0 lo t x0 wr x es
  pos : x.p ≤ x.s.size ∧ (0 < x.o.size ∧ x.o.size ≤ 1000) ∧ 0 < x.c.size ∧ x.c.size ≤ 1000
  len : es.length + 4 * g ≤ 8589934600
  res : Mu.pre es (Mu.iparse (L x.s) x.raw g 0 ⟨x.p, L x.o, L x.c⟩ none) = some R
/-- what parse hands back -/
def TopPost (w0 : World) (lo t : Nat) (x0 : Tm) (R : Option (List Mu.Elem × Mu.ISt)) (e : Ending) (w' : World) : Prop :=
  match R with
  | none => (∃ T v, e = .returned (.iface T v)) ∧ Fr (fun k => k = t ∨ x0.el.ownBlock = some k) w0 w'
  | some (es, _) => e = .returned .nilIface ∧ ∃ x, TopMid w0 lo t x0 w' x es
end Go.Proofs.YtfakghnpkdoclaaDoor
