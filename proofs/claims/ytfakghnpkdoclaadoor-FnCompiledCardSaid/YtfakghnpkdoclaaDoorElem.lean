/-
  A template's parts in memory, each over the blocks of a set S.
-/
import Derived.Test.YtfakghnpkdoclaaDoorBase
set_option linter.unusedVariables false
set_option linter.unusedSimpArgs false
namespace Go.Proofs.YtfakghnpkdoclaaDoor
open Go.RowKit

/-- the value of an empty interface that holds a pointer -/
abbrev pv (T b : Nat) : Value := .iface T (.pointer (some ⟨b, 0, none⟩))

/-- a slice of one-cell values over blocks of S -/
def RowAt (w : World) (S : Nat → Prop) (v : Value) (vs : List Value) : Prop :=
  ∃ a c, v = .slice a vs.length c ∧ (0 < vs.length → ∃ g, a = some ⟨g, 0, none⟩ ∧ S g ∧ ∀ j u, vs[j]? = some u → w.cell? ⟨g, j, none⟩ = some u)

/-- a slice of bytes over blocks of S -/
def BytesAt (w : World) (S : Nat → Prop) (v : Value) (t : Mu.B) : Prop :=
  ∃ g c, v = .slice (some ⟨g, 0, none⟩) t.length c ∧ S g ∧ t.length ≤ c ∧ ∀ j, j < t.length → w.cell? ⟨g, j, none⟩ = some (.int .u8 (t.getD j 0).toNat)

mutual
def EAt (w : World) (S : Nat → Prop) (prov : Value) : Mu.Elem → Value → Prop
  | .text t, v => ∃ b sv, v = pv 83 b ∧ S b ∧ w.heap[b]? = some (.cells #[sv] 86 (0, 0)) ∧ BytesAt w S sv t
  | .var n raw, v => ∃ b nb, v = pv 103 b ∧ S b ∧ w.heap[b]? = some (.cells #[.string nb, .bool raw] 105 (0, 0)) ∧ L nb = n
  | .sect n inv es, v => ∃ b nb line sv vs, v = pv 95 b ∧ S b ∧ w.heap[b]? = some (.cells #[.string nb, .bool inv, .int .i64 line, sv] 93 (0, 0)) ∧ L nb = n ∧ RowAt w S sv vs ∧ EsAt w S prov es vs
  | .part n ind, v => ∃ b nb ib, v = pv 100 b ∧ S b ∧ w.heap[b]? = some (.cells #[.string nb, .string ib, prov] 114 (0, 0)) ∧ L nb = n ∧ L ib = ind
def EsAt (w : World) (S : Nat → Prop) (prov : Value) : List Mu.Elem → List Value → Prop
  | [], vs => vs = []
  | e :: es, vs => ∃ v vs', vs = v :: vs' ∧ EAt w S prov e v ∧ EsAt w S prov es vs'
end

/-- of the blocks of S none has turned -/
def Keep (S : Nat → Prop) (w w' : World) : Prop := ∀ k, S k → w'.heap[k]? = w.heap[k]?

theorem RowAt.keep {w w' : World} {S S' : Nat → Prop} {v : Value} {vs : List Value} (h : RowAt w S v vs) (hk : Keep S w w') (hS : ∀ k, S k → S' k) : RowAt w' S' v vs := by
  obtain ⟨a, c, h1, h2⟩ := h
  refine ⟨a, c, h1, fun hp => ?_⟩
  obtain ⟨g, h3, h4, h5⟩ := h2 hp
  exact ⟨g, h3, hS _ h4, fun j u hj => (World.cell?_of_block (w := w) (a := ⟨g, j, none⟩) (hk _ h4)).trans (h5 j u hj)⟩
theorem BytesAt.keep {w w' : World} {S S' : Nat → Prop} {v : Value} {t : Mu.B} (h : BytesAt w S v t) (hk : Keep S w w') (hS : ∀ k, S k → S' k) : BytesAt w' S' v t := by
  obtain ⟨g, c, h1, h2, h3, h4⟩ := h
  exact ⟨g, c, h1, hS _ h2, h3, fun j hj => (World.cell?_of_block (w := w) (a := ⟨g, j, none⟩) (hk _ h2)).trans (h4 j hj)⟩
mutual
theorem EAt.keep {w w' : World} {S S' : Nat → Prop} {prov : Value} (hk : Keep S w w') (hS : ∀ k, S k → S' k) : ∀ (e : Mu.Elem) (v : Value), EAt w S prov e v → EAt w' S' prov e v
  | .text t, v, h => by
    unfold EAt at h ⊢
    obtain ⟨b, sv, h1, h2, h3, h4⟩ := h
    exact ⟨b, sv, h1, hS _ h2, (hk _ h2).trans h3, h4.keep hk hS⟩
  | .var n raw, v, h => by
    unfold EAt at h ⊢
    obtain ⟨b, nb, h1, h2, h3, h4⟩ := h
    exact ⟨b, nb, h1, hS _ h2, (hk _ h2).trans h3, h4⟩
  | .sect n inv es, v, h => by
    unfold EAt at h ⊢
    obtain ⟨b, nb, line, sv, vs, h1, h2, h3, h4, h5, h6⟩ := h
    exact ⟨b, nb, line, sv, vs, h1, hS _ h2, (hk _ h2).trans h3, h4, h5.keep hk hS, EsAt.keep hk hS es vs h6⟩
  | .part n ind, v, h => by
    unfold EAt at h ⊢
    obtain ⟨b, nb, ib, h1, h2, h3, h4, h5⟩ := h
    exact ⟨b, nb, ib, h1, hS _ h2, (hk _ h2).trans h3, h4, h5⟩
theorem EsAt.keep {w w' : World} {S S' : Nat → Prop} {prov : Value} (hk : Keep S w w') (hS : ∀ k, S k → S' k) : ∀ (es : List Mu.Elem) (vs : List Value), EsAt w S prov es vs → EsAt w' S' prov es vs
  | [], vs, h => by
    unfold EsAt at h ⊢
    exact h
  | e :: es, vs, h => by
    unfold EsAt at h ⊢
    obtain ⟨v, vs', h1, h2, h3⟩ := h
    exact ⟨v, vs', h1, EAt.keep hk hS e v h2, EsAt.keep hk hS es vs' h3⟩
end
theorem EsAt.append {w : World} {S : Nat → Prop} {prov : Value} : ∀ {es fs : List Mu.Elem} {vs us : List Value}, EsAt w S prov es vs → EsAt w S prov fs us → EsAt w S prov (es ++ fs) (vs ++ us)
  | [], fs, vs, us, h, k => by
    unfold EsAt at h
    subst h
    exact k
  | e :: es, fs, vs, us, h, k => by
    unfold EsAt at h
    obtain ⟨v, vs', rfl, h2, h3⟩ := h
    show EsAt w S prov (e :: (es ++ fs)) (v :: (vs' ++ us))
    unfold EsAt
    exact ⟨v, _, rfl, h2, EsAt.append h3 k⟩
theorem EsAt.one {w : World} {S : Nat → Prop} {prov : Value} {e : Mu.Elem} {v : Value} (h : EAt w S prov e v) : EsAt w S prov [e] [v] := by
  unfold EsAt
  exact ⟨v, [], rfl, h, by unfold EsAt; rfl⟩
theorem EsAt.length {w : World} {S : Nat → Prop} {prov : Value} : ∀ {es : List Mu.Elem} {vs : List Value}, EsAt w S prov es vs → vs.length = es.length
  | [], vs, h => by
    unfold EsAt at h
    subst h; rfl
  | e :: es, vs, h => by
    unfold EsAt at h
    obtain ⟨v, vs', rfl, h2, h3⟩ := h
    simp [EsAt.length h3]

/-- the parts gathered so far: 'v', the slice's value, owns its row; what is in it lies over S; what lies in S is never written: neither the row nor a block of 'own' -/
structure Got (w : World) (lo : Nat) (own : Nat → Prop) (prov v : Value) (es : List Mu.Elem) : Prop where
  out : ∃ (S : Nat → Prop) (vs : List Value), w.ownsRow 0 20 1 v es.length vs ∧ EsAt w S prov es vs ∧ (∀ k, S k → (lo ≤ k ∧ k < w.heap.size) ∧ v.ownBlock ≠ some k ∧ ¬ own k) ∧ (∀ k, v.ownBlock = some k → ¬ own k)

theorem Keep.fr {S M : Nat → Prop} {w w' : World} (hf : Fr M w w') (hS : ∀ k, S k → k < w.heap.size ∧ ¬ M k) : Keep S w w' := fun k hk => hf.block k (hS k hk).1 (hS k hk).2
theorem ownsRow_of_block {w w' : World} {B e size n : Nat} {v : Value} {xs : List Value} (h : w.ownsRow B e size v n xs) (hb : ∀ k, v.ownBlock = some k → w'.heap[k]? = w.heap[k]?) : w'.ownsRow B e size v n xs := by
  obtain ⟨h1, h2⟩ := h
  refine ⟨h1, ?_⟩
  rcases h2 with h2 | ⟨g, cap, cur, rfl, h3, h4, h5⟩
  · exact .inl h2
  · exact .inr ⟨g, cap, cur, rfl, h3, (hb g rfl).trans h4, h5⟩
theorem ownsRow_blk {w : World} {B e size n : Nat} {v : Value} {xs : List Value} (h : w.ownsRow B e size v n xs) {k : Nat} (hk : v.ownBlock = some k) : k < w.heap.size := (h.lt k hk).2
/-- what does not touch the row, nor what is gathered -/
theorem Got.fr {w w' : World} {lo : Nat} {M own : Nat → Prop} {prov v : Value} {es : List Mu.Elem} (h : Got w lo own prov v es) (hf : Fr M w w') (hM : ∀ k, k < w.heap.size → M k → own k) : Got w' lo own prov v es := by
  obtain ⟨S, vs, h1, h2, h3, h4⟩ := h.out
  have hk : Keep S w w' := Keep.fr hf (fun k hk => ⟨(h3 k hk).1.2, fun hm => (h3 k hk).2.2 (hM k (h3 k hk).1.2 hm)⟩)
  refine ⟨S, vs, ownsRow_of_block h1 (fun k hb => hf.block k (ownsRow_blk h1 hb) (fun hm => h4 k hb (hM k (ownsRow_blk h1 hb) hm))), EsAt.keep hk (fun _ h => h) _ _ h2, fun k hk => ⟨⟨(h3 k hk).1.1, ?_⟩, (h3 k hk).2⟩, h4⟩
  have := (h3 k hk).1; have := hf.size; omega
/-- one part more -/
theorem got_add {w w1 w2 : World} {lo : Nat} {own Sn : Nat → Prop} {prov v v' u : Value} {es : List Mu.Elem} {e : Mu.Elem} {S : Nat → Prop} {vs : List Value}
    (h2 : EsAt w S prov es vs) (h3 : ∀ k, S k → (lo ≤ k ∧ k < w.heap.size) ∧ v.ownBlock ≠ some k ∧ ¬ own k) (h4 : ∀ k, v.ownBlock = some k → ¬ own k)
    (hf : F0 w w1) (hown : ∀ k, own k → k < w1.heap.size) (hu : EAt w1 Sn prov e u) (hSn : ∀ k, Sn k → (lo ≤ k ∧ k < w1.heap.size) ∧ v.ownBlock ≠ some k ∧ ¬ own k)
    (ho : w2.ownsRow 0 20 1 v' (es.length + 1) (vs ++ [u])) (hg : w1.grownBy w2 v.ownBlock) {n : Nat} (hn : n = w1.heap.size) (hb : v'.ownBlock = v.ownBlock ∨ v'.ownBlock = some n) :
    Got w2 lo own prov v' (es ++ [e]) := by
  subst hn
  have hsz := hf.size
  have hsz2 := hg.size
  refine ⟨fun k => S k ∨ Sn k, vs ++ [u], by rw [List.length_append]; exact ho, ?_, ?_, ?_⟩
  · refine EsAt.append (EsAt.keep (S := S) (fun k hk => ?_) (fun k h => .inl h) _ _ h2) (EsAt.keep (w := w1) (S := Sn) (fun k hk => ?_) (fun k h => .inr h) _ _ (EsAt.one hu))
    · obtain ⟨a, b, c⟩ := h3 k hk
      exact (hg.block k (by omega) (fun h => b h.symm)).trans (hf.block k a.2 id)
    · obtain ⟨a, b, c⟩ := hSn k hk
      exact hg.block k a.2 (fun h => b h.symm)
  · have key : ∀ k, lo ≤ k ∧ k < w1.heap.size → v.ownBlock ≠ some k → ¬ own k → (lo ≤ k ∧ k < w2.heap.size) ∧ v'.ownBlock ≠ some k ∧ ¬ own k := by
      intro k h1 h2 h3
      refine ⟨⟨h1.1, by omega⟩, ?_, h3⟩
      rcases hb with hb | hb
      · rw [hb]; exact h2
      · rw [hb]; intro h; injection h with h; omega
    rintro k (hk | hk)
    · obtain ⟨a, b, c⟩ := h3 k hk
      exact key k ⟨a.1, by omega⟩ b c
    · obtain ⟨a, b, c⟩ := hSn k hk
      exact key k a b c
  · intro k hk hn
    rcases hb with hb | hb
    · rw [hb] at hk; exact h4 k hk hn
    · rw [hb] at hk; injection hk with hk; have := hown k hn; omega
theorem got_nil (w : World) (lo : Nat) (own : Nat → Prop) (prov : Value) {v : Value} (h : w.ownsRow 0 20 1 v 0 []) (ho : ∀ k, v.ownBlock = some k → ¬ own k) : Got w lo own prov v [] :=
  ⟨fun _ => False, [], h, by unfold EsAt; rfl, fun k hk => hk.elim, ho⟩
theorem row_of_owns {w : World} {n e : Nat} {v : Value} {vs : List Value} (h : w.ownsRow 0 e 1 v n vs) : RowAt w (fun k => v.ownBlock = some k) v vs := by
  have hl : vs.length = n := by have := h.1; omega
  rcases h.2 with ⟨h1, h2⟩ | ⟨g, cap, cur, h1, _⟩
  · subst h1 h2
    exact ⟨none, 0, by rw [hl], fun hp => by omega⟩
  · refine ⟨some ⟨g, 0, none⟩, cap, by rw [hl]; exact h1, fun _ => ⟨g, rfl, by rw [h1]; rfl, fun j u hj => ?_⟩⟩
    have := h.cells (g := g) (by rw [h1]; rfl) j u hj
    have ha : (⟨g, 0, none⟩ : Addr).add j = ⟨g, j, none⟩ := by unfold Addr.add; split <;> simp_all
    rwa [ha] at this
theorem Got.mono_lo {w : World} {lo lo' : Nat} {own : Nat → Prop} {prov v : Value} {es : List Mu.Elem} (h : Got w lo own prov v es) (hl : lo' ≤ lo) : Got w lo' own prov v es := by
  obtain ⟨S, vs, h1, h2, h3, h4⟩ := h.out
  exact ⟨S, vs, h1, h2, fun k hk => ⟨⟨by have := (h3 k hk).1.1; omega, (h3 k hk).1.2⟩, (h3 k hk).2⟩, h4⟩
/-- the whole: what is gathered, over the blocks of S and the row -/
theorem Got.all {w : World} {lo : Nat} {own : Nat → Prop} {prov v : Value} {es : List Mu.Elem} (h : Got w lo own prov v es) (hlo : ∀ k, v.ownBlock = some k → lo ≤ k) :
    ∃ (S : Nat → Prop) (vs : List Value), RowAt w S v vs ∧ EsAt w S prov es vs ∧ ∀ k, S k → (lo ≤ k ∧ k < w.heap.size) ∧ ¬ own k := by
  obtain ⟨S, vs, h1, h2, h3, h4⟩ := h.out
  refine ⟨fun k => S k ∨ v.ownBlock = some k, vs, (row_of_owns h1).keep (fun _ _ => rfl) (fun k h => .inr h), EsAt.keep (fun _ _ => rfl) (fun k h => .inl h) _ _ h2, ?_⟩
  rintro k (hk | hk)
  · exact ⟨(h3 k hk).1, (h3 k hk).2.2⟩
  · exact ⟨⟨hlo k hk, ownsRow_blk h1 hk⟩, h4 k hk⟩
end Go.Proofs.YtfakghnpkdoclaaDoor
