/-
  The specification's parts in memory: rows of five cells, each over the blocks of a set S.
-/
import Derived.Test.YtfakghnpkdoclaaDoorSp6
import Derived.Test.YtfakghnpkdoclaaDoorPure5
import Derived.Laws.OwnMore
import Derived.Deep.AppendLies
import Derived.Deep.RegionLaw
import Derived.Deep.RegionHeld3
set_option linter.unusedVariables false
set_option linter.unusedSimpArgs false
namespace Go.Proofs.YtfakghnpkdoclaaDoor
open Go.RowKit

/-- a slice over blocks of S that reads as the cells xs (size cells an element) -/
def RowN (w : World) (S : Nat → Prop) (size : Nat) (v : Value) (n : Nat) (xs : List Value) : Prop :=
  xs.length = n * size ∧ ∃ a c, v = .slice a n c ∧ n ≤ c ∧ (0 < n → ∃ g, a = some ⟨g, 0, none⟩ ∧ S g ∧ ∀ j (hj : j < xs.length), w.cell? ⟨g, j, none⟩ = some xs[j])
mutual
def NAt (w : World) (S : Nat → Prop) : Mu.Node → List Value → Prop
  | .mk k t raw ind kids, cs => ∃ (tb ib : ByteArray) (sv : Value) (vs : List Value), cs = [.int .i64 k, .string tb, .bool raw, .string ib, sv] ∧ L tb = t ∧ L ib = ind ∧ RowN w S 5 sv kids.length vs ∧ NsAt w S kids vs
def NsAt (w : World) (S : Nat → Prop) : List Mu.Node → List Value → Prop
  | [], vs => vs = []
  | n :: ns, vs => ∃ c vs', vs = c ++ vs' ∧ NAt w S n c ∧ NsAt w S ns vs'
end
theorem RowN.keep {w w' : World} {S S' : Nat → Prop} {size n : Nat} {v : Value} {xs : List Value} (h : RowN w S size v n xs) (hk : Keep S w w') (hS : ∀ k, S k → S' k) : RowN w' S' size v n xs := by
  obtain ⟨h0, a, c, h1, h2, h3⟩ := h
  refine ⟨h0, a, c, h1, h2, fun hp => ?_⟩
  obtain ⟨g, h4, h5, h6⟩ := h3 hp
  exact ⟨g, h4, hS _ h5, fun j hj => (World.cell?_of_block (w := w) (a := ⟨g, j, none⟩) (hk _ h5)).trans (h6 j hj)⟩
mutual
theorem NAt.keep {w w' : World} {S S' : Nat → Prop} (hk : Keep S w w') (hS : ∀ k, S k → S' k) : ∀ (n : Mu.Node) (cs : List Value), NAt w S n cs → NAt w' S' n cs
  | .mk k t raw ind kids, cs, h => by
    unfold NAt at h ⊢
    obtain ⟨tb, ib, sv, vs, h1, h2, h3, h4, h5⟩ := h
    exact ⟨tb, ib, sv, vs, h1, h2, h3, h4.keep hk hS, NsAt.keep hk hS kids vs h5⟩
theorem NsAt.keep {w w' : World} {S S' : Nat → Prop} (hk : Keep S w w') (hS : ∀ k, S k → S' k) : ∀ (ns : List Mu.Node) (vs : List Value), NsAt w S ns vs → NsAt w' S' ns vs
  | [], vs, h => by unfold NsAt at h ⊢; exact h
  | n :: ns, vs, h => by
    unfold NsAt at h ⊢
    obtain ⟨c, vs', h1, h2, h3⟩ := h
    exact ⟨c, vs', h1, NAt.keep hk hS n c h2, NsAt.keep hk hS ns vs' h3⟩
end
theorem NsAt.append {w : World} {S : Nat → Prop} : ∀ {ns ms : List Mu.Node} {vs us : List Value}, NsAt w S ns vs → NsAt w S ms us → NsAt w S (ns ++ ms) (vs ++ us)
  | [], ms, vs, us, h, k => by
    unfold NsAt at h
    subst h
    exact k
  | n :: ns, ms, vs, us, h, k => by
    unfold NsAt at h
    obtain ⟨c, vs', rfl, h2, h3⟩ := h
    show NsAt w S (n :: (ns ++ ms)) (c ++ vs' ++ us)
    unfold NsAt
    exact ⟨c, _, by rw [List.append_assoc], h2, NsAt.append h3 k⟩
theorem NsAt.one {w : World} {S : Nat → Prop} {n : Mu.Node} {c : List Value} (h : NAt w S n c) : NsAt w S [n] c := by
  unfold NsAt
  exact ⟨c, [], by rw [List.append_nil], h, by unfold NsAt; rfl⟩
theorem RowN.none_ (w : World) (S : Nat → Prop) (size : Nat) : RowN w S size (.slice none 0 0) 0 [] := ⟨by simp, none, 0, rfl, Nat.le_refl _, fun h => absurd h (by omega)⟩
theorem nat_leaf (w : World) (S : Nat → Prop) (k : Nat) (t : ByteArray) (raw : Bool) (ind : ByteArray) : NAt w S (.mk k (L t) raw (L ind) []) [.int .i64 k, .string t, .bool raw, .string ind, .slice none 0 0] := by
  unfold NAt
  exact ⟨t, ind, _, [], rfl, rfl, rfl, RowN.none_ _ _ _, by unfold NsAt; rfl⟩
theorem row_of_own {w : World} {B e size n : Nat} {v : Value} {xs : List Value} (h : w.ownsRow B e size v n xs) : RowN w (fun k => v.ownBlock = some k) size v n xs := by
  refine ⟨h.1, ?_⟩
  rcases h.2 with ⟨h1, h2⟩ | ⟨g, cap, cur, h1, _, _, h4, _⟩
  · subst h1 h2
    exact ⟨none, 0, rfl, Nat.le_refl _, fun hp => by omega⟩
  · refine ⟨some ⟨g, 0, none⟩, cap, h1, h4, fun _ => ⟨g, rfl, by rw [h1]; rfl, fun j hj => ?_⟩⟩
    have := h.cells (g := g) (by rw [h1]; rfl) j _ (List.getElem?_eq_getElem hj)
    have ha : (⟨g, 0, none⟩ : Addr).add j = ⟨g, j, none⟩ := by unfold Addr.add; split <;> simp_all
    rwa [ha] at this

/-- the parts gathered so far -/
structure GotN (w : World) (lo : Nat) (own : Nat → Prop) (v : Value) (ns : List Mu.Node) : Prop where
  out : ∃ (S : Nat → Prop) (vs : List Value), w.ownsRow 0 27 5 v ns.length vs ∧ NsAt w S ns vs ∧ (∀ k, S k → (lo ≤ k ∧ k < w.heap.size) ∧ v.ownBlock ≠ some k ∧ ¬ own k) ∧ (∀ k, v.ownBlock = some k → lo ≤ k ∧ ¬ own k)
theorem GotN.fr {w w' : World} {lo : Nat} {M own : Nat → Prop} {v : Value} {ns : List Mu.Node} (h : GotN w lo own v ns) (hf : Fr M w w') (hM : ∀ k, lo ≤ k → k < w.heap.size → M k → own k) : GotN w' lo own v ns := by
  obtain ⟨S, vs, h1, h2, h3, h4⟩ := h.out
  have hk : Keep S w w' := Keep.fr hf (fun k hk => ⟨(h3 k hk).1.2, fun hm => (h3 k hk).2.2 (hM k (h3 k hk).1.1 (h3 k hk).1.2 hm)⟩)
  refine ⟨S, vs, ownsRow_of_block h1 (fun k hb => hf.block k (ownsRow_blk h1 hb) (fun hm => (h4 k hb).2 (hM k (h4 k hb).1 (ownsRow_blk h1 hb) hm))), NsAt.keep hk (fun _ h => h) _ _ h2, fun k hk => ⟨⟨(h3 k hk).1.1, ?_⟩, (h3 k hk).2⟩, h4⟩
  have := (h3 k hk).1; have := hf.size; omega
theorem GotN.own {w : World} {lo : Nat} {own own' : Nat → Prop} {v : Value} {ns : List Mu.Node} (h : GotN w lo own v ns) (ho : ∀ k, lo ≤ k → k < w.heap.size → own' k → own k) : GotN w lo own' v ns := by
  obtain ⟨S, vs, h1, h2, h3, h4⟩ := h.out
  exact ⟨S, vs, h1, h2, fun k hk => ⟨(h3 k hk).1, (h3 k hk).2.1, fun hn => (h3 k hk).2.2 (ho k (h3 k hk).1.1 (h3 k hk).1.2 hn)⟩, fun k hk => ⟨(h4 k hk).1, fun hn => (h4 k hk).2 (ho k (h4 k hk).1 (ownsRow_blk h1 hk) hn)⟩⟩
/-- the whole, over new blocks -/
theorem GotN.all {w : World} {lo : Nat} {own : Nat → Prop} {v : Value} {ns : List Mu.Node} (h : GotN w lo own v ns) :
    ∃ (S : Nat → Prop) (vs : List Value), RowN w S 5 v ns.length vs ∧ NsAt w S ns vs ∧ ∀ k, S k → (lo ≤ k ∧ k < w.heap.size) ∧ ¬ own k := by
  obtain ⟨S, vs, h1, h2, h3, h4⟩ := h.out
  refine ⟨fun k => S k ∨ v.ownBlock = some k, vs, (row_of_own h1).keep (fun _ _ => rfl) (fun k h => .inr h), NsAt.keep (fun _ _ => rfl) (fun k h => .inl h) _ _ h2, ?_⟩
  rintro k (hk | hk)
  · exact ⟨(h3 k hk).1, (h3 k hk).2.2⟩
  · exact ⟨⟨(h4 k hk).1, ownsRow_blk h1 hk⟩, (h4 k hk).2⟩
theorem infoNode : (Tryd.prog.info? 27).map (fun i => (i.zero, i.size, i.bytes)) = some (some (.agg #[.int .i64 0, .string ⟨#[]⟩, .bool false, .string ⟨#[]⟩, .slice none 0 0]), 5, 72) := by kernel_rfl

/-! ### one part more -/
theorem setCell_comm (w : World) (a b : Addr) (u v : Value) (h : a.block ≠ b.block) : (w.setCell a u).setCell b v = (w.setCell b v).setCell a u := by
  have key : ∀ (A : Array Obj) (i j : Nat) (f g : Obj → Obj), i ≠ j → (A.modify i f).modify j g = (A.modify j g).modify i f := by
    intro A i j f g hne
    apply Array.ext_getElem?
    intro k
    simp only [Array.getElem?_modify]
    by_cases h1 : j = k
    · subst h1
      rw [if_pos rfl, if_neg hne, if_neg hne, if_pos rfl]
    · rw [if_neg h1, if_neg h1]
  simp only [World.setCell]
  rw [key _ _ _ _ _ h]
theorem grown_drew0 {w w' : World} {r : Option Nat} (h : w.drew.grownBy w' r) : w.grownBy w' r := ⟨h.os, h.tape, h.output, h.size, h.block⟩
abbrev zeroNode : List Value := [.int .i64 0, .string ⟨#[]⟩, .bool false, .string ⟨#[]⟩, .slice none 0 0]
theorem zeroNode_new (w : World) : ∀ (j : Nat) (u : Value), zeroNode[j]? = some u → (w.alloc (.cells #[.int .i64 0, .string ⟨#[]⟩, .bool false, .string ⟨#[]⟩, .slice none 0 0] 27)).drew.cell? ((⟨w.heap.size, 0, none⟩ : Addr).add j) = some u := by
  intro j u hj
  have ha : (⟨w.heap.size, 0, none⟩ : Addr).add j = ⟨w.heap.size, j, none⟩ := by unfold Addr.add; split <;> simp_all
  rw [ha]
  show (w.alloc (.cells #[.int .i64 0, .string ⟨#[]⟩, .bool false, .string ⟨#[]⟩, .slice none 0 0] 27)).cell? ⟨w.heap.size, j, none⟩ = some u
  rw [blk_cell (blk_new w _) j]
  simpa using hj
theorem zeroNode_one : ∀ u ∈ zeroNode, u.oneCell' = true := by
  intro u hu
  simp only [zeroNode, List.mem_cons, List.not_mem_nil, or_false] at hu
  rcases hu with rfl | rfl | rfl | rfl | rfl <;> rfl
theorem node_room {w : World} {gg cp n : Nat} {vs : List Value} {z0 z1 z2 z3 z4 : Value} (h : w.ownsRow 0 27 5 (.slice (some ⟨gg, 0, none⟩) (n + 1) cp) (n + 1) (vs ++ [z0, z1, z2, z3, z4])) (hl : vs.length = n * 5) :
    w.cell? ⟨gg, n * 5, none⟩ = some z0 ∧ w.cell? ⟨gg, n * 5 + 1, none⟩ = some z1 ∧ w.cell? ⟨gg, n * 5 + 2, none⟩ = some z2 ∧ w.cell? ⟨gg, n * 5 + 3, none⟩ = some z3 ∧ w.cell? ⟨gg, n * 5 + 4, none⟩ = some z4 ∧
    w.frozen? ⟨gg, n * 5, none⟩ = false ∧ w.frozen? ⟨gg, n * 5 + 1, none⟩ = false ∧ w.frozen? ⟨gg, n * 5 + 2, none⟩ = false ∧ w.frozen? ⟨gg, n * 5 + 3, none⟩ = false ∧ w.frozen? ⟨gg, n * 5 + 4, none⟩ = false := by
  have hc : ∀ i, i < 5 → w.cell? ⟨gg, n * 5 + i, none⟩ = ([z0, z1, z2, z3, z4] : List Value)[i]? := fun i hi => by
    rw [h.cellAt _ (by omega), List.getElem?_append_right (by omega), hl, Nat.add_sub_cancel_left]
  exact ⟨hc 0 (by omega), hc 1 (by omega), hc 2 (by omega), hc 3 (by omega), hc 4 (by omega), h.frozenAt _, h.frozenAt _, h.frozenAt _, h.frozenAt _, h.frozenAt _⟩
theorem set5 {vs : List Value} {z0 z1 z2 z3 z4 c0 c1 c2 c3 c4 : Value} {m : Nat} (hl : vs.length = m) :
    (((((vs ++ [z0, z1, z2, z3, z4]).set m c0).set (m + 1) c1).set (m + 2) c2).set (m + 3) c3).set (m + 4) c4 = vs ++ [c0, c1, c2, c3, c4] := by
  subst hl
  have e : ∀ (l : List Value) (i : Nat) (c : Value), (vs ++ l).set (vs.length + i) c = vs ++ l.set i c := fun l i c => by
    rw [List.set_append_right _ _ (by omega), Nat.add_sub_cancel_left]
  have h0 := e [z0, z1, z2, z3, z4] 0 c0
  rw [Nat.add_zero] at h0
  rw [h0, e, e, e, e]
  rfl
/-- what one more part leaves -/
structure NAdd (lo : Nat) (own : Nat → Prop) (ob : Nat) (w w' : World) (v v' : Value) (ns new : List Mu.Node) : Prop where
  fr : Fr (fun k => k = ob ∨ v.ownBlock = some k) w w'
  cell : w'.heap[ob]? = some (.cells #[v'] 23 (0, 0))
  got : GotN w' lo own v' (ns ++ new)
  ow : v'.ownBlock = v.ownBlock ∨ ∃ g, v'.ownBlock = some g ∧ w.heap.size ≤ g
  form : ∃ g c, v' = .slice (some ⟨g, 0, none⟩) (ns ++ new).length c
theorem nd_add {w w1 w2 : World} {lo ob g0 cp0 gg cp : Nat} {own S Sn : Nat → Prop} {ns : List Mu.Node} {nd : Mu.Node} {vs : List Value} {z0 z1 z2 z3 z4 c0 c1 c2 c3 c4 : Value}
    (h1 : w.ownsRow 0 27 5 (.slice (some ⟨g0, 0, none⟩) ns.length cp0) ns.length vs) (h2 : NsAt w S ns vs) (h3 : ∀ k, S k → (lo ≤ k ∧ k < w.heap.size) ∧ (Value.slice (some ⟨g0, 0, none⟩) ns.length cp0).ownBlock ≠ some k ∧ ¬ own k)
    (h4 : ∀ k, (Value.slice (some ⟨g0, 0, none⟩) ns.length cp0).ownBlock = some k → lo ≤ k ∧ ¬ own k) (hob : w.heap[ob]? = some (.cells #[.slice (some ⟨g0, 0, none⟩) ns.length cp0] 23 (0, 0))) (hown : own ob) (hlo : lo ≤ w.heap.size) (hownl : ∀ k, own k → k < w.heap.size)
    (hf : F0 w w1) (ho : w2.ownsRow 0 27 5 (.slice (some ⟨gg, 0, none⟩) (ns.length + 1) cp) (ns.length + 1) (vs ++ [z0, z1, z2, z3, z4])) (hg : w1.grownBy w2 (Value.slice (some ⟨g0, 0, none⟩) ns.length cp0).ownBlock)
    (hat : (Value.slice (some ⟨g0, 0, none⟩) ns.length cp0).ownBlock = some gg ∨ gg = w.heap.size + 1) (hsz : w1.heap.size = w.heap.size + 1)
    (hnd : NAt w Sn nd [c0, c1, c2, c3, c4]) (hSn : ∀ k, Sn k → (lo ≤ k ∧ k < w.heap.size) ∧ k ≠ g0 ∧ ¬ own k) :
    NAdd lo own ob w ((((((w2.setCell ⟨gg, ns.length * 5, none⟩ c0).setCell ⟨gg, ns.length * 5 + 1, none⟩ c1).setCell ⟨gg, ns.length * 5 + 2, none⟩ c2).setCell ⟨gg, ns.length * 5 + 3, none⟩ c3).setCell ⟨gg, ns.length * 5 + 4, none⟩ c4).setCell ⟨ob, 0, none⟩ (.slice (some ⟨gg, 0, none⟩) (ns.length + 1) cp))
      (.slice (some ⟨g0, 0, none⟩) ns.length cp0) (.slice (some ⟨gg, 0, none⟩) (ns.length + 1) cp) ns [nd] := by
  have hs := hf.size
  have hobl := blk_lt hob
  have hg0l : g0 < w.heap.size := ownsRow_blk h1 (k := g0) rfl
  have hb0 : ∀ k, (Value.slice (some ⟨g0, 0, none⟩) ns.length cp0).ownBlock = some k ↔ g0 = k := fun k => by simp [Value.ownBlock]
  have hgl : lo ≤ gg ∧ ¬ own gg ∧ gg ≠ ob := by
    rcases hat with h | h
    · have := h4 gg h
      exact ⟨this.1, this.2, fun e => this.2 (e ▸ hown)⟩
    · exact ⟨by omega, fun e => by have := hownl gg e; omega, by omega⟩
  have hgq : g0 = gg ∨ gg = w.heap.size + 1 := hat.imp (hb0 gg).1 id
  have hold : ∀ k, k < w.heap.size → k ≠ g0 → w2.heap[k]? = w.heap[k]? := fun k hk hne => (hg.block k (by omega) (fun e => hne ((hb0 k).1 e.symm).symm)).trans (hf.block k hk id)
  have ho5 := (((((ho.stored (ns.length * 5) c0).1.stored (ns.length * 5 + 1) c1).1.stored (ns.length * 5 + 2) c2).1.stored (ns.length * 5 + 3) c3).1.stored (ns.length * 5 + 4) c4).1
  rw [set5 h1.1] at ho5
  generalize hw5 : (((((w2.setCell ⟨gg, ns.length * 5, none⟩ c0).setCell ⟨gg, ns.length * 5 + 1, none⟩ c1).setCell ⟨gg, ns.length * 5 + 2, none⟩ c2).setCell ⟨gg, ns.length * 5 + 3, none⟩ c3).setCell ⟨gg, ns.length * 5 + 4, none⟩ c4) = w5 at ho5 ⊢
  have hfr5 : Fr (fun k => k = gg) w2 w5 := by
    rw [← hw5]
    exact (((((Fr.refl (fun k => k = gg) w2).setA _ _ (.inl rfl)).setA _ _ (.inl rfl)).setA _ _ (.inl rfl)).setA _ _ (.inl rfl)).setA _ _ (.inl rfl)
  have hob5 : w5.heap[ob]? = some (.cells #[.slice (some ⟨g0, 0, none⟩) ns.length cp0] 23 (0, 0)) := by
    have hne : ob ≠ g0 := fun e => (h4 g0 rfl).2 (e ▸ hown)
    exact hfr5.blk ((hold ob hobl hne).trans hob) (fun e => hgl.2.2 e.symm)
  have hs2 := hg.size
  have hs5 := hfr5.size
  have hK : ∀ k, (S k ∨ Sn k) → (lo ≤ k ∧ k < w.heap.size) ∧ k ≠ g0 ∧ k ≠ gg ∧ ¬ own k := by
    rintro k (hk | hk)
    · obtain ⟨a, b, c⟩ := h3 k hk
      have hb : k ≠ g0 := fun e => b ((hb0 k).2 e.symm)
      exact ⟨a, hb, by rcases hgq with h | h <;> omega, c⟩
    · obtain ⟨a, b, c⟩ := hSn k hk
      exact ⟨a, b, by rcases hgq with h | h <;> omega, c⟩
  have hkeep : ∀ k, (S k ∨ Sn k) → (w5.setCell ⟨ob, 0, none⟩ (.slice (some ⟨gg, 0, none⟩) (ns.length + 1) cp)).heap[k]? = w.heap[k]? := fun k hk => by
    obtain ⟨a, b, c, d⟩ := hK k hk
    rw [Below.heap_setCell _ _ _ _ (show k ≠ ob from fun e => d (e ▸ hown))]
    exact (hfr5.block k (by omega) c).trans (hold k a.2 b)
  have hsl : (w5.setCell ⟨ob, 0, none⟩ (.slice (some ⟨gg, 0, none⟩) (ns.length + 1) cp)).heap.size = w5.heap.size := by simp [World.setCell]
  refine ⟨?_, ?_, ⟨fun k => S k ∨ Sn k, vs ++ [c0, c1, c2, c3, c4], ?_, ?_, ?_, ?_⟩, ?_, gg, cp, by simp⟩
  · have a1 : Fr (fun k => k = ob ∨ (Value.slice (some ⟨g0, 0, none⟩) ns.length cp0).ownBlock = some k) w w2 := (Fr.of0 hf).grownA hg (fun k hk => .inl (.inr hk))
    have a2 : Fr (fun k => k = ob ∨ (Value.slice (some ⟨g0, 0, none⟩) ns.length cp0).ownBlock = some k) w w5 := a1.trans' hfr5 (fun k hk e => by
      subst e
      rcases hat with h | h
      · exact .inr h
      · omega)
    exact a2.setA _ _ (.inl (.inl rfl))
  · exact blk_set _ hob5
  · rw [List.length_append]
    exact ownsRow_setCell_other ho5 (fun e => hgl.2.2 (by simpa [Value.ownBlock] using e)) _
  · refine NsAt.append (NsAt.keep (S := S) (fun k hk => hkeep k (.inl hk)) (fun k h => .inl h) _ _ h2) (NsAt.one (NAt.keep (S := Sn) (fun k hk => hkeep k (.inr hk)) (fun k h => .inr h) _ _ hnd))
  · intro k hk
    obtain ⟨a, b, c, d⟩ := hK k hk
    exact ⟨⟨a.1, by rw [hsl]; omega⟩, fun e => c (by simpa [Value.ownBlock] using e.symm), d⟩
  · intro k hk
    have : gg = k := by simpa [Value.ownBlock] using hk
    subst this
    exact ⟨hgl.1, hgl.2.1⟩
  · rcases hat with h | h
    · left; rw [h]; rfl
    · right; exact ⟨gg, rfl, by omega⟩
/-- the same, the slice stored first -/
theorem nd_swap {w2 : World} {ob gg m : Nat} {c0 c1 c2 c3 c4 v : Value} (h : gg ≠ ob) :
    ((((((w2.setCell ⟨gg, m, none⟩ c0).setCell ⟨gg, m + 1, none⟩ c1).setCell ⟨gg, m + 2, none⟩ c2).setCell ⟨gg, m + 3, none⟩ c3).setCell ⟨gg, m + 4, none⟩ c4).setCell ⟨ob, 0, none⟩ v) =
    ((((((w2.setCell ⟨ob, 0, none⟩ v).setCell ⟨gg, m, none⟩ c0).setCell ⟨gg, m + 1, none⟩ c1).setCell ⟨gg, m + 2, none⟩ c2).setCell ⟨gg, m + 3, none⟩ c3).setCell ⟨gg, m + 4, none⟩ c4) := by
  rw [setCell_comm _ ⟨gg, m + 4, none⟩ ⟨ob, 0, none⟩ _ _ h, setCell_comm _ ⟨gg, m + 3, none⟩ ⟨ob, 0, none⟩ _ _ h, setCell_comm _ ⟨gg, m + 2, none⟩ ⟨ob, 0, none⟩ _ _ h, setCell_comm _ ⟨gg, m + 1, none⟩ ⟨ob, 0, none⟩ _ _ h, setCell_comm _ ⟨gg, m, none⟩ ⟨ob, 0, none⟩ _ _ h]
end Go.Proofs.YtfakghnpkdoclaaDoor
