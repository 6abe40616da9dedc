/-
  Contexts, values and partials in memory. (Joined by wip/pack.py.)
-/
import Derived.Test.YtfakghnpkdoclaaGreatDoorGB1
import Derived.Test.YtfakghnpkdoclaaGreatDoorGP2
import Derived.Maps.OwnOps
import Derived.Test.YtfakghnpkdoclaaGreatDoorGS1
set_option linter.unusedVariables false
set_option linter.unusedSimpArgs false
set_option maxRecDepth 100000
set_option maxHeartbeats 8000000
namespace Go.Proofs.YtfakghnpkdoclaaGreatDoor
open Go.RowKit
def EntsAre (es : Array MapEntry) (ks : List Mu.B) (vs : List Value) : Prop :=
 ∃ kbs : List ByteArray, es.toList.map MapEntry.key = kbs.map Value.string ∧ kbs.map L = ks ∧ es.toList.map MapEntry.val = vs
mutual
def CAt (w : World) (S : Nat → Prop) : Mu.Val → Value → Prop
 | .mk k t n b ks l, u =>
  (k = 0 ∧ u = .nilIface) ∨ (k = 1 ∧ ∃ tb, u = .iface 9 (.string tb) ∧ L tb = t) ∨ (k = 2 ∧ u = .iface 2 (.int .i64 n)) ∨ (k = 3 ∧ u = .iface 4 (.bool b)) ∨
  (k = 4 ∧ ∃ sv vs, u = .iface 66 sv ∧ RowAt w S sv vs ∧ CsAt w S l vs) ∨
  (k = 5 ∧ ∃ r es clock vs, u = .iface 78 (.map (some r)) ∧ S r ∧ w.heap[r]? = some (.map es clock) ∧ EntsAre es ks vs ∧ CsAt w S l vs)
def CsAt (w : World) (S : Nat → Prop) : List Mu.Val → List Value → Prop
 | [], vs => vs = []
 | v :: l, vs => ∃ u us, vs = u :: us ∧ CAt w S v u ∧ CsAt w S l us
end
mutual
theorem CAt.keep {w w' : World} {S S' : Nat → Prop} (hk : Keep S w w') (hS : ∀ k, S k → S' k) : ∀ (v : Mu.Val) (u : Value), CAt w S v u → CAt w' S' v u
 | .mk k t n b ks l, u, h => by
  unfold CAt at h ⊢
  rcases h with h | h | h | h | ⟨h0, sv, vs, h1, h2, h3⟩ | ⟨h0, r, es, clock, vs, h1, h2, h3, h4, h5⟩
  · exact .inl h
  · exact .inr (.inl h)
  · exact .inr (.inr (.inl h))
  · exact .inr (.inr (.inr (.inl h)))
  · exact .inr (.inr (.inr (.inr (.inl ⟨h0, sv, vs, h1, h2.keep hk hS, CsAt.keep hk hS l vs h3⟩))))
  · exact .inr (.inr (.inr (.inr (.inr ⟨h0, r, es, clock, vs, h1, hS _ h2, (hk _ h2).trans h3, h4, CsAt.keep hk hS l vs h5⟩))))
theorem CsAt.keep {w w' : World} {S S' : Nat → Prop} (hk : Keep S w w') (hS : ∀ k, S k → S' k) : ∀ (l : List Mu.Val) (us : List Value), CsAt w S l us → CsAt w' S' l us
 | [], vs, h => by
  unfold CsAt at h ⊢;exact h
 | v :: l, vs, h => by
  unfold CsAt at h ⊢;obtain ⟨u, us, h1, h2, h3⟩ := h;exact ⟨u, us, h1, CAt.keep hk hS v u h2, CsAt.keep hk hS l us h3⟩
end
theorem CsAt.length {w : World} {S : Nat → Prop} : ∀ {l : List Mu.Val} {us : List Value}, CsAt w S l us → us.length = l.length
 | [], us, h => by
  unfold CsAt at h;subst h; rfl
 | v :: l, us, h => by
  unfold CsAt at h;obtain ⟨u, us', rfl, h2, h3⟩ := h;simp [CsAt.length h3]
theorem CsAt.at {w : World} {S : Nat → Prop} : ∀ {l : List Mu.Val} {us : List Value}, CsAt w S l us → ∀ j (h : j < l.length), ∃ u, us[j]? = some u ∧ CAt w S l[j] u
 | [], us, h, j, hj => absurd hj (by simp)
 | v :: l, us, h, j, hj => by
  unfold CsAt at h;obtain ⟨u, us', rfl, h2, h3⟩ := h
  cases j with
  | zero => exact ⟨u, rfl, h2⟩
  | succ j =>
   obtain ⟨x, h4, h5⟩ := CsAt.at h3 j (by simpa using hj);exact ⟨x, by simpa using h4, by simpa using h5⟩
theorem CsAt.snoc {w : World} {S : Nat → Prop} {v : Mu.Val} {u : Value} : ∀ {l : List Mu.Val} {us : List Value}, CsAt w S l us → CAt w S v u → CsAt w S (l ++ [v]) (us ++ [u])
 | [], us, h, k => by
  unfold CsAt at h;subst h;show CsAt w S [v] [u];unfold CsAt;exact ⟨u, [], rfl, k, by unfold CsAt; rfl⟩
 | x :: l, us, h, k => by
  unfold CsAt at h;obtain ⟨y, us', rfl, h2, h3⟩ := h;show CsAt w S (x :: (l ++ [v])) (y :: (us' ++ [u]));unfold CsAt;exact ⟨y, _, rfl, h2, CsAt.snoc h3 k⟩
theorem CsAt.get {w : World} {S : Nat → Prop} {key : Mu.B} : ∀ {ks : List Mu.B} {l : List Mu.Val} {us : List Value}, CsAt w S l us →
 (match Mu.getKV ks l key with
 | none => Mu.getKV ks us key = none
 | some v => ∃ u, Mu.getKV ks us key = some u ∧ CAt w S v u)
 | [], l, us, h => by simp [Mu.getKV]
 | k :: ks, [], us, h => by
  unfold CsAt at h;subst h;simp [Mu.getKV]
 | k :: ks, v :: l, us, h => by
  unfold CsAt at h;obtain ⟨u, us', rfl, h2, h3⟩ := h;simp only [Mu.getKV]
  by_cases hk : k = key
  · simp only [if_pos hk]
    exact ⟨u, rfl, h2⟩
  · simp only [if_neg hk]
    exact CsAt.get h3
theorem find_ents {kb : ByteArray} : ∀ (es : List MapEntry) (kbs : List ByteArray) (i : Nat), es.map MapEntry.key = kbs.map Value.string →
 ∃ r, Instr.findNow .string (.string kb) es i = some r ∧ r.map (·.2) = Mu.getKV (kbs.map L) (es.map MapEntry.val) (L kb)
 | [], kbs, i, h => by
  have : kbs = [] := by simpa using h.symm
  subst this;exact ⟨none, rfl, rfl⟩
 | e :: es, kbs, i, h => by
  cases kbs with
  | nil => simp at h
  | cons k kbs =>
   simp only [List.map_cons, List.cons.injEq] at h;obtain ⟨h1, h2⟩ := h;simp only [Instr.findNow, h1, Instr.sameNow, List.map_cons, Mu.getKV]
   by_cases hk : k = kb
   · subst hk
     have h3 : (k == k) = true := (MapKept.bytes_beq k k).2 rfl;exact ⟨some (i, e.val), by rw [h3], by simp⟩
   · have h3 : (kb == k) = false := by
      cases hb : kb == k with
      | false => rfl
      | true => exact absurd ((MapKept.bytes_beq kb k).1 hb).symm hk
     have h4 : ¬ L k = L kb := fun h => hk (L_inj h)
     obtain ⟨r, h5, h6⟩ := find_ents es kbs (i + 1) h2;exact ⟨r, by simp only [h3]; exact h5, by rw [if_neg h4]; exact h6⟩
theorem run_lookup_ctx {w : World} {r : Nat} {es : Array MapEntry} {clock : Nat} {ks : List Mu.B} {vs : List Value} (hb : w.heap[r]? = some (.map es clock)) (he : EntsAre es ks vs) (kb : ByteArray) :
 (Instr.lookup 78 (.map (some r)) (.string kb) true).run Tryz.prog w = .ok (.tuple #[(Mu.getKV ks vs (L kb)).getD .nilIface, .bool (Mu.getKV ks vs (L kb)).isSome]) w := by
 obtain ⟨kbs, h1, h2, h3⟩ := he
 obtain ⟨x, h4, h5⟩ := find_ents (kb := kb) es.toList kbs 0 h1
 rw [h2, h3] at h5
 have hz : (zeroValue 20).run Tryz.prog w = .ok .nilIface w := Tryz.zeroValue20 w
 have hc := MapKept.run_checkKey (P := Tryz.prog) (w := w) (k := .string kb) Tryz.underlying9 trivial es.isEmpty 9999
 have hf := MapKept.run_findKey (P := Tryz.prog) (w := w) (k := .string kb) Tryz.underlying9 h4
 cases x with
 | none =>
  have h6 : Mu.getKV ks vs (L kb) = none := by rw [← h5]; rfl
  rw [h6];simp [Instr.lookup, run_underlying Tryz.underlying78, MapKept.run_getObj_map hb, hc, hf, hz, Result.andThen]
 | some x =>
  have h6 : Mu.getKV ks vs (L kb) = some x.2 := by rw [← h5]; rfl
  rw [h6];simp [Instr.lookup, run_underlying Tryz.underlying78, MapKept.run_getObj_map hb, hc, hf, Result.andThen]
theorem wpList_lookup_ctx (w : World) {ops : Array Oper} {rest : List Oper} {o : Oper} {a : Act} {Q : Exit → Act → World → Prop}
 (hg : o.guard = none) (m x : Operand) (hop : o.op = Op.lookup 78 m x true) (r : Nat) (es : Array MapEntry) (clock : Nat) (ks : List Mu.B) (vs : List Value)
 (hm : a.eval m = .map (some r)) (hb : w.heap[r]? = some (.map es clock)) (he : EntsAre es ks vs) (kb : ByteArray) (hx : a.eval x = .string kb)
 (hK : wpList Tryz.prog ops Q rest (a.put o.dst (.tuple #[(Mu.getKV ks vs (L kb)).getD .nilIface, .bool (Mu.getKV ks vs (L kb)).isSome])) w) :
 wpList Tryz.prog ops Q (o :: rest) a w := by
 refine wpList_plain hg fun K' hK' => ?_
 unfold Oper.wp
 simp [execOp, hop, hm, hx, run_lookup_ctx hb he kb, Result.andThen]
 exact hK' _ _ hK
def ZAt (w : World) (S : Nat → Prop) : Option Mu.Val → Value → Prop
 | none, u => u = .iface 143 (.agg #[.nilIface, .bool false])
 | some v, u => ∃ x, u = .iface 143 (.agg #[x, .bool true]) ∧ CAt w S v x
def ZsAt (w : World) (S : Nat → Prop) (ch : List (Option Mu.Val)) (us : List Value) : Prop := us.length = ch.length ∧ ∀ j (h : j < ch.length), ∃ u, us[j]? = some u ∧ ZAt w S ch[j] u
def ChAt (w : World) (R S : Nat → Prop) (v : Value) (ch : List (Option Mu.Val)) : Prop := ∃ us, RowAt w R v us ∧ ZsAt w S ch us
theorem ZAt.keep {w w' : World} {S S' : Nat → Prop} (hk : Keep S w w') (hS : ∀ k, S k → S' k) {c : Option Mu.Val} {u : Value} (h : ZAt w S c u) : ZAt w' S' c u := by
 cases c with
 | none => exact h
 | some v =>
  obtain ⟨x, h1, h2⟩ := h;exact ⟨x, h1, CAt.keep hk hS _ _ h2⟩
theorem ZsAt.keep {w w' : World} {S S' : Nat → Prop} (hk : Keep S w w') (hS : ∀ k, S k → S' k) {ch : List (Option Mu.Val)} {us : List Value} (h : ZsAt w S ch us) : ZsAt w' S' ch us :=
 ⟨h.1, fun j hj => by
  obtain ⟨u, h1, h2⟩ := h.2 j hj;exact ⟨u, h1, h2.keep hk hS⟩⟩
theorem ChAt.keep {w w' : World} {R S R' S' : Nat → Prop} (hr : Keep R w w') (hR : ∀ k, R k → R' k) (hk : Keep S w w') (hS : ∀ k, S k → S' k) {v : Value} {ch : List (Option Mu.Val)} (h : ChAt w R S v ch) : ChAt w' R' S' v ch := by
 obtain ⟨us, h1, h2⟩ := h
 exact ⟨us, h1.keep hr hR, h2.keep hk hS⟩
theorem ChAt.at {w : World} {R S : Nat → Prop} {v : Value} {ch : List (Option Mu.Val)} (h : ChAt w R S v ch) {j : Nat} (hj : j < ch.length) : ∃ g c u, v = .slice (some ⟨g, 0, none⟩) ch.length c ∧ R g ∧ w.cell? ⟨g, j, none⟩ = some u ∧ ZAt w S ch[j] u := by
 obtain ⟨us, ⟨a, c, h1, h2⟩, h3, h4⟩ := h
 obtain ⟨u, h5, h6⟩ := h4 j hj
 obtain ⟨g, rfl, h7, h8⟩ := h2 (by omega)
 exact ⟨g, c, u, by rw [h1, h3], h7, h8 j u h5, h6⟩
theorem ChAt.form {w : World} {R S : Nat → Prop} {v : Value} {ch : List (Option Mu.Val)} (h : ChAt w R S v ch) : ∃ a c, v = .slice a ch.length c := by
 obtain ⟨us, ⟨a, c, h1, h2⟩, h3, h4⟩ := h
 exact ⟨a, c, by rw [h1, h3]⟩
theorem zeroStr (W : World) : (do pure (Value.tuple #[← zeroValue 9, .bool false]) : Sem Value).run Tryz.prog W = .ok (.tuple #[.string ⟨#[]⟩, .bool false]) W := by kernel_rfl
theorem isStr (W : World) (v : Value) : (Instr.typeAssert (.iface 9 v) 20 9 true).run Tryz.prog W = .ok (.tuple #[v, .bool true]) W := by kernel_rfl
theorem notStr (W : World) (u : TypeId) (v : Value) (h : u ≠ 9) : (Instr.typeAssert (.iface u v) 20 9 true).run Tryz.prog W = .ok (.tuple #[.string ⟨#[]⟩, .bool false]) W := by
 have e : (Instr.typeAssert (.iface u v) 20 9 true).run Tryz.prog W = (if u = 9 then (pure (Value.tuple #[v, .bool true]) : Sem Value) else (do pure (Value.tuple #[← zeroValue 9, .bool false]))).run Tryz.prog W := by kernel_rfl
 rw [e, if_neg h]
 exact zeroStr W
theorem zeroInt (W : World) : (do pure (Value.tuple #[← zeroValue 2, .bool false]) : Sem Value).run Tryz.prog W = .ok (.tuple #[.int .i64 0, .bool false]) W := by kernel_rfl
theorem isInt (W : World) (v : Value) : (Instr.typeAssert (.iface 2 v) 20 2 true).run Tryz.prog W = .ok (.tuple #[v, .bool true]) W := by kernel_rfl
theorem notInt (W : World) (u : TypeId) (v : Value) (h : u ≠ 2) : (Instr.typeAssert (.iface u v) 20 2 true).run Tryz.prog W = .ok (.tuple #[.int .i64 0, .bool false]) W := by
 have e : (Instr.typeAssert (.iface u v) 20 2 true).run Tryz.prog W = (if u = 2 then (pure (Value.tuple #[v, .bool true]) : Sem Value) else (do pure (Value.tuple #[← zeroValue 2, .bool false]))).run Tryz.prog W := by kernel_rfl
 rw [e, if_neg h]
 exact zeroInt W
theorem isBool (W : World) (v : Value) : (Instr.typeAssert (.iface 4 v) 20 4 true).run Tryz.prog W = .ok (.tuple #[v, .bool true]) W := by kernel_rfl
theorem zeroList (W : World) : (do pure (Value.tuple #[← zeroValue 66, .bool false]) : Sem Value).run Tryz.prog W = .ok (.tuple #[.slice none 0 0, .bool false]) W := by kernel_rfl
theorem isList (W : World) (v : Value) : (Instr.typeAssert (.iface 66 v) 20 66 true).run Tryz.prog W = .ok (.tuple #[v, .bool true]) W := by kernel_rfl
theorem notList (W : World) (u : TypeId) (v : Value) (h : u ≠ 66) : (Instr.typeAssert (.iface u v) 20 66 true).run Tryz.prog W = .ok (.tuple #[.slice none 0 0, .bool false]) W := by
 have e : (Instr.typeAssert (.iface u v) 20 66 true).run Tryz.prog W = (if u = 66 then (pure (Value.tuple #[v, .bool true]) : Sem Value) else (do pure (Value.tuple #[← zeroValue 66, .bool false]))).run Tryz.prog W := by kernel_rfl
 rw [e, if_neg h]
 exact zeroList W
theorem zeroMap (W : World) : (do pure (Value.tuple #[← zeroValue 78, .bool false]) : Sem Value).run Tryz.prog W = .ok (.tuple #[.map none, .bool false]) W := by kernel_rfl
theorem isMap (W : World) (v : Value) : (Instr.typeAssert (.iface 78 v) 20 78 true).run Tryz.prog W = .ok (.tuple #[v, .bool true]) W := by kernel_rfl
theorem notMap (W : World) (u : TypeId) (v : Value) (h : u ≠ 78) : (Instr.typeAssert (.iface u v) 20 78 true).run Tryz.prog W = .ok (.tuple #[.map none, .bool false]) W := by
 have e : (Instr.typeAssert (.iface u v) 20 78 true).run Tryz.prog W = (if u = 78 then (pure (Value.tuple #[v, .bool true]) : Sem Value) else (do pure (Value.tuple #[← zeroValue 78, .bool false]))).run Tryz.prog W := by kernel_rfl
 rw [e, if_neg h]
 exact zeroMap W
theorem nilMap (W : World) : (Instr.typeAssert .nilIface 20 78 true).run Tryz.prog W = .ok (.tuple #[.map none, .bool false]) W := by kernel_rfl
theorem zeroText (W : World) : (do pure (Value.tuple #[← zeroValue 154, .bool false]) : Sem Value).run Tryz.prog W = .ok (.tuple #[.pointer none, .bool false]) W := by kernel_rfl
theorem isText (W : World) (v : Value) : (Instr.typeAssert (.iface 154 v) 20 154 true).run Tryz.prog W = .ok (.tuple #[v, .bool true]) W := by kernel_rfl
theorem notText (W : World) (u : TypeId) (v : Value) (h : u ≠ 154) : (Instr.typeAssert (.iface u v) 20 154 true).run Tryz.prog W = .ok (.tuple #[.pointer none, .bool false]) W := by
 have e : (Instr.typeAssert (.iface u v) 20 154 true).run Tryz.prog W = (if u = 154 then (pure (Value.tuple #[v, .bool true]) : Sem Value) else (do pure (Value.tuple #[← zeroValue 154, .bool false]))).run Tryz.prog W := by kernel_rfl
 rw [e, if_neg h]
 exact zeroText W
theorem zeroVar (W : World) : (do pure (Value.tuple #[← zeroValue 173, .bool false]) : Sem Value).run Tryz.prog W = .ok (.tuple #[.pointer none, .bool false]) W := by kernel_rfl
theorem isVar (W : World) (v : Value) : (Instr.typeAssert (.iface 173 v) 20 173 true).run Tryz.prog W = .ok (.tuple #[v, .bool true]) W := by kernel_rfl
theorem notVar (W : World) (u : TypeId) (v : Value) (h : u ≠ 173) : (Instr.typeAssert (.iface u v) 20 173 true).run Tryz.prog W = .ok (.tuple #[.pointer none, .bool false]) W := by
 have e : (Instr.typeAssert (.iface u v) 20 173 true).run Tryz.prog W = (if u = 173 then (pure (Value.tuple #[v, .bool true]) : Sem Value) else (do pure (Value.tuple #[← zeroValue 173, .bool false]))).run Tryz.prog W := by kernel_rfl
 rw [e, if_neg h]
 exact zeroVar W
theorem zeroSect (W : World) : (do pure (Value.tuple #[← zeroValue 165, .bool false]) : Sem Value).run Tryz.prog W = .ok (.tuple #[.pointer none, .bool false]) W := by kernel_rfl
theorem isSect (W : World) (v : Value) : (Instr.typeAssert (.iface 165 v) 20 165 true).run Tryz.prog W = .ok (.tuple #[v, .bool true]) W := by kernel_rfl
theorem notSect (W : World) (u : TypeId) (v : Value) (h : u ≠ 165) : (Instr.typeAssert (.iface u v) 20 165 true).run Tryz.prog W = .ok (.tuple #[.pointer none, .bool false]) W := by
 have e : (Instr.typeAssert (.iface u v) 20 165 true).run Tryz.prog W = (if u = 165 then (pure (Value.tuple #[v, .bool true]) : Sem Value) else (do pure (Value.tuple #[← zeroValue 165, .bool false]))).run Tryz.prog W := by kernel_rfl
 rw [e, if_neg h]
 exact zeroSect W
theorem isPart (W : World) (v : Value) : (Instr.typeAssert (.iface 170 v) 20 170 true).run Tryz.prog W = .ok (.tuple #[v, .bool true]) W := by kernel_rfl
theorem isZz (W : World) (v : Value) : (Instr.typeAssert (.iface 143 v) 20 143 false).run Tryz.prog W = .ok v W := by kernel_rfl
end Go.Proofs.YtfakghnpkdoclaaGreatDoor
namespace Go.Proofs.YtfakghnpkdoclaaGreatDoor
open Go.RowKit
def KsAt (w : World) (S : Nat → Prop) (kv : Value) (kbs : List ByteArray) : Prop :=
 ∃ a c, kv = .slice a kbs.length c ∧ kbs.length ≤ c ∧ (0 < kbs.length → ∃ g o, a = some ⟨g, o, none⟩ ∧ S g ∧ ∀ j (h : j < kbs.length), w.cell? ⟨g, o + j, none⟩ = some (.string kbs[j]))
def VsAt (w : World) (S : Nat → Prop) (lv : Value) (us : List Value) : Prop :=
 ∃ a c, lv = .slice a us.length c ∧ us.length ≤ c ∧ (0 < us.length → ∃ g o, a = some ⟨g, o, none⟩ ∧ S g ∧ ∀ j (h : j < us.length), ∃ x0 x1 x2 x3 x4 x5, us[j] = .agg #[x0, x1, x2, x3, x4, x5] ∧
  w.cell? ⟨g, o + j * 6, none⟩ = some x0 ∧ w.cell? ⟨g, o + j * 6 + 1, none⟩ = some x1 ∧ w.cell? ⟨g, o + j * 6 + 2, none⟩ = some x2 ∧ w.cell? ⟨g, o + j * 6 + 3, none⟩ = some x3 ∧ w.cell? ⟨g, o + j * 6 + 4, none⟩ = some x4 ∧ w.cell? ⟨g, o + j * 6 + 5, none⟩ = some x5)
mutual
def DAt (w : World) (S : Nat → Prop) : Mu.Val → Value → Prop
 | .mk k t n b ks l, u => ∃ tb kv lv kbs us, u = .agg #[.int .i64 k, .string tb, .int .i64 n, .bool b, kv, lv] ∧ L tb = t ∧ KsAt w S kv kbs ∧ kbs.map L = ks ∧ VsAt w S lv us ∧ DsAt w S l us
def DsAt (w : World) (S : Nat → Prop) : List Mu.Val → List Value → Prop
 | [], vs => vs = []
 | v :: l, vs => ∃ u us, vs = u :: us ∧ DAt w S v u ∧ DsAt w S l us
end
theorem cell_keep {w w' : World} {S : Nat → Prop} (hk : Keep S w w') {g o : Nat} {v : Value} (hS : S g) (h : w.cell? ⟨g, o, none⟩ = some v) : w'.cell? ⟨g, o, none⟩ = some v := (World.cell?_of_block (w := w) (a := ⟨g, o, none⟩) (hk _ hS)).trans h
theorem KsAt.keep {w w' : World} {S S' : Nat → Prop} {kv : Value} {kbs : List ByteArray} (h : KsAt w S kv kbs) (hk : Keep S w w') (hS : ∀ k, S k → S' k) : KsAt w' S' kv kbs := by
 obtain ⟨a, c, h1, h2, h3⟩ := h
 refine ⟨a, c, h1, h2, fun hp => ?_⟩
 obtain ⟨g, o, h4, h5, h6⟩ := h3 hp
 exact ⟨g, o, h4, hS _ h5, fun j hj => cell_keep hk h5 (h6 j hj)⟩
theorem VsAt.keep {w w' : World} {S S' : Nat → Prop} {lv : Value} {us : List Value} (h : VsAt w S lv us) (hk : Keep S w w') (hS : ∀ k, S k → S' k) : VsAt w' S' lv us := by
 obtain ⟨a, c, h1, h2, h3⟩ := h
 refine ⟨a, c, h1, h2, fun hp => ?_⟩
 obtain ⟨g, o, h4, h5, h6⟩ := h3 hp
 refine ⟨g, o, h4, hS _ h5, fun j hj => ?_⟩
 obtain ⟨x0, x1, x2, x3, x4, x5, e, c0, c1, c2, c3, c4, c5⟩ := h6 j hj
 exact ⟨x0, x1, x2, x3, x4, x5, e, cell_keep hk h5 c0, cell_keep hk h5 c1, cell_keep hk h5 c2, cell_keep hk h5 c3, cell_keep hk h5 c4, cell_keep hk h5 c5⟩
mutual
theorem DAt.keep {w w' : World} {S S' : Nat → Prop} (hk : Keep S w w') (hS : ∀ k, S k → S' k) : ∀ (v : Mu.Val) (u : Value), DAt w S v u → DAt w' S' v u
 | .mk k t n b ks l, u, h => by
  unfold DAt at h ⊢;obtain ⟨tb, kv, lv, kbs, us, h1, h2, h3, h4, h5, h6⟩ := h;exact ⟨tb, kv, lv, kbs, us, h1, h2, h3.keep hk hS, h4, h5.keep hk hS, DsAt.keep hk hS l us h6⟩
theorem DsAt.keep {w w' : World} {S S' : Nat → Prop} (hk : Keep S w w') (hS : ∀ k, S k → S' k) : ∀ (l : List Mu.Val) (us : List Value), DsAt w S l us → DsAt w' S' l us
 | [], us, h => by unfold DsAt at h ⊢; exact h
 | v :: l, us, h => by
  unfold DsAt at h ⊢;obtain ⟨u, us', h1, h2, h3⟩ := h;exact ⟨u, us', h1, DAt.keep hk hS v u h2, DsAt.keep hk hS l us' h3⟩
end
theorem DsAt.length {w : World} {S : Nat → Prop} : ∀ {l : List Mu.Val} {us : List Value}, DsAt w S l us → us.length = l.length
 | [], us, h => by unfold DsAt at h; subst h; rfl
 | v :: l, us, h => by
  unfold DsAt at h;obtain ⟨u, us', rfl, h2, h3⟩ := h;simp [DsAt.length h3]
theorem DsAt.at {w : World} {S : Nat → Prop} : ∀ {l : List Mu.Val} {us : List Value}, DsAt w S l us → ∀ j (h : j < l.length) (h' : j < us.length), DAt w S l[j] us[j]
 | [], us, h, j, hj, _ => absurd hj (by simp)
 | v :: l, us, h, j, hj, hj' => by
  unfold DsAt at h;obtain ⟨u, us', rfl, h2, h3⟩ := h
  cases j with
  | zero => exact h2
  | succ j => exact h3.at j (by simpa using hj) (by simpa using hj')
structure Gath (w0 w : World) (v : Value) (l : List Mu.Val) (outs : List Value) : Prop where
 own : w.ownsRow w0.heap.size 20 1 v outs.length outs
 fr : F0 w0 w
 cs : ∃ S, CsAt w S l outs ∧ ∀ k, S k → (w0.heap.size ≤ k ∧ k < w.heap.size) ∧ v.ownBlock ≠ some k
theorem Gath.add {w0 w w2 w4 : World} {v v' u : Value} {l : List Mu.Val} {outs : List Value} {x : Mu.Val} {S2 : Nat → Prop} (h : Gath w0 w v l outs) (hf : F0 w w2) (hc : CAt w2 S2 x u) (h2 : ∀ k, S2 k → w.heap.size ≤ k ∧ k < w2.heap.size) {O : Obj}
 (ho : w4.ownsRow w0.heap.size 20 1 v' (outs.length + 1) (outs ++ [u])) (hg : (w2.alloc O).grownBy w4 v.ownBlock) {n : Nat} (hn : n = w2.heap.size + 1) (hb : v'.ownBlock = v.ownBlock ∨ v'.ownBlock = some n) : Gath w0 w4 v' (l ++ [x]) (outs ++ [u]) := by
 obtain ⟨S, c1, c2⟩ := h.cs
 have hs0 := h.fr.size
 have hs := hf.size
 have hg1 := hg.size
 simp at hg1
 have hkp : ∀ k, k < w2.heap.size → v.ownBlock ≠ some k → w4.heap[k]? = w2.heap[k]? := fun k hk hne => (hg.block k (by simp; omega) (fun e => hne e.symm)).trans (Below.heap_alloc w2 O k hk)
 have hv : ∀ k, v.ownBlock = some k → k < w.heap.size := fun k hk => (h.own.lt k hk).2
 refine ⟨by rw [List.length_append]; exact ho, grown_f0 ((h.fr.trans hf).allocA O) hg (own_base h.own), fun k => S k ∨ S2 k, ?_, ?_⟩
 · refine CsAt.snoc (CsAt.keep (w := w) (S := S) (fun k hk => ?_) (fun _ h => .inl h) _ _ c1) (CAt.keep (w := w2) (S := S2) (fun k hk => ?_) (fun _ h => .inr h) _ _ hc)
   · obtain ⟨a, b⟩ := c2 k hk
     exact (hkp k (by omega) b).trans (hf.block k a.2 id)
   · obtain ⟨a, b⟩ := h2 k hk
     exact hkp k b (fun e => by have := hv k e; omega)
 · rintro k (hk | hk)
   · obtain ⟨a, b⟩ := c2 k hk
     refine ⟨⟨a.1, by omega⟩, fun e => ?_⟩
     rcases hb with hb | hb
     · exact b (hb ▸ e)
     · rw [hb] at e
       injection e with e;omega
   · obtain ⟨a, b⟩ := h2 k hk
     refine ⟨⟨by omega, by omega⟩, fun e => ?_⟩
     rcases hb with hb | hb
     · have := hv k (hb ▸ e); omega
     · rw [hb] at e
       injection e with e;omega
theorem run_update_new {w : World} {r : Nat} {es : Array MapEntry} {clock : Nat} {ks : List Mu.B} {vs : List Value} (hb : w.heap[r]? = some (.map es clock)) (he : EntsAre es ks vs) (kb : ByteArray) (u : Value) (hn : L kb ∉ ks) :
 (Instr.mapUpdate 78 (.map (some r)) (.string kb) u).run Tryz.prog w = .ok () { w with heap := w.heap.setIfInBounds r (.map (es.push { key := .string kb, val := u, born := clock }) (clock + 1)) } := by
 obtain ⟨kbs, h1, h2, h3⟩ := he
 obtain ⟨x, h4, h5⟩ := find_ents (kb := kb) es.toList kbs 0 h1
 have hg : Mu.getKV (kbs.map L) (es.toList.map MapEntry.val) (L kb) = none := by
  rw [h2];clear h1 h2 h3 h4 h5 hb;generalize es.toList.map MapEntry.val = vs
  induction ks generalizing vs with
  | nil => simp [Mu.getKV]
  | cons k ks ih =>
   cases vs with
   | nil => simp [Mu.getKV]
   | cons v vs =>
    simp only [Mu.getKV];rw [if_neg (fun e => hn (by rw [e]; simp))];exact ih (fun h => hn (List.mem_cons_of_mem _ h)) vs
 rw [hg] at h5
 have hx : x = none := by
  cases x with
  | none => rfl
  | some y => simp at h5
 subst hx
 have hc := MapKept.run_checkKey (P := Tryz.prog) (w := w) (k := .string kb) Tryz.underlying9 trivial false 9999
 have hf := MapKept.run_findKey (P := Tryz.prog) (w := w) (k := .string kb) Tryz.underlying9 h4
 have hs := MapKept.run_setObj_map (P := Tryz.prog) (.map (es.push { key := .string kb, val := u, born := clock }) (clock + 1)) hb
 simp [Instr.mapUpdate, run_underlying Tryz.underlying78, MapKept.run_getObj_map hb, hc, hf, hs, Result.andThen]
theorem EntsAre.push {es : Array MapEntry} {ks : List Mu.B} {vs : List Value} (h : EntsAre es ks vs) (kb : ByteArray) (u : Value) (c : Nat) : EntsAre (es.push { key := .string kb, val := u, born := c }) (ks ++ [L kb]) (vs ++ [u]) := by
 obtain ⟨kbs, h1, h2, h3⟩ := h
 exact ⟨kbs ++ [kb], by simp [h1], by simp [h2], by simp [h3]⟩
end Go.Proofs.YtfakghnpkdoclaaGreatDoor
namespace Go.Proofs.YtfakghnpkdoclaaGreatDoor
open Go.RowKit
open Go.Lib (hid)
theorem zzFits2_any (a b : ByteArray) (w : World) : Calls Tryz.prog 38 #[.agg #[.string a, .string b]] w (fun e w' => ∃ r : Bool, e = .returned (.bool r) ∧ F0 w w' ∧ (r = true → a.size ≤ 2147483647 ∧ b.size ≤ 2147483647)) := by
 go_enter Tryz.func38, Tryz.ntmps38
 by_cases h1 : a.size ≤ 2147483647
 · have h1' : decide ((2147483647 : Int) < (a.size : Int)) = false := by simp; omega
   by_cases h2 : b.size ≤ 2147483647
   · have h2' : decide ((2147483647 : Int) < (b.size : Int)) = false := by simp; omega
     go_wp2_with fail;go_ret
     exact ⟨true, rfl, Fr.alloc _ _ _, fun _ => ⟨h1, h2⟩⟩
   · have h2' : decide ((2147483647 : Int) < (b.size : Int)) = true := by simp; omega
     go_wp2_with fail;go_ret
     exact ⟨false, rfl, Fr.alloc _ _ _, fun h => (by cases h)⟩
 · have h1' : decide ((2147483647 : Int) < (a.size : Int)) = true := by simp; omega
   go_wp2_with fail;go_ret
   exact ⟨false, rfl, Fr.alloc _ _ _, fun h => (by cases h)⟩
theorem zzFits1_any (pv : Value) (ps : List (ByteArray × ByteArray)) (w : World) (hps : PsAt w pv ps) : Calls Tryz.prog 21 #[pv] w (fun e w' => ∃ r : Bool, e = .returned (.bool r) ∧ F0 w w' ∧ (r = true → ps.length ≤ 2147483647 ∧ ∀ p ∈ ps, p.1.size ≤ 2147483647 ∧ p.2.size ≤ 2147483647)) := by
 obtain ⟨pa, pc, rfl⟩ : ∃ pa pc, pv = .slice pa ps.length pc := by
  obtain ⟨a, c, h1, -⟩ := hps;exact ⟨a, c, h1⟩
 have HPS := hid hps
 clear hps
 go_enter Tryz.func21, Tryz.ntmps21
 by_cases hl : ps.length ≤ 2147483647
 · have hl' : decide ((2147483647 : Int) < (ps.length : Int)) = false := by simp; omega
   go_wp2_with fail
   go_loopg [10] ps.length (fun g v wr => ∃ k : Nat, v = .int .i64 k ∧ k ≤ ps.length ∧ g = ps.length - k ∧ Hid (F0 w wr ∧ ∀ j (h : j < ps.length), j < k → ps[j].1.size ≤ 2147483647 ∧ ps[j].2.size ≤ 2147483647))
   case atStart => exact ⟨0, rfl, Nat.zero_le _, rfl, hid ⟨Fr.refl _ _, fun j _ h => absurd h (Nat.not_lt_zero _)⟩⟩
   case round =>
    obtain ⟨k, rfl, hk, rfl, HJ⟩ := hrel
    by_cases hlt : k < ps.length
    · obtain ⟨pb, po, pn, pt, rfl, hpe, c0, c1, hpb⟩ := (HPS.out.f0 HJ.out.1).at hlt
      have HE := hid hpe;clear hpe;go_wp2_with fail;refine (zzFits2_any pn pt _).mono ?_;rintro e w2 ⟨r, rfl, hf, hr⟩;have HX : Hid (F0 w w2 ∧ (r = true → pn.size ≤ 2147483647 ∧ pt.size ≤ 2147483647)) := hid ⟨(HJ.out.1.allocA _).trans hf, hr⟩;clear hf hr
      cases r with
      | false =>
       go_wp2_with fail;go_ret
       exact ⟨false, rfl, HX.out.1, fun h => (by cases h)⟩
      | true =>
       go_wp2_with fail
       go_roundg (ps.length - (k + 1))
       case rel => exact ⟨k + 1, by go_num, by omega, rfl, hid ⟨HX.out.1, fun j hj hjk => by
        rcases Nat.lt_or_ge j k with h | h
        · exact HJ.out.2 j hj h
        · obtain rfl : j = k := by omega
          have h2 := HE.out;have h3 := HX.out.2 (by first | rfl | trivial);rw [h2]; exact h3⟩⟩
       case measure => omega
    · go_wp2_with fail
      go_ret
      exact ⟨true, rfl, HJ.out.1, fun _ => ⟨hl, fun p hp => by
       obtain ⟨j, hj, rfl⟩ := List.mem_iff_getElem.1 hp;exact HJ.out.2 j hj (by omega)⟩⟩
 · have hl' : decide ((2147483647 : Int) < (ps.length : Int)) = true := by simp; omega
   go_wp2_with fail;go_ret
   exact ⟨false, rfl, Fr.refl _ _, fun h => (by cases h)⟩
theorem zzFits4_any (kv : Value) (kbs : List ByteArray) (w : World) (S : Nat → Prop) (hks : KsAt w S kv kbs) : Calls Tryz.prog 30 #[kv] w (fun e w' => ∃ r : Bool, e = .returned (.bool r) ∧ F0 w w') := by
 obtain ⟨a, c, rfl, hle, hat⟩ := hks
 go_enter Tryz.func30, Tryz.ntmps30
 by_cases hl : kbs.length ≤ 2147483647
 · have hl' : decide ((2147483647 : Int) < (kbs.length : Int)) = false := by simp; omega
   have HAT := hid hat;clear hat;go_wp2_with fail
   go_loopg [10] kbs.length (fun g v wr => ∃ k : Nat, v = .int .i64 k ∧ k ≤ kbs.length ∧ g = kbs.length - k ∧ w = wr)
   case atStart => exact ⟨0, rfl, Nat.zero_le _, rfl, rfl⟩
   case round =>
    obtain ⟨k, rfl, hk, rfl, rfl⟩ := hrel
    by_cases hlt : k < kbs.length
    · obtain ⟨g, o, rfl, -, hc⟩ := HAT.out (by omega)
      have c0 := hc k hlt;clear hc
      cases hz : decide ((2147483647 : Int) < (kbs[k].size : Int)) with
      | true =>
       go_wp2_with fail;go_ret
       exact ⟨false, rfl, Fr.refl _ _⟩
      | false =>
       go_wp2_with fail
       go_roundg (kbs.length - (k + 1))
       case rel => exact ⟨k + 1, by go_num, by omega, rfl, rfl⟩
       case measure => omega
    · go_wp2_with fail
      go_ret;exact ⟨true, rfl, Fr.refl _ _⟩
 · have hl' : decide ((2147483647 : Int) < (kbs.length : Int)) = true := by simp; omega
   go_wp2_with fail;go_ret
   exact ⟨false, rfl, Fr.refl _ _⟩
theorem zzFits3_any (x : Mu.Val) (u : Value) (w : World) (S : Nat → Prop) (hd : DAt w S x u) : Calls Tryz.prog 14 #[u] w (fun e w' => ∃ r : Bool, e = .returned (.bool r) ∧ Hid (F0 w w')) := by
 obtain ⟨k, t, n, b, ks, l⟩ := x
 unfold DAt at hd
 obtain ⟨tb, kv, lv, kbs, us, rfl, ht, hks, -, hvs, -⟩ := hd
 have HK : Hid (∀ w', F0 w w' → Calls Tryz.prog 30 #[kv] w' (fun e w2 => ∃ r : Bool, e = .returned (.bool r) ∧ F0 w' w2)) := hid (fun w' hf => by
  obtain ⟨a, c, rfl, h1, h2⟩ := hks
  exact zzFits4_any _ kbs w' S ⟨a, c, rfl, h1, fun h0 => by
   obtain ⟨g, o, h3, h4, h5⟩ := h2 h0;exact ⟨g, o, h3, h4, fun j hj => F0.cell hf (h5 j hj)⟩⟩)
 obtain ⟨ka, kc, rfl, -⟩ := id hks
 obtain ⟨la, lc, rfl, -⟩ := id hvs
 clear hks hvs ht
 go_enter Tryz.func14, Tryz.ntmps14
 cases h1 : decide ((2147483647 : Int) < (tb.size : Int)) with
 | true =>
  go_wp2_with fail;go_ret
  exact ⟨false, rfl, hid (Fr.alloc _ _ _)⟩
 | false =>
  go_wp2_with fail;refine (HK.out _ (Fr.alloc _ _ _)).mono ?_
  rintro e w1 ⟨r, rfl, hf⟩;have hnb := hf.blk (blk_new w (.cells #[.int .i64 k, .string tb, .int .i64 n, .bool b, .slice ka kbs.length kc, .slice la us.length lc] 25)) id;have p5 := blk_cell hnb 5;simp only [List.getElem?_toArray, List.getElem?_cons_zero, List.getElem?_cons_succ] at p5;have HF := hid ((Fr.alloc _ _ _).trans hf : F0 w w1);clear hnb hf
  cases r with
  | false =>
   go_wp2_with fail;go_ret
   exact ⟨false, rfl, HF⟩
  | true =>
   cases h2 : decide ((2147483647 : Int) < (us.length : Int)) with
   | true =>
    go_wp2_with fail;go_ret
    exact ⟨false, rfl, HF⟩
   | false =>
    go_wp2_with fail;go_ret
    exact ⟨true, rfl, HF⟩
end Go.Proofs.YtfakghnpkdoclaaGreatDoor
