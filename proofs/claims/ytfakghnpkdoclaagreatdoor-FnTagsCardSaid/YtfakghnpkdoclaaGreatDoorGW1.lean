/-
  The package's writes of texts and variables. (Joined by wip/pack.py.)
-/
import Derived.Test.YtfakghnpkdoclaaGreatDoorGX4
import Derived.Test.YtfakghnpkdoclaaGreatDoorGP2
import Derived.Laws.EntriesVeiled
import Derived.Test.YtfakghnpkdoclaaGreatDoorGC2
import Derived.Deep.RegionWith
import Derived.Deep.RegionHeld3
set_option linter.unusedVariables false
set_option linter.unusedSimpArgs false
set_option maxRecDepth 100000
set_option maxHeartbeats 8000000
namespace Go.Proofs.YtfakghnpkdoclaaGreatDoor
open Go.RowKit
open Go.Lib (hid)
def tm0 (s : ByteArray) (raw : Bool) (g : Nat) (pv : Value) : Tm := ⟨s, ⟨#[123, 123]⟩, ⟨#[125, 125]⟩, 0, 1, .slice (some ⟨g, 0, none⟩) 0 0, raw, pv, .func (Fn.func 69) #[] #[], true⟩
theorem tm0_pos (s : ByteArray) (raw : Bool) (g : Nat) (pv : Value) : (tm0 s raw g pv).p ≤ (tm0 s raw g pv).s.size ∧ (0 < (tm0 s raw g pv).o.size ∧ (tm0 s raw g pv).o.size ≤ 1000) ∧ 0 < (tm0 s raw g pv).c.size ∧ (tm0 s raw g pv).c.size ≤ 1000 := by
 have h1 : (⟨#[123, 123]⟩ : ByteArray).size = 2 := rfl
 have h2 : (⟨#[125, 125]⟩ : ByteArray).size = 2 := rfl
 show 0 ≤ s.size ∧ (0 < (⟨#[123, 123]⟩ : ByteArray).size ∧ (⟨#[123, 123]⟩ : ByteArray).size ≤ 1000) ∧ 0 < (⟨#[125, 125]⟩ : ByteArray).size ∧ (⟨#[125, 125]⟩ : ByteArray).size ≤ 1000
 rw [h1, h2]; omega
theorem top_start {w : World} {t g : Nat} {x : Tm} (ht : TmAt w t x) (hel : x.el = .slice (some ⟨g, 0, none⟩) 0 0) (hg : w.heap[g]? = some (.cells #[] 20 (0, 0))) (hgt : g ≠ t) : TopMid w w.heap.size t x w x [] := by
 refine ⟨⟨ht, Nat.le_refl _, ?_⟩, Fr.refl _ _, ⟨rfl, rfl, rfl, rfl, rfl⟩, .inl rfl⟩
 rw [hel]
 refine got_nil _ _ _ _ ⟨rfl, .inr ⟨g, 0, #[], rfl, Nat.zero_le _, hg, Nat.le_refl _, Nat.zero_le _, rfl, rfl⟩⟩ ?_
 intro k hk
 have : g = k := by simpa [Value.ownBlock] using hk
 subst this
 exact hgt
def TplAt (w : World) (lo t : Nat) (raw : Bool) (pv : Value) (es : List Mu.Elem) : Prop :=
 ∃ (x : Tm) (S : Nat → Prop) (vs : List Value), TmAt w t x ∧ x.raw = raw ∧ x.prov = pv ∧ x.esc = .func (Fn.func 69) #[] #[] ∧ x.am = true ∧ RowAt w S x.el vs ∧ EsAt w S pv es vs ∧ (∀ k, S k → (lo ≤ k ∧ k < w.heap.size) ∧ k ≠ t) ∧ lo ≤ t
def PsrPost (w : World) (raw : Bool) (pv : Value) (R : Option (List Mu.Elem × Mu.ISt)) (e : Ending) (w' : World) : Prop :=
 match R with
 | none => (∃ T v, e = .returned (.tuple #[.pointer none, .iface T v])) ∧ F0 w w'
 | some (es, _) => ∃ t, e = .returned (.tuple #[.pointer (some ⟨t, 0, none⟩), .nilIface]) ∧ F0 w w' ∧ TplAt w' w.heap.size t raw pv es
theorem psr_any (B : Nat) (eb : Addr) (n : Nat) (s : ByteArray) (raw : Bool) (T : TypeId) (pp : Value) (w : World) (R : Option (List Mu.Elem × Mu.ISt)) (hs : s.size ≤ 2147483647) (ha : ∀ c ∈ L s, c.toNat < 128) (hr : ∀ c ∈ L s, c ≠ 13) (hg : Gl B eb w)
 (hR : Mu.iparse (L s) raw n 0 ⟨0, Mu.OB, Mu.CB⟩ none = some R) (hn : 4 * n ≤ 8589934600) :
 Calls Tryz.prog 39 #[.string s, .iface T pp, .bool raw] w (PsrPost w raw (.iface T pp) R) := by
 have hB := hg.size
 obtain ⟨W, hW⟩ : ∃ W : World, W = (w.alloc (.cells #[] 20)).alloc (.cells #[.string s, .string ⟨#[123, 123]⟩, .string ⟨#[125, 125]⟩, .int .i64 0, .int .i64 1, .slice (some ⟨w.heap.size, 0, none⟩) 0 0, .bool raw, .iface T pp, .func (Fn.func 69) #[] #[], .bool true] 118) := ⟨_, rfl⟩
 have ht : TmAt W (w.heap.size + 1) (tm0 s raw w.heap.size (.iface T pp)) := by
  rw [hW];have := blk_new (w.alloc (.cells #[] 20)) (.cells #[.string s, .string ⟨#[123, 123]⟩, .string ⟨#[125, 125]⟩, .int .i64 0, .int .i64 1, .slice (some ⟨w.heap.size, 0, none⟩) 0 0, .bool raw, .iface T pp, .func (Fn.func 69) #[] #[], .bool true] 118);simp only [World.size_alloc] at this;exact this
 have hgb : W.heap[w.heap.size]? = some (.cells #[] 20 (0, 0)) := by rw [hW]; exact blk_alloc _ (blk_new _ _)
 have hfr : F0 w W := by rw [hW]; exact (Fr.alloc _ _ _).allocA _
 have hWs : W.heap.size = w.heap.size + 2 := by rw [hW]; simp
 have hmid := top_start ht rfl hgb (by omega)
 have HINV : Hid (TopInv W W.heap.size (w.heap.size + 1) (tm0 s raw w.heap.size (.iface T pp)) R n W (tm0 s raw w.heap.size (.iface T pp)) []) := hid
  ⟨hmid, tm0_pos _ _ _ _, by simp; omega, by rw [Mu.pre_nil]; exact hR⟩
 have HGW := hid (hg.fr0 hfr)
 have HFR := hid hfr
 have HA := hid ha
 have HR := hid hr
 have HWW := hid hW
 have HWS := hid hWs
 clear ht hgb hfr hmid hR hg ha hr hWs
 go_enter Tryz.func39, Tryz.ntmps39
 clear hW
 go_wp2_with fail
 rw [← HWW.out]
 refine (parse_any B eb (w.heap.size + 1) (by omega) n (tm0 s raw w.heap.size (.iface T pp)) W R hs HA.out HR.out ⟨T, pp, rfl⟩ (fun k hk => by
  have : w.heap.size = k := by simpa [tm0, Value.ownBlock] using hk
  omega) HGW.out HINV.out).mono ?_
 intro e w2 hpost
 unfold TopPost at hpost
 cases R with
 | none =>
  obtain ⟨⟨T2, v2, rfl⟩, hf2⟩ := hpost
  have HF : Hid (F0 w w2) := hid (HFR.out.trans' hf2 (fun i hi hm => by
   rcases hm with h | h
   · omega
   · have : w.heap.size = i := by simpa [tm0, Value.ownBlock] using h
     omega))
  clear hf2;go_wp2_with fail
  go_ret2
  exact ⟨⟨_, _, rfl⟩, HF.out⟩
 | some z =>
  obtain ⟨es, st⟩ := z;obtain ⟨rfl, x, hm⟩ := hpost;have HM := hid hm;clear hm;go_wp2_with fail
  go_ret2
  obtain ⟨e1, e2, e3, e4, e5⟩ := HM.out.sx
  obtain ⟨S, vs, h1, h2, h3⟩ := (HM.out.st.got.mono_lo (lo' := w.heap.size) (by rw [HWS.out]; omega)).all (fun k hk => by
   rcases HM.out.ow with ho | ⟨j, hj, hlt⟩
   · rw [ho] at hk
     have : w.heap.size = k := by simpa [tm0, Value.ownBlock] using hk
     omega
   · rw [hj] at hk; injection hk with hk; have := HWS.out; omega)
  refine ⟨w.heap.size + 1, rfl, HFR.out.trans' HM.out.fr (fun i hi hmm => by
   rcases hmm with h | h
   · omega
   · have : w.heap.size = i := by simpa [tm0, Value.ownBlock] using h
     omega), x, S, vs, HM.out.st.tm, e2, e3, e4, e5, h1, ?_, h3, by omega⟩
  rw [e3] at h2;exact h2
end Go.Proofs.YtfakghnpkdoclaaGreatDoor
namespace Go.Proofs.YtfakghnpkdoclaaGreatDoor
open Go.RowKit
open Go.Lib (hid)
def Fits (ws : List Mu.B) : Prop := ws.length ≤ 20000 ∧ ws.flatten.length ≤ 65536
def WPost (At : World → (Nat → Prop) → List Mu.B → Prop) (own : Nat → Prop) (ws : List Mu.B) (t : Mu.B) (w : World) (e : Ending) (w' : World) : Prop :=
 ∃ own', e = .returned (.tuple #[.int .i64 t.length, .nilIface]) ∧ At w' own' (ws ++ [t]) ∧ Fr own w w' ∧ ∀ k, own' k → own k ∨ (w.heap.size ≤ k ∧ k < w'.heap.size)
structure Writer (T : TypeId) (b : Nat) (f : FuncId) (At : World → (Nat → Prop) → List Mu.B → Prop) : Prop where
 nila : ∀ w, (nilAhead 369 T (.pointer (some ⟨b, 0, none⟩)) "Write").run Tryz.prog w = .ok (some false) w
 meth : ∀ w, (method 369 T (.pointer (some ⟨b, 0, none⟩)) "Write").run Tryz.prog w = .ok (f, .pointer (some ⟨b, 0, none⟩)) w
 ent : ∀ args w, (callFunc f args).run Tryz.prog w = .ok (.enter f args) w
 write : ∀ (w : World) (own : Nat → Prop) (ws : List Mu.B) (S : Nat → Prop) (sv : Value) (t : Mu.B), At w own ws → BytesAt w S sv t → (∀ k, S k → k < w.heap.size ∧ ¬ own k) → Fits (ws ++ [t]) → Calls Tryz.prog f #[.pointer (some ⟨b, 0, none⟩), sv] w (WPost At own ws t w)
 lt : ∀ (w : World) (own : Nat → Prop) (ws : List Mu.B), At w own ws → ∀ k, own k → k < w.heap.size
 fr : ∀ (w w' : World) (M own : Nat → Prop) (ws : List Mu.B), At w own ws → Fr M w w' → (∀ k, own k → ¬ M k) → At w' own ws
structure En where
 T : TypeId
 b : Nat
 f : FuncId
 At : World → (Nat → Prop) → List Mu.B → Prop
 pb : Nat
 pv : Value
 ps : List (ByteArray × ByteArray)
 B : Nat
 eb : Addr
 am : Bool
 X : Nat
def En.prov (E : En) : Value := .iface 57 (.pointer (some ⟨E.pb, 0, none⟩))
structure En.Ok (E : En) : Prop where
 wr : Writer E.T E.b E.f E.At
 parts : ∀ p ∈ E.ps, p.1.size ≤ 4096 ∧ p.2.size ≤ 400 ∧ Mu.signs (L p.2)
 len : E.ps.length ≤ 2147483647
 xb : E.X ≤ 16777216
structure St (E : En) (w : World) (own : Nat → Prop) (ws : List Mu.B) (k : Nat) : Prop where
 wat : E.At w own ws
 prov : ProvAt w E.pb E.pv k
 ba : Ba E.B E.eb E.pv E.ps w
 ownB : ∀ j, own j → E.B ≤ j
 pbB : E.B ≤ E.pb
 pbo : ¬ own E.pb
def Mt (E : En) (own : Nat → Prop) : Nat → Prop := fun j => own j ∨ j = E.pb
def Off (E : En) (w : World) (own S : Nat → Prop) : Prop := ∀ k, S k → k < w.heap.size ∧ ¬ own k ∧ k ≠ E.pb
def Grew (own own' : Nat → Prop) (w w' : World) : Prop := ∀ j, own' j → own j ∨ (w.heap.size ≤ j ∧ j < w'.heap.size)
theorem Grew.refl (own : Nat → Prop) (w w' : World) : Grew own own w w' := fun j h => .inl h
theorem Grew.trans {o1 o2 o3 : Nat → Prop} {w1 w2 w3 : World} (h : Grew o1 o2 w1 w2) (k : Grew o2 o3 w2 w3) (h1 : w1.heap.size ≤ w2.heap.size) (h2 : w2.heap.size ≤ w3.heap.size) : Grew o1 o3 w1 w3 := fun j hj => by
 rcases k j hj with hj | hj
 · rcases h j hj with hj | hj
   · exact .inl hj
   · exact .inr ⟨hj.1, by omega⟩
 · exact .inr ⟨by omega, hj.2⟩
theorem Off.step {E : En} {w w' : World} {own own' S : Nat → Prop} (h : Off E w own S) (hs : w.heap.size ≤ w'.heap.size) (hg : Grew own own' w w') : Off E w' own' S := fun k hk => by
 obtain ⟨h1, h2, h3⟩ := h k hk
 refine ⟨by omega, fun h4 => ?_, h3⟩
 rcases hg k h4 with h5 | h5
 · exact h2 h5
 · omega
theorem Off.keep {E : En} {w w' : World} {own S : Nat → Prop} (h : Off E w own S) (hf : Fr (Mt E own) w w') : Keep S w w' := fun k hk => hf.block k (h k hk).1 (fun hm => by
 rcases hm with hm | hm
 · exact (h k hk).2.1 hm
 · exact (h k hk).2.2 hm)
theorem St.fr {E : En} {w w' : World} {own M : Nat → Prop} {ws : List Mu.B} {k : Nat} (hE : E.Ok) (h : St E w own ws k) (hf : Fr M w w') (h1 : ∀ j, M j → E.B ≤ j) (h2 : ∀ j, own j → ¬ M j) (h3 : ¬ M E.pb) : St E w' own ws k :=
 ⟨hE.wr.fr _ _ _ _ _ h.wat hf h2, hf.blk h.prov h3, h.ba.fr hf (fun k hk hm => by have := h1 k hm; omega), h.ownB, h.pbB, h.pbo⟩
theorem St.f0 {E : En} {w w' : World} {own : Nat → Prop} {ws : List Mu.B} {k : Nat} (hE : E.Ok) (h : St E w own ws k) (hf : F0 w w') : St E w' own ws k := h.fr hE hf (fun _ h => h.elim) (fun _ _ h => h) id
theorem St.write {E : En} {w w' : World} {own own' : Nat → Prop} {ws ws' : List Mu.B} {k : Nat} (h : St E w own ws k) (hat : E.At w' own' ws') (hf : Fr own w w') (hg : Grew own own' w w') : St E w' own' ws' k := by
 have hs := h.ba.size
 have hp := blk_lt h.prov
 refine ⟨hat, hf.blk h.prov h.pbo, h.ba.fr hf (fun j hj ho => by have := h.ownB j ho; omega), fun j hj => ?_, h.pbB, fun hj => ?_⟩
 · rcases hg j hj with hj | hj
   · exact h.ownB j hj
   · omega
 · rcases hg _ hj with hj | hj
   · exact h.pbo hj
   · omega
def RSt (E : En) (own : Nat → Prop) (ws wsr : List Mu.B) (kf : Nat) (w w' : World) : Prop := ∃ own', St E w' own' (ws ++ wsr) kf ∧ Grew own own' w w' ∧ Fr (Mt E own) w w'
def RPost (E : En) (own : Nat → Prop) (ws wsr : List Mu.B) (kf : Nat) (er : Bool) (w : World) (e : Ending) (w' : World) : Prop :=
 (if er = true then ∃ T v, e = .returned (.iface T v) else e = .returned .nilIface) ∧ RSt E own ws wsr kf w w'
theorem RPost.ok {E : En} {own : Nat → Prop} {ws wsr : List Mu.B} {kf : Nat} {w w' : World} (h : RSt E own ws wsr kf w w') : RPost E own ws wsr kf false w (.returned .nilIface) w' := ⟨by rw [if_neg Bool.false_ne_true], h⟩
theorem RPost.err {E : En} {own : Nat → Prop} {ws wsr : List Mu.B} {kf : Nat} {w w' : World} {T : TypeId} {v : Value} (h : RSt E own ws wsr kf w w') : RPost E own ws wsr kf true w (.returned (.iface T v)) w' := ⟨by rw [if_pos rfl]; exact ⟨_, _, rfl⟩, h⟩
theorem RSt.size {E : En} {own : Nat → Prop} {ws wsr : List Mu.B} {kf : Nat} {w w' : World} (h : RSt E own ws wsr kf w w') : w.heap.size ≤ w'.heap.size := by
 obtain ⟨own', h1, h2, h3⟩ := h
 exact h3.size
theorem RSt.none_ {E : En} {own : Nat → Prop} {ws : List Mu.B} {k : Nat} {w w' : World} (hE : E.Ok) (h : St E w own ws k) (hf : F0 w w') : RSt E own ws [] k w w' :=
 ⟨own, by rw [List.append_nil]; exact h.f0 hE hf, Grew.refl _ _ _, Fr.of0 hf⟩
structure TmOk (E : En) (x : Tm) : Prop where
 am : x.am = E.am
 prov : x.prov = E.prov
 esc : x.esc = .func (Fn.func 69) #[] #[]
structure Cx (E : En) (w : World) (own : Nat → Prop) (tb : Nat) (x : Tm) (R S : Nat → Prop) (cv : Value) (ch : List (Option Mu.Val)) : Prop where
 tm : TmAt w tb x
 tmo : TmOk E x
 cha : ChAt w R S cv ch
 vg : ∀ v, some v ∈ ch → Mu.VG E.X v
 ot : Off E w own (· = tb)
 oR : Off E w own R
 oS : Off E w own S
 ne : ch ≠ []
 len : ch.length ≤ 100000
theorem Cx.step {E : En} {w w' : World} {own own' : Nat → Prop} {tb : Nat} {x : Tm} {R S : Nat → Prop} {cv : Value} {ch : List (Option Mu.Val)} (h : Cx E w own tb x R S cv ch) (hf : Fr (Mt E own) w w') (hg : Grew own own' w w') : Cx E w' own' tb x R S cv ch :=
 ⟨(h.ot.keep hf tb rfl).trans h.tm, h.tmo, h.cha.keep (h.oR.keep hf) (fun _ h => h) (h.oS.keep hf) (fun _ h => h), h.vg, h.ot.step hf.size hg, h.oR.step hf.size hg, h.oS.step hf.size hg, h.ne, h.len⟩
theorem Cx.f0 {E : En} {w w' : World} {own : Nat → Prop} {tb : Nat} {x : Tm} {R S : Nat → Prop} {cv : Value} {ch : List (Option Mu.Val)} (h : Cx E w own tb x R S cv ch) (hf : F0 w w') : Cx E w' own tb x R S cv ch := h.step (Fr.of0 hf) (Grew.refl _ _ _)
theorem write_any (E : En) (hE : E.Ok) {w : World} {own S : Nat → Prop} {ws : List Mu.B} {k : Nat} {sv : Value} {t : Mu.B} (h : St E w own ws k) (ht : BytesAt w S sv t) (hS : ∀ k, S k → k < w.heap.size ∧ ¬ own k) (hft : Fits (ws ++ [t])) :
 Calls Tryz.prog E.f #[.pointer (some ⟨E.b, 0, none⟩), sv] w (fun e w' => e = .returned (.tuple #[.int .i64 t.length, .nilIface]) ∧ Hid (RSt E own ws [t] k w w')) := by
 refine (hE.wr.write w own ws S sv t h.wat ht hS hft).mono ?_
 rintro e w1 ⟨own', he, h1, h2, h3⟩
 exact ⟨he, hid ⟨own', h.write h1 h2 h3, h3, h2.mono (fun j _ hj => .inl hj)⟩⟩
theorem RSt.pre {E : En} {own : Nat → Prop} {ws wsr : List Mu.B} {k : Nat} {w w1 w' : World} (hf : F0 w w1) (h : RSt E own ws wsr k w1 w') : RSt E own ws wsr k w w' := by
 obtain ⟨own', h1, h2, h3⟩ := h
 exact ⟨own', h1, fun j hj => (h2 j hj).imp_right (fun h => ⟨by have := hf.size; omega, h.2⟩), (Fr.of0 hf).trans h3⟩
theorem el_text (E : En) (hE : E.Ok) (tp : Value) (u cv : Value) (t : Mu.B) (S own : Nat → Prop) (ws : List Mu.B) (k : Nat) (w : World)
 (hst : St E w own ws k) (hu : EAt w S E.prov (.text t) u) (hS : Off E w own S) (hft : Fits (ws ++ [t])) :
 Calls Tryz.prog 93 #[tp, u, cv, .iface E.T (.pointer (some ⟨E.b, 0, none⟩))] w (RPost E own ws [t] k false w) := by
 unfold EAt at hu
 obtain ⟨eb, sv, rfl, hSe, he, ht⟩ := hu
 obtain ⟨g, c, hsv, hg⟩ : ∃ g c, sv = .slice (some ⟨g, 0, none⟩) t.length c ∧ g < w.heap.size := by
  obtain ⟨g, c, h1, h2, -⟩ := ht;exact ⟨g, c, h1, (hS g h2).1⟩
 subst hsv
 have c0 := blk_cell he 0
 simp only [List.getElem?_toArray, List.getElem?_cons_zero] at c0
 have hn := hE.wr.nila
 have hm := hE.wr.meth
 have hent := hE.wr.ent
 have HC : Hid (∀ w', Sm w w' → Calls Tryz.prog E.f #[.pointer (some ⟨E.b, 0, none⟩), .slice (some ⟨g, 0, none⟩) t.length c] w' (fun e w1 => e = .returned (.tuple #[.int .i64 t.length, .nilIface]) ∧ Hid (RSt E own ws [t] k w w1))) := hid (fun w' hsm => by
  refine (write_any E hE (hst.f0 hE (hsm.fr _)) (ht.keep (fun k _ => by rw [hsm.heap]) (fun _ h => h)) (fun k hk => by rw [hsm.heap]; exact ⟨(hS k hk).1, (hS k hk).2.1⟩) hft).mono ?_;rintro e w1 ⟨he, h1⟩;exact ⟨he, hid (h1.out.pre (hsm.fr _))⟩)
 have a0 := fun (v : Value) (w : World) => isText w v
 clear hst ht hS hft he hSe
 go_enter Tryz.func93, Tryz.ntmps93
 go_wp2_with fail
 go_region_with (go_at_fn E.f; refine (HC.out w.drew ((Sm.refl w).drew)).mono ?_; rintro e w1 ⟨rfl, HI⟩)
 all_goals
  go_wp2_with fail;go_ret
  exact RPost.ok HI.out
end Go.Proofs.YtfakghnpkdoclaaGreatDoor
namespace Go.Proofs.YtfakghnpkdoclaaGreatDoor
open Go.RowKit
open Go.Lib (hid)
theorem bytes_new (w : World) (o : ByteArray) : BytesAt (Lib.bytesWorld w 5 o) (· = w.heap.size) (.slice (some ⟨w.heap.size, 0, none⟩) o.size (grownCap w o.size 0 5)) (L o) :=
 ⟨w.heap.size, _, rfl, rfl, grownCap_ge w o.size 0 5, fun j hj => Lib.bytesWorld_cell w 5 o j hj⟩
theorem lk_none (E : En) {w : World} {own R S2 : Nat → Prop} {tb : Nat} {x : Tm} {cv : Value} {ch : List (Option Mu.Val)} {ws : List Mu.B} {k : Nat} (hst : St E w own ws k) (hcx : Cx E w own tb x R S2 cv ch) {nb : ByteArray} (hn : Mu.nameOk (L nb) = true) (hs : nb.size ≤ 65536) (am : Bool) (hl : Mu.lookP ch (L nb) = none) (w' : World) (hf : F0 w w') :
 Calls Tryz.prog 102 #[cv, .string nb, .bool am] w' (fun e w1 => F0 w' w1 ∧ F0 w w1 ∧ if am = true then e = .returned (.tuple #[.agg #[.nilIface, .bool false], .nilIface]) else ∃ T v, e = .returned (.tuple #[.agg #[.nilIface, .bool false], .iface T v])) := by
 have hcx1 := hcx.f0 hf
 refine (lookup_any S2 R am nb ch cv w' hn hs (by have := hcx1.len; omega) hcx1.cha (fun k hk => (hcx1.oR k hk).1) (fun k hk => (hcx1.oS k hk).1) (fun _ => hst.ba.tabs.below hf.below)).mono ?_
 rintro e w1 ⟨hf1, he⟩
 rw [hl] at he
 exact ⟨hf1, hf.trans hf1, he⟩
theorem lk_some (E : En) {w : World} {own R S2 : Nat → Prop} {tb : Nat} {x : Tm} {cv : Value} {ch : List (Option Mu.Val)} {ws : List Mu.B} {k : Nat} (hst : St E w own ws k) (hcx : Cx E w own tb x R S2 cv ch) {nb : ByteArray} (hn : Mu.nameOk (L nb) = true) (hs : nb.size ≤ 65536) (am : Bool) {v : Mu.Val} (hl : Mu.lookP ch (L nb) = some v) (w' : World) (hf : F0 w w') :
 Calls Tryz.prog 102 #[cv, .string nb, .bool am] w' (fun e w1 => F0 w' w1 ∧ F0 w w1 ∧ ∃ y, e = .returned (.tuple #[.agg #[y, .bool true], .nilIface]) ∧ CAt w S2 v y) := by
 have hcx1 := hcx.f0 hf
 refine (lookup_any S2 R am nb ch cv w' hn hs (by have := hcx1.len; omega) hcx1.cha (fun k hk => (hcx1.oR k hk).1) (fun k hk => (hcx1.oS k hk).1) (fun _ => hst.ba.tabs.below hf.below)).mono ?_
 rintro e w1 ⟨hf1, he⟩
 rw [hl] at he
 obtain ⟨y, h1, h2⟩ := he
 exact ⟨hf1, hf.trans hf1, y, h1, CAt.keep (w := w') (fun k hk => (hf.block k (hcx.oS k hk).1 id).symm) (fun _ h => h) _ _ h2⟩
theorem CAt.iface {w : World} {S : Nat → Prop} {v : Mu.Val} {y : Value} (h : CAt w S v y) (ho : v.kind ≠ 0) : ∃ T z, y = .iface T z := by
 rcases h.form with rfl | h1
 · obtain ⟨k, t, n, b, ks, l⟩ := v
   unfold CAt at h
   rcases h with ⟨rfl, -⟩ | ⟨-, tb, h, -⟩ | ⟨-, h⟩ | ⟨-, h⟩ | ⟨-, sv, vs, h, -⟩ | ⟨-, r, es, clock, vs, h, -⟩
   · exact absurd rfl ho
   all_goals cases h
 · exact h1
theorem blk_two {w : World} {b : Nat} {x0 y0 : Value} {T : TypeId} (h : w.heap[b]? = some (.cells #[x0, y0] T (0, 0))) (x y : Value) : ((w.setCell ⟨b, 0, none⟩ x).setCell ⟨b, 1, none⟩ y).heap[b]? = some (.cells #[x, y] T (0, 0)) := by
 rw [blk_set y (blk_set x h)]; rfl
theorem esc_len (l : Mu.B) : l.length ≤ (Mu.esc l).length := by
 induction l with
 | nil => simp [Mu.esc]
 | cons c l ih =>
  have h1 : 1 ≤ (Mu.escB c).length := by
   unfold Mu.escB
   repeat' split
   all_goals simp
  simp only [Mu.esc, List.flatMap_cons, List.length_append, List.length_cons] at ih ⊢;omega
theorem fits_one {ws : List Mu.B} {t : Mu.B} (h : Fits (ws ++ [t])) : t.length ≤ 65536 := by
 have := h.2
 simp at this; omega
theorem el_var (E : En) (hE : E.Ok) (tb : Nat) (x : Tm) (u cv : Value) (nm : Mu.B) (raw : Bool) (S R S2 own : Nat → Prop) (ch : List (Option Mu.Val)) (ws wsr : List Mu.B) (k kf : Nat) (er : Bool) (w : World)
 (hst : St E w own ws k) (hcx : Cx E w own tb x R S2 cv ch) (hu : EAt w S E.prov (.var nm raw) u) (hS : Off E w own S) (hn : Mu.nameOk nm = true)
 (hr : Mu.rElem (pL E.ps) E.am (fun _ _ _ => none) ch (.var nm raw) k = some (wsr, kf, er)) (hft : Fits (ws ++ wsr)) :
 Calls Tryz.prog 93 #[.pointer (some ⟨tb, 0, none⟩), u, cv, .iface E.T (.pointer (some ⟨E.b, 0, none⟩))] w (RPost E own ws wsr kf er w) := by
 unfold EAt at hu
 obtain ⟨eb, nb, rfl, hSe, he, hnb⟩ := hu
 have c0 := blk_cell he 0
 have c1 := blk_cell he 1
 have hel := (hS eb hSe).1
 have htl := (hcx.ot tb rfl).1
 have ne1 : w.heap.size ≠ eb := by omega
 have ne2 : w.heap.size ≠ tb := by omega
 have ne3 : eb ≠ w.heap.size := by omega
 have ne4 : tb ≠ w.heap.size := by omega
 obtain ⟨-, -, -, -, -, -, -, -, t8, t9⟩ := hcx.tm.cells
 rw [hcx.tmo.esc] at t8
 rw [hcx.tmo.am] at t9
 simp only [List.getElem?_toArray, List.getElem?_cons_zero, List.getElem?_cons_succ] at c0 c1
 have hnsz : nb.size ≤ 26 := by
  rw [← L_length, hnb]; exact Mu.nameOk_len hn
 have a0 := fun (v : Value) (w : World) => notText w 173 v (by decide)
 have a1 := fun (v : Value) (w : World) => isVar w v
 have hn0 := hE.wr.nila
 have hm := hE.wr.meth
 have hent := hE.wr.ent
 have kc := fun (w : World) (s : ByteArray) => conv_bytes w s
 have HN : Hid (Mu.nameOk (L nb) = true) := hid (by rw [hnb]; exact hn)
 have HST := hid hst
 have HCX := hid hcx
 have HR := hid hr
 have HFT := hid hft
 have HNB := hid hnb
 have HEB := hid he
 have HSX := hid hS
 clear hst hcx hr hft hnb he hS hn hSe
 cases hl : Mu.lookP ch (L nb) with
 | none =>
  have HLK : Hid (∀ w', F0 w w' → _) := hid (lk_none E HST.out HCX.out HN.out (by omega) E.am hl);have hr' := HR.out;simp only [Mu.rElem, ← HNB.out, hl, Option.some.injEq, Prod.mk.injEq] at hr';obtain ⟨rfl, rfl, rfl⟩ := hr';clear hl HR
  cases ham : E.am with
  | true =>
   rw [ham] at HLK t9;go_enter Tryz.func93, Tryz.ntmps93
   go_upto_region 8 with fail
   go_cut [13, 14] (fun v13 v14 wr => ∃ vb : Nat, v13 = .pointer (some ⟨vb, 0, none⟩) ∧ v14 = .nilIface ∧ Hid (F0 w wr ∧ wr.heap[vb]? = some (.cells #[.nilIface, .bool false] 143 (0, 0))))
   case first =>
    go_region_held3 (fun w' => w'.cell? ⟨eb, 0, none⟩ = some (.string nb) ∧ w'.cell? ⟨tb, 9, none⟩ = some (.bool true)) (go_keep) (first | (go_at_call 102; refine (HLK.out _ (by repeat (first | exact Fr.refl _ _ | refine Fr.drewA ?_ | refine Fr.allocA ?_ _))).mono ?_; rintro e w1 ⟨hf1, hf2, he⟩; rw [if_pos rfl] at he; subst he; have s0 := F0.cell hf2 c0; have s1 := F0.cell hf2 t9; try (have hb1 : w1.heap[w.heap.size]? = some (.cells #[.nilIface, .bool false] 143 (0, 0)) := hf1.blk (blk_new w.drew _) id; have e0 := blk_cell hb1 0; have e1 := blk_cell hb1 1; have e2 := blk_free hb1 0; have e3 := blk_free hb1 1; have e4 := blk_lt hb1; simp only [List.getElem?_toArray, List.getElem?_cons_zero, List.getElem?_cons_succ] at e0 e1)))
    all_goals
     go_wp2_with fail
     go_meet
     case rel => first | exact ⟨_, rfl, rfl, hid ⟨Fr.allocA hf2 _, blk_new _ _⟩⟩ | exact ⟨_, rfl, rfl, hid ⟨res_fr hf2 (Nat.le_refl _) _ _, blk_two hb1 _ _⟩⟩
   obtain ⟨vb, rfl, rfl, HC⟩ := hcut;have d0 := blk_cell HC.out.2 0;have d1 := blk_cell HC.out.2 1;have dl := blk_lt HC.out.2;simp only [List.getElem?_toArray, List.getElem?_cons_zero, List.getElem?_cons_succ] at d0 d1;go_wp2_with fail;go_ret;exact RPost.ok (RSt.none_ hE HST.out HC.out.1)
  | false =>
   rw [ham] at HLK t9;go_enter Tryz.func93, Tryz.ntmps93
   go_upto_region 8 with fail
   go_region_held3 (fun w' => w'.cell? ⟨eb, 0, none⟩ = some (.string nb) ∧ w'.cell? ⟨tb, 9, none⟩ = some (.bool false)) (go_keep) (first | (go_at_call 102; refine (HLK.out _ (by repeat (first | exact Fr.refl _ _ | refine Fr.drewA ?_ | refine Fr.allocA ?_ _))).mono ?_; rintro e w1 ⟨hf1, hf2, he⟩; rw [if_neg Bool.false_ne_true] at he; obtain ⟨T9, v9, rfl⟩ := he; have s0 := F0.cell hf2 c0; have s1 := F0.cell hf2 t9; try (have hb1 : w1.heap[w.heap.size]? = some (.cells #[.nilIface, .bool false] 143 (0, 0)) := hf1.blk (blk_new w.drew _) id; have e0 := blk_cell hb1 0; have e1 := blk_cell hb1 1; have e2 := blk_free hb1 0; have e3 := blk_free hb1 1; have e4 := blk_lt hb1; simp only [List.getElem?_toArray, List.getElem?_cons_zero, List.getElem?_cons_succ] at e0 e1)))
   all_goals
    go_wp2_with fail;go_ret
    first | exact RPost.err (RSt.none_ hE HST.out (Fr.allocA hf2 _)) | exact RPost.err (RSt.none_ hE HST.out (res_fr hf2 (Nat.le_refl _) _ _))
 | some v =>
  have hr' := HR.out;have hvg := HCX.out.vg;have hv : Mu.VG E.X v := Mu.VG.lookP hvg hl;simp only [Mu.rElem, ← HNB.out, hl] at hr'
  cases hvo : Mu.varOpen (some v) with
  | true => rw [hvo] at hr'; cases hr'
  | false =>
   rw [hvo] at hr';simp only [Bool.false_eq_true, if_false, Option.some.injEq, Prod.mk.injEq] at hr';obtain ⟨rfl, rfl, rfl⟩ := hr'
   have hk0 : v.kind ≠ 0 := by
    unfold Mu.varOpen at hvo;simp only [Bool.or_eq_false_iff, beq_eq_false_iff_ne] at hvo;exact hvo.2
   have HLK : Hid (∀ w', F0 w w' → Calls Tryz.prog 102 #[cv, .string nb, .bool E.am] w' (fun e w1 => ∃ Ty z, e = .returned (.tuple #[.agg #[.iface Ty z, .bool true], .nilIface]) ∧ Hid (F0 w' w1 ∧ F0 w w1 ∧ CAt w S2 v (.iface Ty z)))) := hid (fun w' hf => by
    refine (lk_some E HST.out HCX.out HN.out (by omega) E.am hl w' hf).mono ?_;rintro e w1 ⟨h1, h2, y, h3, h4⟩;obtain ⟨Ty, z, rfl⟩ := h4.iface hk0;exact ⟨Ty, z, h3, hid ⟨h1, h2, h4⟩⟩)
   have HV := hid hv;have HVO := hid hvo;clear hl HR hvg hv hvo hk0
   cases raw with
   | true =>
    simp only [if_true] at HFT;go_enter Tryz.func93, Tryz.ntmps93
    go_upto_region 8 with fail
    go_cut [13, 14] (fun v13 v14 wr => ∃ (vb : Nat) (Ty : TypeId) (z : Value), v13 = .pointer (some ⟨vb, 0, none⟩) ∧ v14 = .nilIface ∧ Hid (F0 w wr ∧ wr.heap[vb]? = some (.cells #[.iface Ty z, .bool true] 143 (0, 0)) ∧ CAt w S2 v (.iface Ty z)))
    case first =>
     go_region_held3 (fun w' => w'.cell? ⟨eb, 0, none⟩ = some (.string nb) ∧ w'.cell? ⟨tb, 9, none⟩ = some (.bool E.am)) (go_keep) (first | (go_at_call 102; refine (HLK.out _ (by repeat (first | exact Fr.refl _ _ | refine Fr.drewA ?_ | refine Fr.allocA ?_ _))).mono ?_; rintro e w1 ⟨Ty, z, rfl, HX⟩; have hf1 := HX.out.1; have hf2 := HX.out.2.1; have s0 := F0.cell hf2 c0; have s1 := F0.cell hf2 t9; try (have hb1 : w1.heap[w.heap.size]? = some (.cells #[.nilIface, .bool false] 143 (0, 0)) := hf1.blk (blk_new w.drew _) id; have e0 := blk_cell hb1 0; have e1 := blk_cell hb1 1; have e2 := blk_free hb1 0; have e3 := blk_free hb1 1; have e4 := blk_lt hb1; simp only [List.getElem?_toArray, List.getElem?_cons_zero, List.getElem?_cons_succ] at e0 e1)))
     all_goals
      go_wp2_with fail
      go_meet
      case rel => first | exact ⟨_, Ty, z, rfl, rfl, hid ⟨Fr.allocA hf2 _, blk_new _ _, HX.out.2.2⟩⟩ | exact ⟨_, Ty, z, rfl, rfl, hid ⟨res_fr hf2 (Nat.le_refl _) _ _, blk_two hb1 _ _, HX.out.2.2⟩⟩
    obtain ⟨vb, Ty, z, rfl, rfl, HC⟩ := hcut;have d0 := blk_cell HC.out.2.1 0;have d1 := blk_cell HC.out.2.1 1;have dl := blk_lt HC.out.2.1;simp only [List.getElem?_toArray, List.getElem?_cons_zero, List.getElem?_cons_succ] at d0 d1;have k0 := F0.cell HC.out.1 c0;have k1 := F0.cell HC.out.1 c1;have k8 := F0.cell HC.out.1 t8
    have HSP : Hid (∀ w', F0 wc w' → Calls Tryz.prog 103 #[.iface Ty z] w' (fun e w1 => ∃ o : ByteArray, e = .returned (.string o) ∧ Hid (L o = Mu.shown v ∧ F0 wc w1))) := hid (fun w' hf => by
     refine (zzSprint_any E.X v (.iface Ty z) S2 w' HV.out HVO.out (HC.out.2.2.f0 (HC.out.1.trans hf) (fun k hk => (HCX.out.oS k hk).1)) (HST.out.ba.tabs.below (F0.below (HC.out.1.trans hf)))).mono ?_;rintro e w1 ⟨o, h1, h2, h3⟩;exact ⟨o, h1, hid ⟨h2, hf.trans h3⟩⟩)
    have HWR : Hid (∀ (w1 : World) (o : ByteArray), F0 wc w1 → L o = Mu.shown v → Calls Tryz.prog E.f #[.pointer (some ⟨E.b, 0, none⟩), .slice (some ⟨w1.heap.size, 0, none⟩) o.size (grownCap w1 o.size 0 5)] (Lib.bytesWorld w1 5 o) (fun e w2 => e = .returned (.tuple #[.int .i64 o.size, .nilIface]) ∧ Hid (RSt E own ws [Mu.shown v] k w w2))) := hid (fun w1 o hf ho => by
     have hbs := Lib.bytesWorld_size w1 5 o;have hff : F0 w (Lib.bytesWorld w1 5 o) := (HC.out.1.trans hf).trans (fr_bytes _ _ _);have hst1 := HST.out.f0 hE hff;have hlt := HST.out.wat;refine (write_any E hE hst1 (by rw [← ho]; exact bytes_new w1 o) (fun j hj => ⟨by omega, fun hj2 => by have h1 := hE.wr.lt _ _ _ HST.out.wat j hj2; have h2 := (HC.out.1.trans hf).size; omega⟩) HFT.out).mono ?_
     rintro e w2 ⟨he, h1⟩;exact ⟨by rw [he, ← ho]; rfl, hid (h1.out.pre hff)⟩)
    clear HLK HSX HEB;go_wp2_with fail
    go_region_with (first | (go_at_call 103; refine (HSP.out _ (by repeat (first | exact Fr.refl _ _ | refine Fr.drewA ?_ | refine Fr.allocA ?_ _))).mono ?_; rintro e w1 ⟨o, rfl, HO⟩) | (go_at_fn E.f; refine (HWR.out _ _ HO.out.2 HO.out.1).mono ?_; rintro e w2 ⟨rfl, HI⟩))
    all_goals
     go_wp2_with fail;go_ret
     exact RPost.ok HI.out
   | false =>
    simp only [Bool.false_eq_true, if_false] at HFT;go_enter Tryz.func93, Tryz.ntmps93
    go_upto_region 8 with fail
    go_cut [13, 14] (fun v13 v14 wr => ∃ (vb : Nat) (Ty : TypeId) (z : Value), v13 = .pointer (some ⟨vb, 0, none⟩) ∧ v14 = .nilIface ∧ Hid (F0 w wr ∧ wr.heap[vb]? = some (.cells #[.iface Ty z, .bool true] 143 (0, 0)) ∧ CAt w S2 v (.iface Ty z)))
    case first =>
     go_region_held3 (fun w' => w'.cell? ⟨eb, 0, none⟩ = some (.string nb) ∧ w'.cell? ⟨tb, 9, none⟩ = some (.bool E.am)) (go_keep) (first | (go_at_call 102; refine (HLK.out _ (by repeat (first | exact Fr.refl _ _ | refine Fr.drewA ?_ | refine Fr.allocA ?_ _))).mono ?_; rintro e w1 ⟨Ty, z, rfl, HX⟩; have hf1 := HX.out.1; have hf2 := HX.out.2.1; have s0 := F0.cell hf2 c0; have s1 := F0.cell hf2 t9; try (have hb1 : w1.heap[w.heap.size]? = some (.cells #[.nilIface, .bool false] 143 (0, 0)) := hf1.blk (blk_new w.drew _) id; have e0 := blk_cell hb1 0; have e1 := blk_cell hb1 1; have e2 := blk_free hb1 0; have e3 := blk_free hb1 1; have e4 := blk_lt hb1; simp only [List.getElem?_toArray, List.getElem?_cons_zero, List.getElem?_cons_succ] at e0 e1)))
     all_goals
      go_wp2_with fail
      go_meet
      case rel => first | exact ⟨_, Ty, z, rfl, rfl, hid ⟨Fr.allocA hf2 _, blk_new _ _, HX.out.2.2⟩⟩ | exact ⟨_, Ty, z, rfl, rfl, hid ⟨res_fr hf2 (Nat.le_refl _) _ _, blk_two hb1 _ _, HX.out.2.2⟩⟩
    obtain ⟨vb, Ty, z, rfl, rfl, HC⟩ := hcut;have d0 := blk_cell HC.out.2.1 0;have d1 := blk_cell HC.out.2.1 1;have dl := blk_lt HC.out.2.1;simp only [List.getElem?_toArray, List.getElem?_cons_zero, List.getElem?_cons_succ] at d0 d1;have k0 := F0.cell HC.out.1 c0;have k1 := F0.cell HC.out.1 c1;have k8 := F0.cell HC.out.1 t8
    have HSP : Hid (∀ w', F0 wc w' → Calls Tryz.prog 103 #[.iface Ty z] w' (fun e w1 => ∃ o : ByteArray, e = .returned (.string o) ∧ Hid (L o = Mu.shown v ∧ F0 wc w1))) := hid (fun w' hf => by
     refine (zzSprint_any E.X v (.iface Ty z) S2 w' HV.out HVO.out (HC.out.2.2.f0 (HC.out.1.trans hf) (fun k hk => (HCX.out.oS k hk).1)) (HST.out.ba.tabs.below (F0.below (HC.out.1.trans hf)))).mono ?_;rintro e w1 ⟨o, h1, h2, h3⟩;exact ⟨o, h1, hid ⟨h2, hf.trans h3⟩⟩)
    have HWR : Hid (∀ (w1 : World) (o : ByteArray), F0 wc w1 → L o = Mu.esc (Mu.shown v) → Calls Tryz.prog E.f #[.pointer (some ⟨E.b, 0, none⟩), .slice (some ⟨w1.heap.size, 0, none⟩) o.size (grownCap w1 o.size 0 5)] (Lib.bytesWorld w1 5 o) (fun e w2 => e = .returned (.tuple #[.int .i64 o.size, .nilIface]) ∧ Hid (RSt E own ws [Mu.esc (Mu.shown v)] k w w2))) := hid (fun w1 o hf ho => by
     have hbs := Lib.bytesWorld_size w1 5 o;have hff : F0 w (Lib.bytesWorld w1 5 o) := (HC.out.1.trans hf).trans (fr_bytes _ _ _);have hst1 := HST.out.f0 hE hff;have hlt := HST.out.wat;refine (write_any E hE hst1 (by rw [← ho]; exact bytes_new w1 o) (fun j hj => ⟨by omega, fun hj2 => by have h1 := hE.wr.lt _ _ _ HST.out.wat j hj2; have h2 := (HC.out.1.trans hf).size; omega⟩) HFT.out).mono ?_
     rintro e w2 ⟨he, h1⟩;exact ⟨by rw [he, ← ho]; rfl, hid (h1.out.pre hff)⟩)
    have HES : Hid (∀ (o : ByteArray) (w' : World), L o = Mu.shown v → Calls Tryz.prog 69 #[.string o] w' (fun e w1 => ∃ p : ByteArray, e = .returned (.string p) ∧ Hid (L p = Mu.esc (Mu.shown v)) ∧ w' = w1)) := hid (fun o w' ho => by
     have hsz : o.size ≤ 65536 := by
      have h1 := fits_one HFT.out;have h2 := esc_len (Mu.shown v);rw [← ho, L_length] at h2;rw [← ho] at h1;omega
     refine (zzEscape_any o w' (by omega) (by rw [ho]; exact Mu.shown_signs HV.out)).mono ?_;rintro e w1 ⟨p, h1, h2, h3⟩;exact ⟨p, h1, hid (by rw [h2, ho]), h3⟩)
    clear HLK HSX HEB;go_wp2_with fail;refine (HSP.out _ (Fr.refl _ _)).mono ?_;rintro e w1 ⟨o, rfl, HO⟩;have j8 := F0.cell HO.out.2 k8;have HP := hid (fr_bytes w1 5);go_wp2_with fail
    go_region_with (first | (go_at_call 69; refine (HES.out o _ HO.out.1).mono ?_; rintro e w3 ⟨p, rfl, HPP, rfl⟩) | (go_at_fn E.f; refine (HWR.out _ _ (by repeat (first | exact HO.out.2 | refine Fr.drewA ?_)) HPP.out).mono ?_; rintro e w2 ⟨rfl, HI⟩))
    all_goals
     go_wp2_with fail;go_ret
     exact RPost.ok HI.out
end Go.Proofs.YtfakghnpkdoclaaGreatDoor
namespace Go.Proofs.YtfakghnpkdoclaaGreatDoor
open Go.RowKit
open Go.Lib (hid)
theorem Fits.left {a b : List Mu.B} (h : Fits (a ++ b)) : Fits a := by
 obtain ⟨h1, h2⟩ := h
 rw [List.flatten_append] at h2
 simp only [List.length_append] at h1 h2
 exact ⟨by omega, by omega⟩
theorem rAll_step {α : Type} {f : α → Nat → Mu.RRes} {y : α} {ys : List α} {k kf : Nat} {er : Bool} {wsr : List Mu.B} (h : Mu.rAll f (y :: ys) k = some (wsr, kf, er)) :
 ∃ w1 k1 e1, f y k = some (w1, k1, e1) ∧ ((e1 = true ∧ wsr = w1 ∧ kf = k1 ∧ er = true) ∨ (e1 = false ∧ ∃ w2, Mu.rAll f ys k1 = some (w2, kf, er) ∧ wsr = w1 ++ w2)) := by
 simp only [Mu.rAll] at h
 cases hf : f y k with
 | none => rw [hf] at h; simp [Mu.rThen] at h
 | some q =>
  obtain ⟨w1, k1, e1⟩ := q;rw [hf] at h;refine ⟨w1, k1, e1, rfl, ?_⟩
  cases e1 with
  | true =>
   simp only [Mu.rThen, if_true, Option.some.injEq, Prod.mk.injEq] at h;exact .inl ⟨rfl, h.1.symm, h.2.1.symm, h.2.2.symm⟩
  | false =>
   simp only [Mu.rThen, Bool.false_eq_true, if_false] at h
   cases hr : Mu.rAll f ys k1 with
   | none => rw [hr] at h; simp at h
   | some q2 =>
    rw [hr] at h;simp only [Option.map_some, Option.some.injEq, Prod.mk.injEq] at h;obtain ⟨h1, h2⟩ := h;exact .inr ⟨rfl, q2.1, by rw [← h2], h1.symm⟩
theorem rAll_mono {α : Type} {f : α → Nat → Mu.RRes} (hf : ∀ y k w1 k1 e1, f y k = some (w1, k1, e1) → k ≤ k1) : ∀ {ys : List α} {k kf : Nat} {er : Bool} {wsr : List Mu.B}, Mu.rAll f ys k = some (wsr, kf, er) → k ≤ kf
 | [], k, kf, er, wsr, h => by
  simp only [Mu.rAll, Option.some.injEq, Prod.mk.injEq] at h;omega
 | y :: ys, k, kf, er, wsr, h => by
  obtain ⟨w1, k1, e1, h1, h2⟩ := rAll_step h;have h3 := hf _ _ _ _ _ h1
  rcases h2 with ⟨-, -, rfl, -⟩ | ⟨-, w2, h4, -⟩
  · exact h3
  · have := rAll_mono hf h4
    omega
theorem rElem_mono {ps : List (Mu.B × Mu.B)} {am : Bool} {rec : List Mu.Elem → List (Option Mu.Val) → Nat → Mu.RRes} (hr : ∀ es ch k w1 k1 e1, rec es ch k = some (w1, k1, e1) → k ≤ k1) (ch : List (Option Mu.Val)) (e : Mu.Elem) (k : Nat) (w1 : List Mu.B) (k1 : Nat) (e1 : Bool)
 (h : Mu.rElem ps am rec ch e k = some (w1, k1, e1)) : k ≤ k1 := by
 cases e with
 | text t =>
  simp only [Mu.rElem, Option.some.injEq, Prod.mk.injEq] at h;omega
 | var n r =>
  simp only [Mu.rElem] at h
  cases hl : Mu.lookP ch n with
  | none =>
   rw [hl] at h;simp only [Option.some.injEq, Prod.mk.injEq] at h;omega
  | some v =>
   rw [hl] at h;simp only at h
   split at h
   · cases h
   · simp only [Option.some.injEq, Prod.mk.injEq] at h
     omega
 | sect n inv es =>
  simp only [Mu.rElem] at h
  split at h
  · simp only [Option.some.injEq, Prod.mk.injEq] at h
    omega
  · split at h
    · cases ch with
      | nil => cases h
      | cons c ch => exact hr _ _ _ _ _ _ h
    · cases hl : Mu.lookP ch n with
      | none => rw [hl] at h; cases h
      | some v =>
       rw [hl] at h;simp only at h
       split at h
       · exact rAll_mono (fun y k w1 k1 e1 h => hr _ _ _ _ _ _ h) h
       · exact hr _ _ _ _ _ _ h
 | part n ind =>
  simp only [Mu.rElem] at h
  split at h
  · split at h
    · have := hr _ _ _ _ _ _ h
      omega
    · cases h
  · cases h
theorem rrender_mono {ps : List (Mu.B × Mu.B)} {am : Bool} : ∀ (n : Nat) (es : List Mu.Elem) (ch : List (Option Mu.Val)) (k : Nat) (w1 : List Mu.B) (k1 : Nat) (e1 : Bool), Mu.rrender ps am n es ch k = some (w1, k1, e1) → k ≤ k1
 | 0, es, ch, k, w1, k1, e1, h => by cases h
 | n + 1, es, ch, k, w1, k1, e1, h => rAll_mono (fun y k w1 k1 e1 h => rElem_mono (rrender_mono n) ch y k w1 k1 e1 h) h
def EC (E : En) (n : Nat) : Prop := ∀ (tb : Nat) (x : Tm) (u cv : Value) (e : Mu.Elem) (S R S2 own : Nat → Prop) (ch : List (Option Mu.Val)) (ws wsr : List Mu.B) (k kf : Nat) (er : Bool) (w : World) (D : Nat),
 St E w own ws k → Cx E w own tb x R S2 cv ch → EAt w S E.prov e u → Off E w own S → Mu.EOk D e → D + 400 * (n + 1) ≤ 402000 → ch.length + n ≤ 90000 →
 Mu.rElem (pL E.ps) E.am (Mu.rrender (pL E.ps) E.am n) ch e k = some (wsr, kf, er) → Fits (ws ++ wsr) → kf ≤ 100 →
 Calls Tryz.prog 93 #[.pointer (some ⟨tb, 0, none⟩), u, cv, .iface E.T (.pointer (some ⟨E.b, 0, none⟩))] w (RPost E own ws wsr kf er w)
def TC (E : En) (n : Nat) : Prop := ∀ (tb : Nat) (x : Tm) (cv : Value) (es : List Mu.Elem) (vs : List Value) (S R S2 own : Nat → Prop) (ch : List (Option Mu.Val)) (ws wsr : List Mu.B) (k kf : Nat) (er : Bool) (w : World) (D : Nat),
 St E w own ws k → Cx E w own tb x R S2 cv ch → RowAt w S x.el vs → EsAt w S E.prov es vs → Off E w own S → Mu.EsOk D es → D + 400 * n ≤ 402000 → ch.length + n ≤ 90000 → es.length ≤ 2147483647 →
 Mu.rrender (pL E.ps) E.am n es ch k = some (wsr, kf, er) → Fits (ws ++ wsr) → kf ≤ 100 →
 Calls Tryz.prog 83 #[.pointer (some ⟨tb, 0, none⟩), cv, .iface E.T (.pointer (some ⟨E.b, 0, none⟩))] w (RPost E own ws wsr kf er w)
def LSt {α : Type} (E : En) (own : Nat → Prop) (ws wsr : List Mu.B) (kf : Nat) (er : Bool) (f : α → Nat → Mu.RRes) (es : List α) (w wr : World) : Prop :=
 ∃ own' wi wq ki, St E wr own' (ws ++ wi) ki ∧ Grew own own' w wr ∧ Fr (Mt E own) w wr ∧ Mu.rAll f es ki = some (wq, kf, er) ∧ wsr = wi ++ wq
theorem Fr.mt {E : En} {own own' : Nat → Prop} {w w1 w2 : World} (h : Fr (Mt E own) w w1) (hg : Grew own own' w w1) (k : Fr (Mt E own') w1 w2) : Fr (Mt E own) w w2 := h.trans' k (fun i hi hm => by
 rcases hm with hm | hm
 · rcases hg i hm with h | h
   · exact .inl h
   · omega
 · exact .inr hm)
theorem LSt.next {α : Type} {E : En} {own own' : Nat → Prop} {ws wsr wi wq w1 w2 : List Mu.B} {ki k1 kf : Nat} {er : Bool} {f : α → Nat → Mu.RRes} {es : List α} {w wr wr2 : World}
 (hg : Grew own own' w wr) (hf : Fr (Mt E own) w wr) (hw : wsr = wi ++ wq) (h2 : wq = w1 ++ w2) (h3 : Mu.rAll f es k1 = some (w2, kf, er)) (hr : RSt E own' (ws ++ wi) w1 k1 wr wr2) : LSt E own ws wsr kf er f es w wr2 := by
 obtain ⟨o2, h4, h5, h6⟩ := hr
 exact ⟨o2, wi ++ w1, w2, k1, by rw [← List.append_assoc]; exact h4, hg.trans h5 hf.size h6.size, hf.mt hg h6, h3, by rw [hw, h2, List.append_assoc]⟩
theorem LSt.stop {α : Type} {E : En} {own own' : Nat → Prop} {ws wsr wi wq w1 : List Mu.B} {ki k1 : Nat} {w wr wr2 : World}
 (hg : Grew own own' w wr) (hf : Fr (Mt E own) w wr) (hw : wsr = wi ++ wq) (h2 : wq = w1) (hr : RSt E own' (ws ++ wi) w1 k1 wr wr2) : RSt E own ws wsr k1 w wr2 := by
 obtain ⟨o2, h4, h5, h6⟩ := hr
 exact ⟨o2, by rw [hw, h2, ← List.append_assoc]; exact h4, hg.trans h5 hf.size h6.size, hf.mt hg h6⟩
theorem LSt.done {α : Type} {E : En} {own : Nat → Prop} {ws wsr : List Mu.B} {kf : Nat} {er : Bool} {f : α → Nat → Mu.RRes} {w wr : World} (h : LSt E own ws wsr kf er f [] w wr) : er = false ∧ RSt E own ws wsr kf w wr := by
 obtain ⟨o, wi, wq, ki, h1, h2, h3, h4, h5⟩ := h
 simp only [Mu.rAll, Option.some.injEq, Prod.mk.injEq] at h4
 obtain ⟨rfl, rfl, rfl⟩ := h4
 rw [List.append_nil] at h5
 subst h5
 exact ⟨rfl, o, h1, h2, h3⟩
theorem EsAt.at {w : World} {S : Nat → Prop} {prov : Value} : ∀ {es : List Mu.Elem} {vs : List Value}, EsAt w S prov es vs → ∀ j (h : j < es.length), ∃ u, vs[j]? = some u ∧ EAt w S prov es[j] u
 | [], vs, h, j, hj => absurd hj (by simp)
 | e :: es, vs, h, j, hj => by
  unfold EsAt at h;obtain ⟨v, vs', rfl, h2, h3⟩ := h
  cases j with
  | zero => exact ⟨v, rfl, h2⟩
  | succ j =>
   obtain ⟨u, h4, h5⟩ := EsAt.at h3 j (by simpa using hj);exact ⟨u, by simpa using h4, by simpa using h5⟩
theorem tc_succ (E : En) (hE : E.Ok) (n : Nat) (IH : EC E n) : TC E (n + 1) := by
 intro tb x cv es vs S R S2 own ch ws wsr k kf er w D hst hcx hrow hes hS hok hD hcl hel hr hft hkf
 have hlen := hes.length
 obtain ⟨a, c, hxe, hcells⟩ := hrow
 obtain ⟨-, -, -, -, -, t5, -⟩ := hcx.tm.cells
 rw [hxe] at t5
 have HL0 : LSt E own ws wsr kf er (Mu.rElem (pL E.ps) E.am (Mu.rrender (pL E.ps) E.am n) ch) (es.drop 0) w w := ⟨own, [], wsr, k, by rw [List.append_nil]; exact hst, Grew.refl _ _ _, Fr.refl _ _, hr, rfl⟩
 have HIH := hid IH
 have HCX := hid hcx
 have HES := hid hes
 have HCE := hid hcells
 have HS := hid hS
 have HOK := hid hok
 have HFT := hid hft
 have HLN := hid hlen
 have hvl : vs.length ≤ 2147483647 := by omega
 clear IH hst hcx hes hcells hS hok hr hft hlen hxe
 go_enter Tryz.func83, Tryz.ntmps83
 go_wp2_with fail
 go_loopg [15] vs.length (fun g v wr => ∃ i : Nat, v = .int .i64 i ∧ i ≤ vs.length ∧ g = vs.length - i ∧ LSt E own ws wsr kf er (Mu.rElem (pL E.ps) E.am (Mu.rrender (pL E.ps) E.am n) ch) (es.drop i) w wr)
 case atStart => exact ⟨0, rfl, Nat.zero_le _, rfl, HL0⟩
 case round =>
  obtain ⟨i, rfl, hi, rfl, hls⟩ := hrel
  by_cases hlt : i < vs.length
  · have hie : i < es.length := by have := HLN.out; omega
    rw [List.drop_eq_getElem_cons hie] at hls;obtain ⟨own', wi, wq, ki, h1, h2, h3, h4, h5⟩ := hls;obtain ⟨w1, k1, e1, h6, h7⟩ := rAll_step h4
    have hkey : Fits (ws ++ wi ++ w1) ∧ k1 ≤ 100 := by
     rcases h7 with ⟨-, h8, h9, -⟩ | ⟨-, w2, h8, h9⟩
     · refine ⟨?_, by omega⟩
       rw [List.append_assoc, ← h8, ← h5]; exact HFT.out
     · refine ⟨?_, ?_⟩
       · have := HFT.out
         rw [h5, h9, ← List.append_assoc, ← List.append_assoc] at this;exact this.left
       · have := rAll_mono (fun y k w1 k1 e1 h => rElem_mono (rrender_mono n) ch y k w1 k1 e1 h) h8
         omega
    have hcx1 := HCX.out.step h3 h2;have hof := HS.out.step h3.size h2;have hkp := HS.out.keep h3;obtain ⟨u, hu1, hu2⟩ := HES.out.at i hie;have hu3 := EAt.keep hkp (fun _ h => h) _ _ hu2;obtain ⟨g, rfl, hSg, hcg⟩ := HCE.out (by omega);have hcell : wr.cell? ⟨g, i, none⟩ = some u := (World.cell?_of_block (w := w) (a := ⟨g, i, none⟩) (hkp g hSg)).trans (hcg i u hu1)
    have HC : Hid (Calls Tryz.prog 93 #[.pointer (some ⟨tb, 0, none⟩), u, cv, .iface E.T (.pointer (some ⟨E.b, 0, none⟩))] wr (RPost E own' (ws ++ wi) w1 k1 e1 wr)) := hid
     (HIH.out tb x u cv es[i] S R S2 own' ch (ws ++ wi) w1 ki k1 e1 wr D h1 hcx1 hu3 hof (HOK.out.get i hie) hD (by omega) h6 hkey.1 hkey.2)
    have H2 := hid h2;have H3 := hid h3;have H5 := hid h5;have H7 := hid h7;clear h1 h2 h3 h4 h5 h6 h7 hkey hcx1 hof hkp hu1 hu2 hu3 hcg hSg;go_wp2_with fail;refine HC.out.mono ?_;rintro e w2 ⟨he, hrs⟩;have HRS := hid hrs;clear hrs
    cases e1 with
    | true =>
     rw [if_pos rfl] at he;obtain ⟨T9, v9, rfl⟩ := he
     have HE : Hid (er = true ∧ RSt E own ws wsr kf w w2) := hid (by
      rcases H7.out with ⟨-, h8, h9, h10⟩ | ⟨h8, -⟩
      · exact ⟨h10, by rw [h9]; exact LSt.stop (α := Unit) (ki := ki) H2.out H3.out H5.out h8 HRS.out⟩
      · cases h8)
     go_wp2_with fail;go_ret
     obtain ⟨rfl, h⟩ := HE.out;exact RPost.err h
    | false =>
     rw [if_neg Bool.false_ne_true] at he;subst he
     have HN : LSt E own ws wsr kf er (Mu.rElem (pL E.ps) E.am (Mu.rrender (pL E.ps) E.am n) ch) (es.drop (i + 1)) w w2 := by
      rcases H7.out with ⟨h8, -⟩ | ⟨-, wx, h8, h9⟩
      · cases h8
      · exact LSt.next (ki := ki) H2.out H3.out H5.out h9 h8 HRS.out
     go_wp2_with fail
     go_roundg (vs.length - (i + 1))
     case rel => exact ⟨i + 1, by go_num, by omega, rfl, HN⟩
     case measure => omega
  · have HE : Hid (er = false ∧ RSt E own ws wsr kf w wr) := hid (by
     have : es.drop i = [] := List.drop_eq_nil_of_le (by have := HLN.out; omega);rw [this] at hls;exact hls.done)
    clear hls;go_wp2_with fail;go_ret;obtain ⟨rfl, h⟩ := HE.out;exact RPost.ok h
end Go.Proofs.YtfakghnpkdoclaaGreatDoor
