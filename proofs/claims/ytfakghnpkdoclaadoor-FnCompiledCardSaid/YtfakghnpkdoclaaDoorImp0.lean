/-
  The package's ParseString..: a template, or an error; nothing that was there turns.
-/
import Derived.Test.YtfakghnpkdoclaaDoorTop2
import Derived.Test.YtfakghnpkdoclaaDoorPure6
import Derived.Laws.EntriesVeiled
set_option linter.unusedVariables false
set_option linter.unusedSimpArgs false
namespace Go.Proofs.YtfakghnpkdoclaaDoor
open Go.RowKit

/-- the template before it is read -/
def tm0 (s : ByteArray) (raw : Bool) (g : Nat) (pv : Value) : Tm := ⟨s, ⟨#[123, 123]⟩, ⟨#[125, 125]⟩, 0, 1, .slice (some ⟨g, 0, none⟩) 0 0, raw, pv, .func (Fn.func 28) #[] #[], true⟩
theorem tm0_pos (s : ByteArray) (raw : Bool) (g : Nat) (pv : Value) : (tm0 s raw g pv).p ≤ (tm0 s raw g pv).s.size ∧ (0 < (tm0 s raw g pv).o.size ∧ (tm0 s raw g pv).o.size ≤ 1000) ∧ 0 < (tm0 s raw g pv).c.size ∧ (tm0 s raw g pv).c.size ≤ 1000 := by
  have h1 : (⟨#[123, 123]⟩ : ByteArray).size = 2 := rfl
  have h2 : (⟨#[125, 125]⟩ : ByteArray).size = 2 := rfl
  show 0 ≤ s.size ∧ (0 < (⟨#[123, 123]⟩ : ByteArray).size ∧ (⟨#[123, 123]⟩ : ByteArray).size ≤ 1000) ∧ 0 < (⟨#[125, 125]⟩ : ByteArray).size ∧ (⟨#[125, 125]⟩ : ByteArray).size ≤ 1000
  rw [h1, h2]; omega
theorem top_start {w : World} {t g : Nat} {x : Tm} (ht : TmAt w t x) (hel : x.el = .slice (some ⟨g, 0, none⟩) 0 0) (hg : w.heap[g]? = some (.cells #[] 20 (0, 0))) (hgt : g ≠ t) : TopMid w w.heap.size t x w x [] := by
  refine ⟨⟨ht, Nat.le_refl _, ?_⟩, Fr.refl _ _, ⟨rfl, rfl, rfl, rfl, rfl⟩, .inl rfl⟩
  rw [hel]
  refine got_nil _ _ _ _ ⟨rfl, .inr ⟨g, 0, #[], rfl, Nat.zero_le _, hg, Nat.le_refl _, Nat.zero_le _, rfl, rfl⟩⟩ ?_
  intro k hk
  have : g = k := by simpa [Value.ownBlock] using hk
  subst this
  exact hgt
/-- a template that has been read -/
def TplAt (w : World) (lo t : Nat) (raw : Bool) (pv : Value) (es : List Mu.Elem) : Prop :=
  ∃ (x : Tm) (S : Nat → Prop) (vs : List Value), TmAt w t x ∧ x.raw = raw ∧ x.prov = pv ∧ x.esc = .func (Fn.func 28) #[] #[] ∧ x.am = true ∧ RowAt w S x.el vs ∧ EsAt w S pv es vs ∧ (∀ k, S k → (lo ≤ k ∧ k < w.heap.size) ∧ k ≠ t) ∧ lo ≤ t
def PsrPost (w : World) (raw : Bool) (pv : Value) (R : Option (List Mu.Elem × Mu.ISt)) (e : Ending) (w' : World) : Prop :=
  match R with
  | none => (∃ T v, e = .returned (.tuple #[.pointer none, .iface T v])) ∧ F0 w w'
  | some (es, _) => ∃ t, e = .returned (.tuple #[.pointer (some ⟨t, 0, none⟩), .nilIface]) ∧ F0 w w' ∧ TplAt w' w.heap.size t raw pv es

set_option maxRecDepth 100000 in
set_option maxHeartbeats 1000000 in
theorem psr_any (B : Nat) (eb : Addr) (n : Nat) (s : ByteArray) (raw : Bool) (T : TypeId) (pp : Value) (w : World) (R : Option (List Mu.Elem × Mu.ISt)) (hs : s.size ≤ 2147483647) (ha : ∀ c ∈ L s, c.toNat < 128) (hr : ∀ c ∈ L s, c ≠ 13) (hg : Gl B eb w)
    (hR : Mu.iparse (L s) raw n 0 ⟨0, Mu.OB, Mu.CB⟩ none = some R) (hn : 4 * n ≤ 8589934600) :
    Calls Tryd.prog 26 #[.string s, .iface T pp, .bool raw] w (PsrPost w raw (.iface T pp) R) := by
  have hB := hg.size
  obtain ⟨W, hW⟩ : ∃ W : World, W = (w.alloc (.cells #[] 20)).alloc (.cells #[.string s, .string ⟨#[123, 123]⟩, .string ⟨#[125, 125]⟩, .int .i64 0, .int .i64 1, .slice (some ⟨w.heap.size, 0, none⟩) 0 0, .bool raw, .iface T pp, .func (Fn.func 28) #[] #[], .bool true] 76) := ⟨_, rfl⟩
  have ht : TmAt W (w.heap.size + 1) (tm0 s raw w.heap.size (.iface T pp)) := by
    rw [hW]
    have := blk_new (w.alloc (.cells #[] 20)) (.cells #[.string s, .string ⟨#[123, 123]⟩, .string ⟨#[125, 125]⟩, .int .i64 0, .int .i64 1, .slice (some ⟨w.heap.size, 0, none⟩) 0 0, .bool raw, .iface T pp, .func (Fn.func 28) #[] #[], .bool true] 76)
    simp only [World.size_alloc] at this
    exact this
  have hgb : W.heap[w.heap.size]? = some (.cells #[] 20 (0, 0)) := by rw [hW]; exact blk_alloc _ (blk_new _ _)
  have hfr : F0 w W := by rw [hW]; exact (Fr.alloc _ _ _).allocA _
  have hWs : W.heap.size = w.heap.size + 2 := by rw [hW]; simp
  have hmid := top_start ht rfl hgb (by omega)
  have HINV : Hid (TopInv W W.heap.size (w.heap.size + 1) (tm0 s raw w.heap.size (.iface T pp)) R n W (tm0 s raw w.heap.size (.iface T pp)) []) := Lib.hid
    ⟨hmid, tm0_pos _ _ _ _, by simp; omega, by rw [Mu.pre_nil]; exact hR⟩
  have HGW := Lib.hid (hg.fr0 hfr)
  have HFR := Lib.hid hfr
  have HA := Lib.hid ha
  have HR := Lib.hid hr
  have HWW := Lib.hid hW
  have HWS := Lib.hid hWs
  clear ht hgb hfr hmid hR hg ha hr hWs
  go_enter Tryd.func26, Tryd.ntmps26
  clear hW
  go_wp2_with fail
  rw [← HWW.out]
  refine (parse_any B eb (w.heap.size + 1) (by omega) n (tm0 s raw w.heap.size (.iface T pp)) W R hs HA.out HR.out ⟨T, pp, rfl⟩ (fun k hk => by
    have : w.heap.size = k := by simpa [tm0, Value.ownBlock] using hk
    omega) HGW.out HINV.out).mono ?_
  intro e w2 hpost
  unfold TopPost at hpost
  cases R with
  | none =>
    obtain ⟨⟨T2, v2, rfl⟩, hf2⟩ := hpost
    have HF : Hid (F0 w w2) := Lib.hid (HFR.out.trans' hf2 (fun i hi hm => by
      rcases hm with h | h
      · omega
      · have : w.heap.size = i := by simpa [tm0, Value.ownBlock] using h
        omega))
    clear hf2
    go_wp2_with fail
    go_ret2
    exact ⟨⟨_, _, rfl⟩, HF.out⟩
  | some z =>
    obtain ⟨es, st⟩ := z
    obtain ⟨rfl, x, hm⟩ := hpost
    have HM := Lib.hid hm
    clear hm
    go_wp2_with fail
    go_ret2
    obtain ⟨e1, e2, e3, e4, e5⟩ := HM.out.sx
    obtain ⟨S, vs, h1, h2, h3⟩ := (HM.out.st.got.mono_lo (lo' := w.heap.size) (by rw [HWS.out]; omega)).all (fun k hk => by
      rcases HM.out.ow with ho | ⟨j, hj, hlt⟩
      · rw [ho] at hk
        have : w.heap.size = k := by simpa [tm0, Value.ownBlock] using hk
        omega
      · rw [hj] at hk; injection hk with hk; have := HWS.out; omega)
    refine ⟨w.heap.size + 1, rfl, HFR.out.trans' HM.out.fr (fun i hi hmm => by
      rcases hmm with h | h
      · omega
      · have : w.heap.size = i := by simpa [tm0, Value.ownBlock] using h
        omega), x, S, vs, HM.out.st.tm, e2, e3, e4, e5, h1, ?_, h3, by omega⟩
    rw [e3] at h2
    exact h2
end Go.Proofs.YtfakghnpkdoclaaDoor
