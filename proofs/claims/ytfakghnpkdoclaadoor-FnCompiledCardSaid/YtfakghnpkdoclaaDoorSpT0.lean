/-
  The specification's reader: Parse; within, asked, plain and TemplateOk where there are no partials.
-/
import Derived.Test.YtfakghnpkdoclaaDoorPart1
set_option linter.unusedVariables false
set_option linter.unusedSimpArgs false
namespace Go.Proofs.YtfakghnpkdoclaaDoor
open Go.RowKit

/-- parts read out of memory: over new blocks -/
def NodesAt (w : World) (lo : Nat) (v : Value) (ns : List Mu.Node) : Prop := ∃ (S : Nat → Prop) (vs : List Value), RowN w S 5 v ns.length vs ∧ NsAt w S ns vs ∧ ∀ k, S k → lo ≤ k ∧ k < w.heap.size
def ParsePost (s : ByteArray) (w : World) (e : Ending) (w' : World) : Prop :=
  ∃ v, e = .returned (.tuple #[v, .bool (Mu.parse (L s)).2]) ∧ F0 w w' ∧ NodesAt w' w.heap.size v (Mu.parse (L s)).1 ∧ ∃ g c, v = .slice (some ⟨g, 0, none⟩) (Mu.parse (L s)).1.length c
set_option maxRecDepth 100000 in
set_option maxHeartbeats 1000000 in
theorem parse_spec (s : ByteArray) (w : World) (hs : s.size ≤ 4294967295) : Calls Tryd.prog 5 #[.string s] w (ParsePost s w) := by
  have hx : PaAt (w.alloc (.cells #[.string s, .int .i64 0, .int .i64 0, .string ⟨#[123, 123]⟩, .string ⟨#[125, 125]⟩, .bool false] 37)) w.heap.size ⟨s, 0, 0, ⟨#[123, 123]⟩, ⟨#[125, 125]⟩, false⟩ := blk_new w _
  have HX := Lib.hid hx
  clear hx
  have HS : Hid (stOf ⟨s, 0, 0, ⟨#[123, 123]⟩, ⟨#[125, 125]⟩, false⟩ = Mu.start) := Lib.hid rfl
  go_enter Tryd.func5, Tryd.ntmps5
  go_wp2_with fail
  refine (parts_any (s.size + 4) w.heap.size ⟨s, 0, 0, ⟨#[123, 123]⟩, ⟨#[125, 125]⟩, false⟩ ⟨#[]⟩ _ hs HX.out ⟨Nat.zero_le _, ⟨Nat.le_add_left 1 1, (show (2 : Nat) ≤ 1000 by omega)⟩, Nat.le_add_left 1 1, (show (2 : Nat) ≤ 1000 by omega)⟩ (fun _ => by show s.size + 2 ≤ s.size + 4 + 0; omega) (by omega) (by show 0 + (s.size + 4) ≤ _; omega) (by decide)).mono ?_
  rintro e w1 ⟨v, x, rfl, hfr, hx1, hsx, hst, hpos, hgot, g5, c5, rfl⟩
  have HP : Hid (Mu.parts (L s) (s.size + 4) (stOf ⟨s, 0, 0, ⟨#[123, 123]⟩, ⟨#[125, 125]⟩, false⟩) (L ⟨#[]⟩) = Mu.parts (L s) ((L s).length + 4) Mu.start []) := Lib.hid (by rw [HS.out, L_length]; rfl)
  have HG := Lib.hid hgot
  have HB : Hid (x.bad = (Mu.parts (L s) ((L s).length + 4) Mu.start []).2.bad) := Lib.hid (by rw [← HP.out, ← hst]; rfl)
  have hb5 := hx1.cells.2.2.2.2.2
  have HF : Hid (F0 w w1) := Lib.hid ⟨hfr.os, hfr.tape, hfr.output, by have := hfr.size; simp at this; omega, fun k hk _ => (hfr.block k (by simp; omega) (by omega)).trans (Below.heap_alloc _ _ _ hk)⟩
  obtain ⟨ns, hns⟩ : ∃ ns, ns = (Mu.parts (L s) (s.size + 4) (stOf ⟨s, 0, 0, ⟨#[123, 123]⟩, ⟨#[125, 125]⟩, false⟩) (L ⟨#[]⟩)).1 := ⟨_, rfl⟩
  have HNS : Hid (ns = (Mu.parse (L s)).1) := Lib.hid (by rw [hns, HP.out]; rfl)
  rw [← hns] at HG ⊢
  clear hfr hx1 hsx hst hpos hgot hns
  go_wp2_with fail
  go_quiet (fail)
  go_wp2_with fail
  go_ret2
  refine ⟨.slice (some ⟨g5, 0, none⟩) ns.length c5, ?_, HF.out.drewNA _, ?_, g5, c5, by rw [HNS.out]⟩
  · rw [HB.out]; rfl
  · obtain ⟨S, vs, h1, h2, h3⟩ := HG.out.all
    rw [← HNS.out]
    exact ⟨S, vs, h1.keep (show Keep S w1 (w1.drewN _) from fun _ _ => rfl) (fun _ h => h), NsAt.keep (show Keep S w1 (w1.drewN _) from fun _ _ => rfl) (fun _ h => h) _ _ h2, fun k hk => by have := (h3 k hk).1; simp at this; exact ⟨by omega, this.2⟩⟩

/-! ### reading a row of parts -/
mutual
def nsz : Mu.Node → Nat
  | .mk _ _ _ _ kids => 1 + nszL kids
def nszL : List Mu.Node → Nat
  | [] => 0
  | n :: l => nsz n + nszL l
end
theorem nszL_mem {n : Mu.Node} : ∀ {l : List Mu.Node}, n ∈ l → nsz n ≤ nszL l
  | m :: l, h => by
    simp only [nszL]
    rcases List.mem_cons.1 h with rfl | h
    · omega
    · have := nszL_mem h; omega
theorem NsAt.cells {w : World} {S : Nat → Prop} : ∀ {ns : List Mu.Node} {vs : List Value}, NsAt w S ns vs → ∀ (k : Nat) (hk : k < ns.length), ∃ (kd : Nat) (raw : Bool) (tb ib : ByteArray) (sv : Value) (kids : List Mu.Node) (us : List Value),
    ns[k] = .mk kd (L tb) raw (L ib) kids ∧ vs[k * 5]? = some (.int .i64 kd) ∧ vs[k * 5 + 1]? = some (.string tb) ∧ vs[k * 5 + 2]? = some (.bool raw) ∧ vs[k * 5 + 3]? = some (.string ib) ∧ vs[k * 5 + 4]? = some sv ∧ RowN w S 5 sv kids.length us ∧ NsAt w S kids us
  | [], vs, h, k, hk => absurd hk (by simp)
  | .mk kd t raw ind kids :: ns, vs, h, k, hk => by
    unfold NsAt at h
    obtain ⟨c, vs', rfl, h2, h3⟩ := h
    unfold NAt at h2
    obtain ⟨tb, ib, sv, us, rfl, rfl, rfl, h6, h7⟩ := h2
    cases k with
    | zero => exact ⟨kd, raw, tb, ib, sv, kids, us, rfl, rfl, rfl, rfl, rfl, rfl, h6, h7⟩
    | succ k =>
      obtain ⟨kd', raw', tb', ib', sv', kids', us', e0, e1, e2, e3, e4, e5, e6, e7⟩ := NsAt.cells h3 k (by simpa using hk)
      have hidx : ∀ i, ([.int .i64 kd, .string tb, .bool raw, .string ib, sv] ++ vs' : List Value)[(k + 1) * 5 + i]? = vs'[k * 5 + i]? := fun i => by
        rw [List.getElem?_append_right (by simp; omega)]
        congr 1; simp; omega
      exact ⟨kd', raw', tb', ib', sv', kids', us', e0, (hidx 0).trans e1, (hidx 1).trans e2, (hidx 2).trans e3, (hidx 3).trans e4, (hidx 4).trans e5, e6, e7⟩
/-- a part's five cells where its row lies -/
theorem RowN.node {w : World} {S : Nat → Prop} {v : Value} {ns : List Mu.Node} {vs : List Value} (h : RowN w S 5 v ns.length vs) (hn : NsAt w S ns vs) (k : Nat) (hk : k < ns.length) : ∃ (g c kd : Nat) (raw : Bool) (tb ib : ByteArray) (sv : Value) (kids : List Mu.Node) (us : List Value),
    v = .slice (some ⟨g, 0, none⟩) ns.length c ∧ S g ∧ ns.length ≤ c ∧ ns[k] = .mk kd (L tb) raw (L ib) kids ∧ w.cell? ⟨g, k * 5, none⟩ = some (.int .i64 kd) ∧ w.cell? ⟨g, k * 5 + 1, none⟩ = some (.string tb) ∧ w.cell? ⟨g, k * 5 + 2, none⟩ = some (.bool raw) ∧ w.cell? ⟨g, k * 5 + 3, none⟩ = some (.string ib) ∧ w.cell? ⟨g, k * 5 + 4, none⟩ = some sv ∧
    RowN w S 5 sv kids.length us ∧ NsAt w S kids us := by
  obtain ⟨h0, a, c, h1, h2, h3⟩ := h
  obtain ⟨g, rfl, hg, hc⟩ := h3 (by omega)
  obtain ⟨kd, raw, tb, ib, sv, kids, us, e0, e1, e2, e3, e4, e5, e6, e7⟩ := hn.cells k hk
  have key : ∀ (i : Nat) (u : Value), vs[k * 5 + i]? = some u → w.cell? ⟨g, k * 5 + i, none⟩ = some u := fun i u hu => by
    obtain ⟨hlt, rfl⟩ := List.getElem?_eq_some_iff.1 hu
    exact hc _ hlt
  exact ⟨g, c, kd, raw, tb, ib, sv, kids, us, h1, hg, h2, e0, key 0 _ e1, key 1 _ e2, key 2 _ e3, key 3 _ e4, key 4 _ e5, e6, e7⟩
end Go.Proofs.YtfakghnpkdoclaaDoor
