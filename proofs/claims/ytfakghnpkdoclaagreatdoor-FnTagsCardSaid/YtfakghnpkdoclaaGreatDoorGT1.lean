/-
  The specification's Parse and its tests. (Joined by wip/pack.py.)
-/
import Derived.Test.YtfakghnpkdoclaaGreatDoorGQ4
import Derived.Test.YtfakghnpkdoclaaGreatDoorGB1
import Derived.Lib.QuietBelow
set_option linter.unusedVariables false
set_option linter.unusedSimpArgs false
set_option maxRecDepth 100000
set_option maxHeartbeats 8000000
namespace Go.Proofs.YtfakghnpkdoclaaGreatDoor
open Go.RowKit
open Go.Lib (hid)
def NodesAt (w : World) (lo : Nat) (v : Value) (ns : List Mu.Node) : Prop := ∃ (S : Nat → Prop) (vs : List Value), RowN w S 5 v ns.length vs ∧ NsAt w S ns vs ∧ ∀ k, S k → lo ≤ k ∧ k < w.heap.size
def ParsePost (s : ByteArray) (w : World) (e : Ending) (w' : World) : Prop :=
 ∃ v, e = .returned (.tuple #[v, .bool (Mu.parse (L s)).2]) ∧ F0 w w' ∧ NodesAt w' w.heap.size v (Mu.parse (L s)).1 ∧ ∃ g c, v = .slice (some ⟨g, 0, none⟩) (Mu.parse (L s)).1.length c
theorem parse_spec (s : ByteArray) (w : World) (hs : s.size ≤ 4294967295) : Calls Tryz.prog 19 #[.string s] w (ParsePost s w) := by
 have hx : PaAt (w.alloc (.cells #[.string s, .int .i64 0, .int .i64 0, .string ⟨#[123, 123]⟩, .string ⟨#[125, 125]⟩, .bool false] 70)) w.heap.size ⟨s, 0, 0, ⟨#[123, 123]⟩, ⟨#[125, 125]⟩, false⟩ := blk_new w _
 have HX := hid hx
 clear hx
 have HS : Hid (stOf ⟨s, 0, 0, ⟨#[123, 123]⟩, ⟨#[125, 125]⟩, false⟩ = Mu.start) := hid rfl
 go_enter Tryz.func19, Tryz.ntmps19
 go_wp2_with fail
 refine (parts_any (s.size + 4) w.heap.size ⟨s, 0, 0, ⟨#[123, 123]⟩, ⟨#[125, 125]⟩, false⟩ ⟨#[]⟩ _ hs HX.out ⟨Nat.zero_le _, ⟨Nat.le_add_left 1 1, (show (2 : Nat) ≤ 1000 by omega)⟩, Nat.le_add_left 1 1, (show (2 : Nat) ≤ 1000 by omega)⟩ (fun _ => by show s.size + 2 ≤ s.size + 4 + 0; omega) (by omega) (by show 0 + (s.size + 4) ≤ _; omega) (by decide)).mono ?_
 rintro e w1 ⟨v, x, rfl, hfr, hx1, hsx, hst, hpos, hgot, g5, c5, rfl⟩
 have HP : Hid (Mu.parts (L s) (s.size + 4) (stOf ⟨s, 0, 0, ⟨#[123, 123]⟩, ⟨#[125, 125]⟩, false⟩) (L ⟨#[]⟩) = Mu.parts (L s) ((L s).length + 4) Mu.start []) := hid (by rw [HS.out, L_length]; rfl)
 have HG := hid hgot
 have HB : Hid (x.bad = (Mu.parts (L s) ((L s).length + 4) Mu.start []).2.bad) := hid (by rw [← HP.out, ← hst]; rfl)
 have hb5 := hx1.cells.2.2.2.2.2
 have HF : Hid (F0 w w1) := hid ⟨hfr.os, hfr.tape, hfr.output, by have := hfr.size; simp at this; omega, fun k hk _ => (hfr.block k (by simp; omega) (by omega)).trans (Below.heap_alloc _ _ _ hk)⟩
 obtain ⟨ns, hns⟩ : ∃ ns, ns = (Mu.parts (L s) (s.size + 4) (stOf ⟨s, 0, 0, ⟨#[123, 123]⟩, ⟨#[125, 125]⟩, false⟩) (L ⟨#[]⟩)).1 := ⟨_, rfl⟩
 have HNS : Hid (ns = (Mu.parse (L s)).1) := hid (by rw [hns, HP.out]; rfl)
 rw [← hns] at HG ⊢
 clear hfr hx1 hsx hst hpos hgot hns
 go_wp2_with fail
 go_quiet (fail)
 go_wp2_with fail
 go_ret2
 refine ⟨.slice (some ⟨g5, 0, none⟩) ns.length c5, ?_, HF.out.drewNA _, ?_, g5, c5, by rw [HNS.out]⟩
 · rw [HB.out]; rfl
 · obtain ⟨S, vs, h1, h2, h3⟩ := HG.out.all
   rw [← HNS.out];exact ⟨S, vs, h1.keep (show Keep S w1 (w1.drewN _) from fun _ _ => rfl) (fun _ h => h), NsAt.keep (show Keep S w1 (w1.drewN _) from fun _ _ => rfl) (fun _ h => h) _ _ h2, fun k hk => by have := (h3 k hk).1; simp at this; exact ⟨by omega, this.2⟩⟩
mutual
def nsz : Mu.Node → Nat
 | .mk _ _ _ _ kids => 1 + nszL kids
def nszL : List Mu.Node → Nat
 | [] => 0
 | n :: l => nsz n + nszL l
end
theorem nszL_mem {n : Mu.Node} : ∀ {l : List Mu.Node}, n ∈ l → nsz n ≤ nszL l
 | m :: l, h => by
  simp only [nszL]
  rcases List.mem_cons.1 h with rfl | h
  · omega
  · have := nszL_mem h; omega
theorem NsAt.cells {w : World} {S : Nat → Prop} : ∀ {ns : List Mu.Node} {vs : List Value}, NsAt w S ns vs → ∀ (k : Nat) (hk : k < ns.length), ∃ (kd : Nat) (raw : Bool) (tb ib : ByteArray) (sv : Value) (kids : List Mu.Node) (us : List Value),
 ns[k] = .mk kd (L tb) raw (L ib) kids ∧ vs[k * 5]? = some (.int .i64 kd) ∧ vs[k * 5 + 1]? = some (.string tb) ∧ vs[k * 5 + 2]? = some (.bool raw) ∧ vs[k * 5 + 3]? = some (.string ib) ∧ vs[k * 5 + 4]? = some sv ∧ RowN w S 5 sv kids.length us ∧ NsAt w S kids us
 | [], vs, h, k, hk => absurd hk (by simp)
 | .mk kd t raw ind kids :: ns, vs, h, k, hk => by
  unfold NsAt at h;obtain ⟨c, vs', rfl, h2, h3⟩ := h;unfold NAt at h2;obtain ⟨tb, ib, sv, us, rfl, rfl, rfl, h6, h7⟩ := h2
  cases k with
  | zero => exact ⟨kd, raw, tb, ib, sv, kids, us, rfl, rfl, rfl, rfl, rfl, rfl, h6, h7⟩
  | succ k =>
   obtain ⟨kd', raw', tb', ib', sv', kids', us', e0, e1, e2, e3, e4, e5, e6, e7⟩ := NsAt.cells h3 k (by simpa using hk)
   have hidx : ∀ i, ([.int .i64 kd, .string tb, .bool raw, .string ib, sv] ++ vs' : List Value)[(k + 1) * 5 + i]? = vs'[k * 5 + i]? := fun i => by
    rw [List.getElem?_append_right (by simp; omega)]
    congr 1; simp; omega
   exact ⟨kd', raw', tb', ib', sv', kids', us', e0, (hidx 0).trans e1, (hidx 1).trans e2, (hidx 2).trans e3, (hidx 3).trans e4, (hidx 4).trans e5, e6, e7⟩
theorem RowN.node {w : World} {S : Nat → Prop} {v : Value} {ns : List Mu.Node} {vs : List Value} (h : RowN w S 5 v ns.length vs) (hn : NsAt w S ns vs) (k : Nat) (hk : k < ns.length) : ∃ (g c kd : Nat) (raw : Bool) (tb ib : ByteArray) (sv : Value) (kids : List Mu.Node) (us : List Value),
 v = .slice (some ⟨g, 0, none⟩) ns.length c ∧ S g ∧ ns.length ≤ c ∧ ns[k] = .mk kd (L tb) raw (L ib) kids ∧ w.cell? ⟨g, k * 5, none⟩ = some (.int .i64 kd) ∧ w.cell? ⟨g, k * 5 + 1, none⟩ = some (.string tb) ∧ w.cell? ⟨g, k * 5 + 2, none⟩ = some (.bool raw) ∧ w.cell? ⟨g, k * 5 + 3, none⟩ = some (.string ib) ∧ w.cell? ⟨g, k * 5 + 4, none⟩ = some sv ∧
 RowN w S 5 sv kids.length us ∧ NsAt w S kids us := by
 obtain ⟨h0, a, c, h1, h2, h3⟩ := h
 obtain ⟨g, rfl, hg, hc⟩ := h3 (by omega)
 obtain ⟨kd, raw, tb, ib, sv, kids, us, e0, e1, e2, e3, e4, e5, e6, e7⟩ := hn.cells k hk
 have key : ∀ (i : Nat) (u : Value), vs[k * 5 + i]? = some u → w.cell? ⟨g, k * 5 + i, none⟩ = some u := fun i u hu => by
  obtain ⟨hlt, rfl⟩ := List.getElem?_eq_some_iff.1 hu;exact hc _ hlt
 exact ⟨g, c, kd, raw, tb, ib, sv, kids, us, h1, hg, h2, e0, key 0 _ e1, key 1 _ e2, key 2 _ e3, key 3 _ e4, key 4 _ e5, e6, e7⟩
end Go.Proofs.YtfakghnpkdoclaaGreatDoor
namespace Go.Proofs.YtfakghnpkdoclaaGreatDoor
open Go.RowKit
open Go.Lib (hid)
theorem len_nsz : ∀ (l : List Mu.Node), l.length ≤ nszL l
 | [] => Nat.le_refl _
 | .mk k t r i kids :: l => by have := len_nsz l; simp only [nszL, nsz, List.length_cons]; omega
theorem nszL_append : ∀ (l m : List Mu.Node), nszL (l ++ m) = nszL l + nszL m
 | [], m => by simp [nszL]
 | n :: l, m => by simp only [List.cons_append, nszL, nszL_append l m]; omega
theorem nsz_addT (t : Mu.B) : nszL (Mu.addT t) ≤ 1 := by
 unfold Mu.addT
 split <;> simp [nszL, nsz]
theorem parts_nsz (s : Mu.B) : ∀ (g : Nat) (st : Mu.PSt) (name : Mu.B), st.pos ≤ s.length → st.o ≠ [] → st.c ≠ [] → nszL (Mu.parts s g st name).1 + 2 * st.pos ≤ 2 * (Mu.parts s g st name).2.pos + 1 := by
 intro g
 induction g with
 | zero => intro st name h1 h2 h3; simp [Mu.parts, nszL]
 | succ g ih =>
  intro st name h1 h2 h3
  by_cases hb : st.bad = true
  · rw [Mu.parts, if_pos hb]; simp [nszL]
  · have hb : st.bad = false := by simpa using hb
    cases hn : Mu.snext s st.pos st.o st.c with
    | none b =>
     rw [Mu.parts_none hb hn];have := nsz_addT (s.drop st.pos);show nszL (Mu.addT (s.drop st.pos)) + 2 * st.pos ≤ 2 * s.length + 1;omega
    | some t =>
     obtain ⟨a2, e, F⟩ := Mu.snext_some hn;obtain ⟨f1, f2, f3⟩ := found_at F h2 h3;have hol : 0 < st.o.length := List.length_pos_iff.2 h2;obtain ⟨a1, a2, -, -⟩ := alOf_bounds (s := s) (t := t) (p := st.pos) (by omega) f2 f3;have htx : nszL (Mu.tx1 s t st) ≤ 1 := nsz_addT _;have step : ∀ (sx : Mu.PSt) (nd : Mu.Node), nsz nd = 1 → sx.pos = (Mu.alOf s t).2.1 → sx.o ≠ [] → sx.c ≠ [] →
      nszL (Mu.tx1 s t st ++ nd :: (Mu.parts s g sx name).1) + 2 * st.pos ≤ 2 * (Mu.parts s g sx name).2.pos + 1 := by
      intro sx nd h1 p1 p3 p4;have := ih sx name (by omega) p3 p4;rw [nszL_append];simp only [nszL];omega
     by_cases k33 : t.kind = 33
     · rw [Mu.parts_33 hb hn k33]; exact step _ _ rfl rfl h2 h3
     by_cases k61 : t.kind = 61
     · rw [Mu.parts_61 hb hn k61]
       have : (Mu.st61 s t st).pos = (Mu.alOf s t).2.1 ∧ (Mu.st61 s t st).o ≠ [] ∧ (Mu.st61 s t st).c ≠ [] := by
        unfold Mu.st61
        cases hd : Mu.delim t.body st.o with
        | none => exact ⟨rfl, h2, h3⟩
        | some oc =>
         obtain ⟨o', c'⟩ := oc;have hp := Mu.pairs_ne (Mu.delim_some hd).1;exact ⟨rfl, hp.1, hp.2.1⟩
       exact step _ _ rfl this.1 this.2.1 this.2.2
     by_cases k47 : t.kind = 47
     · rw [Mu.parts_47 hb hn k47]
       show nszL (Mu.tx1 s t st) + 2 * st.pos ≤ 2 * (Mu.alOf s t).2.1 + 1;omega
     by_cases k35 : t.kind = 35 ∨ t.kind = 94
     · rw [Mu.parts_35 hb hn k35]
       obtain ⟨r1, r2, r3, r4, r5⟩ := parts_inv s g (Mu.st35 s t st) t.body a2 h2 h3;have q1 := ih (Mu.st35 s t st) t.body a2 h2 h3;have q2 := ih (Mu.back (Mu.parts s g (Mu.st35 s t st) t.body).2) name r2 r4 r5;have r1 : (Mu.alOf s t).2.1 ≤ (Mu.parts s g (Mu.st35 s t st) t.body).2.pos := r1
       have q1 : nszL (Mu.parts s g (Mu.st35 s t st) t.body).1 + 2 * (Mu.alOf s t).2.1 ≤ 2 * (Mu.parts s g (Mu.st35 s t st) t.body).2.pos + 1 := q1;have q2 : nszL (Mu.parts s g (Mu.back (Mu.parts s g (Mu.st35 s t st) t.body).2) name).1 + 2 * (Mu.parts s g (Mu.st35 s t st) t.body).2.pos ≤ 2 * (Mu.parts s g (Mu.back (Mu.parts s g (Mu.st35 s t st) t.body).2) name).2.pos + 1 := q2
       dsimp only
       rw [nszL_append];simp only [nszL, nsz];omega
     by_cases k62 : t.kind = 62
     · rw [Mu.parts_62 hb hn k62]; exact step _ _ rfl rfl h2 h3
     · have hkk : ¬ Mu.kinded t.kind := by
        rintro ⟨a, b, c⟩
        rcases (Mu.kind_isKind F) with h | h
        · exact a h
        · rcases Mu.isKind_cases h with h | h | h | h | h | h | h | h
          · exact k35 (.inl h)
          · exact k35 (.inr h)
          · exact k47 h
          · exact k33 h
          · exact k62 h
          · exact b h
          · exact k61 h
          · exact c h
       rw [Mu.parts_var hb hn hkk]; exact step _ _ rfl rfl h2 h3
theorem parse_nsz (s : Mu.B) : nszL (Mu.parse s).1 ≤ 2 * s.length + 1 := by
 have h1 := parts_nsz s (s.length + 4) Mu.start [] (Nat.zero_le _) (by simp [Mu.start]) (by simp [Mu.start])
 have h2 := (parts_inv s (s.length + 4) Mu.start [] (Nat.zero_le _) (by simp [Mu.start]) (by simp [Mu.start])).2.1
 have h3 : Mu.start.pos = 0 := rfl
 show nszL (Mu.parts s (s.length + 4) Mu.start []).1 ≤ _
 omega
theorem wiL_of {names : List Mu.B} : ∀ {l : List Mu.Node}, (∀ j (h : j < l.length), Mu.wiN names l[j]) → Mu.wiL names l
 | [], _ => by unfold Mu.wiL; trivial
 | n :: l, h => by
  unfold Mu.wiL;exact ⟨h 0 (by simp), wiL_of fun j hj => h (j + 1) (by simpa using hj)⟩
theorem keep_lt {S : Nat → Prop} {w w' : World} (hf : F0 w w') (hS : ∀ k, S k → k < w.heap.size) : Keep S w w' := fun k hk => hf.block k (hS k hk) id
def SomePost (w : World) (e : Ending) (w' : World) : Prop := ∃ n : Int, e = .returned (.int .i64 n) ∧ F0 w w'
end Go.Proofs.YtfakghnpkdoclaaGreatDoor
namespace Go.Proofs.YtfakghnpkdoclaaGreatDoor
open Go.RowKit
open Go.Lib (hid)
def WiPost2 (names : List Mu.B) (ns : List Mu.Node) (w : World) (e : Ending) (w' : World) : Prop := ∃ b : Bool, e = .returned (.bool b) ∧ (b = true ↔ Mu.wiL names ns) ∧ F0 w w'
theorem wiL_get {names : List Mu.B} : ∀ {l : List Mu.Node}, Mu.wiL names l → ∀ j (h : j < l.length), Mu.wiN names l[j]
 | n :: l, h, j, hj => by
  unfold Mu.wiL at h
  cases j with
  | zero => exact h.1
  | succ j => exact wiL_get h.2 j (by simpa using hj)
theorem within_any (m : Nat) : ∀ (ns : List Mu.Node) (v : Value) (vs : List Value) (S : Nat → Prop) (w : World) (pv : Value) (ps : List (ByteArray × ByteArray)), nszL ns ≤ m → m ≤ 85899346000 → ps.length ≤ 2147483647 → PsAt w pv ps →
 RowN w S 5 v ns.length vs → NsAt w S ns vs → (∀ k, S k → k < w.heap.size) → Calls Tryz.prog 76 #[v, pv] w (WiPost2 (pnames ps) ns w) := by
 induction m using Nat.strongRecOn with
 | _ m ih =>
  have IH := hid ih;clear ih;intro ns v vs S w pv ps hm hm2 hpl hps hrow hns hS;have hl : ns.length ≤ 85899346000 := by have := len_nsz ns; omega
  obtain ⟨a, c, hv, hnc⟩ : ∃ a c, v = .slice a ns.length c ∧ ns.length ≤ c := by
   obtain ⟨-, a, c, h1, h2, -⟩ := hrow;exact ⟨a, c, h1, h2⟩
  subst hv
  obtain ⟨pa, pc, hpv, hpc⟩ : ∃ pa pc, pv = .slice pa ps.length pc ∧ ps.length ≤ pc := by
   obtain ⟨a, c, h1, h2, -⟩ := hps;exact ⟨a, c, h1, h2⟩
  subst hpv;have HPS := hid hps;have HR := hid hrow;have HN := hid hns;have HS := hid hS;clear hrow hns hS hps;go_enter Tryz.func76, Tryz.ntmps76;go_wp2_with fail
  go_loopg [12] ns.length (fun g v12 wr => ∃ k : Nat, v12 = .int .i64 k ∧ k ≤ ns.length ∧ g = ns.length - k ∧ Hid (F0 w wr ∧ ∀ j (h : j < ns.length), j < k → Mu.wiN (pnames ps) ns[j]))
  case atStart => exact ⟨0, rfl, Nat.zero_le _, rfl, hid ⟨Fr.refl _ _, fun j _ h => absurd h (by omega)⟩⟩
  case round =>
   obtain ⟨k, rfl, hk, rfl, HI⟩ := hrel
   by_cases hlt : k < ns.length
   · have HK := hid (keep_lt HI.out.1 HS.out)
     obtain ⟨g, c', kd, raw, tb, ib, sv, kids, us, hv, hSg, -, hnd, n0, n1, n2, n3, n4, hr2, hn2⟩ := (HR.out.keep HK.out (fun _ h => h)).node (NsAt.keep HK.out (fun _ h => h) _ _ HN.out) k hlt
     obtain ⟨rfl, hcc⟩ : a = some ⟨g, 0, none⟩ ∧ c = c' := by
      injection hv with h1 h2 h3;exact ⟨h1, h3⟩
     have hgl : g < wr.heap.size := by have := HS.out g hSg; have := HI.out.1.size; omega
     have HND := hid hnd
     have HSZ : Hid (nszL kids < m) := hid (by
      have h1 := nszL_mem (List.getElem_mem hlt);rw [hnd] at h1;simp only [nsz] at h1; omega)
     have HR2 := hid hr2;have HN2 := hid hn2
     obtain ⟨ka, kc, hsv⟩ : ∃ ka kc, sv = .slice ka kids.length kc := by
      obtain ⟨-, ka, kc, h1, -⟩ := hr2;exact ⟨ka, kc, h1⟩
     subst hsv;clear hv hcc hnd hr2 hn2 hSg;have HKA : Hid (∀ o : Obj, Keep S wr (wr.alloc o)) := hid (fun o => keep_lt (Fr.alloc No wr o) (fun k hk => by have := HS.out k hk; have := HI.out.1.size; omega));go_wp2_with fail
     refine (IH.out (nszL kids) HSZ.out kids _ us S _ _ ps (Nat.le_refl _) (by have := HSZ.out; omega) hpl (HPS.out.f0 (HI.out.1.allocA _)) (HR2.out.keep (HKA.out _) (fun _ h => h)) (NsAt.keep (HKA.out _) (fun _ h => h) _ _ HN2.out) (fun k hk => by have := HS.out k hk; have := HI.out.1.size; simp; omega)).mono ?_;rintro e w2 ⟨b, rfl, hb, hf⟩
     have HF2 : Hid (F0 w w2) := hid ((HI.out.1.allocA _).trans hf);have hnb : w2.heap[wr.heap.size]? = some (.cells #[.int .i64 kd, .string tb, .bool raw, .string ib, .slice ka kids.length kc] 38 (0, 0)) := hf.blk (blk_new wr _) id;have HNB := hid hnb;have HB := hid hb;have p0 := blk_cell hnb 0;simp only [List.getElem?_toArray, List.getElem?_cons_zero] at p0;clear hb hf hnb
     cases b with
     | false =>
      go_wp2_with fail;go_ret
      refine ⟨false, rfl, ⟨(fun h => by cases h), fun h => ?_⟩, HF2.out⟩;have h2 := wiL_get h k hlt;rw [HND.out] at h2;unfold Mu.wiN at h2;exact HB.out.2 h2.1
     | true =>
      by_cases h5 : kd = 5
      · have b5 : ((kd : Int) != 5) = false := by subst h5; rfl
        go_wp2_with fail
        go_loopg [7, 26] ps.length (fun g v7 v26 wr2 => ∃ (j : Nat) (fb : Bool), v7 = .bool fb ∧ v26 = .int .i64 j ∧ j ≤ ps.length ∧ g = ps.length - j ∧ Hid (fb = (ps.take j).any (fun p => L p.1 == L tb)) ∧ Hid (F0 w2 wr2))
        case atStart => exact ⟨0, false, rfl, rfl, Nat.zero_le _, rfl, hid rfl, hid (Fr.refl _ _)⟩
        case round =>
         obtain ⟨j, fb, rfl, rfl, hj, rfl, HFB, HF3⟩ := hrel;have hnb2 := HF3.out.blk HNB.out id;have q1 := blk_cell hnb2 1;have hl2 := blk_lt hnb2;simp only [List.getElem?_toArray, List.getElem?_cons_zero, List.getElem?_cons_succ] at q1;clear hnb2
         by_cases hjl : j < ps.length
         · obtain ⟨pb, po, pn, pt, rfl, hpe, c0, c1, hpb⟩ := (HPS.out.f0 (HF2.out.trans HF3.out)).at hjl
           have HNX : Hid ((fb || (L pn == L tb)) = (ps.take (j + 1)).any (fun p => L p.1 == L tb)) := hid (by rw [any_take hjl, ← HFB.out, hpe]);clear hpe
           cases fb with
           | true =>
            go_wp2_with fail
            go_roundg (ps.length - (j + 1))
            case rel => exact ⟨j + 1, true, by go_num, rfl, by omega, rfl, HNX, hid (HF3.out.allocA _)⟩
            case measure => omega
           | false =>
            by_cases hq : L pn = L tb
            · have q2 : (pn.toList == tb.toList) = true := by rw [beq_iff_eq, ByteArray.toList_eq, ByteArray.toList_eq]; exact hq
              have HNY : Hid (true = (ps.take (j + 1)).any (fun p => L p.1 == L tb)) := hid (by rw [← HNX.out, hq]; simp);clear hq HNX;go_wp2_with fail
              go_roundg (ps.length - (j + 1))
              case rel => exact ⟨j + 1, true, by go_num, rfl, by omega, rfl, HNY, hid (HF3.out.allocA _)⟩
              case measure => omega
            · have q2 : (pn.toList == tb.toList) = false := by rw [beq_eq_false_iff_ne, ByteArray.toList_eq, ByteArray.toList_eq]; exact hq
              have HNY : Hid (false = (ps.take (j + 1)).any (fun p => L p.1 == L tb)) := hid (by rw [← HNX.out]; simpa using hq);clear hq HNX;go_wp2_with fail
              go_roundg (ps.length - (j + 1))
              case rel => exact ⟨j + 1, false, by go_num, rfl, by omega, rfl, HNY, hid (HF3.out.allocA _)⟩
              case measure => omega
         · have HKK : Hid (fb = true → ∀ j (h : j < ns.length), j < k + 1 → Mu.wiN (pnames ps) ns[j]) := hid (fun hfb i hi hik => by
            rcases Nat.lt_or_ge i k with h | h
            · exact HI.out.2 i hi h
            · obtain rfl : i = k := by omega
              rw [HND.out];unfold Mu.wiN;refine ⟨HB.out.1 (by first | rfl | trivial), fun _ => ?_⟩;have h := HFB.out;rw [hfb, List.take_of_length_le (by omega)] at h;obtain ⟨p, hp, he⟩ := List.any_eq_true.1 h.symm;exact List.mem_map.2 ⟨p, hp, by simpa using he⟩)
           cases fb with
           | false =>
            go_wp2_with fail;go_ret
            refine ⟨false, rfl, ⟨(fun h => by cases h), fun h => ?_⟩, HF2.out.trans HF3.out⟩;have h2 := wiL_get h k hlt;rw [HND.out] at h2;unfold Mu.wiN at h2;have h3 := HFB.out;rw [List.take_of_length_le (by omega)] at h3;obtain ⟨q, hq1, hq2⟩ := List.mem_map.1 (h2.2 h5);have h4 : (ps.any fun p => L p.1 == L tb) = true := List.any_eq_true.2 ⟨q, hq1, by simpa using hq2⟩;rw [h4] at h3
            exact h3
           | true =>
            go_wp2_with fail
            go_roundg (ns.length - (k + 1))
            case rel => exact ⟨k + 1, by go_num, by omega, by first | rfl | trivial, hid ⟨HF2.out.trans HF3.out, HKK.out (by first | rfl | trivial)⟩⟩
            case measure => omega
      · have b5 : ((kd : Int) != 5) = true := by simp; omega
        have HKK : Hid (∀ j (h : j < ns.length), j < k + 1 → Mu.wiN (pnames ps) ns[j]) := hid (fun j hj hjk => by
         rcases Nat.lt_or_ge j k with h | h
         · exact HI.out.2 j hj h
         · obtain rfl : j = k := by omega
           rw [HND.out];unfold Mu.wiN;exact ⟨HB.out.1 (by first | rfl | trivial), fun e => absurd e h5⟩)
        clear h5;go_wp2_with fail
        go_roundg (ns.length - (k + 1))
        case rel => exact ⟨k + 1, by go_num, by omega, by first | rfl | trivial, hid ⟨HF2.out, HKK.out⟩⟩
        case measure => omega
   · go_wp2_with fail
     go_ret;exact ⟨true, rfl, ⟨fun _ => wiL_of fun j hj => HI.out.2 j hj (by omega), fun _ => by first | rfl | trivial⟩, HI.out.1⟩
end Go.Proofs.YtfakghnpkdoclaaGreatDoor
namespace Go.Proofs.YtfakghnpkdoclaaGreatDoor
open Go.RowKit
open Go.Lib (hid)
theorem PsAt.none {w : World} {a : Option Addr} {k : Nat} {ps : List (ByteArray × ByteArray)} (h : ps.length ≤ k) : PsAt w (.slice a (ps.length - k) 0) (ps.drop k) := by
 have h1 : (ps.drop k).length = ps.length - k := List.length_drop ..
 exact ⟨a, 0, by rw [h1], by omega, fun h0 => by omega⟩
theorem asked_any (q : Nat) : ∀ (m : Nat) (ns : List Mu.Node) (v : Value) (vs : List Value) (S : Nat → Prop) (w : World) (pv : Value) (ps : List (ByteArray × ByteArray)), ps.length ≤ q → nszL ns ≤ m → m ≤ 85899346000 → ps.length ≤ 2147483647 → (∀ p ∈ ps, p.2.size ≤ 2147483647) → PsAt w pv ps →
 RowN w S 5 v ns.length vs → NsAt w S ns vs → (∀ k, S k → k < w.heap.size) → Calls Tryz.prog 45 #[v, pv] w (SomePost w) := by
 induction q using Nat.strongRecOn with
 | _ q ihq =>
 have IHQ := hid ihq
 clear ihq
 intro m
 induction m using Nat.strongRecOn with
 | _ m ih =>
  have IH := hid ih;clear ih;intro ns v vs S w pv ps hpq hm hm2 hpl hpt hps hrow hns hS;have hl : ns.length ≤ 85899346000 := by have := len_nsz ns; omega
  obtain ⟨a, c, hv, hnc⟩ : ∃ a c, v = .slice a ns.length c ∧ ns.length ≤ c := by
   obtain ⟨-, a, c, h1, h2, -⟩ := hrow;exact ⟨a, c, h1, h2⟩
  subst hv
  obtain ⟨pa, pc, hpv, hpc⟩ : ∃ pa pc, pv = .slice pa ps.length pc ∧ ps.length ≤ pc := by
   obtain ⟨a, c, h1, h2, -⟩ := hps;exact ⟨a, c, h1, h2⟩
  subst hpv;have HPT := hid hpt;have HPS := hid hps;have HR := hid hrow;have HN := hid hns;have HS := hid hS;clear hrow hns hS hps hpt;go_enter Tryz.func45, Tryz.ntmps45;go_wp2_with fail
  go_loopg [5, 14] ns.length (fun g v5 v14 wr => ∃ (k : Nat) (N : Int), v14 = .int .i64 k ∧ v5 = .int .i64 N ∧ k ≤ ns.length ∧ g = ns.length - k ∧ Hid (F0 w wr))
  case atStart => exact ⟨0, 0, rfl, rfl, Nat.zero_le _, rfl, hid (Fr.refl _ _)⟩
  case round =>
   obtain ⟨k, N, rfl, rfl, hk, rfl, HI⟩ := hrel
   by_cases hlt : k < ns.length
   · have HK := hid (keep_lt HI.out HS.out)
     obtain ⟨g, c', kd, raw, tb, ib, sv, kids, us, hv, hSg, -, hnd, n0, n1, n2, n3, n4, hr2, hn2⟩ := (HR.out.keep HK.out (fun _ h => h)).node (NsAt.keep HK.out (fun _ h => h) _ _ HN.out) k hlt
     obtain ⟨rfl, hcc⟩ : a = some ⟨g, 0, none⟩ ∧ c = c' := by
      injection hv with h1 h2 h3;exact ⟨h1, h3⟩
     have hgl : g < wr.heap.size := by have := HS.out g hSg; have := HI.out.size; omega
     have HSZ : Hid (nszL kids < m) := hid (by
      have h1 := nszL_mem (List.getElem_mem hlt);rw [hnd] at h1;simp only [nsz] at h1; omega)
     have HR2 := hid hr2;have HN2 := hid hn2
     obtain ⟨ka, kc, hsv⟩ : ∃ ka kc, sv = .slice ka kids.length kc := by
      obtain ⟨-, ka, kc, h1, -⟩ := hr2;exact ⟨ka, kc, h1⟩
     subst hsv;clear hv hcc hnd hr2 hn2 hSg;have HKA : Hid (∀ o : Obj, Keep S wr (wr.alloc o)) := hid (fun o => keep_lt (Fr.alloc No wr o) (fun k hk => by have := HS.out k hk; have := HI.out.size; omega));go_wp2_with fail
     refine (IH.out (nszL kids) HSZ.out kids _ us S _ _ ps hpq (Nat.le_refl _) (by have := HSZ.out; omega) hpl HPT.out (HPS.out.f0 (HI.out.allocA _)) (HR2.out.keep (HKA.out _) (fun _ h => h)) (NsAt.keep (HKA.out _) (fun _ h => h) _ _ HN2.out) (fun k hk => by have := HS.out k hk; have := HI.out.size; simp; omega)).mono ?_;rintro e w2 ⟨M, rfl, hf⟩
     have HF2 : Hid (F0 w w2) := hid ((HI.out.allocA _).trans hf);have hnb : w2.heap[wr.heap.size]? = some (.cells #[.int .i64 kd, .string tb, .bool raw, .string ib, .slice ka kids.length kc] 38 (0, 0)) := hf.blk (blk_new wr _) id;have HNB := hid hnb;have p0 := blk_cell hnb 0;simp only [List.getElem?_toArray, List.getElem?_cons_zero] at p0;clear hf hnb
     obtain ⟨Z, hZ⟩ : ∃ Z, IntKind.i64.wrap (N + M) = Z := ⟨_, rfl⟩
     obtain ⟨Z1, hZ1⟩ : ∃ Z1, IntKind.i64.wrap (Z + 1) = Z1 := ⟨_, rfl⟩
     by_cases h5 : kd = 5
     · have b5 : ((kd : Int) != 5) = false := by subst h5; rfl
       clear h5
       cases h40 : decide ((40 : Int) < Z) with
       | true =>
        go_wp2_with fail
        go_roundg (ns.length - (k + 1))
        case rel => exact ⟨k + 1, _, by go_num, rfl, by omega, rfl, HF2⟩
        case measure => omega
       | false =>
        go_wp2_with fail
        go_loopg [5, 35] ps.length (fun g v5 v35 wr2 => ∃ (j : Nat) (Q : Int), v5 = .int .i64 Q ∧ v35 = .int .i64 j ∧ j ≤ ps.length ∧ g = ps.length - j ∧ Hid (F0 w2 wr2))
        case atStart => exact ⟨0, _, rfl, rfl, Nat.zero_le _, rfl, hid (Fr.refl _ _)⟩
        case round =>
         obtain ⟨j, Q, rfl, rfl, hj, rfl, HF3⟩ := hrel;have hnb2 := HF3.out.blk HNB.out id;have q1 := blk_cell hnb2 1;have hl2 := blk_lt hnb2;simp only [List.getElem?_toArray, List.getElem?_cons_zero, List.getElem?_cons_succ] at q1;clear hnb2
         by_cases hjl : j < ps.length
         · obtain ⟨pb, po, pn, pt, rfl, hpe, c0, c1, hpb⟩ := (HPS.out.f0 (HF2.out.trans HF3.out)).at hjl
           have hptl : pt.size ≤ 2147483647 := by have := HPT.out _ (List.getElem_mem hjl); rwa [hpe] at this
           clear hpe
           by_cases hq : L pn = L tb
           · have q2 : (pn.toList == tb.toList) = true := by rw [beq_iff_eq, ByteArray.toList_eq, ByteArray.toList_eq]; exact hq
             clear hq;go_wp2_with fail;refine (parse_spec pt _ (by omega)).mono ?_;rintro e w4 ⟨v', rfl, hf4, ⟨S', vs', hrow', hns', hS'⟩, g5, c5, rfl⟩;have HF4 : Hid (F0 w2 w4) := hid ((HF3.out.allocA _).trans hf4);have HR4 := hid hrow';have HN4 := hid hns';have HS4 : Hid (∀ k, S' k → k < w4.heap.size) := hid (fun k hk => (hS' k hk).2)
             have HZ : Hid (nszL (Mu.parse (L pt)).1 ≤ 85899346000) := hid (by have := parse_nsz (L pt); rw [L_length] at this; omega);clear hf4 hrow' hns' hS'
             by_cases hpc : pc = j + 1
             · have HPE : Hid (PsAt w4 (.slice (some ⟨pb, po, none⟩) (ps.length - (j + 1)) 0) (ps.drop (j + 1))) := hid (PsAt.none (by omega))
               go_wp2_with fail;refine (IHQ.out (ps.length - (j + 1)) (by omega) _ (Mu.parse (L pt)).1 _ vs' S' _ _ (ps.drop (j + 1)) (by rw [List.length_drop]; omega) (Nat.le_refl _) HZ.out (by rw [List.length_drop]; omega) (fun p hp => HPT.out p (List.mem_of_mem_drop hp)) HPE.out HR4.out HN4.out HS4.out).mono ?_
               rintro e w5 ⟨M5, rfl, hf5⟩;have HF5 : Hid (F0 w2 w5) := hid (HF4.out.trans hf5);clear hf5;obtain ⟨Z2, hZ2⟩ : ∃ Z2, IntKind.i64.wrap (Q + M5) = Z2 := ⟨_, rfl⟩
               go_wp2_with fail;rw [← hpc]
               go_roundg (ps.length - (j + 1))
               case rel => exact ⟨j + 1, _, rfl, by go_num, by omega, rfl, HF5⟩
               case measure => omega
             · have HPE : Hid (PsAt w4 (.slice (some ⟨pb, po + (j + 1) * 2, none⟩) (ps.length - (j + 1)) (pc - (j + 1))) (ps.drop (j + 1))) := hid ((HPS.out.f0 (HF2.out.trans HF4.out)).drop (by omega))
               go_wp2_with fail;refine (IHQ.out (ps.length - (j + 1)) (by omega) _ (Mu.parse (L pt)).1 _ vs' S' _ _ (ps.drop (j + 1)) (by rw [List.length_drop]; omega) (Nat.le_refl _) HZ.out (by rw [List.length_drop]; omega) (fun p hp => HPT.out p (List.mem_of_mem_drop hp)) HPE.out HR4.out HN4.out HS4.out).mono ?_
               rintro e w5 ⟨M5, rfl, hf5⟩;have HF5 : Hid (F0 w2 w5) := hid (HF4.out.trans hf5);clear hf5;obtain ⟨Z2, hZ2⟩ : ∃ Z2, IntKind.i64.wrap (Q + M5) = Z2 := ⟨_, rfl⟩
               go_wp2_with fail
               go_roundg (ps.length - (j + 1))
               case rel => exact ⟨j + 1, _, rfl, by go_num, by omega, rfl, HF5⟩
               case measure => omega
           · have q2 : (pn.toList == tb.toList) = false := by rw [beq_eq_false_iff_ne, ByteArray.toList_eq, ByteArray.toList_eq]; exact hq
             clear hq;go_wp2_with fail
             go_roundg (ps.length - (j + 1))
             case rel => exact ⟨j + 1, _, rfl, by go_num, by omega, rfl, hid (HF3.out.allocA _)⟩
             case measure => omega
         · go_wp2_with fail
           go_roundg (ns.length - (k + 1))
           case rel => exact ⟨k + 1, _, by go_num, rfl, by omega, rfl, hid (HF2.out.trans HF3.out)⟩
           case measure => omega
     · have b5 : ((kd : Int) != 5) = true := by simp; omega
       clear h5;go_wp2_with fail
       go_roundg (ns.length - (k + 1))
       case rel => exact ⟨k + 1, _, by go_num, rfl, by omega, rfl, HF2⟩
       case measure => omega
   · go_wp2_with fail
     go_ret;exact ⟨N, rfl, HI.out⟩
end Go.Proofs.YtfakghnpkdoclaaGreatDoor
namespace Go.Proofs.YtfakghnpkdoclaaGreatDoor
open Go.RowKit Go.Sort
open Go.Lib (hid)
def PlOk (s : ByteArray) (ps : List (ByteArray × ByteArray)) : Prop := (Mu.parse (L s)).2 = true ∧ signsB (L s) = true ∧ Mu.wiL (pnames ps) (Mu.parse (L s)).1
def PlPost (s : ByteArray) (ps : List (ByteArray × ByteArray)) (w : World) (e : Ending) (w' : World) : Prop := ∃ b : Bool, e = .returned (.bool b) ∧ F0 w w' ∧ (b = true ↔ PlOk s ps)
theorem plain_any (s : ByteArray) (pv : Value) (ps : List (ByteArray × ByteArray)) (w : World) (hs : s.size ≤ 2147483647) (hpl : ps.length ≤ 2147483647) (hps : PsAt w pv ps) : Calls Tryz.prog 44 #[.string s, pv] w (PlPost s ps w) := by
 have HPS := hid hps
 clear hps
 go_enter Tryz.func44, Tryz.ntmps44
 go_wp2_with fail
 refine (parse_spec s _ (by omega)).mono ?_
 rintro e w1 ⟨v, rfl, hf, ⟨S, vs, hrow, hns, hS⟩, -⟩
 have HF := hid hf
 have HR := hid hrow
 have HN := hid hns
 have HSS : Hid (∀ k, S k → k < w1.heap.size) := hid (fun k hk => (hS k hk).2)
 have HZ : Hid (nszL (Mu.parse (L s)).1 ≤ 85899346000) := hid (by have := parse_nsz (L s); rw [L_length] at this; omega)
 obtain ⟨ok, hok⟩ : ∃ ok, ok = (Mu.parse (L s)).2 := ⟨_, rfl⟩
 rw [← hok]
 have HOK := hid hok
 clear hf hrow hns hS hok
 cases ok with
 | false =>
  go_wp2_with fail;go_ret
  exact ⟨false, rfl, HF.out, (fun h => by cases h), fun h => by rw [HOK.out]; exact h.1⟩
 | true =>
  go_wp2_with fail;refine (signsOk_any s _ (by omega)).mono ?_
  rintro e w2 ⟨rfl, hf2⟩;subst hf2;obtain ⟨sg, hsg⟩ : ∃ sg, sg = signsB (L s) := ⟨_, rfl⟩
  rw [← hsg];have HSG := hid hsg;clear hsg
  cases sg with
  | false =>
   go_wp2_with fail;go_ret
   exact ⟨false, rfl, HF.out, (fun h => by cases h), fun h => by rw [HSG.out]; exact h.2.1⟩
  | true =>
   go_wp2_with fail;refine (within_any _ _ v vs S w1 pv ps (Nat.le_refl _) HZ.out hpl (HPS.out.f0 HF.out) HR.out HN.out HSS.out).mono ?_
   rintro e w3 ⟨b, rfl, hb, hf3⟩;have HF3 := hid hf3;have HB := hid hb;clear hf3 hb;go_wp2_with fail;go_ret;exact ⟨b, rfl, HF.out.trans HF3.out, fun h => ⟨HOK.out.symm, HSG.out.symm, HB.out.1 h⟩, fun h => HB.out.2 h.2.2⟩
theorem pl_fix {s : ByteArray} {ps : List (ByteArray × ByteArray)} {b : Bool} {w : World} (h : b = true ↔ PlOk s ps) (e : Ending) (w' : World) : PlPost s ps w e w' → e = .returned (.bool b) ∧ F0 w w' := by
 rintro ⟨c, rfl, h1, h2⟩
 have : c = b := by rw [Bool.eq_iff_iff, h2, h]
 subst this
 exact ⟨rfl, h1⟩
theorem regrown_call {w w8 : World} {f : FuncId} {args : Array Value} {v : Value} {d : Nat} {os : Array Obj} (hf : F0 w w8) (h : ∀ w', F0 w w' → Calls Tryz.prog f args w' (fun e w'' => e = .returned v ∧ F0 w' w'')) :
 Calls Tryz.prog f args (grow (redrawn w8 d) os) (fun e w'' => e = .returned v ∧ ∃ p : Regrown, w'' = grow (redrawn w8 p.d) p.os) := by
 have h1 : F0 w8 (grow (redrawn w8 d) os) := Fr.ofBelow (below_regrown w8 d os)
 exact Calls.regrown_of ((h _ (hf.trans h1)).mono (fun e w'' hh => ⟨hh.1, F0.below hh.2⟩))
def TplOk (s : ByteArray) (ps : List (ByteArray × ByteArray)) : Prop := ps.length ≤ 4 ∧ PlOk s ps ∧ ∀ i (h : i < ps.length), Mu.wordOk (L ps[i].1) = true ∧ PlOk ps[i].2 (ps.drop (i + 1)) ∧ ∀ j (hj : j < i), L ps[j].1 ≠ L ps[i].1
def TplPost (s : ByteArray) (ps : List (ByteArray × ByteArray)) (w : World) (e : Ending) (w' : World) : Prop := ∃ b : Bool, e = .returned (.bool b) ∧ F0 w w' ∧ (b = true → TplOk s ps)
theorem templateOk_any (s : ByteArray) (pv : Value) (ps : List (ByteArray × ByteArray)) (w : World) (hs : s.size ≤ 2147483647) (hpl : ps.length ≤ 2147483647) (hpt : ∀ p ∈ ps, p.1.size ≤ 2147483647 ∧ p.2.size ≤ 2147483647) (hps : PsAt w pv ps) :
 Calls Tryz.prog 27 #[.string s, pv] w (TplPost s ps w) := by
 obtain ⟨pa, pc, hpv, hpc⟩ : ∃ pa pc, pv = .slice pa ps.length pc ∧ ps.length ≤ pc := by
  obtain ⟨a, c, h1, h2, -⟩ := hps;exact ⟨a, c, h1, h2⟩
 subst hpv
 have HPS := hid hps
 have HPT := hid hpt
 clear hps hpt
 go_enter Tryz.func27, Tryz.ntmps27
 by_cases h4 : ps.length ≤ 4
 · have h4' : decide ((4 : Int) < (ps.length : Int)) = false := by simp; omega
   go_wp2_with fail;refine (plain_any s _ ps _ hs hpl HPS.out).mono ?_
   rintro e w1 ⟨b, rfl, hf, hb⟩;have HF := hid hf;have HB := hid hb;clear hf hb
   cases b with
   | false =>
    go_wp2_with fail;go_ret
    exact ⟨false, rfl, HF.out, fun h => by cases h⟩
   | true =>
    go_wp2_with fail;refine (parse_spec s _ (by omega)).mono ?_
    rintro e w2 ⟨v, rfl, hf, ⟨S, vs, hrow, hns, hS⟩, -⟩;have HF2 := hid (HF.out.trans hf);have HR := hid hrow;have HN := hid hns;have HSS : Hid (∀ k, S k → k < w2.heap.size) := hid (fun k hk => (hS k hk).2);have HZ : Hid (nszL (Mu.parse (L s)).1 ≤ 85899346000) := hid (by have := parse_nsz (L s); rw [L_length] at this; omega);clear hf hrow hns hS;go_wp2_with fail
    refine (asked_any ps.length _ _ v vs S w2 _ ps (Nat.le_refl _) (Nat.le_refl _) HZ.out hpl (fun p hp => (HPT.out p hp).2) (HPS.out.f0 HF2.out) HR.out HN.out HSS.out).mono ?_;rintro e w3 ⟨n, rfl, hf3⟩;have HF3 : Hid (F0 w w3) := hid (HF2.out.trans hf3);clear hf3
    cases h40 : decide ((40 : Int) < n) with
    | true =>
     go_wp2_with fail;go_ret
     exact ⟨false, rfl, HF3.out, fun h => by cases h⟩
    | false =>
     go_wp2_with fail
     go_loopg [31] ps.length (fun g v wr => ∃ k : Nat, v = .int .i64 k ∧ k ≤ ps.length ∧ g = ps.length - k ∧ Hid (F0 w wr ∧ ∀ i (h : i < ps.length), i < k → Mu.wordOk (L ps[i].1) = true ∧ PlOk ps[i].2 (ps.drop (i + 1)) ∧ ∀ j (hj : j < i), L ps[j].1 ≠ L ps[i].1))
     case atStart => exact ⟨0, rfl, Nat.zero_le _, rfl, hid ⟨HF3.out, fun i h h' => absurd h' (by omega)⟩⟩
     case round =>
      obtain ⟨k, rfl, hk, rfl, HI⟩ := hrel
      by_cases hlt : k < ps.length
      · obtain ⟨pb, po, pn, pt, rfl, hpe, c0, c1, hpb⟩ := (HPS.out.f0 HI.out.1).at hlt
        have HPE := hid hpe;have hsz := HPT.out _ (List.getElem_mem hlt);rw [hpe] at hsz;have hs1 : pn.size ≤ 2147483647 := hsz.1;have hs2 : pt.size ≤ 2147483647 := hsz.2;clear hsz;clear hpe;obtain ⟨nb, hnb⟩ : ∃ nb, nb = wr.heap.size := ⟨_, rfl⟩
        obtain ⟨w8, hw8⟩ : ∃ w8, w8 = wr.alloc (.cells #[.string pn, .string pt] 73) := ⟨_, rfl⟩
        have hnb0 : w8.heap[nb]? = some (.cells #[.string pn, .string pt] 73 (0, 0)) := by rw [hw8, hnb]; exact blk_new _ _
        have hf8 : F0 w w8 := by rw [hw8]; exact HI.out.1.allocA _
        have HNB := hid hnb0;have HF8 := hid hf8;have HW8 := hid hw8;have HNBE := hid hnb;have y0 := blk_cell hnb0 0;have y1 := blk_cell hnb0 1;simp only [List.getElem?_toArray, List.getElem?_cons_zero, List.getElem?_cons_succ] at y0 y1;have hl8 := blk_lt hnb0;clear hnb0 hf8
        cases hwb : Mu.wordOk (L pn) with
        | false =>
         have HWC : Hid (∀ w', Calls Tryz.prog 46 #[.string pn] w' (fun e w'' => e = .returned (.bool false) ∧ w'' = w')) := hid (fun w' => (wordOk_any pn w' (by omega)).mono (by rintro e w'' ⟨h1, h2⟩; rw [hwb] at h1; exact ⟨h1, h2.symm⟩));clear hwb
         go_upto_region 9 with fail
         rw [← HW8.out, ← HNBE.out];clear hw8 hnb
         go_quiet ((go_at_call 46; exact Calls.quiet_of_same (HWC.out _)))
         go_wp2_with fail;go_ret
         exact ⟨false, rfl, HF8.out.drewNA _, fun h => by cases h⟩
        | true =>
         have HWB := hid hwb;have HWC : Hid (∀ w', Calls Tryz.prog 46 #[.string pn] w' (fun e w'' => e = .returned (.bool true) ∧ w'' = w')) := hid (fun w' => (wordOk_any pn w' (by omega)).mono (by rintro e w'' ⟨h1, h2⟩; rw [hwb] at h1; exact ⟨h1, h2.symm⟩));clear hwb;have hwk : IntKind.i64.wrap ((k : Int) + 1) = (k : Int) + 1 := by rw [IntKind.wrap_i64]; omega
         have hb0 : (0 : Int) ≤ (k : Int) + 1 := by omega
         have hb1 : (k : Int) + 1 ≤ (ps.length : Int) := by omega
         have z0 := fun (d : Nat) (os : Array Obj) => cell_regrown y0 d os
         have z1 := fun (d : Nat) (os : Array Obj) => cell_regrown y1 d os
         obtain ⟨pb6, hpb6⟩ : ∃ b : Bool, b = true ↔ PlOk pt (ps.drop (k + 1)) := ⟨@decide (PlOk pt (ps.drop (k + 1))) (Classical.propDecidable _), @decide_eq_true_iff _ (Classical.propDecidable _)⟩
         have HPB := hid hpb6;clear hpb6
         by_cases hpc : pc = k + 1
         · have HPL : Hid (∀ w', F0 w w' → Calls Tryz.prog 44 #[.string pt, .slice (some ⟨pb, po, none⟩) (ps.length - (k + 1)) 0] w' (fun e w'' => e = .returned (.bool pb6) ∧ F0 w' w'')) := hid (fun w' hf => (plain_any pt _ _ w' hs2 (by rw [List.length_drop]; omega) (PsAt.none (by omega))).mono (pl_fix HPB.out))
           go_upto_region 9 with fail
           rw [← HW8.out, ← HNBE.out];clear hw8 hnb;refine wp_region_quiet_below (by kernel_rfl) (by kernel_rfl) ?_
           repeat (quiet_step (first | (go_at_call 46; exact (HWC.out _).mono (by rintro e w'' ⟨h1, h2⟩; exact ⟨h1, ⟨_, _⟩, h2⟩)) | (go_at_call 44; exact regrown_call HF8.out (fun w' hf => HPL.out w' hf))))
           refine wpQuiet_nil ?_;intro _ hw';obtain ⟨⟨nq, osq⟩, hw''⟩ := hw';subst hw'';obtain ⟨w6, hw6⟩ : ∃ w6, w6 = grow (redrawn w8 nq) osq := ⟨_, rfl⟩
           have HF6 : Hid (F0 w8 w6) := hid (by rw [hw6]; exact Fr.ofBelow (below_regrown w8 nq osq));rw [← hw6];clear hw6 z0 z1 y0 y1;have hx : F0 w w6 ∧ w6.heap[nb]? = some (.cells #[.string pn, .string pt] 73 (0, 0)) := ⟨HF8.out.trans HF6.out, HF6.out.blk HNB.out id⟩
           cases pb6 with
           | false =>
            go_wp2_with fail;go_ret
            exact ⟨false, rfl, hx.1, fun h => by cases h⟩
           | true =>
            have HPK := hid (HPB.out.1 (by first | rfl | trivial));have HX := hid hx;clear hx;have hnb2 := HX.out.2;have x0 := blk_cell hnb2 0;simp only [List.getElem?_toArray, List.getElem?_cons_zero, List.getElem?_cons_succ] at x0;have hl2 := blk_lt hnb2;clear hnb2;go_wp2_with fail
            go_loopg [54] k (fun g v w7 => ∃ j : Nat, v = .int .i64 j ∧ j ≤ k ∧ g = k - j ∧ Hid (F0 w6 w7 ∧ ∀ a (ha : a < ps.length), a < j → L ps[a].1 ≠ L pn))
            case atStart => exact ⟨0, rfl, Nat.zero_le _, rfl, hid ⟨Fr.refl _ _, fun a _ h => absurd h (by omega)⟩⟩
            case round =>
             obtain ⟨j, rfl, hj, rfl, HJ⟩ := hrel;have hnb3 := HJ.out.1.blk HX.out.2 id;have y0 := blk_cell hnb3 0;simp only [List.getElem?_toArray, List.getElem?_cons_zero, List.getElem?_cons_succ] at y0;have hl3 := blk_lt hnb3;clear hnb3
             by_cases hjl : j < k
             · obtain ⟨pb', po', qn, qt, hab, hqe, e0, e1, hqb⟩ := (HPS.out.f0 (HX.out.1.trans HJ.out.1)).at (show j < ps.length by omega)
               injection hab with hab;injection hab with hab1 hab2;subst hab1 hab2;have HQE := hid hqe;clear hqe
               by_cases hq : L qn = L pn
               · have q2 : (qn.toList == pn.toList) = true := by rw [beq_iff_eq, ByteArray.toList_eq, ByteArray.toList_eq]; exact hq
                 clear hq;go_wp2_with fail;go_ret;exact ⟨false, rfl, (HX.out.1.trans HJ.out.1).allocA _, fun h => by cases h⟩
               · have q2 : (qn.toList == pn.toList) = false := by rw [beq_eq_false_iff_ne, ByteArray.toList_eq, ByteArray.toList_eq]; exact hq
                 have HJ2 : Hid (∀ o : Obj, F0 w6 (wr.alloc o) ∧ ∀ a (ha : a < ps.length), a < j + 1 → L ps[a].1 ≠ L pn) := hid (fun o => ⟨HJ.out.1.allocA o, fun a ha haj => by
                  rcases Nat.lt_or_ge a j with h | h
                  · exact HJ.out.2 a ha h
                  · obtain rfl : a = j := by omega
                    rw [HQE.out]; exact hq⟩)
                 clear hq;go_wp2_with fail
                 go_roundg (k - (j + 1))
                 case rel => exact ⟨j + 1, by go_num, by omega, rfl, hid (HJ2.out _)⟩
                 case measure => omega
             · have HN : Hid (F0 w wr ∧ ∀ i (h : i < ps.length), i < k + 1 → Mu.wordOk (L ps[i].1) = true ∧ PlOk ps[i].2 (ps.drop (i + 1)) ∧ ∀ j (hj : j < i), L ps[j].1 ≠ L ps[i].1) := hid ⟨HX.out.1.trans HJ.out.1, fun i hi hik => by
                rcases Nat.lt_or_ge i k with h | h
                · exact HI.out.2 i hi h
                · obtain rfl : i = k := by omega
                  rw [HPE.out];exact ⟨HWB.out, HPK.out, fun a ha => HJ.out.2 a (by omega) (by omega)⟩⟩
               go_wp2_with fail;rw [← hpc]
               go_roundg (ps.length - (k + 1))
               case rel => exact ⟨k + 1, by go_num, by omega, rfl, HN⟩
               case measure => omega
         · have HPL : Hid (∀ w', F0 w w' → Calls Tryz.prog 44 #[.string pt, .slice (some ⟨pb, po + (k + 1) * 2, none⟩) (ps.length - (k + 1)) (pc - (k + 1))] w' (fun e w'' => e = .returned (.bool pb6) ∧ F0 w' w'')) := hid (fun w' hf => (plain_any pt _ _ w' hs2 (by rw [List.length_drop]; omega) ((HPS.out.f0 hf).drop (by omega))).mono (pl_fix HPB.out))
           go_upto_region 9 with fail
           rw [← HW8.out, ← HNBE.out];clear hw8 hnb;refine wp_region_quiet_below (by kernel_rfl) (by kernel_rfl) ?_
           repeat (quiet_step (first | (go_at_call 46; exact (HWC.out _).mono (by rintro e w'' ⟨h1, h2⟩; exact ⟨h1, ⟨_, _⟩, h2⟩)) | (go_at_call 44; exact regrown_call HF8.out (fun w' hf => HPL.out w' hf))))
           refine wpQuiet_nil ?_;intro _ hw';obtain ⟨⟨nq, osq⟩, hw''⟩ := hw';subst hw'';obtain ⟨w6, hw6⟩ : ∃ w6, w6 = grow (redrawn w8 nq) osq := ⟨_, rfl⟩
           have HF6 : Hid (F0 w8 w6) := hid (by rw [hw6]; exact Fr.ofBelow (below_regrown w8 nq osq));rw [← hw6];clear hw6 z0 z1 y0 y1;have hx : F0 w w6 ∧ w6.heap[nb]? = some (.cells #[.string pn, .string pt] 73 (0, 0)) := ⟨HF8.out.trans HF6.out, HF6.out.blk HNB.out id⟩
           cases pb6 with
           | false =>
            go_wp2_with fail;go_ret
            exact ⟨false, rfl, hx.1, fun h => by cases h⟩
           | true =>
            have HPK := hid (HPB.out.1 (by first | rfl | trivial));have HX := hid hx;clear hx;have hnb2 := HX.out.2;have x0 := blk_cell hnb2 0;simp only [List.getElem?_toArray, List.getElem?_cons_zero, List.getElem?_cons_succ] at x0;have hl2 := blk_lt hnb2;clear hnb2;go_wp2_with fail
            go_loopg [54] k (fun g v w7 => ∃ j : Nat, v = .int .i64 j ∧ j ≤ k ∧ g = k - j ∧ Hid (F0 w6 w7 ∧ ∀ a (ha : a < ps.length), a < j → L ps[a].1 ≠ L pn))
            case atStart => exact ⟨0, rfl, Nat.zero_le _, rfl, hid ⟨Fr.refl _ _, fun a _ h => absurd h (by omega)⟩⟩
            case round =>
             obtain ⟨j, rfl, hj, rfl, HJ⟩ := hrel;have hnb3 := HJ.out.1.blk HX.out.2 id;have y0 := blk_cell hnb3 0;simp only [List.getElem?_toArray, List.getElem?_cons_zero, List.getElem?_cons_succ] at y0;have hl3 := blk_lt hnb3;clear hnb3
             by_cases hjl : j < k
             · obtain ⟨pb', po', qn, qt, hab, hqe, e0, e1, hqb⟩ := (HPS.out.f0 (HX.out.1.trans HJ.out.1)).at (show j < ps.length by omega)
               injection hab with hab;injection hab with hab1 hab2;subst hab1 hab2;have HQE := hid hqe;clear hqe
               by_cases hq : L qn = L pn
               · have q2 : (qn.toList == pn.toList) = true := by rw [beq_iff_eq, ByteArray.toList_eq, ByteArray.toList_eq]; exact hq
                 clear hq;go_wp2_with fail;go_ret;exact ⟨false, rfl, (HX.out.1.trans HJ.out.1).allocA _, fun h => by cases h⟩
               · have q2 : (qn.toList == pn.toList) = false := by rw [beq_eq_false_iff_ne, ByteArray.toList_eq, ByteArray.toList_eq]; exact hq
                 have HJ2 : Hid (∀ o : Obj, F0 w6 (wr.alloc o) ∧ ∀ a (ha : a < ps.length), a < j + 1 → L ps[a].1 ≠ L pn) := hid (fun o => ⟨HJ.out.1.allocA o, fun a ha haj => by
                  rcases Nat.lt_or_ge a j with h | h
                  · exact HJ.out.2 a ha h
                  · obtain rfl : a = j := by omega
                    rw [HQE.out]; exact hq⟩)
                 clear hq;go_wp2_with fail
                 go_roundg (k - (j + 1))
                 case rel => exact ⟨j + 1, by go_num, by omega, rfl, hid (HJ2.out _)⟩
                 case measure => omega
             · have HN : Hid (F0 w wr ∧ ∀ i (h : i < ps.length), i < k + 1 → Mu.wordOk (L ps[i].1) = true ∧ PlOk ps[i].2 (ps.drop (i + 1)) ∧ ∀ j (hj : j < i), L ps[j].1 ≠ L ps[i].1) := hid ⟨HX.out.1.trans HJ.out.1, fun i hi hik => by
                rcases Nat.lt_or_ge i k with h | h
                · exact HI.out.2 i hi h
                · obtain rfl : i = k := by omega
                  rw [HPE.out];exact ⟨HWB.out, HPK.out, fun a ha => HJ.out.2 a (by omega) (by omega)⟩⟩
               go_wp2_with fail
               go_roundg (ps.length - (k + 1))
               case rel => exact ⟨k + 1, by go_num, by omega, rfl, HN⟩
               case measure => omega
      · go_wp2_with fail
        go_ret;exact ⟨true, rfl, HI.out.1, fun _ => ⟨h4, HB.out.1 (by first | rfl | trivial), fun i hi => HI.out.2 i hi (by omega)⟩⟩
 · have h4' : decide ((4 : Int) < (ps.length : Int)) = true := by simp; omega
   go_wp2_with fail;go_ret
   exact ⟨false, rfl, Fr.refl _ _, fun h => by cases h⟩
end Go.Proofs.YtfakghnpkdoclaaGreatDoor
