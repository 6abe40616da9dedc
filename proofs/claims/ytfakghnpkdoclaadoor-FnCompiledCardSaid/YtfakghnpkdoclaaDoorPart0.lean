/-
  The specification's reader: add, and what the walk of parts leans on.
-/
import Derived.Test.YtfakghnpkdoclaaDoorPReg1
import Derived.Test.YtfakghnpkdoclaaDoorPure6
set_option linter.unusedVariables false
set_option linter.unusedSimpArgs false
namespace Go.Proofs.YtfakghnpkdoclaaDoor
open Go.RowKit

def AddPost (lo : Nat) (own : Nat → Prop) (ob : Nat) (w : World) (v : Value) (ns new : List Mu.Node) (e : Ending) (w' : World) : Prop := e = .returned (.tuple #[]) ∧ ∃ v', NAdd lo own ob w w' v v' ns new
set_option maxRecDepth 100000 in
set_option maxHeartbeats 1000000 in
theorem add_any (s : ByteArray) (ob lo g0 cp0 : Nat) (ns : List Mu.Node) (w : World) (own : Nat → Prop) (HG : Hid (GotN w lo own (.slice (some ⟨g0, 0, none⟩) ns.length cp0) ns)) (hob : w.heap[ob]? = some (.cells #[.slice (some ⟨g0, 0, none⟩) ns.length cp0] 23 (0, 0))) (hown : own ob) (hlo : lo ≤ w.heap.size) (hownl : ∀ k, own k → k < w.heap.size) (hl : ns.length ≤ 85899346000) :
    Calls Tryd.prog 15 #[.string s, .pointer (some ⟨ob, 0, none⟩)] w (AddPost lo own ob w (.slice (some ⟨g0, 0, none⟩) ns.length cp0) ns (Mu.addT (L s))) := by
  by_cases hs : L s = []
  · have b1 : s.toList = [] := by rw [ByteArray.toList_eq]; exact hs
    have b2 : (s.toList == []) = true := by rw [b1]; rfl
    have b3 : (s.toList != []) = false := by rw [b1]; rfl
    have b4 : s.toList.isEmpty = true := by rw [b1]; rfl
    have HP : Hid (AddPost lo own ob w (.slice (some ⟨g0, 0, none⟩) ns.length cp0) ns (Mu.addT (L s)) (.returned (.tuple #[])) w) := Lib.hid (by
      rw [hs]
      refine ⟨rfl, _, Fr.refl _ _, hob, ?_, .inl rfl, g0, cp0, ?_⟩
      · show GotN w lo own _ (ns ++ []); rw [List.append_nil]; exact HG.out
      · show _ = Value.slice (some ⟨g0, 0, none⟩) (ns ++ []).length cp0; rw [List.append_nil])
    clear hs hob hown hownl b2 b3 b4
    go_enter Tryd.func15, Tryd.ntmps15
    go_wp2_with fail
    first | go_end0 | refine bodyPost_ret (v := .tuple #[]) rfl rfl ?_
    exact HP.out
  · have b1 : ¬ s.toList = [] := by rw [ByteArray.toList_eq]; exact hs
    have b4 : s.toList.isEmpty = false := by cases h : s.toList with | nil => exact absurd h b1 | cons _ _ => rfl
    have HB : Hid (Mu.addT (L s) = [.mk 1 (L s) false (L ⟨#[]⟩) []]) := Lib.hid (by unfold Mu.addT; rw [if_neg hs]; rfl)
    have HOB := Lib.hid hob
    have HOWN := Lib.hid hown
    have HOWNL := Lib.hid hownl
    clear hs hob hown hownl
    go_enter Tryd.func15, Tryd.ntmps15
    go_upto_region 1 with fail
    refine pt_add1 ob lo g0 cp0 ns w own s HG HOB.out HOWN.out hlo HOWNL.out hl _ _ _ _ _ _ _ _ _ _ _ ?_
    intro u5 u6 u7 u8 u9 u10 u11 v' w' ha
    have HA := Lib.hid ha
    clear ha
    go_wp2_with fail
    first | go_end0 | refine bodyPost_ret (v := .tuple #[]) rfl rfl ?_
    unfold AddPost
    rw [HB.out]
    exact ⟨rfl, v', HA.out⟩

/-! ### parts' state -/
def stOf (x : Pa) : Mu.PSt := ⟨x.p, x.deep, L x.o, L x.c, x.bad⟩
structure PtSt (w0 wr : World) (pb ob : Nat) (x : Pa) (v : Value) (ns : List Mu.Node) : Prop where
  tm : PaAt wr pb x
  pl : pb < w0.heap.size
  fr : Fr (· = pb) w0 wr
  cell : wr.heap[ob]? = some (.cells #[v] 23 (0, 0))
  obn : w0.heap.size ≤ ob
  got : GotN wr w0.heap.size (fun k => k = pb ∨ k = ob) v ns
  form : ∃ g c, v = .slice (some ⟨g, 0, none⟩) ns.length c
section
variable {w0 wr w' : World} {pb ob : Nat} {x x' : Pa} {v v' : Value} {ns new : List Mu.Node}
theorem PtSt.ne (h : PtSt w0 wr pb ob x v ns) : ob ≠ pb := by have := h.pl; have := h.obn; omega
theorem PtSt.obl (h : PtSt w0 wr pb ob x v ns) : ob < wr.heap.size := blk_lt h.cell
theorem PtSt.ownl (h : PtSt w0 wr pb ob x v ns) : ∀ k, (k = pb ∨ k = ob) → k < wr.heap.size := by
  rintro k (rfl | rfl)
  · exact blk_lt h.tm
  · exact blk_lt h.cell
theorem PtSt.pstep (h : PtSt w0 wr pb ob x v ns) (hf : Fr (· = pb) wr w') (ht : PaAt w' pb x') : PtSt w0 w' pb ob x' v ns :=
  ⟨ht, h.pl, h.fr.trans hf, hf.blk h.cell h.ne, h.obn, h.got.fr hf (fun k _ _ e => .inl e), h.form⟩
theorem PtSt.step0 (h : PtSt w0 wr pb ob x v ns) (hf : F0 wr w') : PtSt w0 w' pb ob x v ns := h.pstep (Fr.of0 hf) (h.tm.fr0 hf)
theorem PtSt.add (h : PtSt w0 wr pb ob x v ns) (ha : NAdd w0.heap.size (fun k => k = pb ∨ k = ob) ob wr w' v v' ns new) : PtSt w0 w' pb ob x v' (ns ++ new) := by
  obtain ⟨S, vs, h1, h2, h3, h4⟩ := h.got.out
  have hv : v.ownBlock ≠ some pb := fun e => (h4 pb e).2 (.inl rfl)
  refine ⟨ha.fr.blk h.tm (fun e => e.elim (fun e => h.ne e.symm) hv), h.pl, h.fr.trans' ha.fr (fun k hk e => ?_), ha.cell, h.obn, ha.got, ha.form⟩
  have := h.obn
  rcases e with e | e
  · omega
  · have := (h4 k e).1; omega
end
/-- a block that the walk of parts does not write -/
def PBlk (w : World) (pb ob : Nat) (v : Value) (r : Nat) (o : Obj) : Prop := w.heap[r]? = some o ∧ r ≠ pb ∧ r ≠ ob ∧ v.ownBlock ≠ some r
section
variable {w0 w w' : World} {pb ob r : Nat} {x : Pa} {v v' : Value} {ns new : List Mu.Node} {o : Obj}
theorem PBlk.pstep (h : PBlk w pb ob v r o) (hf : Fr (· = pb) w w') : PBlk w' pb ob v r o := ⟨hf.blk h.1 h.2.1, h.2⟩
theorem PBlk.step0 (h : PBlk w pb ob v r o) (hf : F0 w w') : PBlk w' pb ob v r o := ⟨hf.blk h.1 id, h.2⟩
theorem PBlk.add {lo : Nat} {own : Nat → Prop} (h : PBlk w pb ob v r o) (ha : NAdd lo own ob w w' v v' ns new) : PBlk w' pb ob v' r o := by
  have hr := blk_lt h.1
  refine ⟨ha.fr.blk h.1 (fun e => e.elim h.2.2.1 h.2.2.2), h.2.1, h.2.2.1, fun he => ?_⟩
  rcases ha.ow with e | ⟨g, hg, hlt⟩
  · exact h.2.2.2 (e ▸ he)
  · rw [hg] at he; injection he with he; omega
theorem PtSt.blk (h : PtSt w0 w pb ob x v ns) (hb : w'.heap[r]? = some o) (hr : w.heap.size ≤ r) : PBlk w' pb ob v r o := by
  obtain ⟨S, vs, h1, -⟩ := h.got.out
  have h2 := blk_lt h.tm
  have h3 := h.obl
  refine ⟨hb, by omega, by omega, fun he => ?_⟩
  have := ownsRow_blk h1 he; omega
end
/-- what parts has come to after some rounds -/
structure PtInv (w0 : World) (pb ob : Nat) (x0 : Pa) (R : List Mu.Node × Mu.PSt) (name : Mu.B) (g : Nat) (wr : World) (x : Pa) (v : Value) (ns : List Mu.Node) : Prop where
  st : PtSt w0 wr pb ob x v ns
  sx : x.s = x0.s
  pos : x.p ≤ x.s.size ∧ (0 < x.o.size ∧ x.o.size ≤ 1000) ∧ 0 < x.c.size ∧ x.c.size ≤ 1000
  fuel : x.bad = false → x.s.size + 2 ≤ g + x.p
  len : ns.length + 4 * g ≤ 34359738400
  deep : x.deep + g ≤ 8589934600
  res : (ns ++ (Mu.parts (L x.s) g (stOf x) name).1, (Mu.parts (L x.s) g (stOf x) name).2) = R
/-- what parts hands back -/
def PtPost (w0 : World) (pb : Nat) (x0 : Pa) (R : List Mu.Node × Mu.PSt) (e : Ending) (w' : World) : Prop :=
  ∃ (v : Value) (x : Pa), e = .returned v ∧ Fr (· = pb) w0 w' ∧ PaAt w' pb x ∧ x.s = x0.s ∧ stOf x = R.2 ∧ (x.p ≤ x.s.size ∧ (0 < x.o.size ∧ x.o.size ≤ 1000) ∧ 0 < x.c.size ∧ x.c.size ≤ 1000) ∧ GotN w' w0.heap.size (fun k => k = pb) v R.1 ∧ ∃ g c, v = .slice (some ⟨g, 0, none⟩) R.1.length c
theorem PtSt.post {w0 w : World} {pb ob : Nat} {x x0 : Pa} {v : Value} {ns : List Mu.Node} (h : PtSt w0 w pb ob x v ns) (hs : x.s = x0.s) (hp : x.p ≤ x.s.size ∧ (0 < x.o.size ∧ x.o.size ≤ 1000) ∧ 0 < x.c.size ∧ x.c.size ≤ 1000) : PtPost w0 pb x0 (ns, stOf x) (.returned v) w :=
  ⟨v, x, rfl, h.fr, h.tm, hs, rfl, hp, h.got.own (fun k _ _ e => .inl e), h.form⟩
theorem parts_isbad (s : Mu.B) (g : Nat) (st : Mu.PSt) (name : Mu.B) (h : st.bad = true) : Mu.parts s g st name = ([], st) := by
  cases g with
  | zero => simp only [Mu.parts]; cases st; simp at h; subst h; rfl
  | succ g => rw [Mu.parts, if_pos h]
theorem found_at {s o c : Mu.B} {p a2 e : Nat} {t : Mu.Tag} (F : Mu.Found s p o c t a2 e) (ho : o ≠ []) (hc : c ≠ []) : t.at0 + o.length < t.to ∧ t.to ≤ s.length ∧ p ≤ t.at0 := by
  have hte := Mu.find_le F.fe (Mu.tagEnd_ne hc)
  have hae := (Mu.find_some F.fe).1
  have hpos : 0 < (Mu.tagEnd t.kind c).length := List.length_pos_iff.2 (Mu.tagEnd_ne hc)
  have h1 := F.ha
  have h2 := F.to
  have h3 := (Mu.find_some F.fo).1
  split at h1 <;> omega
theorem alOf_bounds {s : Mu.B} {t : Mu.Tag} {p : Nat} (h0 : t.at0 ≤ t.to) (h1 : t.to ≤ s.length) (hp : p ≤ t.at0) : t.to ≤ (Mu.alOf s t).2.1 ∧ (Mu.alOf s t).2.1 ≤ s.length ∧ p ≤ Mu.frOf s t p ∧ Mu.frOf s t p ≤ t.at0 := by
  have hb := Mu.backTo_le s 0 t.at0
  have hf := Mu.fwd_ge s t.to
  have hfl := Mu.fwd_le s t.to h1
  unfold Mu.frOf Mu.alOf
  split
  · unfold Mu.alone
    dsimp only
    split <;> (dsimp only; omega)
  · dsimp only; omega
/-- parts never goes back; it comes out as deep as it went in -/
theorem parts_inv (s : Mu.B) : ∀ (g : Nat) (st : Mu.PSt) (name : Mu.B), st.pos ≤ s.length → st.o ≠ [] → st.c ≠ [] →
    st.pos ≤ (Mu.parts s g st name).2.pos ∧ (Mu.parts s g st name).2.pos ≤ s.length ∧ (Mu.parts s g st name).2.deep = st.deep ∧ (Mu.parts s g st name).2.o ≠ [] ∧ (Mu.parts s g st name).2.c ≠ [] := by
  intro g
  induction g with
  | zero => intro st name h1 h2 h3; exact ⟨Nat.le_refl _, h1, rfl, h2, h3⟩
  | succ g ih =>
    intro st name h1 h2 h3
    by_cases hb : st.bad = true
    · rw [Mu.parts, if_pos hb]; exact ⟨Nat.le_refl _, h1, rfl, h2, h3⟩
    · have hb : st.bad = false := by simpa using hb
      cases hn : Mu.snext s st.pos st.o st.c with
      | none b => rw [Mu.parts_none hb hn]; exact ⟨h1, Nat.le_refl _, rfl, h2, h3⟩
      | some t =>
        obtain ⟨a2, e, F⟩ := Mu.snext_some hn
        obtain ⟨f1, f2, f3⟩ := found_at F h2 h3
        obtain ⟨a1, a2, -, -⟩ := alOf_bounds (s := s) (t := t) (p := st.pos) (by omega) f2 f3
        have step : ∀ sx : Mu.PSt, sx.pos = (Mu.alOf s t).2.1 → sx.deep = st.deep → sx.o ≠ [] → sx.c ≠ [] →
            st.pos ≤ (Mu.parts s g sx name).2.pos ∧ (Mu.parts s g sx name).2.pos ≤ s.length ∧ (Mu.parts s g sx name).2.deep = st.deep ∧ (Mu.parts s g sx name).2.o ≠ [] ∧ (Mu.parts s g sx name).2.c ≠ [] := by
          intro sx p1 p2 p3 p4
          obtain ⟨r1, r2, r3, r4⟩ := ih sx name (by omega) p3 p4
          exact ⟨by omega, r2, r3.trans p2, r4⟩
        by_cases k33 : t.kind = 33
        · rw [Mu.parts_33 hb hn k33]; exact step _ rfl rfl h2 h3
        by_cases k61 : t.kind = 61
        · rw [Mu.parts_61 hb hn k61]
          have : (Mu.st61 s t st).pos = (Mu.alOf s t).2.1 ∧ (Mu.st61 s t st).deep = st.deep ∧ (Mu.st61 s t st).o ≠ [] ∧ (Mu.st61 s t st).c ≠ [] := by
            unfold Mu.st61
            cases hd : Mu.delim t.body st.o with
            | none => exact ⟨rfl, rfl, h2, h3⟩
            | some oc =>
              obtain ⟨o', c'⟩ := oc
              have hp := Mu.pairs_ne (Mu.delim_some hd).1
              exact ⟨rfl, rfl, hp.1, hp.2.1⟩
          exact step _ this.1 this.2.1 this.2.2.1 this.2.2.2
        by_cases k47 : t.kind = 47
        · rw [Mu.parts_47 hb hn k47]
          exact ⟨by show st.pos ≤ (Mu.alOf s t).2.1; omega, a2, rfl, h2, h3⟩
        by_cases k35 : t.kind = 35 ∨ t.kind = 94
        · rw [Mu.parts_35 hb hn k35]
          obtain ⟨r1, r2, r3, r4, r5⟩ := ih (Mu.st35 s t st) t.body a2 h2 h3
          have r1 : (Mu.alOf s t).2.1 ≤ (Mu.parts s g (Mu.st35 s t st) t.body).2.pos := r1
          have r3 : (Mu.parts s g (Mu.st35 s t st) t.body).2.deep = st.deep + 1 := r3
          obtain ⟨q1, q2, q3, q4⟩ := ih (Mu.back (Mu.parts s g (Mu.st35 s t st) t.body).2) name r2 r4 r5
          have q1 : (Mu.parts s g (Mu.st35 s t st) t.body).2.pos ≤ (Mu.parts s g (Mu.back (Mu.parts s g (Mu.st35 s t st) t.body).2) name).2.pos := q1
          refine ⟨by show st.pos ≤ (Mu.parts s g (Mu.back (Mu.parts s g (Mu.st35 s t st) t.body).2) name).2.pos; omega, q2, q3.trans ?_, q4⟩
          show (Mu.parts s g (Mu.st35 s t st) t.body).2.deep - 1 = st.deep
          omega
        by_cases k62 : t.kind = 62
        · rw [Mu.parts_62 hb hn k62]; exact step _ rfl rfl h2 h3
        · have hkk : ¬ Mu.kinded t.kind := by
            rintro ⟨a, b, c⟩
            rcases (Mu.kind_isKind F) with h | h
            · exact a h
            · rcases Mu.isKind_cases h with h | h | h | h | h | h | h | h
              · exact k35 (.inl h)
              · exact k35 (.inr h)
              · exact k47 h
              · exact k33 h
              · exact k62 h
              · exact b h
              · exact k61 h
              · exact c h
          rw [Mu.parts_var hb hn hkk]; exact step _ rfl rfl h2 h3
/-- one round more -/
theorem PtInv.next {w0 wr w' : World} {pb ob : Nat} {x0 x x3 : Pa} {R : List Mu.Node × Mu.PSt} {nm : Mu.B} {g : Nat} {v v3 : Value} {ns new : List Mu.Node} (HI : PtInv w0 pb ob x0 R nm (g + 1) wr x v ns) (hbad : x.bad = false)
    (hst : PtSt w0 w' pb ob x3 v3 (ns ++ new)) (hs : x3.s = x.s) (hpos : x3.p ≤ x3.s.size ∧ (0 < x3.o.size ∧ x3.o.size ≤ 1000) ∧ 0 < x3.c.size ∧ x3.c.size ≤ 1000) (hlt : x.p < x3.p) (hnl : new.length ≤ 2) (hdeep : x3.deep = x.deep)
    (hres : Mu.parts (L x.s) (g + 1) (stOf x) nm = (new ++ (Mu.parts (L x.s) g (stOf x3) nm).1, (Mu.parts (L x.s) g (stOf x3) nm).2)) : PtInv w0 pb ob x0 R nm g w' x3 v3 (ns ++ new) := by
  refine ⟨hst, hs.trans HI.sx, hpos, fun _ => ?_, ?_, ?_, ?_⟩
  · have := HI.fuel hbad; rw [hs]; omega
  · have := HI.len; rw [List.length_append]; omega
  · have := HI.deep; omega
  · have h := HI.res
    rw [hres] at h
    rw [hs, ← h, List.append_assoc]
end Go.Proofs.YtfakghnpkdoclaaDoor
