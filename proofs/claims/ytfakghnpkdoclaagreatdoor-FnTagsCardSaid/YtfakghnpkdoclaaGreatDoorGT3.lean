/-
  Indexing, cloning and dropping tags. (Joined by wip/pack.py.)
-/
import Derived.Test.YtfakghnpkdoclaaGreatDoorGT2
import Derived.Deep.MidRow
import Derived.Lib.SliceRun
set_option linter.unusedVariables false
set_option linter.unusedSimpArgs false
set_option maxRecDepth 100000
set_option maxHeartbeats 8000000
namespace Go.Proofs.YtfakghnpkdoclaaGreatDoor
open Go.RowKit
open Go.Lib (hid)
abbrev zSix : Array Value := #[.int .i64 0, .string ⟨#[]⟩, .int .i64 0, .bool false, .slice none 0 0, .slice none 0 0]
theorem zero_at (w : World) (S : Nat → Prop) : DAt w S Mu.Val.zero (.agg zSix) := by
 unfold Mu.Val.zero DAt
 exact ⟨⟨#[]⟩, _, _, [], [], rfl, rfl, ⟨none, 0, rfl, Nat.le_refl _, fun h => absurd h (by simp)⟩, rfl, ⟨none, 0, rfl, Nat.le_refl _, fun h => absurd h (by simp)⟩, by unfold DsAt; rfl⟩
theorem implTags_any (B : Nat) (eb : Addr) (pv : Value) (ps : List (ByteArray × ByteArray)) (s : ByteArray) (es : List Mu.Elem) (st : Mu.ISt) (w : World) (hs : s.size ≤ 400) (hsg : Mu.signs (L s)) (hparts : ∀ p ∈ ps, p.1.size ≤ 4096 ∧ p.2.size ≤ 400 ∧ Mu.signs (L p.2)) (hplen : ps.length ≤ 4) (hba : Ba B eb pv ps w)
 (hp : Mu.iparse (L s) false ((L s).length + 9) 0 ⟨0, Mu.OB, Mu.CB⟩ none = some (some (es, st))) :
 Calls Tryz.prog 28 #[.string s, pv] w (fun e w' => ∃ v vs S', e = .returned (.tuple #[v, .bool true]) ∧ Hid (RowN w' S' 3 v (Mu.tagL es).length vs ∧ GsAt w' S' (Mu.tagL es) vs ∧ F0 w w' ∧ ∀ k, S' k → w.heap.size ≤ k ∧ k < w'.heap.size)) := by
 obtain ⟨wA, hwA⟩ : ∃ wA, wA = (w.alloc (.cells #[.string s] 9)).alloc (.cells #[.int .i64 0, .string ⟨#[]⟩, .int .i64 0, .bool false, .slice none 0 0, .slice none 0 0] 25) := ⟨_, rfl⟩
 have hfA : F0 w wA := by rw [hwA]; exact (Fr.alloc _ _ _).allocA _
 have hT : Calls Tryz.prog 33 #[.slice (some ⟨w.heap.size, 0, none⟩) 1 1, pv, .slice (some ⟨w.heap.size + 1, 0, none⟩) 1 1] wA (fun e w' => e = .returned (.bool true) ∧ F0 wA w') := by
  have hb1 : wA.heap[w.heap.size]? = some (.cells #[.string s] 9 (0, 0)) := by
   rw [hwA]; exact blk_alloc _ (blk_new _ _)
  have hb2 : wA.heap[w.heap.size + 1]? = some (.cells zSix 25 (0, 0)) := by
   rw [hwA];have := blk_new (w.alloc (.cells #[.string s] 9)) (.cells zSix 25);simpa using this
  have e := blk_cell hb2
  have := taken_any [s] w.heap.size 1 pv ps [Mu.Val.zero] 40 1 wA (· = w.heap.size + 1) (.slice (some ⟨w.heap.size + 1, 0, none⟩) 1 1) [.agg zSix] (fun j hj => by
   have hj0 : j = 0 := by simpa using hj
   subst hj0;have := blk_cell hb1 0;simpa using this) (by simp) (by simp) (by simp) (by unfold maxLen; simp) (by intro x hx; simp at hx; subst hx; omega) (hba.ps.f0 hfA) hplen (fun p hp => ⟨(hparts p hp).1, by have := (hparts p hp).2.1; omega⟩)
   ⟨_, _, rfl, Nat.le_refl _, fun _ => ⟨w.heap.size + 1, 0, rfl, rfl, fun j hj => by
    have hj0 : j = 0 := by simpa using hj
    subst hj0;exact ⟨_, _, _, _, _, _, rfl, by simpa using e 0, by simpa using e 1, by simpa using e 2, by simpa using e 3, by simpa using e 4, by simpa using e 5⟩⟩⟩
   (by unfold DsAt; exact ⟨_, [], rfl, zero_at _ _, by unfold DsAt; rfl⟩) (fun k hk => by rw [hk]; exact blk_lt hb2) (by simp) (by simp) (fun x hx => by
     rw [List.mem_singleton.1 hx];simp [Mu.VOk, Mu.Val.zero, Mu.Val.kind, Mu.Val.text, Mu.Val.keys, Mu.Val.list, Mu.Val.num, Mu.signs]) (by omega) (by simp [Mu.vsz, Mu.vszL, Mu.Val.zero])
  exact this
 have HT0 := hid hT
 have HFA := hid hfA
 have HBA := hid hba
 have HPR := hid hp
 have HSG := hid hsg
 have hlen := Mu.iparse_len (N := 2147483647) _ _ _ _ _ (by rw [L_length]; omega) hp
 have HLN : Hid (es.length ≤ 2147483647 ∧ Mu.EsLen 2147483647 es) := hid ⟨Nat.le_trans hlen.1 (by rw [L_length]; omega), hlen.2⟩
 clear hp hsg hparts hplen hT hfA hba hlen
 go_enter Tryz.func28, Tryz.ntmps28
 go_wp2_with fail
 rw [← hwA]
 clear hwA
 refine HT0.out.mono ?_
 rintro e w1 ⟨rfl, hf1⟩
 have HF1 : Hid (F0 w w1) := hid (HFA.out.trans hf1)
 clear hf1
 have hba2 : Ba B eb pv ps (w1.alloc (.cells #[pv, .int .i64 0] 59)) := HBA.out.fr0 (HF1.out.allocA _)
 obtain ⟨w2, hw2⟩ : ∃ w2, w2 = w1.alloc (.cells #[pv, .int .i64 0] 59) := ⟨_, rfl⟩
 rw [← hw2] at hba2
 have HF2 : Hid (F0 w w2) := hid (by rw [hw2]; exact HF1.out.allocA _)
 have HBA2 := hid hba2
 obtain ⟨pa, pc, rfl, -⟩ := HBA.out.ps
 clear hba2
 go_wp2_with fail
 rw [← hw2]
 clear hw2
 have hso := signs_ok HSG.out
 refine (psp_any B eb ((L s).length + 9) s 57 (.pointer (some ⟨w1.heap.size, 0, none⟩)) w2 es st (by omega) hso.1 hso.2 HBA2.out.gl HPR.out (by rw [L_length]; omega)).mono ?_
 rintro e w3 ⟨t, rfl, HT⟩
 obtain ⟨x, SE, us, h1, -, -, -, -, h6, h7, h8, h9⟩ := HT.out.2
 have HC := hid (ttags_any t x es us w3 SE _ h1 h6 h7 (fun k hk => (h8 k hk).1.2) HLN.out.1)
 have HSE : Hid (∀ k, SE k → k < w3.heap.size) := hid (fun k hk => (h8 k hk).1.2)
 clear h1 h6 h7 h8 h9 hso
 go_wp2_with fail
 refine HC.out.mono ?_
 rintro e w4 ⟨v, us4, rfl, HV⟩
 have HC2 : Hid (Calls Tryz.prog 47 #[v] w4 (TgsPost (Mu.tagL es) w4)) := hid (by
  obtain ⟨ho, g2, g3⟩ := HV.out
  have h4 : RowAt w4 (fun k => v.ownBlock = some k) v us4 := row_of_owns (n := us4.length) (e := 131) ⟨ho.1, by
   rcases ho.2 with h | ⟨g, cap, cur, q1, q2, q3⟩
   · exact .inl h
   · exact .inr ⟨g, cap, cur, q1, Nat.zero_le _, q3⟩⟩
  have := tags_all _ (es.filter isTg) (Nat.le_refl _) v us4 w4 (fun k => k < w4.heap.size) _ (h4.keep (fun _ _ => rfl) (fun k h => (ho.lt k h).2)) (EsAt.keep (S := SE) (fun _ _ => rfl) (fun k hk => ?_) _ _ g2) (fun k hk => hk) (fun e he => (List.mem_filter.1 he).2) (Nat.le_trans (List.length_filter_le _ _) HLN.out.1) (esLen_filter HLN.out.2)
  · rw [tagL_filter] at this
    exact this
  · have := HSE.out k hk
    have := g3.size;show k < w4.heap.size
    omega)
 go_wp2_with fail
 refine HC2.out.mono ?_
 rintro e w5 ⟨v5, vs5, S5, rfl, H5⟩
 have HF5 : Hid (F0 w w5 ∧ w.heap.size ≤ w4.heap.size) := hid (by
  have hf4 := (HF2.out.trans HT.out.1).trans HV.out.2.2;exact ⟨hf4.trans H5.out.2.2.1, hf4.size⟩)
 go_wp2_with fail
 go_ret2
 exact ⟨v5, vs5, S5, rfl, hid ⟨H5.out.1, H5.out.2.1, HF5.out.1, fun k hk => by
  have := H5.out.2.2.2 k hk;have := HF5.out.2
  omega⟩⟩
end Go.Proofs.YtfakghnpkdoclaaGreatDoor
namespace Go.Proofs.YtfakghnpkdoclaaGreatDoor
open Go.RowKit
open Go.Lib (hid)
theorem tg1_any (kd : Nat) (tb ib : ByteArray) (raw : Bool) (a : Option Addr) (n c : Nat) (w : World) : Calls Tryz.prog 51 #[.agg #[.int .i64 kd, .string tb, .bool raw, .string ib, .slice a n c]] w (fun e w' => e = .returned (.bool (kd == 1 || kd == 6)) ∧ F0 w w') := by
 go_enter Tryz.func51, Tryz.ntmps51
 by_cases h1 : kd = 1
 · subst h1
   go_wp2_with fail;go_ret
   exact ⟨rfl, Fr.alloc _ _ _⟩
 · have q1 : ((kd : Int) == 1) = false := by rw [beq_eq_false_iff_ne]; omega
   have r1 : (kd == 1) = false := by rw [beq_eq_false_iff_ne]; exact h1
   rw [r1];clear h1 r1
   by_cases h6 : kd = 6
   · subst h6
     go_wp2_with fail;go_ret
     exact ⟨rfl, Fr.alloc _ _ _⟩
   · have q6 : ((kd : Int) == 6) = false := by rw [beq_eq_false_iff_ne]; omega
     have r6 : (kd == 6) = false := by rw [beq_eq_false_iff_ne]; exact h6
     rw [r6];clear h6 r6;go_wp2_with fail;go_ret;exact ⟨rfl, Fr.alloc _ _ _⟩
theorem keep_kind {kd : Nat} {t ind : Mu.B} {r : Bool} {kids : List Mu.Node} {n : Mu.Node} (h : n = .mk kd t r ind kids) : (kd == 1 || kd == 6) = !Mu.keepN n := by
 subst h
 simp [Mu.keepN]
def IdPost (ns : List Mu.Node) (w : World) (e : Ending) (w' : World) : Prop := Hid (F0 w w') ∧ ((e = .returned (.int .i64 (-1)) ∧ ∀ n ∈ ns, Mu.keepN n = true) ∨ ∃ k : Nat, e = .returned (.int .i64 k) ∧ ∃ h : k < ns.length, Mu.keepN ns[k] = false ∧ ∀ j (hj : j < k), Mu.keepN (ns[j]'(Nat.lt_trans hj h)) = true)
theorem indexTg_any (ns : List Mu.Node) (hnl : ns.length ≤ 85899346000) (v : Value) (vs : List Value) (w : World) (S : Nat → Prop)
 (hrow : RowN w S 5 v ns.length vs) (hns : NsAt w S ns vs) (hS : ∀ j, S j → j < w.heap.size) :
 Calls Tryz.prog 78 #[v, .func (Fn.func 51) #[] #[]] w (IdPost ns w) := by
 have HH : Hid (∀ (wr : World), F0 w wr → ∀ j (h : j < ns.length), ∃ g c kd raw tb ib ka kn kc, v = .slice (some ⟨g, 0, none⟩) ns.length c ∧ wr.cell? ⟨g, j * 5, none⟩ = some (.int .i64 (kd : Nat)) ∧ wr.cell? ⟨g, j * 5 + 1, none⟩ = some (.string tb) ∧ wr.cell? ⟨g, j * 5 + 2, none⟩ = some (.bool raw) ∧ wr.cell? ⟨g, j * 5 + 3, none⟩ = some (.string ib) ∧ wr.cell? ⟨g, j * 5 + 4, none⟩ = some (.slice ka kn kc) ∧
  g < wr.heap.size ∧ Calls Tryz.prog 51 #[.agg #[.int .i64 (kd : Nat), .string tb, .bool raw, .string ib, .slice ka kn kc]] wr (fun e w' => e = .returned (.bool (!Mu.keepN ns[j])) ∧ F0 wr w')) := hid (fun wr hf j hj => by
  obtain ⟨h1, h2, h3⟩ := hrow.f0 hns hS hf;obtain ⟨g, c, kd, raw, tb, ib, sv, kids, us, e0, e1, e2, e3, n0, n1, n2, n3, n4, r1, r2⟩ := h1.node h2 j hj;obtain ⟨-, ka, kc, rfl, -⟩ := r1;refine ⟨g, c, kd, raw, tb, ib, ka, kids.length, kc, e0, n0, n1, n2, n3, n4, h3 g e1, ?_⟩;rw [← keep_kind e3];exact tg1_any kd tb ib raw ka kids.length kc wr)
 obtain ⟨-, va, vc, rfl, -⟩ := hrow
 clear hns hS
 go_enter Tryz.func78, Tryz.ntmps78
 go_wp2_with fail
 go_loopg [8] ns.length (fun g v wr => ∃ i : Nat, v = .int .i64 i ∧ i ≤ ns.length ∧ g = ns.length - i ∧ Hid (F0 w wr ∧ ∀ j (h : j < ns.length), j < i → Mu.keepN ns[j] = true))
 case atStart => exact ⟨0, rfl, Nat.zero_le _, rfl, hid ⟨Fr.refl _ _, fun j _ h => absurd h (Nat.not_lt_zero _)⟩⟩
 case round =>
  obtain ⟨i, rfl, hi, rfl, HF⟩ := hrel
  by_cases hlt : i < ns.length
  · obtain ⟨g, c, kd, raw, tb, ib, ka, kn, kc, hv, n0, n1, n2, n3, n4, hg, hcall⟩ := HH.out wr HF.out.1 i hlt
    injection hv with hv1 hv2 hv3;subst hv1 hv3;have HCALL := hid hcall;clear hcall;obtain ⟨kp, hkp⟩ : ∃ kp, kp = Mu.keepN ns[i] := ⟨_, rfl⟩
    rw [← hkp] at HCALL;have HKP := hid hkp;clear hkp
    cases kp with
    | false =>
     go_wp2_with fail;refine HCALL.out.mono ?_
     rintro e w2 ⟨rfl, hf⟩;have HX : Hid (F0 w w2) := hid (HF.out.1.trans hf);clear hf;go_wp2_with fail;go_ret;exact ⟨HX, .inr ⟨i, rfl, hlt, HKP.out.symm, fun j hj => HF.out.2 j _ hj⟩⟩
    | true =>
     go_wp2_with fail;refine HCALL.out.mono ?_
     rintro e w2 ⟨rfl, hf⟩;have HX : Hid (F0 w w2) := hid (HF.out.1.trans hf);clear hf;go_wp2_with fail
     go_roundg (ns.length - (i + 1))
     case rel => exact ⟨i + 1, by go_num, by omega, rfl, hid ⟨HX.out, fun j hj hji => by
      rcases Nat.lt_or_ge j i with h | h
      · exact HF.out.2 j hj h
      · obtain rfl : j = i := by omega
        exact HKP.out.symm⟩⟩
     case measure => omega
  · go_wp2_with fail
    go_ret
    exact ⟨hid HF.out.1, .inl ⟨rfl, fun n hn => by
     obtain ⟨j, hj, rfl⟩ := List.mem_iff_getElem.1 hn;exact HF.out.2 j hj (by omega)⟩⟩
end Go.Proofs.YtfakghnpkdoclaaGreatDoor
namespace Go.Proofs.YtfakghnpkdoclaaGreatDoor
open Go.RowKit
open Go.Lib (hid)
theorem nsAt_one {w : World} {S : Nat → Prop} : ∀ {ns : List Mu.Node} {vs : List Value}, NsAt w S ns vs → ∀ v ∈ vs, v.oneCell' = true
 | [], vs, h, v, hv => by
  unfold NsAt at h;subst h;cases hv
 | .mk k t r i kids :: ns, vs, h, v, hv => by
  unfold NsAt at h;obtain ⟨c, vs', rfl, h2, h3⟩ := h
  rcases List.mem_append.1 hv with hv | hv
  · unfold NAt at h2
    obtain ⟨tb, ib, sv, us, rfl, -, -, ⟨-, a, cc, rfl, -⟩, -⟩ := h2;simp only [List.mem_cons, List.not_mem_nil, or_false] at hv
    rcases hv with rfl | rfl | rfl | rfl | rfl <;> rfl
  · exact nsAt_one h3 v hv
def ClPost (n : Nat) (vs : List Value) (w : World) (e : Ending) (w' : World) : Prop := ∃ v', e = .returned v' ∧ Hid (w'.ownsRow w.heap.size 38 5 v' n vs ∧ F0 w w')
theorem clone_any (ns : List Mu.Node) (hnl : ns.length ≤ 85899346000) (v : Value) (vs : List Value) (w : World) (S : Nat → Prop) (hrow : RowN w S 5 v ns.length vs) (hns : NsAt w S ns vs) (hS : ∀ j, S j → j < w.heap.size) :
 Calls Tryz.prog 50 #[v] w (ClPost ns.length vs w) := by
 obtain ⟨i0, hi, hz1, hz2, hz3⟩ := info_parts infoNode
 have hone := nsAt_one hns
 have qe : ∀ (W : World) (a : Option Addr) (n c n' c' : Nat), (binOp .eql 34 (.slice a n c) (.slice none n' c')).run Tryz.prog W = .ok (.bool a.isNone) W := fun W a n c n' c' => Lib.run_eql_slice_nil W _ _ a n c n' c' Tryz.underlying34
 obtain ⟨hvl, a, c, rfl, hle, hat⟩ := hrow
 cases a with
 | none =>
  have h0 : ns.length = 0 := by
   rcases Nat.eq_zero_or_pos ns.length with h | h
   · exact h
   · obtain ⟨g, hg, -⟩ := hat h
     cases hg
  have hv0 : vs = [] := List.length_eq_zero_iff.1 (by rw [hvl, h0]);subst hv0;clear hat hone hns hS hvl hle;go_enter Tryz.func50, Tryz.ntmps50;go_wp2_with fail;go_ret;rw [h0];exact ⟨_, rfl, hid ⟨World.ownsRow_nil _ _ _ _, Fr.refl _ _⟩⟩
 | some a =>
  have HAT : Hid (∀ W, F0 w W → ∀ j u, vs[j]? = some u → W.cell? (a.add j) = some u) := hid (fun W hW j u hj => by
   obtain ⟨hj1, hj2⟩ := List.getElem?_eq_some_iff.1 hj
   obtain ⟨g, hg, hSg, hc⟩ := hat (by
    rcases Nat.eq_zero_or_pos ns.length with h | h
    · rw [h] at hvl; omega
    · exact h)
   injection hg with hg;subst hg;rw [addr_add0];rw [← hj2];exact F0.cell hW (hc j hj1))
  have HONE := hid hone;have HVL := hid hvl;clear hat hone hns hS hvl;go_enter Tryz.func50, Tryz.ntmps50
  go_wp2_with (at_builtin; refine wpList_append_own_at _ rfl _ _ 34 rfl w.heap.size 38 i0 (.agg #[.int .i64 0, .string ⟨#[]⟩, .bool false, .string ⟨#[]⟩, .slice none 0 0]) 5 72 Tryz.underlying34 hi hz1 hz2 hz3 rfl (by decide) (.slice (some ⟨w.heap.size, 0, none⟩) 0 0) 0 [] rfl ?own a ns.length c vs rfl ?c0 ?c1 ?c2 ?c3 ?c4 ?c5 ?_)
  case own => exact ownsRow_new _ _ _
  case c0 => exact HVL.out
  case c1 => exact fun j u hj => HAT.out _ (Fr.alloc _ _ _) j u hj
  case c2 => exact HONE.out
  case c3 => unfold maxLen; omega
  case c4 => omega
  case c5 => simp
  intro v' w2 hown hgrow _ _
  have HX : Hid (w2.ownsRow w.heap.size 38 5 v' ns.length vs ∧ F0 w w2) := hid ⟨by simpa using hown, grown_f0 (Fr.alloc _ _ _) hgrow (fun k hk => by
   have hk : some w.heap.size = some k := hk;injection hk with hk
   omega)⟩
  clear hown hgrow;go_wp2_with fail;go_ret;exact ⟨v', rfl, HX⟩
end Go.Proofs.YtfakghnpkdoclaaGreatDoor
namespace Go.Proofs.YtfakghnpkdoclaaGreatDoor
open Go.RowKit
open Go.Lib (hid)
theorem GsAt.cells {w : World} {S : Nat → Prop} : ∀ {ts : List Mu.Tg} {vs : List Value}, GsAt w S ts vs → ∀ (k : Nat) (hk : k < ts.length), ∃ (ty : Nat) (nb : ByteArray) (sv : Value) (sub : List Mu.Tg) (us : List Value),
 ts[k] = .mk ty (L nb) sub ∧ vs[k * 3]? = some (.int .i64 ty) ∧ vs[k * 3 + 1]? = some (.string nb) ∧ vs[k * 3 + 2]? = some sv ∧ RowN w S 3 sv sub.length us ∧ GsAt w S sub us
 | [], vs, h, k, hk => absurd hk (by simp)
 | .mk ty n sub :: ts, vs, h, k, hk => by
  unfold GsAt at h;obtain ⟨c, vs', rfl, h2, h3⟩ := h;unfold GAt at h2;obtain ⟨nb, sv, us, rfl, rfl, h6, h7⟩ := h2
  cases k with
  | zero => exact ⟨ty, nb, sv, sub, us, rfl, rfl, rfl, rfl, h6, h7⟩
  | succ k =>
   obtain ⟨ty', nb', sv', sub', us', e0, e1, e2, e3, e4, e5⟩ := GsAt.cells h3 k (by simpa using hk)
   have hidx : ∀ i, ([.int .i64 ty, .string nb, sv] ++ vs' : List Value)[(k + 1) * 3 + i]? = vs'[k * 3 + i]? := fun i => by
    rw [List.getElem?_append_right (by simp; omega)]
    congr 1; simp; omega
   exact ⟨ty', nb', sv', sub', us', e0, (hidx 0).trans e1, (hidx 1).trans e2, (hidx 2).trans e3, e4, e5⟩
theorem RowN.tag {w : World} {S : Nat → Prop} {v : Value} {ts : List Mu.Tg} {vs : List Value} (h : RowN w S 3 v ts.length vs) (hn : GsAt w S ts vs) (k : Nat) (hk : k < ts.length) : ∃ (g c ty : Nat) (nb : ByteArray) (sv : Value) (sub : List Mu.Tg) (us : List Value),
 v = .slice (some ⟨g, 0, none⟩) ts.length c ∧ S g ∧ ts[k] = .mk ty (L nb) sub ∧ w.cell? ⟨g, k * 3, none⟩ = some (.int .i64 ty) ∧ w.cell? ⟨g, k * 3 + 1, none⟩ = some (.string nb) ∧ w.cell? ⟨g, k * 3 + 2, none⟩ = some sv ∧ RowN w S 3 sv sub.length us ∧ GsAt w S sub us := by
 obtain ⟨h0, a, c, h1, h2, h3⟩ := h
 obtain ⟨g, rfl, hg, hc⟩ := h3 (by omega)
 obtain ⟨ty, nb, sv, sub, us, e0, e1, e2, e3, e4, e5⟩ := hn.cells k hk
 have key : ∀ (i : Nat) (u : Value), vs[k * 3 + i]? = some u → w.cell? ⟨g, k * 3 + i, none⟩ = some u := fun i u hu => by
  obtain ⟨hlt, rfl⟩ := List.getElem?_eq_some_iff.1 hu;exact hc _ hlt
 exact ⟨g, c, ty, nb, sv, sub, us, h1, hg, e0, key 0 _ e1, key 1 _ e2, key 2 _ e3, e4, e5⟩
def YesPost (w : World) (e : Ending) (w' : World) : Prop := e = .returned (.bool true) ∧ F0 w w'
theorem tg2_any (ty kd : Nat) (nb tb ib : ByteArray) (raw : Bool) (a1 a2 : Option Addr) (n1 c1 n2 c2 : Nat) (w : World) (hn : L nb = L tb) (hk : kd = 5 ∨ ∀ w', F0 w w' → Calls Tryz.prog 29 #[.slice a1 n1 c1, .slice a2 n2 c2] w' (YesPost w')) :
 Calls Tryz.prog 53 #[.agg #[.int .i64 ty, .string nb, .slice a1 n1 c1], .agg #[.int .i64 kd, .string tb, .bool raw, .string ib, .slice a2 n2 c2]] w (YesPost w) := by
 have hq : nb = tb := by
  have h7 := Array.ext' (show nb.data.toList = tb.data.toList from hn);cases nb;cases tb;cases h7;rfl
 subst hq
 have q : (nb.toList == nb.toList) = true := by simp
 have HK := hid hk
 clear hk hn
 go_enter Tryz.func53, Tryz.ntmps53
 by_cases h5 : kd = 5
 · subst h5
   clear HK;go_wp2_with fail;go_ret;exact ⟨rfl, (Fr.alloc _ _ _).allocA _⟩
 · have q5 : ((kd : Int) == 5) = false := by rw [beq_eq_false_iff_ne]; omega
   have HC := hid (HK.out.resolve_left h5);clear HK h5;go_wp2_with fail;refine (HC.out _ ((Fr.alloc _ _ _).allocA _)).mono ?_;rintro e w2 ⟨rfl, hf⟩;have HX : Hid (F0 w w2) := hid (((Fr.alloc _ _ _).allocA _).trans hf);clear hf;go_wp2_with fail;go_ret;exact ⟨rfl, HX.out⟩
theorem equal_any (N : Nat) (hN : N ≤ 85899346000) (A1 A2 : Option Addr) (c1 c2 : Nat) (w : World)
 (HH : ∀ (wr : World), F0 w wr → ∀ j, j < N → ∃ (g1 g2 ty kd : Nat) (nb tb ib : ByteArray) (raw : Bool) (a1 a2 : Option Addr) (n1 d1 n2 d2 : Nat), A1 = some ⟨g1, 0, none⟩ ∧ A2 = some ⟨g2, 0, none⟩ ∧ wr.cell? ⟨g1, j * 3, none⟩ = some (.int .i64 ty) ∧ wr.cell? ⟨g1, j * 3 + 1, none⟩ = some (.string nb) ∧ wr.cell? ⟨g1, j * 3 + 2, none⟩ = some (.slice a1 n1 d1) ∧ g1 < wr.heap.size ∧
   wr.cell? ⟨g2, j * 5, none⟩ = some (.int .i64 kd) ∧ wr.cell? ⟨g2, j * 5 + 1, none⟩ = some (.string tb) ∧ wr.cell? ⟨g2, j * 5 + 2, none⟩ = some (.bool raw) ∧ wr.cell? ⟨g2, j * 5 + 3, none⟩ = some (.string ib) ∧ wr.cell? ⟨g2, j * 5 + 4, none⟩ = some (.slice a2 n2 d2) ∧ g2 < wr.heap.size ∧
   ∀ w', F0 wr w' → Calls Tryz.prog 53 #[.agg #[.int .i64 ty, .string nb, .slice a1 n1 d1], .agg #[.int .i64 kd, .string tb, .bool raw, .string ib, .slice a2 n2 d2]] w' (YesPost w')) :
 Calls Tryz.prog 52 #[.slice A1 N c1, .slice A2 N c2, .func (Fn.func 53) #[] #[]] w (YesPost w) := by
 have HC := hid HH
 clear HH
 go_enter Tryz.func52, Tryz.ntmps52
 go_wp2_with fail
 go_loopg [17] N (fun g v wr => ∃ i : Nat, v = .int .i64 i ∧ i ≤ N ∧ g = N - i ∧ Hid (F0 w wr))
 case atStart => exact ⟨0, rfl, Nat.zero_le _, rfl, hid (Fr.refl _ _)⟩
 case round =>
  obtain ⟨i, rfl, hi, rfl, HF⟩ := hrel
  by_cases hlt : i < N
  · obtain ⟨g1, g2, ty, kd, nb, tb, ib, raw, a1, a2, n1, d1, n2, d2, hA1, hA2, e0, e1, e2, eg, f0, f1, f2, f3, f4, fg, hcall⟩ := HC.out wr HF.out i hlt
    subst hA1 hA2;have HCALL := hid (hcall _ ((Fr.alloc (fun _ => False) wr (.cells #[.int .i64 ty, .string nb, .slice a1 n1 d1] 91)).allocA (.cells #[.int .i64 kd, .string tb, .bool raw, .string ib, .slice a2 n2 d2] 38)));clear hcall;go_wp2_with fail;refine HCALL.out.mono ?_;rintro e w2 ⟨rfl, hf⟩;have HX : Hid (F0 w w2) := hid (HF.out.trans (((Fr.alloc _ _ _).allocA _).trans hf));clear hf
    go_wp2_with fail
    go_roundg (N - (i + 1))
    case rel => exact ⟨i + 1, by go_num, by omega, rfl, HX⟩
    case measure => omega
  · go_wp2_with fail
    go_ret;exact ⟨rfl, HF.out⟩
end Go.Proofs.YtfakghnpkdoclaaGreatDoor
namespace Go.Proofs.YtfakghnpkdoclaaGreatDoor
open Go.RowKit
open Go.Lib (hid)
theorem set_row {g : Nat} {T : TypeId} : ∀ (l : List Value) (o : Nat) (w : World) (cur : Array Value), w.heap[g]? = some (.cells cur T (0, 0)) → o + l.length ≤ cur.size →
 ∃ cur', (w.setCells g o l).heap[g]? = some (.cells cur' T (0, 0)) ∧ cur'.size = cur.size ∧ cur'.toList = cur.toList.take o ++ l ++ cur.toList.drop (o + l.length)
 | [], o, w, cur, h, hl => ⟨cur, h, rfl, by simp⟩
 | v :: l, o, w, cur, h, hl => by
  have hl' : o + (l.length + 1) ≤ cur.toList.length := by simpa using hl
  obtain ⟨cur', h1, h2, h3⟩ := set_row l (o + 1) (w.setCell ⟨g, o, none⟩ v) (cur.setIfInBounds o v) (blk_set v h) (by rw [Array.size_setIfInBounds]; simp at hl; omega);refine ⟨cur', h1, by rw [h2, Array.size_setIfInBounds], ?_⟩;rw [h3, Array.toList_setIfInBounds]
  have e1 : (cur.toList.set o v).take (o + 1) = cur.toList.take o ++ [v] := by
   rw [List.take_set, List.take_add_one, List.getElem?_eq_getElem (by omega)];simp only [Option.toList_some];rw [List.set_append_right _ _ (by simp; omega)]
   congr 1
   rw [List.length_take, Nat.min_eq_left (by omega), Nat.sub_self];rfl
  have e2 : (cur.toList.set o v).drop (o + 1 + l.length) = cur.toList.drop (o + (l.length + 1)) := by
   rw [List.drop_set_of_lt (by omega), show o + 1 + l.length = o + (l.length + 1) by omega]
  rw [e1, e2];simp
theorem Fr.setsA {M : Nat → Prop} {w : World} {g : Nat} (hg : M g ∨ w.heap.size ≤ g) : ∀ (l : List Value) (o : Nat) (w' : World), Fr M w w' → Fr M w (w'.setCells g o l)
 | [], o, w', h => h
 | v :: l, o, w', h => Fr.setsA hg l (o + 1) _ (h.setA ⟨g, o, none⟩ v hg)
theorem clear_row (g o n c : Nat) (hn : 0 < n) (w : World) (cur : Array Value) (T : TypeId) (h : w.heap[g]? = some (.cells cur T (0, 0))) (hl : o + n * 5 ≤ cur.size) :
 ∃ Z : List Value, Z.length = n * 5 ∧ ∀ ty, (Builtin.clear_ #[34] ty #[.slice (some ⟨g, o, none⟩) n c]).run Tryz.prog w = .ok (.tuple #[]) (w.setCells g o Z) := by
 obtain ⟨i0, hi, hz1, hz2, hz3⟩ := info_parts infoNode
 have hv : ∀ w, (zeroValue 38).run Tryz.prog w = .ok (.agg #[.int .i64 0, .string ⟨#[]⟩, .bool false, .string ⟨#[]⟩, .slice none 0 0]) w := fun w => by
  simp [zeroValue, typeInfo, hi, hz1]
 refine ⟨(Builtin.zeroCells #[.int .i64 0, .string ⟨#[]⟩, .bool false, .string ⟨#[]⟩, .slice none 0 0] n).toList, by rw [Array.length_toList, size_zeroCells]; rfl, fun ty => ?_⟩
 have hlen : (Builtin.zeroCells #[.int .i64 0, .string ⟨#[]⟩, .bool false, .string ⟨#[]⟩, .slice none 0 0] n).toList.length = n * 5 := by rw [Array.length_toList, size_zeroCells]; rfl
 have hst := run_storeCells_cells (P := Tryz.prog) g o (Builtin.zeroCells #[.int .i64 0, .string ⟨#[]⟩, .bool false, .string ⟨#[]⟩, .slice none 0 0] n).toList 0 w
  (fun j hj => by rw [blk_cell h, Array.getElem?_eq_getElem (by omega)]; rfl) (fun j hj => blk_free h _) (fun v hv => by
    simp only [Builtin.zeroCells, Array.toList_map, List.mem_map] at hv;obtain ⟨k, -, rfl⟩ := hv;have hk : k % 5 < 5 := Nat.mod_lt _ (by decide);show (#[Value.int .i64 0, .string ⟨#[]⟩, .bool false, .string ⟨#[]⟩, .slice none 0 0][k % 5]!).oneCell' = true;generalize k % 5 = m at hk
    match m, hk with
    | 0, _ => rfl
    | 1, _ => rfl
    | 2, _ => rfl
    | 3, _ => rfl
    | 4, _ => rfl)
 simp only [Nat.add_zero] at hst
 obtain ⟨m, rfl⟩ : ∃ m, n = m + 1 := ⟨n - 1, by omega⟩
 simp only [Builtin.clear_]
 simp [run_underlying Tryz.underlying34, hv, Value.cells, hst]
theorem NAt.len {w : World} {S : Nat → Prop} : ∀ {n : Mu.Node} {c : List Value}, NAt w S n c → c.length = 5
 | .mk k t r i kids, c, h => by
  unfold NAt at h;obtain ⟨tb, ib, sv, us, rfl, -⟩ := h;rfl
theorem NsAt.len {w : World} {S : Nat → Prop} : ∀ {ns : List Mu.Node} {vs : List Value}, NsAt w S ns vs → vs.length = ns.length * 5
 | [], vs, h => by
  unfold NsAt at h;subst h;rfl
 | n :: ns, vs, h => by
  unfold NsAt at h;obtain ⟨c, vs', rfl, h2, h3⟩ := h;rw [List.length_append, h2.len, h3.len, List.length_cons];omega
theorem NsAt.take {w : World} {S : Nat → Prop} : ∀ {ns : List Mu.Node} {vs : List Value}, NsAt w S ns vs → ∀ k, NsAt w S (ns.take k) (vs.take (k * 5))
 | [], vs, h, k => by
  unfold NsAt at h;subst h;simp only [List.take_nil];unfold NsAt;rfl
 | n :: ns, vs, h, 0 => by
  simp only [List.take_zero, Nat.zero_mul];unfold NsAt;rfl
 | n :: ns, vs, h, k + 1 => by
  unfold NsAt at h;obtain ⟨c, vs', rfl, h2, h3⟩ := h;rw [List.take_succ_cons];unfold NsAt;refine ⟨c, _, ?_, h2, h3.take k⟩;rw [List.take_append, List.take_of_length_le (by rw [h2.len]; omega), h2.len, show (k + 1) * 5 - 5 = k * 5 by omega]
theorem NsAt.nat {w : World} {S : Nat → Prop} {ns : List Mu.Node} {vs : List Value} (h : NsAt w S ns vs) (k : Nat) (hk : k < ns.length) : ∃ (kd : Nat) (raw : Bool) (tb ib : ByteArray) (a : Option Addr) (n c : Nat),
 NAt w S ns[k] [.int .i64 kd, .string tb, .bool raw, .string ib, .slice a n c] ∧ (kd == 1 || kd == 6) = !Mu.keepN ns[k] ∧
 vs[k * 5]? = some (.int .i64 kd) ∧ vs[k * 5 + 1]? = some (.string tb) ∧ vs[k * 5 + 2]? = some (.bool raw) ∧ vs[k * 5 + 3]? = some (.string ib) ∧ vs[k * 5 + 4]? = some (.slice a n c) := by
 obtain ⟨kd, raw, tb, ib, sv, kids, us, e0, e1, e2, e3, e4, e5, e6, e7⟩ := h.cells k hk
 have e6' := e6
 obtain ⟨-, a, c, rfl, -⟩ := e6'
 refine ⟨kd, raw, tb, ib, a, kids.length, c, ?_, keep_kind e0, e1, e2, e3, e4, e5⟩
 rw [e0]
 unfold NAt
 exact ⟨tb, ib, _, us, rfl, rfl, rfl, e6, e7⟩
structure DlIn (w : World) (S : Nat → Prop) (ns : List Mu.Node) (vs : List Value) (i j : Nat) (cur : List Value) : Prop where
 lt : i < j
 le : j ≤ ns.length
 num : i = ((ns.take j).filter Mu.keepN).length
 head : NsAt w S ((ns.take j).filter Mu.keepN) (cur.take (i * 5))
 rest : ∀ k, j * 5 ≤ k → k < ns.length * 5 → cur[k]? = vs[k]?
theorem take_step {α : Type} (l : List α) (j : Nat) (h : j < l.length) : l.take (j + 1) = l.take j ++ [l[j]] := by
 rw [List.take_add_one, List.getElem?_eq_getElem h]
 rfl
theorem DlIn.drop {w : World} {S : Nat → Prop} {ns : List Mu.Node} {vs cur : List Value} {i j : Nat} (h : DlIn w S ns vs i j cur) (hj : j < ns.length) (hk : Mu.keepN ns[j] = false) : DlIn w S ns vs i (j + 1) cur := by
 have e : (ns.take (j + 1)).filter Mu.keepN = (ns.take j).filter Mu.keepN := by
  rw [take_step _ _ hj, List.filter_append];simp [hk]
 exact ⟨Nat.lt_succ_of_lt h.lt, hj, by rw [e]; exact h.num, by rw [e]; exact h.head, fun k h1 h2 => h.rest k (by omega) h2⟩
theorem DlIn.keep {w : World} {S : Nat → Prop} {ns : List Mu.Node} {vs cur : List Value} {i j : Nat} (h : DlIn w S ns vs i j cur) (hj : j < ns.length) (hk : Mu.keepN ns[j] = true) {c : List Value} (hc : NAt w S ns[j] c) (hl : ns.length * 5 ≤ cur.length) :
 DlIn w S ns vs (i + 1) (j + 1) (cur.take (i * 5) ++ c ++ cur.drop (i * 5 + c.length)) := by
 have e : (ns.take (j + 1)).filter Mu.keepN = (ns.take j).filter Mu.keepN ++ [ns[j]] := by
  rw [take_step _ _ hj, List.filter_append];simp [hk]
 have hlt := h.lt
 have h5 := hc.len
 have hl1 : (cur.take (i * 5) ++ c).length = (i + 1) * 5 := by rw [List.length_append, List.length_take, h5]; omega
 refine ⟨Nat.succ_lt_succ h.lt, hj, by rw [e, List.length_append, ← h.num]; rfl, ?_, fun k h1 h2 => ?_⟩
 · rw [e, ← hl1, List.take_left]
   exact h.head.append (NsAt.one hc)
 · rw [List.getElem?_append_right (by omega), hl1, List.getElem?_drop, ← h.rest k (by omega) h2, h5]
   congr 1
   omega
theorem DlIn.start {w : World} {S : Nat → Prop} {ns : List Mu.Node} {vs cur : List Value} (hn : NsAt w S ns vs) (k : Nat) (h : k < ns.length) (hk : Mu.keepN ns[k] = false) (hall : ∀ j (hj : j < k), Mu.keepN (ns[j]'(Nat.lt_trans hj h)) = true) (hcur : cur.take (ns.length * 5) = vs) :
 DlIn w S ns vs k (k + 1) cur := by
 have e0 : (ns.take k).filter Mu.keepN = ns.take k := List.filter_eq_self.2 (fun n hn => by
  obtain ⟨j, hj, rfl⟩ := List.mem_iff_getElem.1 hn;have hjk : j < k := by simp at hj; omega
  rw [List.getElem_take];exact hall j hjk)
 have e : (ns.take (k + 1)).filter Mu.keepN = ns.take k := by
  rw [take_step _ _ h, List.filter_append, e0];simp [hk]
 refine ⟨Nat.lt_succ_self _, h, by rw [e, List.length_take]; omega, ?_, fun q h1 h2 => ?_⟩
 · rw [e]
   have := hn.take k;rw [← hcur, List.take_take, Nat.min_eq_left (by omega)] at this;exact this
 · rw [← hcur, List.getElem?_take_of_lt h2]
def DlPost (ns : List Mu.Node) (B : Nat) (w : World) (e : Ending) (w' : World) : Prop := ∃ v' us S', e = .returned v' ∧ Hid (Fr (fun k => B ≤ k) w w' ∧ RowN w' S' 5 v' (ns.filter Mu.keepN).length us ∧ NsAt w' S' (ns.filter Mu.keepN) us ∧ ∀ j, S' j → j < w'.heap.size)
theorem delete_any (ns : List Mu.Node) (hnl : ns.length ≤ 85899346000) (B : Nat) (v : Value) (vs : List Value) (w : World) (S : Nat → Prop)
 (hown : w.ownsRow B 38 5 v ns.length vs) (hns : NsAt w S ns vs) (hS : ∀ j, S j → j < B) (hB : B ≤ w.heap.size) :
 Calls Tryz.prog 49 #[v, .func (Fn.func 51) #[] #[]] w (DlPost ns B w) := by
 have hrow : RowN w (fun k => S k ∨ v.ownBlock = some k) 5 v ns.length vs := (row_of_own hown).keep (fun k hk => rfl) (fun k hk => .inr hk)
 have hns' : NsAt w (fun k => S k ∨ v.ownBlock = some k) ns vs := NsAt.keep (fun k hk => rfl) (fun k hk => .inl hk) ns vs hns
 have hS' : ∀ j, (S j ∨ v.ownBlock = some j) → j < w.heap.size := fun j hj => by
  rcases hj with hj | hj
  · exact Nat.lt_of_lt_of_le (hS j hj) hB
  · rcases hown.2 with ⟨rfl, -⟩ | ⟨g, cap, cur, rfl, -, hg, -⟩
    · cases hj
    · have hj : some g = some j := hj
      injection hj with hj;subst hj;exact blk_lt hg
 have HI := hid (indexTg_any ns hnl v vs w (fun k => S k ∨ v.ownBlock = some k) hrow hns' hS')
 have HR := hid (And.intro hrow (And.intro hns' hS'))
 clear hrow hns' hS'
 have HO := hid hown
 have HN := hid hns
 have HS := hid hS
 obtain ⟨-, hv⟩ := hown
 clear hns hS
 obtain ⟨a, c, hvv⟩ : ∃ a c, v = .slice a ns.length c := by
  rcases hv with ⟨h, h0⟩ | ⟨g, cap, cur, h, -⟩
  · exact ⟨none, 0, by rw [h, h0]⟩
  · exact ⟨_, _, h⟩
 clear hv
 subst hvv
 go_enter Tryz.func49, Tryz.ntmps49
 go_wp2_with fail
 refine HI.out.mono ?_
 rintro e w1 ⟨HF1, ⟨rfl, hall⟩ | ⟨k, rfl, hk, hdrop, hall⟩⟩
 · have HA := hid hall
   clear hall;go_wp2_with fail;go_ret;have e0 : ns.filter Mu.keepN = ns := List.filter_eq_self.2 HA.out;unfold DlPost;rw [e0];obtain ⟨h1, h2, h3⟩ := HR.out;exact ⟨_, vs, fun k => S k ∨ (Value.slice a ns.length c).ownBlock = some k, rfl, hid ⟨Fr.of0 HF1.out, (RowN.f0 h1 h2 h3 HF1.out)⟩⟩
 · obtain ⟨g, cap, cur, rfl, rfl, hBg, hblk, hcap, hmax, hcs, hct⟩ : ∃ g cap cur, a = some ⟨g, 0, none⟩ ∧ c = cap ∧ B ≤ g ∧ w.heap[g]? = some (.cells cur 38 (0, 0)) ∧ ns.length ≤ cap ∧ cap ≤ maxLen ∧ cur.size = cap * 5 ∧ cur.toList.take (ns.length * 5) = vs := by
    rcases HO.out.2 with ⟨-, h0⟩ | ⟨g, cap, cur, h1, h2, h3, h4, h5, h6, h7⟩
    · omega
    · injection h1 with h1 _ h1'
      exact ⟨g, cap, cur, h1, h1', h2, h3, h4, h5, h6, h7⟩
   have HST : Hid (Fr (fun k => B ≤ k) w w1 ∧ ∃ cu, w1.heap[g]? = some (.cells cu 38 (0, 0)) ∧ cu.size = c * 5 ∧ DlIn w S ns vs k (k + 1) cu.toList) :=
    hid ⟨Fr.of0 HF1.out, cur, HF1.out.blk hblk id, hcs, DlIn.start HN.out k hk hdrop hall hct⟩
   have HBG := hid hBg;have HMX := hid hmax;clear hdrop hall hct hblk hcs HF1 HI HR hBg hmax;go_wp2_with fail
   go_loopg [5, 6] (ns.length - (k + 1)) (fun g' v5 v6 wr => ∃ i j : Nat, v5 = .int .i64 i ∧ v6 = .int .i64 j ∧ j ≤ ns.length ∧ g' = ns.length - j ∧ Hid (Fr (fun k => B ≤ k) w wr ∧ ∃ cu, wr.heap[g]? = some (.cells cu 38 (0, 0)) ∧ cu.size = c * 5 ∧ DlIn w S ns vs i j cu.toList))
   case atStart => exact ⟨k, k + 1, rfl, by go_num, hk, rfl, HST⟩
   case round =>
    obtain ⟨i, j, rfl, rfl, hj, rfl, HI⟩ := hrel
    by_cases hlt : j < ns.length
    · obtain ⟨kd, raw, tb, ib, a1, n1, c1, hnat, hkp, v0, v1, v2, v3, v4⟩ := HN.out.nat j hlt
      obtain ⟨hfr, cu, hb, hcz, hin⟩ := HI.out
      have r : ∀ q : Nat, q < 5 → wr.cell? ⟨g, j * 5 + q, none⟩ = vs[j * 5 + q]? := fun q hq => by
       rw [blk_cell hb, ← hin.rest _ (by omega) (by omega), Array.getElem?_toList]
      have c0 : wr.cell? ⟨g, j * 5, none⟩ = _ := (r 0 (by omega)).trans v0;have c1' : wr.cell? ⟨g, j * 5 + 1, none⟩ = _ := (r 1 (by omega)).trans v1;have c2' : wr.cell? ⟨g, j * 5 + 2, none⟩ = _ := (r 2 (by omega)).trans v2;have c3' : wr.cell? ⟨g, j * 5 + 3, none⟩ = _ := (r 3 (by omega)).trans v3;have c4' : wr.cell? ⟨g, j * 5 + 4, none⟩ = _ := (r 4 (by omega)).trans v4
      have hg : g < wr.heap.size := blk_lt hb;have HV := hid (And.intro hnat hkp);have HCU := hid (And.intro hfr (And.intro hb (And.intro hcz hin)));have HIJ := hid hin.lt;have HC := fun W => hid (tg1_any kd tb ib raw a1 n1 c1 W)
      clear r v0 v1 v2 v3 v4 hnat hkp hfr hb hcz hin HI;obtain ⟨kp, hkp⟩ : ∃ kp, kp = (kd == 1 || kd == 6) := ⟨_, rfl⟩
      rw [← hkp] at HC HV;have HKP := hid hkp;clear hkp
      cases kp with
      | true =>
       go_wp2_with fail;refine (HC _).out.mono ?_
       rintro e w2 ⟨rfl, hf⟩;have HX : Hid (F0 wr w2) := hid ((Fr.alloc _ _ _).trans hf);clear hf;go_wp2_with fail
       go_roundg (ns.length - (j + 1))
       case rel =>
        exact ⟨i, j + 1, rfl, by go_num, hlt, rfl, hid ⟨HCU.out.1.trans0 HX.out, cu, HX.out.blk HCU.out.2.1 id, HCU.out.2.2.1, HCU.out.2.2.2.drop hlt (by have := HV.out.2; revert this; cases Mu.keepN ns[j] <;> simp)⟩⟩
       case measure => omega
      | false =>
       go_wp2_with fail;refine (HC _).out.mono ?_
       rintro e w2 ⟨rfl, hf⟩;have d0 : w2.cell? ⟨wr.heap.size, 0, none⟩ = some (.int .i64 (kd : Nat)) := F0.cell hf (by rw [World.cell?_alloc_new]; rfl);have d1 : w2.cell? ⟨wr.heap.size, 1, none⟩ = some (.string tb) := F0.cell hf (by rw [World.cell?_alloc_new]; rfl);have d2 : w2.cell? ⟨wr.heap.size, 2, none⟩ = some (.bool raw) := F0.cell hf (by rw [World.cell?_alloc_new]; rfl)
       have d3 : w2.cell? ⟨wr.heap.size, 3, none⟩ = some (.string ib) := F0.cell hf (by rw [World.cell?_alloc_new]; rfl);have d4 : w2.cell? ⟨wr.heap.size, 4, none⟩ = some (.slice a1 n1 c1) := F0.cell hf (by rw [World.cell?_alloc_new]; rfl);have HX : Hid (F0 wr w2) := hid ((Fr.alloc _ _ _).trans hf)
       have hold : ∀ q, q < 5 → ∃ o, w2.cell? ⟨g, i * 5 + q, none⟩ = some o ∧ w2.frozen? ⟨g, i * 5 + q, none⟩ = false := fun q hq => by
        have hb := HX.out.blk HCU.out.2.1 id;have hz := HCU.out.2.2.1;have hl := HIJ.out;exact ⟨_, by rw [blk_cell hb, Array.getElem?_eq_getElem (by omega)], blk_free hb _⟩
       obtain ⟨o0, p0, f0⟩ := hold 0 (by omega);obtain ⟨o1, p1, f1⟩ := hold 1 (by omega);obtain ⟨o2, p2, f2⟩ := hold 2 (by omega);obtain ⟨o3, p3, f3⟩ := hold 3 (by omega);obtain ⟨o4, p4, f4⟩ := hold 4 (by omega);rw [Nat.add_zero] at p0 f0;have hil : i < ns.length := Nat.lt_trans HIJ.out hlt;clear hold;clear hf;go_wp2_with fail
       go_roundg (ns.length - (j + 1))
       case rel =>
        have hb := HX.out.blk HCU.out.2.1 id;have hz := HCU.out.2.2.1;have hl := HIJ.out;obtain ⟨cu', h1, h2, h3⟩ := set_row [.int .i64 (kd : Nat), .string tb, .bool raw, .string ib, .slice a1 n1 c1] (i * 5) w2 cu hb (by show i * 5 + 5 ≤ cu.size; omega)
        refine ⟨i + 1, j + 1, by go_num, by go_num, hlt, rfl, hid ⟨Fr.setsA (.inl HBG.out) [.int .i64 (kd : Nat), .string tb, .bool raw, .string ib, .slice a1 n1 c1] (i * 5) w2 (HCU.out.1.trans0 HX.out), cu', h1, by rw [h2]; exact hz, ?_⟩⟩;rw [h3]
        exact HCU.out.2.2.2.keep hlt (by have := HV.out.2; revert this; cases Mu.keepN ns[j] <;> simp) HV.out.1 (by have := Array.length_toList (xs := cu); omega)
       case measure => omega
    · obtain ⟨hfr, cu, hb, hcz, hin⟩ := HI.out
      have hij := hin.lt;obtain rfl : j = ns.length := by omega
      obtain ⟨Z, hZ, hclr⟩ := clear_row g (i * 5) (ns.length - i) (c - i) (by omega) wr cu 38 hb (by omega);have HCU := hid (And.intro hfr (And.intro hb (And.intro hcz hin)));have HZ := hid hZ;have hpc : ¬ c = i := by omega
      have hpc' : ¬ (c : Int) = (i : Int) := by omega
      clear hfr hb hcz hin HI hZ;go_wp2_with fail;go_ret;obtain ⟨hfr, hb, hcz, hin⟩ := HCU.out;have hin' := hin.num;have hhd := hin.head;rw [List.take_length] at hin' hhd;have hlt5 : i * 5 + (ns.length - i) * 5 ≤ cu.size := by omega
      obtain ⟨cu', h1, h2, h3⟩ := set_row Z (i * 5) wr cu hb (by rw [HZ.out]; exact hlt5);have hFR : Fr (fun k => B ≤ k) w (wr.setCells g (i * 5) Z) := Fr.setsA (.inl HBG.out) Z (i * 5) wr hfr
      have hlen : (cu.toList.take (i * 5)).length = i * 5 := by
       rw [List.length_take, Array.length_toList, Nat.min_eq_left (by omega)]
      refine ⟨_, cu.toList.take (i * 5), fun k => S k ∨ k = g, rfl, hid ⟨hFR, ?_, NsAt.keep (fun k hk => hFR.block k (Nat.lt_of_lt_of_le (HS.out k hk) hB) (fun h => absurd (HS.out k hk) (Nat.not_lt.2 h))) (fun k hk => .inl hk) _ _ hhd, fun k hk => ?_⟩⟩
      · rw [← hin']
        refine ⟨hlen, _, _, rfl, by omega, fun _ => ⟨g, rfl, .inr rfl, fun q hq => ?_⟩⟩;rw [hlen] at hq;rw [blk_cell h1, ← Array.getElem?_toList, h3, List.append_assoc, List.getElem?_append_left (by rw [hlen]; exact hq), List.getElem?_eq_getElem]
      · rcases hk with hk | rfl
        · exact Nat.lt_of_lt_of_le (HS.out k hk) (Nat.le_trans hB hFR.size)
        · exact blk_lt h1
end Go.Proofs.YtfakghnpkdoclaaGreatDoor
namespace Go.Proofs.YtfakghnpkdoclaaGreatDoor
open Go.RowKit
open Go.Lib (hid)
theorem mtl_at : ∀ {ts : List Mu.Tg} {ns : List Mu.Node}, Mu.MtL ts ns → ts.length = ns.length ∧ ∀ j (h1 : j < ts.length) (h2 : j < ns.length), Mu.MtN ts[j] ns[j]
 | [], ns, h => by
  unfold Mu.MtL at h;subst h;exact ⟨rfl, fun j h1 => absurd h1 (by simp)⟩
 | g :: ts, ns, h => by
  unfold Mu.MtL at h;obtain ⟨n, ns', rfl, h2, h3⟩ := h;obtain ⟨h4, h5⟩ := mtl_at h3;refine ⟨by simp [h4], fun j h6 h7 => ?_⟩
  cases j with
  | zero => exact h2
  | succ j => exact h5 j (by simpa using h6) (by simpa using h7)
theorem RowN.tags0 {w w' : World} {S : Nat → Prop} {v : Value} {ts : List Mu.Tg} {vs : List Value} (h : RowN w S 3 v ts.length vs) (hn : GsAt w S ts vs) (hS : ∀ j, S j → j < w.heap.size) (hf : F0 w w') : RowN w' S 3 v ts.length vs ∧ GsAt w' S ts vs ∧ ∀ j, S j → j < w'.heap.size := by
 have hk : Keep S w w' := fun k hk => hf.block k (hS k hk) id
 exact ⟨h.keep hk (fun _ h => h), GsAt.keep hk (fun _ h => h) _ _ hn, fun j hj => Nat.lt_of_lt_of_le (hS j hj) hf.size⟩
def TdC (ns : List Mu.Node) : Prop := ∀ (ts : List Mu.Tg) (gv nv : Value) (gs vs : List Value) (w : World) (S1 S2 : Nat → Prop), Mu.MtL ts (ns.filter Mu.keepN) → RowN w S1 3 gv ts.length gs → GsAt w S1 ts gs → (∀ j, S1 j → j < w.heap.size) →
 RowN w S2 5 nv ns.length vs → NsAt w S2 ns vs → (∀ j, S2 j → j < w.heap.size) → Calls Tryz.prog 29 #[gv, nv] w (YesPost w)
theorem tagged_one (ns : List Mu.Node) (hnl : ns.length ≤ 85899346000) (IH : ∀ kd t r ind kids, Mu.Node.mk kd t r ind kids ∈ ns → TdC kids) : TdC ns := by
 intro ts gv nv gs vs w S1 S2 hmt hr1 hg1 hS1 hr2 hn2 hS2
 have HCL : Hid (Calls Tryz.prog 50 #[nv] w (ClPost ns.length vs w)) := hid (clone_any ns hnl nv vs w S2 hr2 hn2 hS2)
 have HDL : Hid (∀ w' v', w'.ownsRow w.heap.size 38 5 v' ns.length vs → F0 w w' → Calls Tryz.prog 49 #[v', .func (Fn.func 51) #[] #[]] w' (DlPost ns w.heap.size w')) := hid (fun w' v' ho hf =>
  delete_any ns hnl w.heap.size v' vs w' S2 ho (NsAt.keep (fun k hk => hf.block k (hS2 k hk) id) (fun _ h => h) _ _ hn2) hS2 hf.size)
 have HEQ : Hid (∀ w' v' us S', F0 w w' → RowN w' S' 5 v' (ns.filter Mu.keepN).length us → NsAt w' S' (ns.filter Mu.keepN) us → (∀ j, S' j → j < w'.heap.size) → Calls Tryz.prog 52 #[gv, v', .func (Fn.func 53) #[] #[]] w' (YesPost w')) := hid (fun w' v' us S' hf hr' hn' hS' => by
  obtain ⟨q1, q2, q3⟩ := hr1.tags0 hg1 hS1 hf;obtain ⟨hlen, hat⟩ := mtl_at hmt;have hfl : (ns.filter Mu.keepN).length ≤ ns.length := List.length_filter_le _ _;have hr'' := hr';have hr1'' := hr1;obtain ⟨-, a2, c2, rfl, -⟩ := hr'';obtain ⟨-, a1, c1, rfl, -⟩ := hr1'';rw [← hlen];refine equal_any ts.length (by omega) a1 a2 c1 c2 w' (fun wr hfr j hj => ?_);obtain ⟨y1, y2, y3⟩ := q1.tags0 q2 q3 hfr
  obtain ⟨z1, z2, z3⟩ := hr'.f0 hn' hS' hfr;have hj2 : j < (ns.filter Mu.keepN).length := by omega
  obtain ⟨ga, ca, ty, nb, sv, sub, gus, e0, e1, e2, e3, e4, e5, e6, e7⟩ := y1.tag y2 j hj;obtain ⟨gb, cb, kd, raw, tb, ib, kv, kids, kus, f0, f1, f2, f3, f4, f5, f6, f7, f8, f9, f10⟩ := z1.node z2 j hj2;have hm := hat j hj hj2;rw [e2, f3] at hm;unfold Mu.MtN at hm;have e6' := e6;have f9' := f9;obtain ⟨-, b1, d1, rfl, -⟩ := e6';obtain ⟨-, b2, d2, rfl, -⟩ := f9';injection e0 with e0 _ _
  injection f0 with f0 _ _;refine ⟨ga, gb, ty, kd, nb, tb, ib, raw, b1, b2, sub.length, d1, kids.length, d2, e0, f0, e3, e4, e5, y3 _ e1, f4, f5, f6, f7, f8, z3 _ f1, fun w2 hf2 => ?_⟩;refine tg2_any ty kd nb tb ib raw b1 b2 sub.length d1 kids.length d2 w2 hm.1 (hm.2.imp_right (fun h w3 hf3 => ?_))
  have hmem : Mu.Node.mk kd (L tb) raw (L ib) kids ∈ ns := by
   rw [← f3];exact (List.mem_filter.1 (List.getElem_mem hj2)).1
  obtain ⟨k1, k2, k3⟩ := e6.tags0 e7 y3 (hf2.trans hf3);obtain ⟨l1, l2, l3⟩ := f9.f0 f10 z3 (hf2.trans hf3);exact IH _ _ _ _ _ hmem sub _ _ _ _ w3 _ _ h k1 k2 k3 l1 l2 l3)
 clear hr1 hg1 hS1 hr2 hn2 hS2 hmt IH hnl
 go_enter Tryz.func29, Tryz.ntmps29
 go_wp2_with fail
 refine HCL.out.mono ?_
 rintro e w1 ⟨v1, rfl, H1⟩
 have HC := hid (HDL.out w1 v1 H1.out.1 H1.out.2)
 go_wp2_with fail
 refine HC.out.mono ?_
 rintro e w2 ⟨v2, us, S', rfl, H2⟩
 have HF2 : Hid (F0 w w2) := hid (H1.out.2.trans' H2.out.1 (fun i h1 h2 => absurd h1 (Nat.not_lt.2 h2)))
 have HE := hid (HEQ.out w2 v2 us S' HF2.out H2.out.2.1 H2.out.2.2.1 H2.out.2.2.2)
 go_wp2_with fail
 refine HE.out.mono ?_
 rintro e w3 ⟨rfl, hf3⟩
 have HF3 : Hid (F0 w w3) := hid (HF2.out.trans hf3)
 clear hf3
 go_wp2_with fail
 go_ret
 exact ⟨rfl, HF3.out⟩
theorem tagged_all : ∀ (n : Nat) (ns : List Mu.Node), nszL ns ≤ n → n ≤ 85899346000 → TdC ns
 | 0, ns, h, hn => tagged_one ns (by have := len_nsz ns; omega) (fun kd t r ind kids hm => by
  have h1 := nszL_mem hm;simp only [nsz] at h1
  omega)
 | n + 1, ns, h, hn => tagged_one ns (by have := len_nsz ns; omega) (fun kd t r ind kids hm => tagged_all n kids (by
  have h1 := nszL_mem hm;simp only [nsz] at h1
  omega) (by omega))
end Go.Proofs.YtfakghnpkdoclaaGreatDoor
