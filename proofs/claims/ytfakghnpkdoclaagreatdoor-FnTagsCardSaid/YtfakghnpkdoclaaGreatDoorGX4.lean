/-
  The package's parse, walked. (Joined by wip/pack.py.)
-/
import Derived.Test.YtfakghnpkdoclaaGreatDoorGX2
import Derived.Test.YtfakghnpkdoclaaGreatDoorGX3
set_option linter.unusedVariables false
set_option linter.unusedSimpArgs false
set_option maxRecDepth 100000
set_option maxHeartbeats 8000000
namespace Go.Proofs.YtfakghnpkdoclaaGreatDoor
open Go.RowKit
open Go.Lib (hid)
theorem parse_any (B : Nat) (eb : Addr) (t : Nat) (hB : B ≤ t) (n : Nat) (x0 : Tm) (w0 : World) (R : Option (List Mu.Elem × Mu.ISt)) (hs0 : x0.s.size ≤ 2147483647) (ha0 : ∀ c ∈ L x0.s, c.toNat < 128) (hr0 : ∀ c ∈ L x0.s, c ≠ 13) (hpv : ∃ T p, x0.prov = .iface T p) (hBR : ∀ k, x0.el.ownBlock = some k → B ≤ k)
 (hg : Gl B eb w0) (hinv : TopInv w0 w0.heap.size t x0 R n w0 x0 []) :
 Calls Tryz.prog 70 #[.pointer (some ⟨t, 0, none⟩)] w0 (TopPost w0 w0.heap.size t x0 R) := by
 obtain ⟨i0, hi, hz0, hz1, hz2⟩ := info_parts infoAny
 have HA0 := hid ha0
 have HR0 := hid hr0
 have HPV := hid hpv
 have HG := hid hg
 have HB0 : Hid (∀ k, k < B → ¬ (k = t ∨ x0.el.ownBlock = some k)) := hid (by
  rintro k hk (h | h)
  · omega
  · have := hBR k h; omega)
 clear ha0 hr0 hpv hg hBR
 go_enter Tryz.func70, Tryz.ntmps70
 go_wp2_with fail
 go_loopg [4] n (fun g v wr => ∃ x es, g ≤ n ∧ Hid (TopInv w0 w0.heap.size t x0 R g wr x es))
 case atStart => exact ⟨x0, [], Nat.le_refl _, hid hinv⟩
 case round =>
  clear hinv;obtain ⟨x, es, hgn, HII⟩ := hrel
  obtain ⟨g, rfl⟩ : ∃ g', gk = g' + 1 := by
   cases gk with
   | zero => have := HII.out.res; simp [Mu.iparse, Mu.pre] at this
   | succ g => exact ⟨g, rfl⟩
  obtain ⟨hp, ⟨ho, ho2⟩, hc, hc2⟩ := HII.out.pos;have hlen := HII.out.len;have HI := hid HII.out.res;have HM := hid HII.out.mid;have hs : x.s.size ≤ 2147483647 := by rw [HM.out.sx.1]; exact hs0
  have HG1 := hid (HG.out.fr HM.out.fr HB0.out);clear HII;go_wp2_with fail;refine (readText_any B t eb x _ hs hp ho (by omega) HM.out.st.tm HG1.out hB).mono ?_;intro e w1 hpost;unfold RtPost at hpost
  cases hrt : Mu.rdText (L x.s) x.p (L x.o) with
  | none =>
   as_aux_lemma =>
    rw [hrt] at hpost;obtain ⟨r, tx, pd, may, hr, hblk, hfr, htx, hpd, rfl, rfl, ht1⟩ := hpost;have e1 := eq_eof_eof eb;have HG2 := hid (HG1.out.fr hfr (fun k hk => by omega));have heof := HG2.out.eof;have c0 := blk_cell hblk 0;have c1 := blk_cell hblk 1;have c2 := blk_cell hblk 2;simp only [List.getElem?_toArray, List.getElem?_cons_zero, List.getElem?_cons_succ] at c0 c1 c2
    have HTX := hid htx
    have HRES : Hid (R = some (es ++ [.text (L tx)], { pos := (L x.s).length, o := L x.o, c := L x.c })) := hid (by
     have h := HI.out;rw [Mu.step_eof_top (st := ⟨x.p, L x.o, L x.c⟩) hrt, Mu.pre_ok] at h;rw [htx];injection h with h; exact h.symm)
    have HM1 := hid (HM.out.tstep hfr ht1 ⟨rfl, rfl, rfl, rfl, rfl, rfl⟩);have HS1 := hid HM1.out.st;clear hrt hfr hblk ht1 htx hpd;obtain ⟨S, vs, ho1, hes1, hS, hrow⟩ := HS1.out.got.out;have HO1 := hid ho1;have HE1 := hid hes1;have HSS := hid hS;have HROW := hid hrow;have b3 := HS1.out.tm.cells.2.2.2.2.2.1;have bf := HS1.out.tm.free 5;have hbl : t < w1.heap.size := blk_lt HS1.out.tm
    have hcv := conv_bytes;have hbs := Lib.bytesWorld_size;clear ho1 hes1 hS hrow
    go_wp2_with (at_builtin; refine wpList_append_own_at _ rfl _ _ 66 rfl 0 20 i0 .nilIface 1 16 Tryz.underlying66 hi hz0 hz1 hz2 rfl (by decide) x.el es.length vs rfl ?own ⟨_, 0, none⟩ 1 1 [pv 154 (w1.heap.size + 1)] rfl rfl ?c1 ?c2 ?c3 ?c4 ?c5 ?_)
    case own => exact ownsRow_of_block HO1.out (fun k hk => (fr_text w1 tx (pv 154 (w1.heap.size + 1))).block k (ownsRow_blk HO1.out hk) id)
    case c1 => exact one_new _ _ _ (by simp [hbs] )
    case c2 => exact one_cell rfl
    case c3 => unfold maxLen; omega
    case c4 => omega
    case c5 => exact Nat.zero_le _
    intro v' w2 hown2 hgrow _ hblk2;obtain ⟨gg, cp, rfl⟩ : ∃ gg cp, v' = .slice (some ⟨gg, 0, none⟩) (es.length + 1) cp := owns_pos hown2;have HF := fr_text w1 tx (pv 154 (w1.heap.size + 1));have hsb := (own_cells HS1.out.got HF hgrow (k := t) rfl hbl).trans HS1.out.tm;have k3 := blk_cell hsb 5;have kf := blk_free hsb 5
    have HA := hid (top_add HS1.out HE1.out HSS.out HROW.out HF (text_at w1 tx _ _) (fresh_ok HS1.out.got HS1.out.lw HS1.out.ownlt (fun k hk => ⟨hk.1, by simp [hbs]; omega⟩)) hown2 hgrow (by simp [hbs] ) hblk2);clear hown2 hgrow hblk2 hcv hbs b3 bf hsb HF HO1 HE1 HSS HROW;go_wp2_with fail;obtain ⟨vn, hm, hf1, ho1⟩ := HM1.out.add HA.out;have HMF := hid hm;clear hm hf1 ho1;go_wp2_with fail
    go_ret;unfold TopPost
    rw [HRES.out];exact ⟨rfl, _, HMF.out⟩
  | some q =>
   rw [hrt] at hpost;obtain ⟨r, tx, pd, may, hr, hblk, hfr, htx, hpd, rfl, rfl, l, ht1⟩ := hpost;have hone : L x.o ≠ [] := fun h => by have := L_length x.o; rw [h] at this; simp at this; omega
   have hcne : L x.c ≠ [] := fun h => by have := L_length x.c; rw [h] at this; simp at this; omega
   have hqp := Mu.rdText_pos hrt hone;rw [L_length] at hqp;have HRT := hid hrt;have HTX := hid htx;have HPD := hid hpd;have hpds : pd.size ≤ 2147483647 := by have := L_length pd; rw [hpd] at this; omega
   clear hrt htx hpd hone;have HG2 := hid (HG1.out.fr hfr (fun k hk => by omega));have e1 := eq_nil_eof (.pointer (some eb));have heof := HG2.out.eof;have c0 := blk_cell hblk 0;have c1 := blk_cell hblk 1;have c2 := blk_cell hblk 2;simp only [List.getElem?_toArray, List.getElem?_cons_zero, List.getElem?_cons_succ] at c0 c1 c2;have hbk := HM.out.blk hblk hr
   obtain ⟨x1, hx1⟩ : ∃ x1 : Tm, x1 = { x with p := q.pos, line := l } := ⟨_, rfl⟩
   rw [← hx1] at ht1;have hx1s : x1.s = x.s ∧ x1.raw = x.raw ∧ x1.prov = x.prov ∧ x1.esc = x.esc ∧ x1.am = x.am ∧ x1.el = x.el := by rw [hx1]; exact ⟨rfl, rfl, rfl, rfl, rfl, rfl⟩
   have hx1p : x1.p = q.pos ∧ x1.o = x.o ∧ x1.c = x.c := by rw [hx1]; exact ⟨rfl, rfl, rfl⟩
   rw [← hx1s.2.2.2.2.2] at hbk;have HBK := hid hbk;have HX1s := hid hx1s;have HX1p := hid hx1p;have HM1 := hid (HM.out.tstep hfr ht1 hx1s);have HS1 := hid HM1.out.st
   go_upto_region 8 with fail
   clear hfr ht1 hblk c0 c1 c2 heof e1 hx1 hx1s hx1p hbk
   go_cut [] (fun wr => Hid (TopAdd w0.heap.size w1 wr t x1 es (.text (L tx))))
   case first =>
    as_aux_lemma =>
     obtain ⟨S, vs, ho1, hes1, hS, hrow⟩ := HS1.out.got.out;have HO1 := hid ho1;have HE1 := hid hes1;have HSS := hid hS;have HROW := hid hrow;have b3 := HS1.out.tm.cells.2.2.2.2.2.1;have bf := HS1.out.tm.free 5;have hbl : t < w1.heap.size := blk_lt HS1.out.tm;have hcv := conv_bytes;have hbs := Lib.bytesWorld_size;clear ho1 hes1 hS hrow
     go_wp2_with (at_builtin; refine wpList_append_own_at _ rfl _ _ 66 rfl 0 20 i0 .nilIface 1 16 Tryz.underlying66 hi hz0 hz1 hz2 rfl (by decide) x1.el es.length vs rfl ?own ⟨_, 0, none⟩ 1 1 [pv 154 (w1.heap.size + 1)] rfl rfl ?c1 ?c2 ?c3 ?c4 ?c5 ?_)
     case own => exact ownsRow_of_block HO1.out (fun k hk => (fr_text w1 tx (pv 154 (w1.heap.size + 1))).block k (ownsRow_blk HO1.out hk) id)
     case c1 => exact one_new _ _ _ (by simp [hbs] )
     case c2 => exact one_cell rfl
     case c3 => unfold maxLen; omega
     case c4 => omega
     case c5 => exact Nat.zero_le _
     intro v' w2 hown2 hgrow _ hblk2;obtain ⟨gg, cp, rfl⟩ : ∃ gg cp, v' = .slice (some ⟨gg, 0, none⟩) (es.length + 1) cp := owns_pos hown2;have HF := fr_text w1 tx (pv 154 (w1.heap.size + 1));have hsb := (own_cells HS1.out.got HF hgrow (k := t) rfl hbl).trans HS1.out.tm;have k3 := blk_cell hsb 5;have kf := blk_free hsb 5
     have HA := hid (top_add HS1.out HE1.out HSS.out HROW.out HF (text_at w1 tx _ _) (fresh_ok HS1.out.got HS1.out.lw HS1.out.ownlt (fun k hk => ⟨hk.1, by simp [hbs]; omega⟩)) hown2 hgrow (by simp [hbs] ) hblk2);clear hown2 hgrow hblk2 hcv hbs b3 bf hsb HF HO1 HE1 HSS HROW;go_wp2_with fail
     go_meet
     case rel => exact HA
   case rest =>
    obtain ⟨vn, hm, hf1, ho1⟩ := HM1.out.add hcut.out;obtain ⟨xb, hxn⟩ : ∃ z : Tm, z = { x1 with el := vn } := ⟨_, rfl⟩
    have HXB : Hid (xb.s = x1.s ∧ xb.raw = x1.raw ∧ xb.prov = x1.prov ∧ xb.p = x1.p ∧ xb.o = x1.o ∧ xb.c = x1.c ∧ xb.el = vn) := hid (by rw [hxn]; exact ⟨rfl, rfl, rfl, rfl, rfl, rfl, rfl⟩);rw [← hxn] at hm;have HM2 := hid hm;have HBK2 : Hid (TBlk wc t xb.el r (.cells #[.string tx, .string pd, .bool q.may] 153 (0, 0))) := hid (by rw [HXB.out.2.2.2.2.2.2]; exact HBK.out.add hf1 ho1)
    have HG3 := hid (HG.out.fr hm.fr HB0.out);obtain ⟨wt, hwt⟩ : ∃ wt : World, wt = wc := ⟨_, rfl⟩
    rw [← hwt] at HM2 HBK2 HG3 ⊢;clear hcut hm hf1 ho1 hxn HS1 HM1 HBK HG2 hwt;have hp1 : xb.p ≤ xb.s.size := by rw [HXB.out.2.2.2.1, HXB.out.1, HX1p.out.1, HX1s.out.1]; omega
    have hs1 : xb.s.size ≤ 2147483647 := by rw [HXB.out.1, HX1s.out.1]; exact hs
    have hc1 : 0 < xb.c.size := by rw [HXB.out.2.2.2.2.2.1, HX1p.out.2.2]; exact hc
    have hc12 : xb.c.size ≤ 2147483 := by rw [HXB.out.2.2.2.2.2.1, HX1p.out.2.2]; omega
    have HA1 : Hid (∀ c ∈ L xb.s, c.toNat < 128) := hid (by rw [HM2.out.sx.1]; exact HA0.out);have HR1 : Hid (∀ c ∈ L xb.s, c ≠ 13) := hid (by rw [HM2.out.sx.1]; exact HR0.out);go_wp2_with fail;refine (readTag_any B t eb xb q.may _ hs1 hp1 hc1 hc12 HA1.out HR1.out HM2.out.st.tm HG3.out hB).mono ?_;intro e w3 hpost;unfold RgPost at hpost
    have HXQ : Hid (L xb.s = L x.s ∧ xb.p = q.pos ∧ L xb.c = L x.c) := hid ⟨by rw [HXB.out.1, HX1s.out.1], by rw [HXB.out.2.2.2.1, HX1p.out.1], by rw [HXB.out.2.2.2.2.2.1, HX1p.out.2.2]⟩;rw [HXQ.out.1, HXQ.out.2.1, HXQ.out.2.2] at hpost
    cases hrg : Mu.rdTag (L x.s) q.pos (L x.c) q.may with
    | none =>
     rw [hrg] at hpost;obtain ⟨T, v, rfl, hfr⟩ := hpost
     have HRES : Hid (R = none ∧ Fr (fun k => k = t ∨ x0.el.ownBlock = some k) w0 w3) := hid ⟨by
      have h := HI.out;rw [Mu.step_tag HRT.out hrg, Mu.pre_err] at h;injection h with h; exact h.symm, HM2.out.fr.trans' hfr (fun k _ h => .inl h)⟩
     clear hrg hfr;go_wp2_with fail;go_ret;obtain ⟨rfl, hfr⟩ := HRES.out;exact ⟨⟨_, _, rfl⟩, hfr⟩
    | some tg =>
     rw [hrg] at hpost;obtain ⟨r2, tb, rfl, hr2, hblk2, htb, hfr, l2, ht3⟩ := hpost;have hqt := Mu.rdTag_pos hrg hcne;rw [L_length] at hqt;obtain ⟨x2, hx2⟩ : ∃ x2 : Tm, x2 = { xb with p := tg.pos, line := l2 } := ⟨_, rfl⟩
     rw [← hx2] at ht3;have hx2s : x2.s = xb.s ∧ x2.raw = xb.raw ∧ x2.prov = xb.prov ∧ x2.esc = xb.esc ∧ x2.am = xb.am ∧ x2.el = xb.el := by rw [hx2]; exact ⟨rfl, rfl, rfl, rfl, rfl, rfl⟩
     have HX2 : Hid (x2.s = x.s ∧ x2.raw = x.raw ∧ x2.p = tg.pos ∧ x2.o = x.o ∧ x2.c = x.c) := hid (by
      obtain ⟨a1, a2, a3, a4, a5, a6, a7⟩ := HXB.out;obtain ⟨b1, b2, -⟩ := HX1s.out;obtain ⟨c1, c2, c3⟩ := HX1p.out;rw [hx2];exact ⟨a1.trans b1, a2.trans b2, rfl, a5.trans c2, a6.trans c3⟩)
     have hbk3 := HBK2.out.tstep hfr;have hbt := HM2.out.blk hblk2 hr2;rw [← hx2s.2.2.2.2.2] at hbk3 hbt;have HM3 := hid (HM2.out.tstep hfr ht3 hx2s);have HBK3 := hid hbk3;have HBT := hid hbt;have HRG := hid hrg;have HTB := hid htb;have d1 := blk_cell hblk2 1;simp only [List.getElem?_toArray, List.getElem?_cons_zero, List.getElem?_cons_succ] at d1;have HS3 := hid HM3.out.st
     clear hrg hfr ht3 hblk2 htb hx2 hx2s hbk3 hbt HM2 HBK2 HG3 HA1 HR1 hp1 hs1 hc1 hc12 hr2 HXQ
     go_upto_region 12 with fail
     go_cut [79] (fun v wr => ∃ nb, v = .bool nb ∧ Hid (nb = !tg.alone) ∧ wr = w3)
     case first =>
      go_wp2_with fail
      go_meet
      case rel => exact ⟨_, rfl, rfl, rfl⟩
     obtain ⟨nb, rfl, HNB, rfl⟩ := hcut
     go_upto_if 79 with fail
     clear d1
     go_cut [] (fun wr => ∃ x3, Hid (TopMid w0 w0.heap.size t x0 wr x3 (es ++ Mu.txOf q tg) ∧ TBlk wr t x3.el r (.cells #[.string tx, .string pd, .bool q.may] 153 (0, 0)) ∧ TBlk wr t x3.el r2 (.cells #[.string tb, .bool tg.alone] 161 (0, 0)) ∧ (x3.s = x.s ∧ x3.raw = x.raw ∧ x3.p = tg.pos ∧ x3.o = x.o ∧ x3.c = x.c)))
     case first =>
      cases nb with
      | false =>
       have HAL : Hid (tg.alone = true) := hid (by have := HNB.out; simpa using this.symm);go_wp2_with fail
       go_meet
       case rel => exact ⟨x2, hid ⟨by
        have e : es ++ Mu.txOf q tg = es ++ [.text (L tx)] := by unfold Mu.txOf; rw [if_pos HAL.out, HTX.out]
        rw [e]; exact HM3.out, HBK3.out, HBT.out, HX2.out⟩⟩
      | true =>
       have HAL : Hid (tg.alone = false) := hid (by have := HNB.out; simpa using this.symm)
       as_aux_lemma =>
        have hl1 : (es ++ [Mu.Elem.text (L tx)]).length + 4 * g + 3 ≤ 8589934600 := by rw [List.length_append]; simp; omega
        obtain ⟨es1, hes1'⟩ : ∃ es1, es1 = es ++ [Mu.Elem.text (L tx)] := ⟨_, rfl⟩
        rw [← hes1'] at HM3 HS3 hl1;have HES1 := hid hes1';clear hes1';have c1 := blk_cell HBK3.out.1 1;simp only [List.getElem?_toArray, List.getElem?_cons_zero, List.getElem?_cons_succ] at c1;obtain ⟨S, vs, ho1, hes1, hS, hrow⟩ := HS3.out.got.out;have HO1 := hid ho1;have HE1 := hid hes1;have HSS := hid hS;have HROW := hid hrow;have b3 := HS3.out.tm.cells.2.2.2.2.2.1
        have bf := HS3.out.tm.free 5;have hbl : t < wc.heap.size := blk_lt HS3.out.tm;have hcv := conv_bytes;have hbs := Lib.bytesWorld_size;clear ho1 hes1 hS hrow
        go_wp2_with (at_builtin; refine wpList_append_own_at _ rfl _ _ 66 rfl 0 20 i0 .nilIface 1 16 Tryz.underlying66 hi hz0 hz1 hz2 rfl (by decide) x2.el es1.length vs rfl ?own ⟨_, 0, none⟩ 1 1 [pv 154 (wc.heap.size + 1)] rfl rfl ?c1 ?c2 ?c3 ?c4 ?c5 ?_)
        case own => exact ownsRow_of_block HO1.out (fun k hk => (fr_text wc pd (pv 154 (wc.heap.size + 1))).block k (ownsRow_blk HO1.out hk) id)
        case c1 => exact one_new _ _ _ (by simp [hbs] )
        case c2 => exact one_cell rfl
        case c3 => unfold maxLen; omega
        case c4 => omega
        case c5 => exact Nat.zero_le _
        intro v' w2 hown2 hgrow _ hblk2;obtain ⟨gg, cp, rfl⟩ : ∃ gg cp, v' = .slice (some ⟨gg, 0, none⟩) (es1.length + 1) cp := owns_pos hown2;have HF := fr_text wc pd (pv 154 (wc.heap.size + 1));have hsb := (own_cells HS3.out.got HF hgrow (k := t) rfl hbl).trans HS3.out.tm;have k3 := blk_cell hsb 5;have kf := blk_free hsb 5
        have HA := hid (top_add HS3.out HE1.out HSS.out HROW.out HF (text_at wc pd _ _) (fresh_ok HS3.out.got HS3.out.lw HS3.out.ownlt (fun k hk => ⟨hk.1, by simp [hbs]; omega⟩)) hown2 hgrow (by simp [hbs] ) hblk2);clear hown2 hgrow hblk2 hcv hbs b3 bf hsb HF HO1 HE1 HSS HROW;go_wp2_with fail;obtain ⟨vn, hm, hf1, ho1⟩ := HM3.out.add HA.out
        obtain ⟨xc, hxn⟩ : ∃ z : Tm, z = { x2 with el := vn } := ⟨_, rfl⟩
        have HXC : Hid (xc.s = x2.s ∧ xc.raw = x2.raw ∧ xc.prov = x2.prov ∧ xc.p = x2.p ∧ xc.o = x2.o ∧ xc.c = x2.c ∧ xc.el = vn) := hid (by rw [hxn]; exact ⟨rfl, rfl, rfl, rfl, rfl, rfl, rfl⟩);rw [← hxn] at hm;have HM4 := hid hm;have HBK4 := hid (HBK3.out.add hf1 ho1);have HBT4 := hid (HBT.out.add hf1 ho1);rw [← HXC.out.2.2.2.2.2.2] at HBK4 HBT4
        go_meet
        case rel => exact ⟨xc, hid ⟨by
         have e : es ++ Mu.txOf q tg = es1 ++ [.text (L pd)] := by unfold Mu.txOf; rw [if_neg (by rw [HAL.out]; simp), HES1.out, HTX.out, HPD.out]; simp
         rw [e]; exact HM4.out, HBK4.out, HBT4.out, by
          obtain ⟨a1, a2, a3, a4, a5, a6, a7⟩ := HXC.out;obtain ⟨b1, b2, b3, b4, b5⟩ := HX2.out;exact ⟨a1.trans b1, a2.trans b2, a4.trans b3, a5.trans b4, a6.trans b5⟩⟩⟩
     case rest =>
      obtain ⟨x3, HC⟩ := hcut;obtain ⟨es2, hes2⟩ : ∃ es2, es2 = es ++ Mu.txOf q tg := ⟨_, rfl⟩
      have hl2 : es2.length + 4 * g + 2 ≤ 8589934600 := by rw [hes2, List.length_append]; have := Mu.txOf_length q tg; omega
      rw [← hes2] at HC;have HES2 := hid hes2;have HM4 := hid HC.out.1;have HBK4 := hid HC.out.2.1;have HBT4 := hid HC.out.2.2.1;have HX3 := hid HC.out.2.2.2;have HG4 := hid (HG.out.fr HM4.out.fr HB0.out);obtain ⟨wk, hwk⟩ : ∃ wk : World, wk = wc := ⟨_, rfl⟩
      rw [← hwk] at HM4 HBK4 HBT4 HG4 ⊢;have d0 := blk_cell HBT4.out.1 0;simp only [List.getElem?_toArray, List.getElem?_cons_zero, List.getElem?_cons_succ] at d0;have htb0 : 0 < tb.size := by rw [← L_length, HTB.out]; exact List.length_pos_iff.2 hqt.2.2.1
      have htbs : tb.size ≤ 2147483647 := by rw [← L_length, HTB.out]; omega
      have HK : Hid (tg.tag.getD 0 0 = tb[0]) := hid (by rw [← HTB.out, L_get _ _ htb0])
      have HTA : Hid (∀ c ∈ L tb, c.toNat < 128) := hid (fun c hc => by
       rw [HTB.out] at hc;have := hqt.2.2.2.1 c hc;rw [← HX3.out.1, HM4.out.sx.1] at this;exact HA0.out c this)
      have hpx : tg.pos ≤ x.s.size := hqt.2.1;have hpx2 : x.p < tg.pos := by have := hqt.1; omega
      have HPOS : Hid (x3.p ≤ x3.s.size ∧ (0 < x3.o.size ∧ x3.o.size ≤ 1000) ∧ 0 < x3.c.size ∧ x3.c.size ≤ 1000) := hid (by
       obtain ⟨e1, e2, e3, e4, e5⟩ := HX3.out;rw [e1, e3, e4, e5]; exact ⟨hpx, ⟨ho, ho2⟩, hc, hc2⟩)
      clear HC hes2 hwk HS3 HM3 HBK3 HBT hqt HX2 HXB
      by_cases k33 : tb[0] = 33
      · as_aux_lemma =>
         have b33 : ((tb[0].toNat : Int) == 33) = true := byte_is (b := 33) k33
         have HRES : Hid (Mu.pre es2 (Mu.iparse (L x3.s) x3.raw g 0 ⟨x3.p, L x3.o, L x3.c⟩ none) = some R) := hid (by
          have h := HI.out;rw [Mu.step_bang HRT.out HRG.out (HK.out.trans k33), Mu.pre_pre] at h;obtain ⟨e1, e2, e3, e4, e5⟩ := HX3.out;rw [e1, e2, e3, e4, e5, HES2.out];exact h)
         clear k33;go_wp2_with fail;have HNEXT : Hid (TopInv w0 w0.heap.size t x0 R g _ x3 (es2)) := hid ⟨HM4.out, HPOS.out, by omega, HRES.out⟩
         go_roundg g
         case rel => exact ⟨x3, es2, by omega, HNEXT⟩
         case measure => omega
      by_cases k3594 : tb[0] = 35 ∨ tb[0] = 94
      · as_aux_lemma =>
         rcases id k3594 with kc | kc
         · as_aux_lemma =>
            have b33 : ((tb[0].toNat : Int) == 33) = false := byte_isnt (b := 33) k33;have b35 : ((tb[0].toNat : Int) == 35) = true := byte_is (b := 35) kc;have HKK : Hid (tg.tag.getD 0 0 = 35 ∨ tg.tag.getD 0 0 = 94) := hid (by rw [HK.out]; exact k3594);have HINV : Hid (((tb[0].toNat : Int) == 94) = (tg.tag.getD 0 0 == 94)) := hid (by rw [HK.out]; exact byte_beq tb[0] 94)
            clear k33 k3594 kc;have hsub : (tb.extract 1 tb.size).size ≤ 2147483647 := by rw [ByteArray.size_extract]; omega
            have HAS : Hid (∀ c ∈ L (tb.extract 1 tb.size), c.toNat < 128) := hid (fun c hc => HTA.out c (Mu.mem_sub (by rw [← L_extract]; exact hc)));have z1 : (1 : Int) ≤ (tb.size : Int) := by omega
            go_wp2_with fail;refine (trimSpace_any (tb.extract 1 tb.size) _ hsub HAS.out HG4.out).mono ?_
            rintro e w5 ⟨nb, rfl, hnb, hf⟩;have HNB : Hid (L nb = Mu.trimBy Mu.spB (tg.tag.drop 1)) := hid (by rw [hnb, L_extract, ← HTB.out]; congr 1; rw [← L_length, Mu.sub_to_end]);have HM5 := hid (HM4.out.step0 hf);have HBK5 := hid (HBK4.out.step0 hf);have HG5 := hid (HG4.out.fr0 hf);have HS5 := hid HM5.out.st;clear hnb hf HAS hsub HBT4 d0
            have htl : t < w5.heap.size := blk_lt HM5.out.st.tm;have hB5 := HG5.out.size
            go_upto_region 21 with fail
            refine top_r21 t tb nb htb0 x3 w5 HM5.out.st.tm _ _ _ _ _ _ _ _ _ _ _ _ _ _ _ _ _ _ _ _ _ _ _ _ _ _ _ _ _ _ _ _ _ _ _ _ _ _ _ _ _ _ _ _ _ _ _ _ _ _ _ _ _ _ _ _ _ _ _ _ _ _ _ _ _ _ _ _ _ _ _ _ _ _ _ _ _ _ _ _ _ _ _ _ _ _ _ _ _ _ _ _ _ _ _ _ _ _ _ _ _ _ _ _ _ _ _ _ _ _ _ _ _ _ _ _ _ _ _ _ _ _ _ _ _ _ _ _ _ _ _ _ _ _ _ _ _ _ _ _ _ _ _ _ _ _ _ _ _ _ _ _ _ _ _ _ _ _ _ _ _ _ _ _ _ _ _ _ _ _ _ _ _ _ _ _ _ _ _ _ _ _ _ _ _ _ _ _ _ _ _ _ _ _ _ _ _ _ _ _ _ _ _ _ _ _ _ _ _ _ _ _ _ _ _ _ _ _ _ _ _ _ _ _ _ _ _ _ _ _ _ _ _ _ _ ?_
            intro u125 u126 u127 u128 u129 u130 u131 u132 u133 u134 b2 g2 w6 hnew;obtain ⟨hf6, hb2, hg2, hlb, hlg, hbg⟩ := hnew;have HF6 := hid hf6;have HB2 := hid hb2;have HG2' := hid hg2;have HT6 := hid (HM5.out.st.tm.fr0 hf6);have HGL6 := hid (HG5.out.fr0 hf6);clear hf6 hb2 hg2
            cases hsub : Mu.iparse (L x.s) x.raw g (0 + 1) ⟨tg.pos, L x.o, L x.c⟩ (some (Mu.trimBy Mu.spB (tg.tag.drop 1))) with
            | none =>
             exfalso;have h := HI.out
             rw [Mu.step_sect_none (st := ⟨x.p, L x.o, L x.c⟩) HRT.out HRG.out HKK.out (by decide) hsub] at h;simp [Mu.pre] at h
            | some R2 =>
             have HSUB := hid hsub;have HINV6 : Hid (SecInv w6 w6.heap.size t b2 1 x3 ⟨nb, ((tb[0].toNat : Int) == 94), x3.line, .slice (some ⟨g2, 0, none⟩) 0 0⟩ R2 g w6 x3 ⟨nb, ((tb[0].toNat : Int) == 94), x3.line, .slice (some ⟨g2, 0, none⟩) 0 0⟩ []) := hid
              ⟨sec_start HT6.out HB2.out HG2'.out (by omega) (by omega) (by omega), HPOS.out, by simp; omega, by
               obtain ⟨e1, e2, e3, e4, e5⟩ := HX3.out;rw [Mu.pre_nil, e1, e2, e3, e4, e5, HNB.out]; exact hsub⟩
             have hs2 : x3.s.size ≤ 2147483647 := by rw [HX3.out.1]; exact hs
             have HA2 : Hid (∀ c ∈ L x3.s, c.toNat < 128) := hid (by rw [HM5.out.sx.1]; exact HA0.out);have HR2 : Hid (∀ c ∈ L x3.s, c ≠ 13) := hid (by rw [HM5.out.sx.1]; exact HR0.out);have HP2 : Hid (∃ T p, x3.prov = .iface T p) := hid (by rw [HM5.out.sx.2.2.1]; exact HPV.out);clear hsub;go_wp2_with fail
             refine (parseSection_all B eb t hB g 1 b2 x3 ⟨nb, ((tb[0].toNat : Int) == 94), x3.line, .slice (some ⟨g2, 0, none⟩) 0 0⟩ w6 R2 (by decide) hs2 HA2.out HR2.out HP2.out (by omega) (fun k hk => by
              have : g2 = k := by simpa [Value.ownBlock] using hk
              omega) HGL6.out HINV6.out).mono ?_
             intro e w7 hpost;unfold SecPost at hpost
             cases R2 with
             | none =>
              obtain ⟨⟨T, v, rfl⟩, hfr⟩ := hpost
              have HRES : Hid (R = none ∧ Fr (fun k => k = t ∨ x0.el.ownBlock = some k) w0 w7) := hid ⟨by
               have h := HI.out;rw [Mu.step_sect_err (st := ⟨x.p, L x.o, L x.c⟩) HRT.out HRG.out HKK.out (by decide) HSUB.out, Mu.pre_err] at h
               injection h with h; exact h.symm, (HM5.out.fr.trans0 HF6.out).trans' hfr (fun k hk hm => by
                have := HM5.out.fr.size
                rcases hm with h | h | h
                · exact .inl h
                · omega
                · have : g2 = k := by simpa [Value.ownBlock] using h
                  omega)⟩
              clear hfr;go_wp2_with fail;go_ret;unfold TopPost;obtain ⟨rfl, hfr⟩ := HRES.out;exact ⟨⟨_, _, rfl⟩, hfr⟩
             | some z =>
              obtain ⟨es3, st3⟩ := z;obtain ⟨rfl, x5, y3n, hm3, hq3, hpos3⟩ := hpost;have HM3' := hid hm3;have HQ3 := hid hq3;have HP3 := hid hpos3
              have HFR7 : Hid (Fr (· = t) w5 w7) := hid ((Fr.of0 HF6.out).trans' hm3.fr (fun k hk hm => by
               rcases hm with h | h | h
               · exact h
               · omega
               · have : g2 = k := by simpa [Value.ownBlock] using h
                 omega))
              have HM7 := hid (HM5.out.tstep HFR7.out hm3.st.tm hm3.sx);have HS7 := hid HM7.out.st;have HEL := hid (show x5.el = x3.el from hm3.sx.2.2.2.2.2)
              have HSA := hid (fun u => sect_at (lo := w5.heap.size) hm3 ⟨hlb, HF6.out.size⟩ (fun k hk => by
               have : g2 = k := by simpa [Value.ownBlock] using hk
               omega) u)
              clear hm3 hq3 hpos3;obtain ⟨S, vs, ho1, hes1, hS, hrow⟩ := HS7.out.got.out;have HO1 := hid ho1;have HE1 := hid hes1;have HSS := hid hS;have HROW := hid hrow;have b3 := HS7.out.tm.cells.2.2.2.2.2.1;have bf := HS7.out.tm.free 5;have hbl : t < w7.heap.size := blk_lt HS7.out.tm;clear ho1 hes1 hS hrow
              go_wp2_with (at_builtin; refine wpList_append_own_at _ rfl _ _ 66 rfl 0 20 i0 .nilIface 1 16 Tryz.underlying66 hi hz0 hz1 hz2 rfl (by decide) x5.el es2.length vs rfl ?own ⟨_, 0, none⟩ 1 1 [pv 165 b2] rfl rfl ?c1 ?c2 ?c3 ?c4 ?c5 ?_)
              case own => exact ownsRow_of_block HO1.out (fun k hk => (Fr.alloc No w7 (.cells #[pv 165 b2] 20)).block k (ownsRow_blk HO1.out hk) id)
              case c1 => exact one_new _ _ _ (by simp)
              case c2 => exact one_cell rfl
              case c3 => unfold maxLen; omega
              case c4 => omega
              case c5 => exact Nat.zero_le _
              intro v' w2 hown2 hgrow _ hblk2;obtain ⟨gg, cp, rfl⟩ : ∃ gg cp, v' = .slice (some ⟨gg, 0, none⟩) (es2.length + 1) cp := owns_pos hown2;have HF := Fr.alloc No w7 (.cells #[pv 165 b2] 20);have hsb := (own_cells HS7.out.got HF hgrow (k := t) rfl hbl).trans HS7.out.tm;have k3 := blk_cell hsb 5;have kf := blk_free hsb 5
              have HA := hid (top_add HS7.out HE1.out HSS.out HROW.out HF (HSA.out _) (by rw [HEL.out]; exact fresh_ok HS5.out.got HS5.out.lw HS5.out.ownlt (fun k hk => ⟨hk.1, by have := hk.2; simp; omega⟩)) hown2 hgrow (by simp) hblk2);clear hown2 hgrow hblk2 b3 bf hsb HF HO1 HE1 HSS HROW;go_wp2_with fail;obtain ⟨vn, hm, hf1, ho1⟩ := HM7.out.add HA.out
              obtain ⟨x4, hxn⟩ : ∃ z : Tm, z = { x5 with el := vn } := ⟨_, rfl⟩
              have HX4 : Hid (x4.s = x5.s ∧ x4.raw = x5.raw ∧ x4.prov = x5.prov ∧ x4.p = x5.p ∧ x4.o = x5.o ∧ x4.c = x5.c ∧ x4.el = vn) := hid (by rw [hxn]; exact ⟨rfl, rfl, rfl, rfl, rfl, rfl, rfl⟩);rw [← hxn] at hm;have HM8 := hid hm;have hl3 : (es2 ++ [Mu.Elem.sect (L nb) ((tb[0].toNat : Int) == 94) es3]).length + 4 * g ≤ 8589934600 := by rw [List.length_append]; simp; omega
              have HP4 : Hid (x4.p ≤ x4.s.size ∧ (0 < x4.o.size ∧ x4.o.size ≤ 1000) ∧ 0 < x4.c.size ∧ x4.c.size ≤ 1000) := hid (by
               obtain ⟨a1, a2, a3, a4, a5, a6, a7⟩ := HX4.out;rw [a1, a4, a5, a6]; exact HP3.out)
              have HRES : Hid (Mu.pre (es2 ++ [Mu.Elem.sect (L nb) ((tb[0].toNat : Int) == 94) es3]) (Mu.iparse (L x4.s) x4.raw g 0 ⟨x4.p, L x4.o, L x4.c⟩ none) = some R) := hid (by
               have h := HI.out;rw [Mu.step_sect_ok (st := ⟨x.p, L x.o, L x.c⟩) HRT.out HRG.out HKK.out (by decide) HSUB.out, Mu.pre_pre] at h;obtain ⟨e1, e2, -⟩ := HX3.out;obtain ⟨a1, a2, a3, a4, a5, a6, a7⟩ := HX4.out;obtain ⟨e4, e5, e6⟩ := HQ3.out;rw [a1, a2, a4, a5, a6, HM3'.out.sx.1, HM3'.out.sx.2.1, e1, e2, e4, e5, e6, HES2.out, HNB.out, HINV.out, List.append_assoc];exact h)
              clear hm hf1 ho1 hxn;have HNEXT : Hid (TopInv w0 w0.heap.size t x0 R g _ x4 (es2 ++ [Mu.Elem.sect (L nb) ((tb[0].toNat : Int) == 94) es3])) := hid ⟨HM8.out, HP4.out, by omega, HRES.out⟩
              go_roundg g
              case rel => exact ⟨x4, es2 ++ [Mu.Elem.sect (L nb) ((tb[0].toNat : Int) == 94) es3], by omega, HNEXT⟩
              case measure => omega
         · as_aux_lemma =>
            have b33 : ((tb[0].toNat : Int) == 33) = false := byte_isnt (b := 33) k33;have b35 : ((tb[0].toNat : Int) == 35) = false := byte_isnt (b := 35) (fun h => absurd (kc.symm.trans h) (by decide));have b94 : ((tb[0].toNat : Int) == 94) = true := byte_is (b := 94) kc;have HKK : Hid (tg.tag.getD 0 0 = 35 ∨ tg.tag.getD 0 0 = 94) := hid (by rw [HK.out]; exact k3594)
            have HINV : Hid (((tb[0].toNat : Int) == 94) = (tg.tag.getD 0 0 == 94)) := hid (by rw [HK.out]; exact byte_beq tb[0] 94);clear k33 k3594 kc;have hsub : (tb.extract 1 tb.size).size ≤ 2147483647 := by rw [ByteArray.size_extract]; omega
            have HAS : Hid (∀ c ∈ L (tb.extract 1 tb.size), c.toNat < 128) := hid (fun c hc => HTA.out c (Mu.mem_sub (by rw [← L_extract]; exact hc)));have z1 : (1 : Int) ≤ (tb.size : Int) := by omega
            go_wp2_with fail;refine (trimSpace_any (tb.extract 1 tb.size) _ hsub HAS.out HG4.out).mono ?_
            rintro e w5 ⟨nb, rfl, hnb, hf⟩;have HNB : Hid (L nb = Mu.trimBy Mu.spB (tg.tag.drop 1)) := hid (by rw [hnb, L_extract, ← HTB.out]; congr 1; rw [← L_length, Mu.sub_to_end]);have HM5 := hid (HM4.out.step0 hf);have HBK5 := hid (HBK4.out.step0 hf);have HG5 := hid (HG4.out.fr0 hf);have HS5 := hid HM5.out.st;clear hnb hf HAS hsub HBT4 d0
            have htl : t < w5.heap.size := blk_lt HM5.out.st.tm;have hB5 := HG5.out.size
            go_upto_region 21 with fail
            refine top_r21 t tb nb htb0 x3 w5 HM5.out.st.tm _ _ _ _ _ _ _ _ _ _ _ _ _ _ _ _ _ _ _ _ _ _ _ _ _ _ _ _ _ _ _ _ _ _ _ _ _ _ _ _ _ _ _ _ _ _ _ _ _ _ _ _ _ _ _ _ _ _ _ _ _ _ _ _ _ _ _ _ _ _ _ _ _ _ _ _ _ _ _ _ _ _ _ _ _ _ _ _ _ _ _ _ _ _ _ _ _ _ _ _ _ _ _ _ _ _ _ _ _ _ _ _ _ _ _ _ _ _ _ _ _ _ _ _ _ _ _ _ _ _ _ _ _ _ _ _ _ _ _ _ _ _ _ _ _ _ _ _ _ _ _ _ _ _ _ _ _ _ _ _ _ _ _ _ _ _ _ _ _ _ _ _ _ _ _ _ _ _ _ _ _ _ _ _ _ _ _ _ _ _ _ _ _ _ _ _ _ _ _ _ _ _ _ _ _ _ _ _ _ _ _ _ _ _ _ _ _ _ _ _ _ _ _ _ _ _ _ _ _ _ _ _ _ _ _ ?_
            intro u125 u126 u127 u128 u129 u130 u131 u132 u133 u134 b2 g2 w6 hnew;obtain ⟨hf6, hb2, hg2, hlb, hlg, hbg⟩ := hnew;have HF6 := hid hf6;have HB2 := hid hb2;have HG2' := hid hg2;have HT6 := hid (HM5.out.st.tm.fr0 hf6);have HGL6 := hid (HG5.out.fr0 hf6);clear hf6 hb2 hg2
            cases hsub : Mu.iparse (L x.s) x.raw g (0 + 1) ⟨tg.pos, L x.o, L x.c⟩ (some (Mu.trimBy Mu.spB (tg.tag.drop 1))) with
            | none =>
             exfalso;have h := HI.out
             rw [Mu.step_sect_none (st := ⟨x.p, L x.o, L x.c⟩) HRT.out HRG.out HKK.out (by decide) hsub] at h;simp [Mu.pre] at h
            | some R2 =>
             have HSUB := hid hsub;have HINV6 : Hid (SecInv w6 w6.heap.size t b2 1 x3 ⟨nb, ((tb[0].toNat : Int) == 94), x3.line, .slice (some ⟨g2, 0, none⟩) 0 0⟩ R2 g w6 x3 ⟨nb, ((tb[0].toNat : Int) == 94), x3.line, .slice (some ⟨g2, 0, none⟩) 0 0⟩ []) := hid
              ⟨sec_start HT6.out HB2.out HG2'.out (by omega) (by omega) (by omega), HPOS.out, by simp; omega, by
               obtain ⟨e1, e2, e3, e4, e5⟩ := HX3.out;rw [Mu.pre_nil, e1, e2, e3, e4, e5, HNB.out]; exact hsub⟩
             have hs2 : x3.s.size ≤ 2147483647 := by rw [HX3.out.1]; exact hs
             have HA2 : Hid (∀ c ∈ L x3.s, c.toNat < 128) := hid (by rw [HM5.out.sx.1]; exact HA0.out);have HR2 : Hid (∀ c ∈ L x3.s, c ≠ 13) := hid (by rw [HM5.out.sx.1]; exact HR0.out);have HP2 : Hid (∃ T p, x3.prov = .iface T p) := hid (by rw [HM5.out.sx.2.2.1]; exact HPV.out);clear hsub;go_wp2_with fail
             refine (parseSection_all B eb t hB g 1 b2 x3 ⟨nb, ((tb[0].toNat : Int) == 94), x3.line, .slice (some ⟨g2, 0, none⟩) 0 0⟩ w6 R2 (by decide) hs2 HA2.out HR2.out HP2.out (by omega) (fun k hk => by
              have : g2 = k := by simpa [Value.ownBlock] using hk
              omega) HGL6.out HINV6.out).mono ?_
             intro e w7 hpost;unfold SecPost at hpost
             cases R2 with
             | none =>
              obtain ⟨⟨T, v, rfl⟩, hfr⟩ := hpost
              have HRES : Hid (R = none ∧ Fr (fun k => k = t ∨ x0.el.ownBlock = some k) w0 w7) := hid ⟨by
               have h := HI.out;rw [Mu.step_sect_err (st := ⟨x.p, L x.o, L x.c⟩) HRT.out HRG.out HKK.out (by decide) HSUB.out, Mu.pre_err] at h
               injection h with h; exact h.symm, (HM5.out.fr.trans0 HF6.out).trans' hfr (fun k hk hm => by
                have := HM5.out.fr.size
                rcases hm with h | h | h
                · exact .inl h
                · omega
                · have : g2 = k := by simpa [Value.ownBlock] using h
                  omega)⟩
              clear hfr;go_wp2_with fail;go_ret;unfold TopPost;obtain ⟨rfl, hfr⟩ := HRES.out;exact ⟨⟨_, _, rfl⟩, hfr⟩
             | some z =>
              obtain ⟨es3, st3⟩ := z;obtain ⟨rfl, x5, y3n, hm3, hq3, hpos3⟩ := hpost;have HM3' := hid hm3;have HQ3 := hid hq3;have HP3 := hid hpos3
              have HFR7 : Hid (Fr (· = t) w5 w7) := hid ((Fr.of0 HF6.out).trans' hm3.fr (fun k hk hm => by
               rcases hm with h | h | h
               · exact h
               · omega
               · have : g2 = k := by simpa [Value.ownBlock] using h
                 omega))
              have HM7 := hid (HM5.out.tstep HFR7.out hm3.st.tm hm3.sx);have HS7 := hid HM7.out.st;have HEL := hid (show x5.el = x3.el from hm3.sx.2.2.2.2.2)
              have HSA := hid (fun u => sect_at (lo := w5.heap.size) hm3 ⟨hlb, HF6.out.size⟩ (fun k hk => by
               have : g2 = k := by simpa [Value.ownBlock] using hk
               omega) u)
              clear hm3 hq3 hpos3;obtain ⟨S, vs, ho1, hes1, hS, hrow⟩ := HS7.out.got.out;have HO1 := hid ho1;have HE1 := hid hes1;have HSS := hid hS;have HROW := hid hrow;have b3 := HS7.out.tm.cells.2.2.2.2.2.1;have bf := HS7.out.tm.free 5;have hbl : t < w7.heap.size := blk_lt HS7.out.tm;clear ho1 hes1 hS hrow
              go_wp2_with (at_builtin; refine wpList_append_own_at _ rfl _ _ 66 rfl 0 20 i0 .nilIface 1 16 Tryz.underlying66 hi hz0 hz1 hz2 rfl (by decide) x5.el es2.length vs rfl ?own ⟨_, 0, none⟩ 1 1 [pv 165 b2] rfl rfl ?c1 ?c2 ?c3 ?c4 ?c5 ?_)
              case own => exact ownsRow_of_block HO1.out (fun k hk => (Fr.alloc No w7 (.cells #[pv 165 b2] 20)).block k (ownsRow_blk HO1.out hk) id)
              case c1 => exact one_new _ _ _ (by simp)
              case c2 => exact one_cell rfl
              case c3 => unfold maxLen; omega
              case c4 => omega
              case c5 => exact Nat.zero_le _
              intro v' w2 hown2 hgrow _ hblk2;obtain ⟨gg, cp, rfl⟩ : ∃ gg cp, v' = .slice (some ⟨gg, 0, none⟩) (es2.length + 1) cp := owns_pos hown2;have HF := Fr.alloc No w7 (.cells #[pv 165 b2] 20);have hsb := (own_cells HS7.out.got HF hgrow (k := t) rfl hbl).trans HS7.out.tm;have k3 := blk_cell hsb 5;have kf := blk_free hsb 5
              have HA := hid (top_add HS7.out HE1.out HSS.out HROW.out HF (HSA.out _) (by rw [HEL.out]; exact fresh_ok HS5.out.got HS5.out.lw HS5.out.ownlt (fun k hk => ⟨hk.1, by have := hk.2; simp; omega⟩)) hown2 hgrow (by simp) hblk2);clear hown2 hgrow hblk2 b3 bf hsb HF HO1 HE1 HSS HROW;go_wp2_with fail;obtain ⟨vn, hm, hf1, ho1⟩ := HM7.out.add HA.out
              obtain ⟨x4, hxn⟩ : ∃ z : Tm, z = { x5 with el := vn } := ⟨_, rfl⟩
              have HX4 : Hid (x4.s = x5.s ∧ x4.raw = x5.raw ∧ x4.prov = x5.prov ∧ x4.p = x5.p ∧ x4.o = x5.o ∧ x4.c = x5.c ∧ x4.el = vn) := hid (by rw [hxn]; exact ⟨rfl, rfl, rfl, rfl, rfl, rfl, rfl⟩);rw [← hxn] at hm;have HM8 := hid hm;have hl3 : (es2 ++ [Mu.Elem.sect (L nb) ((tb[0].toNat : Int) == 94) es3]).length + 4 * g ≤ 8589934600 := by rw [List.length_append]; simp; omega
              have HP4 : Hid (x4.p ≤ x4.s.size ∧ (0 < x4.o.size ∧ x4.o.size ≤ 1000) ∧ 0 < x4.c.size ∧ x4.c.size ≤ 1000) := hid (by
               obtain ⟨a1, a2, a3, a4, a5, a6, a7⟩ := HX4.out;rw [a1, a4, a5, a6]; exact HP3.out)
              have HRES : Hid (Mu.pre (es2 ++ [Mu.Elem.sect (L nb) ((tb[0].toNat : Int) == 94) es3]) (Mu.iparse (L x4.s) x4.raw g 0 ⟨x4.p, L x4.o, L x4.c⟩ none) = some R) := hid (by
               have h := HI.out;rw [Mu.step_sect_ok (st := ⟨x.p, L x.o, L x.c⟩) HRT.out HRG.out HKK.out (by decide) HSUB.out, Mu.pre_pre] at h;obtain ⟨e1, e2, -⟩ := HX3.out;obtain ⟨a1, a2, a3, a4, a5, a6, a7⟩ := HX4.out;obtain ⟨e4, e5, e6⟩ := HQ3.out;rw [a1, a2, a4, a5, a6, HM3'.out.sx.1, HM3'.out.sx.2.1, e1, e2, e4, e5, e6, HES2.out, HNB.out, HINV.out, List.append_assoc];exact h)
              clear hm hf1 ho1 hxn;have HNEXT : Hid (TopInv w0 w0.heap.size t x0 R g _ x4 (es2 ++ [Mu.Elem.sect (L nb) ((tb[0].toNat : Int) == 94) es3])) := hid ⟨HM8.out, HP4.out, by omega, HRES.out⟩
              go_roundg g
              case rel => exact ⟨x4, es2 ++ [Mu.Elem.sect (L nb) ((tb[0].toNat : Int) == 94) es3], by omega, HNEXT⟩
              case measure => omega
      by_cases k47 : tb[0] = 47
      · as_aux_lemma =>
         have b33 : ((tb[0].toNat : Int) == 33) = false := byte_isnt (b := 33) k33;have b35 : ((tb[0].toNat : Int) == 35) = false := byte_isnt (b := 35) (fun h => k3594 (.inl h));have b94 : ((tb[0].toNat : Int) == 94) = false := byte_isnt (b := 94) (fun h => k3594 (.inr h));have b47 : ((tb[0].toNat : Int) == 47) = true := byte_is (b := 47) k47;have HKK := hid k47;clear k33 k3594 k47
         have HRES : Hid (R = none) := hid (by
          have h := HI.out;rw [Mu.step_close_top (st := ⟨x.p, L x.o, L x.c⟩) HRT.out HRG.out (HK.out.trans HKK.out), Mu.pre_err] at h;injection h with h; exact h.symm)
         have h4 := HM4.out.st.tm.cells.2.2.2.2.1;go_wp2_with fail;refine (newError_any _ _ _).mono ?_;rintro e w6 ⟨rfl, hf⟩;have HF6 := hid hf;clear hf;go_wp2_with fail;go_ret;unfold TopPost;rw [HRES.out];exact ⟨⟨_, _, rfl⟩, HM4.out.fr.trans0 HF6.out⟩
      by_cases k62 : tb[0] = 62
      · as_aux_lemma =>
         have b33 : ((tb[0].toNat : Int) == 33) = false := byte_isnt (b := 33) k33;have b35 : ((tb[0].toNat : Int) == 35) = false := byte_isnt (b := 35) (fun h => k3594 (.inl h));have b94 : ((tb[0].toNat : Int) == 94) = false := byte_isnt (b := 94) (fun h => k3594 (.inr h));have b47 : ((tb[0].toNat : Int) == 47) = false := byte_isnt (b := 47) k47
         have b62 : ((tb[0].toNat : Int) == 62) = true := byte_is (b := 62) k62;have HKK := hid k62;clear k33 k3594 k47 k62;have hsub : (tb.extract 1 tb.size).size ≤ 2147483647 := by rw [ByteArray.size_extract]; omega
         have HAS : Hid (∀ c ∈ L (tb.extract 1 tb.size), c.toNat < 128) := hid (fun c hc => HTA.out c (Mu.mem_sub (by rw [← L_extract]; exact hc)));have z1 : (1 : Int) ≤ (tb.size : Int) := by omega
         go_wp2_with fail;refine (trimSpace_any (tb.extract 1 tb.size) _ hsub HAS.out HG4.out).mono ?_
         rintro e w5 ⟨nb, rfl, hnb, hf⟩;have HNB : Hid (L nb = Mu.trimBy Mu.spB (tg.tag.drop 1)) := hid (by rw [hnb, L_extract, ← HTB.out]; congr 1; rw [← L_length, Mu.sub_to_end]);have HM5 := hid (HM4.out.step0 hf);have HBK5 := hid (HBK4.out.step0 hf);have HG5 := hid (HG4.out.fr0 hf);have HS5 := hid HM5.out.st;clear hnb hf HAS hsub HBT4 d0;obtain ⟨T, pp, hpp⟩ := HPV.out
         have HPX : Hid (x3.prov = .iface T pp) := hid (by rw [HM5.out.sx.2.2.1]; exact hpp);clear hpp;have c1 := blk_cell HBK5.out.1 1;simp only [List.getElem?_toArray, List.getElem?_cons_zero, List.getElem?_cons_succ] at c1;go_wp2_with fail;refine (parsePartial_any t x3 nb pd T pp _ HM5.out.st.tm HPX.out).mono ?_;rintro e w6 ⟨rfl, rfl⟩
         obtain ⟨S, vs, ho1, hes1, hS, hrow⟩ := HS5.out.got.out;have HO1 := hid ho1;have HE1 := hid hes1;have HSS := hid hS;have HROW := hid hrow;have b3 := HS5.out.tm.cells.2.2.2.2.2.1;have bf := HS5.out.tm.free 5;have hbl : t < w5.heap.size := blk_lt HS5.out.tm;clear ho1 hes1 hS hrow
         go_wp2_with (at_builtin; refine wpList_append_own_at _ rfl _ _ 66 rfl 0 20 i0 .nilIface 1 16 Tryz.underlying66 hi hz0 hz1 hz2 rfl (by decide) x3.el es2.length vs rfl ?own ⟨_, 0, none⟩ 1 1 [pv 170 w5.heap.size] rfl rfl ?c1 ?c2 ?c3 ?c4 ?c5 ?_)
         case own => exact ownsRow_of_block HO1.out (fun k hk => (fr_two w5 (.cells #[.string nb, .string pd, .iface T pp] 185) (.cells #[pv 170 w5.heap.size] 20)).block k (ownsRow_blk HO1.out hk) id)
         case c1 => exact one_new _ _ _ (by simp)
         case c2 => exact one_cell rfl
         case c3 => unfold maxLen; omega
         case c4 => omega
         case c5 => exact Nat.zero_le _
         intro v' w2 hown2 hgrow _ hblk2;obtain ⟨gg, cp, rfl⟩ : ∃ gg cp, v' = .slice (some ⟨gg, 0, none⟩) (es2.length + 1) cp := owns_pos hown2;have HF := fr_two w5 (.cells #[.string nb, .string pd, .iface T pp] 185) (.cells #[pv 170 w5.heap.size] 20);have hsb := (own_cells HS5.out.got HF hgrow (k := t) rfl hbl).trans HS5.out.tm;have k3 := blk_cell hsb 5;have kf := blk_free hsb 5
         have HA := hid (top_add HS5.out HE1.out HSS.out HROW.out HF (part_at' w5 nb pd T pp _ HPX.out) (fresh_ok HS5.out.got HS5.out.lw HS5.out.ownlt (fun k hk => ⟨hk.1, by simp; omega⟩)) hown2 hgrow (by simp) hblk2);clear hown2 hgrow hblk2 b3 bf hsb HF HO1 HE1 HSS HROW;go_wp2_with fail;obtain ⟨vn, hm, hf1, ho1⟩ := HM5.out.add HA.out
         obtain ⟨x4, hxn⟩ : ∃ z : Tm, z = { x3 with el := vn } := ⟨_, rfl⟩
         have HX4 : Hid (x4.s = x3.s ∧ x4.raw = x3.raw ∧ x4.prov = x3.prov ∧ x4.p = x3.p ∧ x4.o = x3.o ∧ x4.c = x3.c ∧ x4.el = vn) := hid (by rw [hxn]; exact ⟨rfl, rfl, rfl, rfl, rfl, rfl, rfl⟩);rw [← hxn] at hm;have HM6 := hid hm;have hl3 : (es2 ++ [Mu.Elem.part (L nb) (L pd)]).length + 4 * g ≤ 8589934600 := by rw [List.length_append]; simp; omega
         have HP4 : Hid (x4.p ≤ x4.s.size ∧ (0 < x4.o.size ∧ x4.o.size ≤ 1000) ∧ 0 < x4.c.size ∧ x4.c.size ≤ 1000) := hid (by
          obtain ⟨a1, a2, a3, a4, a5, a6, a7⟩ := HX4.out;rw [a1, a4, a5, a6]; exact HPOS.out)
         have HRES : Hid (Mu.pre (es2 ++ [Mu.Elem.part (L nb) (L pd)]) (Mu.iparse (L x4.s) x4.raw g 0 ⟨x4.p, L x4.o, L x4.c⟩ none) = some R) := hid (by
          have h := HI.out;rw [Mu.step_part HRT.out HRG.out (HK.out.trans HKK.out), Mu.pre_pre] at h;obtain ⟨e1, e2, e3, e4, e5⟩ := HX3.out;obtain ⟨a1, a2, a3, a4, a5, a6, a7⟩ := HX4.out;rw [a1, a2, a4, a5, a6, e1, e2, e3, e4, e5, HES2.out, HNB.out, HPD.out, List.append_assoc];exact h)
         clear hm hf1 ho1 hxn;have HNEXT : Hid (TopInv w0 w0.heap.size t x0 R g _ x4 (es2 ++ [Mu.Elem.part (L nb) (L pd)])) := hid ⟨HM6.out, HP4.out, by omega, HRES.out⟩
         go_roundg g
         case rel => exact ⟨x4, es2 ++ [Mu.Elem.part (L nb) (L pd)], by omega, HNEXT⟩
         case measure => omega
      by_cases k61 : tb[0] = 61
      · as_aux_lemma =>
         have b33 : ((tb[0].toNat : Int) == 33) = false := byte_isnt (b := 33) k33;have b35 : ((tb[0].toNat : Int) == 35) = false := byte_isnt (b := 35) (fun h => k3594 (.inl h));have b94 : ((tb[0].toNat : Int) == 94) = false := byte_isnt (b := 94) (fun h => k3594 (.inr h));have b47 : ((tb[0].toNat : Int) == 47) = false := byte_isnt (b := 47) k47
         have b62 : ((tb[0].toNat : Int) == 62) = false := byte_isnt (b := 62) k62;have b61 : ((tb[0].toNat : Int) == 61) = true := byte_is (b := 61) k61
         cases hcu : Mu.custom tg.tag with
         | none =>
          exfalso;have h := HI.out
          rw [Mu.step_set_none HRT.out HRG.out (HK.out.trans k61) hcu] at h;simp [Mu.pre] at h
         | some oc =>
          obtain ⟨o', c'⟩ := oc;have hok := Mu.custom_ok hcu;have HKK := hid k61;have HCU := hid hcu;have hcu2 : Mu.custom (L tb) = some (o', c') := by rw [HTB.out]; exact hcu
          have HCU2 := hid hcu2;clear k33 k3594 k47 k62 k61 hcu hcu2;go_wp2_with fail;refine (parseCustomDelimiter_any B t eb x3 tb o' c' _ htbs HTA.out HM4.out.st.tm HG4.out HCU2.out).mono ?_;rintro e w5 ⟨rfl, hf, ob, cb, hob, hcb, ht⟩;obtain ⟨x5, hx5⟩ : ∃ x5 : Tm, x5 = { x3 with o := ob, c := cb } := ⟨_, rfl⟩
          rw [← hx5] at ht;have HX5 : Hid (x5.s = x3.s ∧ x5.raw = x3.raw ∧ x5.prov = x3.prov ∧ x5.esc = x3.esc ∧ x5.am = x3.am ∧ x5.el = x3.el) := hid (by rw [hx5]; exact ⟨rfl, rfl, rfl, rfl, rfl, rfl⟩);have HX5p : Hid (x5.p = x3.p ∧ L x5.o = o' ∧ L x5.c = c') := hid (by rw [hx5]; exact ⟨rfl, hob, hcb⟩);have HM5 := hid (HM4.out.tstep hf ht HX5.out)
          have HP5 : Hid (x5.p ≤ x5.s.size ∧ (0 < x5.o.size ∧ x5.o.size ≤ 1000) ∧ 0 < x5.c.size ∧ x5.c.size ≤ 1000) := hid (by
           obtain ⟨a, b, c⟩ := HX5p.out;rw [a, HX5.out.1, ← L_length x5.o, ← L_length x5.c, b, c];exact ⟨HPOS.out.1, hok.1, hok.2⟩)
          have HRES : Hid (Mu.pre es2 (Mu.iparse (L x5.s) x5.raw g 0 ⟨x5.p, L x5.o, L x5.c⟩ none) = some R) := hid (by
           have h := HI.out;rw [Mu.step_set HRT.out HRG.out (HK.out.trans HKK.out) HCU.out, Mu.pre_pre] at h;obtain ⟨e1, e2, e3, -, -⟩ := HX3.out;obtain ⟨e4, e5, e6⟩ := HX5p.out;rw [HX5.out.1, HX5.out.2.1, e1, e2, e4, e3, e5, e6, HES2.out];exact h)
          clear hx5 hf ht hob hcb;go_wp2_with fail;have HNEXT : Hid (TopInv w0 w0.heap.size t x0 R g _ x5 (es2)) := hid ⟨HM5.out, HP5.out, by omega, HRES.out⟩
          go_roundg g
          case rel => exact ⟨x5, es2, by omega, HNEXT⟩
          case measure => omega
      by_cases k123 : tb[0] = 123
      · as_aux_lemma =>
         have b33 : ((tb[0].toNat : Int) == 33) = false := byte_isnt (b := 33) k33;have b35 : ((tb[0].toNat : Int) == 35) = false := byte_isnt (b := 35) (fun h => k3594 (.inl h));have b94 : ((tb[0].toNat : Int) == 94) = false := byte_isnt (b := 94) (fun h => k3594 (.inr h));have b47 : ((tb[0].toNat : Int) == 47) = false := byte_isnt (b := 47) k47
         have b62 : ((tb[0].toNat : Int) == 62) = false := byte_isnt (b := 62) k62;have b61 : ((tb[0].toNat : Int) == 61) = false := byte_isnt (b := 61) k61;have b123 : ((tb[0].toNat : Int) == 123) = true := byte_is (b := 123) k123;have HKK := hid k123;clear k33 k3594 k47 k62 k61 k123;obtain ⟨m, hm⟩ : ∃ m, tb.size = m + 1 := ⟨tb.size - 1, by omega⟩
         have hmm : ((tb.size : Int) - 1) = (m : Int) := by omega
         have hm1 : m < tb.size := by omega
         have HLAST : Hid ((tg.tag.getLast? = some 125) ↔ tb[m] = 125) := hid (by
          rw [← HTB.out, List.getLast?_eq_getElem?, L_length, hm, Nat.add_sub_cancel];rw [← L_get _ _ hm1, List.getD_eq_getElem?_getD];have : m < (L tb).length := hm1;rw [List.getElem?_eq_getElem this]
          simp)
         have HMS := hid hm;clear hm
         by_cases hl : tb[m] = 125
         · as_aux_lemma =>
           have bl : ((tb[m].toNat : Int) == 125) = true := byte_is (b := 125) hl;have HL := hid (HLAST.out.2 hl)
           have hm2 : 1 ≤ m := by
            rcases Nat.eq_zero_or_pos m with h | h
            · subst h
              rw [HKK.out] at hl;exact absurd hl (by decide)
            · exact h
           have zz1 : (1 : Int) ≤ (m : Int) := by omega
           have zz2 : (m : Int) ≤ (tb.size : Int) := by omega
           clear hl HLAST;have hsub : (tb.extract 1 m).size ≤ 2147483647 := by rw [ByteArray.size_extract]; omega
           have HAS : Hid (∀ c ∈ L (tb.extract 1 m), c.toNat < 128) := hid (fun c hc => HTA.out c (Mu.mem_sub (by rw [← L_extract]; exact hc)));have z1 : (1 : Int) ≤ (tb.size : Int) := by omega
           go_wp2_with fail;refine (trimSpace_any (tb.extract 1 m) _ hsub HAS.out HG4.out).mono ?_
           rintro e w5 ⟨nb, rfl, hnb, hf⟩;have HNB : Hid (L nb = Mu.trimBy Mu.spB ((tg.tag.drop 1).dropLast)) := hid (by rw [hnb, L_extract, ← HTB.out]; congr 1; rw [Mu.sub, List.dropLast_eq_take, List.length_drop, L_length, HMS.out, List.drop_take]; congr 1);have HM5 := hid (HM4.out.step0 hf);have HBK5 := hid (HBK4.out.step0 hf);have HG5 := hid (HG4.out.fr0 hf)
           have HS5 := hid HM5.out.st;clear hnb hf HAS hsub HBT4 d0;obtain ⟨S, vs, ho1, hes1, hS, hrow⟩ := HS5.out.got.out;have HO1 := hid ho1;have HE1 := hid hes1;have HSS := hid hS;have HROW := hid hrow;have b3 := HS5.out.tm.cells.2.2.2.2.2.1;have bf := HS5.out.tm.free 5;have hbl : t < w5.heap.size := blk_lt HS5.out.tm;clear ho1 hes1 hS hrow
           go_wp2_with (at_builtin; refine wpList_append_own_at _ rfl _ _ 66 rfl 0 20 i0 .nilIface 1 16 Tryz.underlying66 hi hz0 hz1 hz2 rfl (by decide) x3.el es2.length vs rfl ?own ⟨_, 0, none⟩ 1 1 [pv 173 w5.heap.size] rfl rfl ?c1 ?c2 ?c3 ?c4 ?c5 ?_)
           case own => exact ownsRow_of_block HO1.out (fun k hk => (fr_two w5 (.cells #[.string nb, .bool true] 175) (.cells #[pv 173 w5.heap.size] 20)).block k (ownsRow_blk HO1.out hk) id)
           case c1 => exact one_new _ _ _ (by simp)
           case c2 => exact one_cell rfl
           case c3 => unfold maxLen; omega
           case c4 => omega
           case c5 => exact Nat.zero_le _
           intro v' w2 hown2 hgrow _ hblk2;obtain ⟨gg, cp, rfl⟩ : ∃ gg cp, v' = .slice (some ⟨gg, 0, none⟩) (es2.length + 1) cp := owns_pos hown2;have HF := fr_two w5 (.cells #[.string nb, .bool true] 175) (.cells #[pv 173 w5.heap.size] 20);have hsb := (own_cells HS5.out.got HF hgrow (k := t) rfl hbl).trans HS5.out.tm;have k3 := blk_cell hsb 5;have kf := blk_free hsb 5
           have HA := hid (top_add HS5.out HE1.out HSS.out HROW.out HF (var_at w5 nb true _ _) (fresh_ok HS5.out.got HS5.out.lw HS5.out.ownlt (fun k hk => ⟨hk.1, by simp; omega⟩)) hown2 hgrow (by simp) hblk2);clear hown2 hgrow hblk2 b3 bf hsb HF HO1 HE1 HSS HROW;go_wp2_with fail;obtain ⟨vn, hm, hf1, ho1⟩ := HM5.out.add HA.out
           obtain ⟨x4, hxn⟩ : ∃ z : Tm, z = { x3 with el := vn } := ⟨_, rfl⟩
           have HX4 : Hid (x4.s = x3.s ∧ x4.raw = x3.raw ∧ x4.prov = x3.prov ∧ x4.p = x3.p ∧ x4.o = x3.o ∧ x4.c = x3.c ∧ x4.el = vn) := hid (by rw [hxn]; exact ⟨rfl, rfl, rfl, rfl, rfl, rfl, rfl⟩);rw [← hxn] at hm;have HM6 := hid hm;have hl3 : (es2 ++ [Mu.Elem.var (L nb) true]).length + 4 * g ≤ 8589934600 := by rw [List.length_append]; simp; omega
           have HP4 : Hid (x4.p ≤ x4.s.size ∧ (0 < x4.o.size ∧ x4.o.size ≤ 1000) ∧ 0 < x4.c.size ∧ x4.c.size ≤ 1000) := hid (by
            obtain ⟨a1, a2, a3, a4, a5, a6, a7⟩ := HX4.out;rw [a1, a4, a5, a6]; exact HPOS.out)
           have HRES : Hid (Mu.pre (es2 ++ [Mu.Elem.var (L nb) true]) (Mu.iparse (L x4.s) x4.raw g 0 ⟨x4.p, L x4.o, L x4.c⟩ none) = some R) := hid (by
            have h := HI.out;rw [Mu.step_raw HRT.out HRG.out (HK.out.trans HKK.out) HL.out, Mu.pre_pre] at h;obtain ⟨e1, e2, e3, e4, e5⟩ := HX3.out;obtain ⟨a1, a2, a3, a4, a5, a6, a7⟩ := HX4.out;rw [a1, a2, a4, a5, a6, e1, e2, e3, e4, e5, HES2.out, HNB.out, List.append_assoc];exact h)
           clear hm hf1 ho1 hxn;have HNEXT : Hid (TopInv w0 w0.heap.size t x0 R g _ x4 (es2 ++ [Mu.Elem.var (L nb) true])) := hid ⟨HM6.out, HP4.out, by omega, HRES.out⟩
           go_roundg g
           case rel => exact ⟨x4, es2 ++ [Mu.Elem.var (L nb) true], by omega, HNEXT⟩
           case measure => omega
         · as_aux_lemma =>
           have bl : ((tb[m].toNat : Int) == 125) = false := byte_isnt (b := 125) hl;have HL := hid (fun h => hl (HLAST.out.1 h));clear hl HLAST
           have HRES : Hid (Mu.pre es2 (Mu.iparse (L x3.s) x3.raw g 0 ⟨x3.p, L x3.o, L x3.c⟩ none) = some R) := hid (by
            have h := HI.out;rw [Mu.step_raw_no HRT.out HRG.out (HK.out.trans HKK.out) HL.out, Mu.pre_pre] at h;obtain ⟨e1, e2, e3, e4, e5⟩ := HX3.out;rw [e1, e2, e3, e4, e5, HES2.out];exact h)
           go_wp2_with fail;have HNEXT : Hid (TopInv w0 w0.heap.size t x0 R g _ x3 (es2)) := hid ⟨HM4.out, HPOS.out, by omega, HRES.out⟩
           go_roundg g
           case rel => exact ⟨x3, es2, by omega, HNEXT⟩
           case measure => omega
      by_cases k38 : tb[0] = 38
      · as_aux_lemma =>
         have b33 : ((tb[0].toNat : Int) == 33) = false := byte_isnt (b := 33) k33;have b35 : ((tb[0].toNat : Int) == 35) = false := byte_isnt (b := 35) (fun h => k3594 (.inl h));have b94 : ((tb[0].toNat : Int) == 94) = false := byte_isnt (b := 94) (fun h => k3594 (.inr h));have b47 : ((tb[0].toNat : Int) == 47) = false := byte_isnt (b := 47) k47
         have b62 : ((tb[0].toNat : Int) == 62) = false := byte_isnt (b := 62) k62;have b61 : ((tb[0].toNat : Int) == 61) = false := byte_isnt (b := 61) k61;have b123 : ((tb[0].toNat : Int) == 123) = false := byte_isnt (b := 123) k123;have b38 : ((tb[0].toNat : Int) == 38) = true := byte_is (b := 38) k38;have HKK := hid k38;clear k33 k3594 k47 k62 k61 k123 k38
         have hsub : (tb.extract 1 tb.size).size ≤ 2147483647 := by rw [ByteArray.size_extract]; omega
         have HAS : Hid (∀ c ∈ L (tb.extract 1 tb.size), c.toNat < 128) := hid (fun c hc => HTA.out c (Mu.mem_sub (by rw [← L_extract]; exact hc)));have z1 : (1 : Int) ≤ (tb.size : Int) := by omega
         go_wp2_with fail;refine (trimSpace_any (tb.extract 1 tb.size) _ hsub HAS.out HG4.out).mono ?_
         rintro e w5 ⟨nb, rfl, hnb, hf⟩;have HNB : Hid (L nb = Mu.trimBy Mu.spB (tg.tag.drop 1)) := hid (by rw [hnb, L_extract, ← HTB.out]; congr 1; rw [← L_length, Mu.sub_to_end]);have HM5 := hid (HM4.out.step0 hf);have HBK5 := hid (HBK4.out.step0 hf);have HG5 := hid (HG4.out.fr0 hf);have HS5 := hid HM5.out.st;clear hnb hf HAS hsub HBT4 d0
         obtain ⟨S, vs, ho1, hes1, hS, hrow⟩ := HS5.out.got.out;have HO1 := hid ho1;have HE1 := hid hes1;have HSS := hid hS;have HROW := hid hrow;have b3 := HS5.out.tm.cells.2.2.2.2.2.1;have bf := HS5.out.tm.free 5;have hbl : t < w5.heap.size := blk_lt HS5.out.tm;clear ho1 hes1 hS hrow
         go_wp2_with (at_builtin; refine wpList_append_own_at _ rfl _ _ 66 rfl 0 20 i0 .nilIface 1 16 Tryz.underlying66 hi hz0 hz1 hz2 rfl (by decide) x3.el es2.length vs rfl ?own ⟨_, 0, none⟩ 1 1 [pv 173 w5.heap.size] rfl rfl ?c1 ?c2 ?c3 ?c4 ?c5 ?_)
         case own => exact ownsRow_of_block HO1.out (fun k hk => (fr_two w5 (.cells #[.string nb, .bool true] 175) (.cells #[pv 173 w5.heap.size] 20)).block k (ownsRow_blk HO1.out hk) id)
         case c1 => exact one_new _ _ _ (by simp)
         case c2 => exact one_cell rfl
         case c3 => unfold maxLen; omega
         case c4 => omega
         case c5 => exact Nat.zero_le _
         intro v' w2 hown2 hgrow _ hblk2;obtain ⟨gg, cp, rfl⟩ : ∃ gg cp, v' = .slice (some ⟨gg, 0, none⟩) (es2.length + 1) cp := owns_pos hown2;have HF := fr_two w5 (.cells #[.string nb, .bool true] 175) (.cells #[pv 173 w5.heap.size] 20);have hsb := (own_cells HS5.out.got HF hgrow (k := t) rfl hbl).trans HS5.out.tm;have k3 := blk_cell hsb 5;have kf := blk_free hsb 5
         have HA := hid (top_add HS5.out HE1.out HSS.out HROW.out HF (var_at w5 nb true _ _) (fresh_ok HS5.out.got HS5.out.lw HS5.out.ownlt (fun k hk => ⟨hk.1, by simp; omega⟩)) hown2 hgrow (by simp) hblk2);clear hown2 hgrow hblk2 b3 bf hsb HF HO1 HE1 HSS HROW;go_wp2_with fail;obtain ⟨vn, hm, hf1, ho1⟩ := HM5.out.add HA.out;obtain ⟨x4, hxn⟩ : ∃ z : Tm, z = { x3 with el := vn } := ⟨_, rfl⟩
         have HX4 : Hid (x4.s = x3.s ∧ x4.raw = x3.raw ∧ x4.prov = x3.prov ∧ x4.p = x3.p ∧ x4.o = x3.o ∧ x4.c = x3.c ∧ x4.el = vn) := hid (by rw [hxn]; exact ⟨rfl, rfl, rfl, rfl, rfl, rfl, rfl⟩);rw [← hxn] at hm;have HM6 := hid hm;have hl3 : (es2 ++ [Mu.Elem.var (L nb) true]).length + 4 * g ≤ 8589934600 := by rw [List.length_append]; simp; omega
         have HP4 : Hid (x4.p ≤ x4.s.size ∧ (0 < x4.o.size ∧ x4.o.size ≤ 1000) ∧ 0 < x4.c.size ∧ x4.c.size ≤ 1000) := hid (by
          obtain ⟨a1, a2, a3, a4, a5, a6, a7⟩ := HX4.out;rw [a1, a4, a5, a6]; exact HPOS.out)
         have HRES : Hid (Mu.pre (es2 ++ [Mu.Elem.var (L nb) true]) (Mu.iparse (L x4.s) x4.raw g 0 ⟨x4.p, L x4.o, L x4.c⟩ none) = some R) := hid (by
          have h := HI.out;rw [Mu.step_amp HRT.out HRG.out (HK.out.trans HKK.out), Mu.pre_pre] at h;obtain ⟨e1, e2, e3, e4, e5⟩ := HX3.out;obtain ⟨a1, a2, a3, a4, a5, a6, a7⟩ := HX4.out;rw [a1, a2, a4, a5, a6, e1, e2, e3, e4, e5, HES2.out, HNB.out, List.append_assoc];exact h)
         clear hm hf1 ho1 hxn;have HNEXT : Hid (TopInv w0 w0.heap.size t x0 R g _ x4 (es2 ++ [Mu.Elem.var (L nb) true])) := hid ⟨HM6.out, HP4.out, by omega, HRES.out⟩
         go_roundg g
         case rel => exact ⟨x4, es2 ++ [Mu.Elem.var (L nb) true], by omega, HNEXT⟩
         case measure => omega
      have b33 : ((tb[0].toNat : Int) == 33) = false := byte_isnt (b := 33) k33;have b35 : ((tb[0].toNat : Int) == 35) = false := byte_isnt (b := 35) (fun h => k3594 (.inl h));have b94 : ((tb[0].toNat : Int) == 94) = false := byte_isnt (b := 94) (fun h => k3594 (.inr h));have b47 : ((tb[0].toNat : Int) == 47) = false := byte_isnt (b := 47) k47
      have b62 : ((tb[0].toNat : Int) == 62) = false := byte_isnt (b := 62) k62;have b61 : ((tb[0].toNat : Int) == 61) = false := byte_isnt (b := 61) k61;have b123 : ((tb[0].toNat : Int) == 123) = false := byte_isnt (b := 123) k123;have b38 : ((tb[0].toNat : Int) == 38) = false := byte_isnt (b := 38) k38
      have HKK : Hid (∀ k : UInt8, k = 33 ∨ k = 35 ∨ k = 94 ∨ k = 47 ∨ k = 62 ∨ k = 61 ∨ k = 123 ∨ k = 38 → tg.tag.getD 0 0 ≠ k) := hid (by
       rw [HK.out];rintro k (rfl | rfl | rfl | rfl | rfl | rfl | rfl | rfl)
       · exact k33
       · exact fun h => k3594 (.inl h)
       · exact fun h => k3594 (.inr h)
       · exact k47
       · exact k62
       · exact k61
       · exact k123
       · exact k38)
      clear k33 k3594 k47 k62 k61 k123 k38
      have HNX : Hid (∀ w', TopAdd w0.heap.size wk w' t x3 es2 (Mu.Elem.var (L tb) x3.raw) → ∃ x4, TopInv w0 w0.heap.size t x0 R g w' x4 (es2 ++ [Mu.Elem.var (L tb) x3.raw])) := hid (fun w' HA => by
       obtain ⟨vn, hm, hf1, ho1⟩ := HM4.out.add HA;refine ⟨_, hm, HPOS.out, ?_, ?_⟩
       · rw [List.length_append]
         simp only [List.length_singleton];omega
       · have h := HI.out
         rw [Mu.step_var HRT.out HRG.out HKK.out, Mu.pre_pre] at h;obtain ⟨e1, e2, e3, e4, e5⟩ := HX3.out;show Mu.pre (es2 ++ [Mu.Elem.var (L tb) x3.raw]) (Mu.iparse (L x3.s) x3.raw g 0 ⟨x3.p, L x3.o, L x3.c⟩ none) = some R;rw [e1, e2, e3, e4, e5, HES2.out, HTB.out, List.append_assoc];exact h)
      have HS4 := hid HM4.out.st;clear HA0 HR0 HPV HG HB0 HI HM HG1 HRT HTX HPD HX1s HX1p HRG HTB HNB HES2 HBK4 HBT4 HG4 HK HTA HX3 HPOS HKK HM4
      go_upto_region 16 with fail
      refine top_r16 t w0.heap.size tb x3 es2 wk HS4 (by omega) _ _ _ _ _ _ _ _ _ _ _ _ _ _ _ _ _ _ _ _ _ _ _ _ _ _ _ _ _ _ _ _ _ _ _ _ _ _ _ _ _ _ _ _ _ _ _ _ _ _ _ _ _ _ _ _ _ _ _ _ _ _ _ _ _ _ _ _ _ _ _ _ _ _ _ _ _ _ _ _ _ _ _ _ _ _ _ _ _ _ _ _ _ _ _ _ _ _ _ _ _ _ _ _ _ _ _ _ _ _ _ _ _ _ _ _ _ _ _ _ _ _ _ _ _ _ _ _ _ _ _ _ _ _ _ _ _ _ _ _ _ _ _ _ _ _ _ _ _ _ _ _ _ _ _ _ _ _ _ _ _ _ _ _ _ _ _ _ _ _ _ _ _ _ _ _ _ _ _ _ _ _ _ _ _ _ _ _ _ _ _ _ _ _ _ _ _ _ _ _ _ _ _ _ _ _ _ _ _ _ _ _ _ _ _ _ _ _ _ _ _ _ _ _ _ _ _ _ _ _ _ _ _ _ _ _ ?_
      intro u100 u101 u102 u103 u104 u105 u106 u107 u108 u109 u110 u111 u112 u113 u114 u115 u116 w6 ha;obtain ⟨x4, hinv⟩ := HNX.out _ ha;have HIN := hid hinv;clear ha hinv;go_wp2_with fail
      go_roundg g
      case rel => exact ⟨x4, es2 ++ [Mu.Elem.var (L tb) x3.raw], by omega, HIN⟩
      case measure => omega
end Go.Proofs.YtfakghnpkdoclaaGreatDoor
