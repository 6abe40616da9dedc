/-
  The specification's parts, walked. (Joined by wip/pack.py.)
-/
import Derived.Test.YtfakghnpkdoclaaGreatDoorGQ1
import Derived.Test.YtfakghnpkdoclaaGreatDoorGQ2
import Derived.Test.YtfakghnpkdoclaaGreatDoorGQ3
import Derived.Deep.DeepCutAuto
import Derived.Deep.CutBlock
set_option linter.unusedVariables false
set_option linter.unusedSimpArgs false
set_option maxRecDepth 100000
set_option maxHeartbeats 8000000
namespace Go.Proofs.YtfakghnpkdoclaaGreatDoor
open Go.RowKit
open Go.Lib (hid)
theorem own_mono0 {w : World} {B e s n : Nat} {v : Value} {xs : List Value} (h : w.ownsRow B e s v n xs) : w.ownsRow 0 e s v n xs :=
 ⟨h.1, h.2.imp id fun ⟨g, cap, cur, h1, _, h3⟩ => ⟨g, cap, cur, h1, Nat.zero_le _, h3⟩⟩
theorem pt_start {w0 : World} {pb : Nat} {x0 : Pa} (hx : PaAt w0 pb x0) :
 PtSt w0 ((w0.alloc (.cells #[] 38)).alloc (.cells #[.slice (some ⟨w0.heap.size, 0, none⟩) 0 0] 34)) pb (w0.heap.size + 1) x0 (.slice (some ⟨w0.heap.size, 0, none⟩) 0 0) [] := by
 have hl := blk_lt hx
 refine ⟨blk_alloc _ (blk_alloc _ hx), hl, (Fr.alloc _ _ _).allocA _, ?_, by omega, ⟨fun _ => False, [], ?_, by unfold NsAt; rfl, fun k hk => hk.elim, fun k hk => ?_⟩, w0.heap.size, 0, rfl⟩
 · have := blk_new (w0.alloc (.cells #[] 38)) (.cells #[.slice (some ⟨w0.heap.size, 0, none⟩) 0 0] 34)
   simpa using this
 · exact own_mono0 ((ownsRow_new w0 38 5).alloc _)
 · have : w0.heap.size = k := by simpa [Value.ownBlock] using hk
   subst this;exact ⟨Nat.le_refl _, by rintro (h | h) <;> omega⟩
theorem str_nil {a : ByteArray} (h : L a = []) : a.toList = [] := by rw [ByteArray.toList_eq]; exact h
theorem str_notnil {a : ByteArray} (h : ¬ L a = []) : a.toList.isEmpty = false := by
 cases h' : a.toList with
 | nil => rw [ByteArray.toList_eq] at h'; exact absurd h' h
 | cons _ _ => rfl
theorem byte_beq0 (a b : UInt8) : ((a.toNat : Int) == (b.toNat : Int)) = (a == b) := by
 by_cases h : a = b
 · subst h; simp
 · rw [byte_isnt h]; exact (beq_eq_false_iff_ne.2 h).symm
theorem max_cast (a b : Nat) : (max (a : Int) (b : Int)) = ((max a b : Nat) : Int) := by omega
theorem parts_any (n : Nat) : ∀ (pb : Nat) (x0 : Pa) (nm : ByteArray) (w0 : World), x0.s.size ≤ 4294967295 → PaAt w0 pb x0 → (x0.p ≤ x0.s.size ∧ (0 < x0.o.size ∧ x0.o.size ≤ 1000) ∧ 0 < x0.c.size ∧ x0.c.size ≤ 1000) →
 (x0.bad = false → x0.s.size + 2 ≤ n + x0.p) → 4 * n ≤ 34359738400 → x0.deep + n ≤ 8589934600 → nm.size ≤ 4294967296 →
 Calls Tryz.prog 37 #[.pointer (some ⟨pb, 0, none⟩), .string nm] w0 (PtPost w0 pb x0 (Mu.parts (L x0.s) n (stOf x0) (L nm))) := by
 induction n using Nat.strongRecOn with
 | _ n ih =>
  have IH := hid ih;clear ih;intro pb x0 nm w0 hs0 hx0 hpos0 hfuel0 hlen0 hdeep0 hnm;have HI0 : Hid (PtInv w0 pb (w0.heap.size + 1) x0 (Mu.parts (L x0.s) n (stOf x0) (L nm)) (L nm) n ((w0.alloc (.cells #[] 38)).alloc (.cells #[.slice (some ⟨w0.heap.size, 0, none⟩) 0 0] 34)) x0 (.slice (some ⟨w0.heap.size, 0, none⟩) 0 0) []) := hid
   ⟨pt_start hx0, rfl, hpos0, hfuel0, by simp; omega, hdeep0, rfl⟩
  obtain ⟨R, hR⟩ : ∃ R, R = Mu.parts (L x0.s) n (stOf x0) (L nm) := ⟨_, rfl⟩
  rw [← hR] at HI0 ⊢;clear hx0 hpos0 hfuel0 hlen0 hdeep0 hR;go_enter Tryz.func37, Tryz.ntmps37;go_wp2_with fail
  go_loopg [7] n (fun g v7 wr => ∃ x v ns, g ≤ n ∧ Hid (PtInv w0 pb (w0.heap.size + 1) x0 R (L nm) g wr x v ns))
  case atStart => exact ⟨x0, _, [], Nat.le_refl _, HI0⟩
  case round =>
   clear HI0;obtain ⟨x, v, ns, hgn, HI⟩ := hrel;obtain ⟨ga, ca, hva⟩ := HI.out.st.form;subst hva;have HST := hid HI.out.st;have hs : x.s.size ≤ 4294967295 := by rw [HI.out.sx]; exact hs0
   obtain ⟨hp, ⟨ho, ho2⟩, hc, hc2⟩ := HI.out.pos;have hlen := HI.out.len;have hdeep := HI.out.deep;have hc0 := blk_cell HST.out.cell 0;simp only [List.getElem?_toArray, List.getElem?_cons_zero] at hc0;have hb5 := HST.out.tm.cells.2.2.2.2.2
   cases hbad : x.bad with
   | true =>
    have HP : Hid (PtPost w0 pb x0 R (.returned (.slice (some ⟨ga, 0, none⟩) ns.length ca)) wr) := hid (by
     have h := HI.out.res;rw [parts_isbad _ _ _ _ (show (stOf x).bad = true from hbad), List.append_nil] at h;rw [← h];exact HST.out.post HI.out.sx HI.out.pos)
    rw [hbad] at hb5;clear hbad;go_wp2_with fail;go_ret;exact HP.out
   | false =>
    rw [hbad] at hb5;have HBAD := hid hbad;have hfuel := HI.out.fuel hbad;clear hbad;obtain ⟨g, rfl⟩ : ∃ g', gk = g' + 1 := ⟨gk - 1, by omega⟩
    have hone : L x.o ≠ [] := fun h => by have := L_length x.o; rw [h] at this; simp at this; omega
    have hcne : L x.c ≠ [] := fun h => by have := L_length x.c; rw [h] at this; simp at this; omega
    have HONE := hid hone;have HCNE := hid hcne;clear hone hcne;go_wp2_with fail;refine (next_any pb x _ (by omega) HST.out.tm hp ⟨ho, ho2⟩ ⟨hc, hc2⟩).mono ?_;intro e w1 hpost;unfold NextPost at hpost
    cases hn : Mu.snext (L x.s) x.p (L x.o) (L x.c) with
    | none b =>
     as_aux_lemma =>
      rw [hn] at hpost;obtain ⟨rfl, hfr, hx1⟩ := hpost
      have HRES : Hid (R = (ns ++ Mu.addT (L (x.s.extract x.p x.s.size)), { stOf x with bad := b || !(L nm == []), pos := x.s.size })) := hid (by
       have h := HI.out.res;rw [Mu.parts_none (st := stOf x) HBAD.out hn] at h;rw [← h, L_extract, ← L_length, Mu.sub_to_end]; rfl)
      have HST1 := hid (HST.out.pstep hfr hx1);have hxb : (x.bad || b) = b := by rw [HBAD.out]; rfl
      obtain ⟨x1, hx1e⟩ : ∃ x1 : Pa, x1 = { x with bad := x.bad || b } := ⟨_, rfl⟩
      rw [← hx1e] at HST1 hx1;have HX1 : Hid (x1 = { x with bad := b }) := hid (by rw [hx1e, hxb]);obtain ⟨g0, g1, -, -, -, g5⟩ := hx1.cells;have gf1 := hx1.free 1;have gf5 := hx1.free 5;have hpl1 : pb < w1.heap.size := blk_lt hx1;have hne1 : pb ≠ w1.heap.size := by omega
      have e1 : x1.s = x.s ∧ x1.p = x.p ∧ x1.bad = b := by rw [HX1.out]; exact ⟨rfl, rfl, rfl⟩
      rw [e1.1] at g0;rw [e1.2.1] at g1;rw [e1.2.2] at g5;clear e1 hn hfr hx1 hx1e hxb;have hp1 : (x.p : Int) ≤ (x.s.size : Int) := by omega
      cases b with
      | true =>
       have HR2 : Hid (R = (ns ++ Mu.addT (L (x.s.extract x.p x.s.size)), { stOf x with bad := true, pos := x.s.size })) := hid (by rw [HRES.out]; rfl);clear HRES;go_wp2_with fail;refine still_tail 10 (by kernel_rfl) (by kernel_rfl) ?_;simp only [List.take_succ_cons, List.take_zero, List.drop_succ_cons, List.drop_zero]
       repeat still_step
       refine wpStill_nil ?_;go_wp2_with fail;have HST2 := hid (HST1.out.pstep (x' := { x1 with bad := true }) ((((Fr.refl (· = pb) w1).setA ⟨pb, 5, none⟩ (.bool true) (.inl rfl)).allocA (.cells #[.int .u8 0, .string ⟨#[]⟩, .int .i64 0, .int .i64 0] 111)).drewA) (blk_alloc _ (HST1.out.tm.set5 true)))
       refine (add_any (x.s.extract x.p x.s.size) (w0.heap.size + 1) w0.heap.size ga ca ns _ _ (hid HST2.out.got) HST2.out.cell (.inr rfl) HST2.out.fr.size HST2.out.ownl (by omega)).mono ?_;rintro e w2 ⟨rfl, v', ha⟩;have HST3 := hid (HST2.out.add ha);obtain ⟨k0, k1, -, -, -, -⟩ := HST3.out.tm.cells;have kf := HST3.out.tm.free 1;have hpl3 : pb < w2.heap.size := blk_lt HST3.out.tm
       have kc := blk_cell HST3.out.cell 0;have hxs : x1.s = x.s := by rw [HX1.out]
       simp only [List.getElem?_toArray, List.getElem?_cons_zero] at kc;have hne3 : w0.heap.size + 1 ≠ pb := HST3.out.ne;rw [show ({ x1 with bad := true } : Pa).s = x.s from hxs] at k0
       have HP : Hid (PtPost w0 pb x0 R (.returned v') (w2.setCell ⟨pb, 1, none⟩ (.int .i64 x.s.size))) := hid (by
        have h := HST3.out.pstep (x' := { x1 with bad := true, p := x.s.size }) ((Fr.refl (· = pb) w2).setA ⟨pb, 1, none⟩ (.int .i64 x.s.size) (.inl rfl)) (HST3.out.tm.set1 _);rw [HR2.out]
        have hq := h.post (x0 := x0) (by show x1.s = x0.s; rw [hxs]; exact HI.out.sx) (by
         show x.s.size ≤ x1.s.size ∧ _;rw [HX1.out]; exact ⟨Nat.le_refl _, ⟨ho, ho2⟩, hc, hc2⟩)
        rw [HX1.out] at hq;exact hq)
       clear ha hxs;go_wp2_with fail;go_ret;exact HP.out
      | false =>
       by_cases hnn : L nm = []
       · have q1 := str_nil hnn
         have q2 : nm.toList.isEmpty = true := by rw [q1]; rfl
         have HR2 : Hid (R = (ns ++ Mu.addT (L (x.s.extract x.p x.s.size)), { stOf x with bad := false, pos := x.s.size })) := hid (by rw [HRES.out]; rw [hnn]; rfl);clear HRES;go_wp2_with fail;refine still_tail 10 (by kernel_rfl) (by kernel_rfl) ?_;simp only [List.take_succ_cons, List.take_zero, List.drop_succ_cons, List.drop_zero]
         repeat still_step
         refine wpStill_nil ?_;go_wp2_with fail;have HST2 := hid (HST1.out.pstep (x' := { x1 with bad := false }) ((((Fr.refl (· = pb) w1).setA ⟨pb, 5, none⟩ (.bool false) (.inl rfl)).allocA (.cells #[.int .u8 0, .string ⟨#[]⟩, .int .i64 0, .int .i64 0] 111)).drewA) (blk_alloc _ (HST1.out.tm.set5 false)))
         refine (add_any (x.s.extract x.p x.s.size) (w0.heap.size + 1) w0.heap.size ga ca ns _ _ (hid HST2.out.got) HST2.out.cell (.inr rfl) HST2.out.fr.size HST2.out.ownl (by omega)).mono ?_;rintro e w2 ⟨rfl, v', ha⟩;have HST3 := hid (HST2.out.add ha);obtain ⟨k0, k1, -, -, -, -⟩ := HST3.out.tm.cells;have kf := HST3.out.tm.free 1;have hpl3 : pb < w2.heap.size := blk_lt HST3.out.tm
         have kc := blk_cell HST3.out.cell 0;have hxs : x1.s = x.s := by rw [HX1.out]
         simp only [List.getElem?_toArray, List.getElem?_cons_zero] at kc;have hne3 : w0.heap.size + 1 ≠ pb := HST3.out.ne;rw [show ({ x1 with bad := false } : Pa).s = x.s from hxs] at k0
         have HP : Hid (PtPost w0 pb x0 R (.returned v') (w2.setCell ⟨pb, 1, none⟩ (.int .i64 x.s.size))) := hid (by
          have h := HST3.out.pstep (x' := { x1 with bad := false, p := x.s.size }) ((Fr.refl (· = pb) w2).setA ⟨pb, 1, none⟩ (.int .i64 x.s.size) (.inl rfl)) (HST3.out.tm.set1 _);rw [HR2.out]
          have hq := h.post (x0 := x0) (by show x1.s = x0.s; rw [hxs]; exact HI.out.sx) (by
           show x.s.size ≤ x1.s.size ∧ _;rw [HX1.out]; exact ⟨Nat.le_refl _, ⟨ho, ho2⟩, hc, hc2⟩)
          rw [HX1.out] at hq;exact hq)
         clear ha hxs;go_wp2_with fail;go_ret;exact HP.out
       · have q2 := str_notnil hnn
         have HR2 : Hid (R = (ns ++ Mu.addT (L (x.s.extract x.p x.s.size)), { stOf x with bad := true, pos := x.s.size })) := hid (by rw [HRES.out]; simp [hnn]);clear HRES;go_wp2_with fail;refine still_tail 10 (by kernel_rfl) (by kernel_rfl) ?_;simp only [List.take_succ_cons, List.take_zero, List.drop_succ_cons, List.drop_zero]
         repeat still_step
         refine wpStill_nil ?_;go_wp2_with fail;have HST2 := hid (HST1.out.pstep (x' := { x1 with bad := true }) ((((Fr.refl (· = pb) w1).setA ⟨pb, 5, none⟩ (.bool true) (.inl rfl)).allocA (.cells #[.int .u8 0, .string ⟨#[]⟩, .int .i64 0, .int .i64 0] 111)).drewA) (blk_alloc _ (HST1.out.tm.set5 true)))
         refine (add_any (x.s.extract x.p x.s.size) (w0.heap.size + 1) w0.heap.size ga ca ns _ _ (hid HST2.out.got) HST2.out.cell (.inr rfl) HST2.out.fr.size HST2.out.ownl (by omega)).mono ?_;rintro e w2 ⟨rfl, v', ha⟩;have HST3 := hid (HST2.out.add ha);obtain ⟨k0, k1, -, -, -, -⟩ := HST3.out.tm.cells;have kf := HST3.out.tm.free 1;have hpl3 : pb < w2.heap.size := blk_lt HST3.out.tm
         have kc := blk_cell HST3.out.cell 0;have hxs : x1.s = x.s := by rw [HX1.out]
         simp only [List.getElem?_toArray, List.getElem?_cons_zero] at kc;have hne3 : w0.heap.size + 1 ≠ pb := HST3.out.ne;rw [show ({ x1 with bad := true } : Pa).s = x.s from hxs] at k0
         have HP : Hid (PtPost w0 pb x0 R (.returned v') (w2.setCell ⟨pb, 1, none⟩ (.int .i64 x.s.size))) := hid (by
          have h := HST3.out.pstep (x' := { x1 with bad := true, p := x.s.size }) ((Fr.refl (· = pb) w2).setA ⟨pb, 1, none⟩ (.int .i64 x.s.size) (.inl rfl)) (HST3.out.tm.set1 _);rw [HR2.out]
          have hq := h.post (x0 := x0) (by show x1.s = x0.s; rw [hxs]; exact HI.out.sx) (by
           show x.s.size ≤ x1.s.size ∧ _;rw [HX1.out]; exact ⟨Nat.le_refl _, ⟨ho, ho2⟩, hc, hc2⟩)
          rw [HX1.out] at hq;exact hq)
         clear ha hxs;go_wp2_with fail;go_ret;exact HP.out
    | some t =>
     rw [hn] at hpost;obtain ⟨bd, rfl, hbd, hf⟩ := hpost;obtain ⟨a2, en, F⟩ := Mu.snext_some hn;obtain ⟨ft1, ft2, ft3⟩ := found_at F HONE.out HCNE.out;obtain ⟨ab1, ab2, ab3, ab4⟩ := alOf_bounds (s := L x.s) (t := t) (p := x.p) (by omega) ft2 ft3;rw [L_length] at ft2 ab2;have HN := hid hn;have HBD := hid hbd;have HST1 := hid (HST.out.step0 hf)
     have hpl1 : pb < w1.heap.size := blk_lt HST1.out.tm;have hobl1 : w0.heap.size + 1 < w1.heap.size := HST1.out.obl;obtain ⟨TC, hTC⟩ : ∃ TC : Obj, TC = .cells #[.int .u8 t.kind.toNat, .string bd, .int .i64 t.at0, .int .i64 t.to] 111 := ⟨_, rfl⟩
     have HST2 := hid (HST1.out.step0 (Fr.alloc No w1 TC));have HTB2 := hid (HST1.out.blk (blk_new w1 TC) (Nat.le_refl _));have HTC := hid hTC;rw [hTC] at HST2 HTB2;clear hn hbd hf F hTC hc0 hb5
     as_aux_lemma =>
     go_upto_region 11 with fail
     go_quiet (fail)
     go_upto_region 11 with fail
     have HST3 := hid (HST2.out.step0 (Fr.drewN No _ nq));have HTB3 := hid (HTB2.out.step0 (Fr.drewN No _ nq))
     go_cut [74] (fun v wr => ∃ kb, v = .bool kb ∧ Hid (kb = decide (Mu.kinded t.kind)) ∧ wr = ((w1.alloc (.cells #[.int .u8 t.kind.toNat, .string bd, .int .i64 t.at0, .int .i64 t.to] 111)).drewN nq))
     case first =>
      as_aux_lemma =>
       by_cases hk : t.kind = 0
       · have q0 : ((t.kind.toNat : Int) != 0) = false := byte_eq' (b := 0) hk
         have HD : Hid (false = decide (Mu.kinded t.kind)) := hid (by rw [hk]; decide);clear hk;go_wp2_with fail
         go_meet
         case rel => exact ⟨_, rfl, HD, rfl⟩
       · have hk0 := hk
         clear hk
         by_cases hk : t.kind = 38
         · have q0 : ((t.kind.toNat : Int) != 0) = true := byte_ne' (b := 0) hk0
           have q38 : ((t.kind.toNat : Int) != 38) = false := byte_eq' (b := 38) hk;clear hk0;have HD : Hid (false = decide (Mu.kinded t.kind)) := hid (by rw [hk]; decide);clear hk;go_wp2_with fail
           go_meet
           case rel => exact ⟨_, rfl, HD, rfl⟩
         · have hk1 := hk
           clear hk
           by_cases hk : t.kind = 123
           · have q0 : ((t.kind.toNat : Int) != 0) = true := byte_ne' (b := 0) hk0
             have q38 : ((t.kind.toNat : Int) != 38) = true := byte_ne' (b := 38) hk1;have q123 : ((t.kind.toNat : Int) != 123) = false := byte_eq' (b := 123) hk;clear hk0 hk1;have HD : Hid (false = decide (Mu.kinded t.kind)) := hid (by rw [hk]; decide);clear hk;go_wp2_with fail
             go_meet
             case rel => exact ⟨_, rfl, HD, rfl⟩
           · have q0 : ((t.kind.toNat : Int) != 0) = true := byte_ne' (b := 0) hk0
             have q38 : ((t.kind.toNat : Int) != 38) = true := byte_ne' (b := 38) hk1;have q123 : ((t.kind.toNat : Int) != 123) = true := byte_ne' (b := 123) hk;have HD : Hid (true = decide (Mu.kinded t.kind)) := hid (by symm; rw [decide_eq_true_iff]; exact ⟨hk0, hk1, hk⟩);clear hk hk0 hk1;go_wp2_with fail
             go_meet
             case rel => exact ⟨_, rfl, HD, rfl⟩
     obtain ⟨kb, rfl, HKB, rfl⟩ := hcut
     as_aux_lemma =>
     go_upto_if 74 with fail
     have HFR0 : Hid (x.bad = false ∧ x.s = x.s) := hid ⟨HBAD.out, rfl⟩;obtain ⟨fr, hfr⟩ : ∃ fr, fr = Mu.frOf (L x.s) t x.p := ⟨_, rfl⟩
     obtain ⟨to2, hto2⟩ : ∃ to2, to2 = (Mu.alOf (L x.s) t).2.1 := ⟨_, rfl⟩
     obtain ⟨fl, hfl⟩ : ∃ fl, fl = (Mu.alOf (L x.s) t).2.2 := ⟨_, rfl⟩
     rw [← hto2] at ab1 ab2;rw [← hfr] at ab3 ab4;have HFRE := hid hfr;have HTO2 := hid hto2;have HFL := hid hfl;clear hfr hto2 hfl
     go_cut [9, 10] (fun v9 v10 wr => v9 = .int .i64 fr ∧ v10 = .int .i64 to2 ∧ Hid (PtSt w0 wr pb (w0.heap.size + 1) { x with bad := fl } (.slice (some ⟨ga, 0, none⟩) ns.length ca) ns ∧ PBlk wr pb (w0.heap.size + 1) (.slice (some ⟨ga, 0, none⟩) ns.length ca) w1.heap.size (.cells #[.int .u8 t.kind.toNat, .string bd, .int .i64 t.at0, .int .i64 t.to] 111 (0, 0))))
     case first =>
      as_aux_lemma =>
       cases kb with
       | false =>
        have hnk : ¬ Mu.kinded t.kind := by have := HKB.out; simpa using this.symm
        have HAL : Hid (Mu.alOf (L x.s) t = (t.at0, t.to, false)) := hid (by unfold Mu.alOf; rw [if_neg hnk]);have HF1 : Hid (fr = t.at0) := hid (by rw [HFRE.out]; unfold Mu.frOf; rw [if_neg hnk]);have HF2 : Hid (to2 = t.to) := hid (by rw [HTO2.out, HAL.out]);have HF3 : Hid (fl = x.bad) := hid (by rw [HFL.out, HAL.out, HBAD.out]);clear hnk;go_wp2_with fail
        go_meet
        case rel => exact ⟨by rw [HF1.out], by rw [HF2.out], hid ⟨by rw [HF3.out]; exact HST3.out, HTB3.out⟩⟩
       | true =>
        have hk : Mu.kinded t.kind := by have := HKB.out; simpa using this.symm
        have HAL : Hid (Mu.alOf (L x.s) t = Mu.alone (L x.s) t.at0 t.to ((t.kind.toNat : Int) == 62)) := hid (by
         unfold Mu.alOf; rw [if_pos hk, show ((t.kind.toNat : Int) == 62) = (t.kind == 62) from byte_beq0 t.kind 62])
        have HF1 : Hid (fr = max (Mu.alone (L x.s) t.at0 t.to ((t.kind.toNat : Int) == 62)).1 x.p) := hid (by rw [HFRE.out]; unfold Mu.frOf; rw [if_pos hk, HAL.out]);have HF2 : Hid (to2 = (Mu.alone (L x.s) t.at0 t.to ((t.kind.toNat : Int) == 62)).2.1) := hid (by rw [HTO2.out, HAL.out])
        have HF3 : Hid (fl = (x.bad || (Mu.alone (L x.s) t.at0 t.to ((t.kind.toNat : Int) == 62)).2.2)) := hid (by rw [HFL.out, HAL.out, HBAD.out]; rfl);have l1 : t.at0 ≤ x.s.size := by omega
        clear hk;go_wp2_with fail;refine (alone_any pb t.at0 t.to ((t.kind.toNat : Int) == 62) x _ (by omega) HST3.out.tm l1 ft2).mono ?_;rintro e w3 ⟨rb, rfl, hf3, hx3⟩;have HST4 := hid (HST3.out.pstep hf3 hx3);have HTB4 := hid (HTB3.out.pstep hf3);obtain ⟨k0, k1, -, -, -, -⟩ := HST4.out.tm.cells;have hpl4 : pb < w3.heap.size := blk_lt HST4.out.tm;clear hf3 hx3;go_wp2_with fail
        go_meet
        case rel => exact ⟨by rw [HF1.out, ← max_cast], by rw [HF2.out], hid ⟨by rw [HF3.out]; exact HST4.out, HTB4.out⟩⟩
     case rest =>
      obtain ⟨rfl, rfl, HC⟩ := hcut;have HST5 := hid HC.out.1;have HTB5 := hid HC.out.2;obtain ⟨k0, k1, -, -, -, -⟩ := HST5.out.tm.cells;have hpl5 : pb < wc.heap.size := blk_lt HST5.out.tm;have hz1 : (x.p : Int) ≤ (fr : Int) := by omega
      have hz2 : (fr : Int) ≤ (x.s.size : Int) := by omega
      have hz3 : (fr : Int) ≤ (t.at0 : Int) := by omega
      have hz4 : (t.at0 : Int) ≤ (x.s.size : Int) := by omega
      as_aux_lemma =>
      clear HC HST HST1 HST2 HST3 HTB2 HTB3 HFR0 HKB;go_wp2_with fail;refine still_tail 11 (by kernel_rfl) (by kernel_rfl) ?_;simp only [List.take_succ_cons, List.take_zero, List.drop_succ_cons, List.drop_zero]
      repeat still_step
      refine wpStill_nil ?_;go_wp2_with fail;have HST6 := hid (HST5.out.step0 (Fr.drew No wc));have HTB6 := hid (HTB5.out.step0 (Fr.drew No wc));refine (add_any (x.s.extract x.p fr) (w0.heap.size + 1) w0.heap.size ga ca ns _ _ (hid HST6.out.got) HST6.out.cell (.inr rfl) HST6.out.fr.size HST6.out.ownl (by omega)).mono ?_;rintro e w2 ⟨rfl, v', ha⟩;have HST7 := hid (HST6.out.add ha)
      have HTB7 := hid (HTB6.out.add ha);obtain ⟨j0, j1, -, -, -, -⟩ := HST7.out.tm.cells;have jf := HST7.out.tm.free 1;have hpl7 : pb < w2.heap.size := blk_lt HST7.out.tm;have t2 := blk_cell HTB7.out.1 2;simp only [List.getElem?_toArray, List.getElem?_cons_zero, List.getElem?_cons_succ] at t2
      have HADDT : Hid (Mu.addT (L (x.s.extract x.p fr)) = Mu.tx1 (L x.s) t (stOf x)) := hid (by unfold Mu.tx1; rw [L_extract, HFRE.out]; rfl);have HTX2 : Hid ((Mu.tx1 (L x.s) t (stOf x)).length ≤ 1) := hid (by unfold Mu.tx1 Mu.addT; split <;> simp);clear ha k0 k1
      as_aux_lemma =>
      go_upto_region 15 with fail
      go_quiet (fail)
      go_upto_region 16 with fail
      obtain ⟨ns1, hns1⟩ : ∃ ns1, ns1 = ns ++ Mu.addT (L (x.s.extract x.p fr)) := ⟨_, rfl⟩
      have hl1 : ns1.length ≤ ns.length + 1 := by rw [hns1, List.length_append, HADDT.out]; have := HTX2.out; omega
      rw [← hns1] at HST7;have HNS1 : Hid (ns1 = ns ++ Mu.tx1 (L x.s) t (stOf x)) := hid (by rw [hns1, HADDT.out]);clear hns1
      go_cut [] (fun wr => Hid (PtSt w0 wr pb (w0.heap.size + 1) { x with p := to2, bad := fl } v' ns1 ∧ PBlk wr pb (w0.heap.size + 1) v' w1.heap.size (.cells #[.int .u8 t.kind.toNat, .string bd, .int .i64 t.at0, .int .i64 t.to] 111 (0, 0))))
      case first =>
       as_aux_lemma =>
        go_wp2_with fail
        go_meet
        case rel => exact hid ⟨(HST7.out.step0 (Fr.drewN No w2 nq)).pstep ((Fr.refl (· = pb) _).setA ⟨pb, 1, none⟩ (.int .i64 to2) (.inl rfl)) ((HST7.out.step0 (Fr.drewN No w2 nq)).tm.set1 _), (HTB7.out.step0 (Fr.drewN No w2 nq)).pstep ((Fr.refl (· = pb) _).setA ⟨pb, 1, none⟩ (.int .i64 to2) (.inl rfl))⟩
      case rest =>
       have HST8' := hid hcut.out.1;have HTB8' := hid hcut.out.2;clear HST7 HTB7 HST5 HTB5 HST6 HTB6 HADDT t2 j0 j1 jf hcut hpl7;obtain ⟨x2, hx2⟩ : ∃ x2 : Pa, x2 = { x with p := to2, bad := fl } := ⟨_, rfl⟩
       rw [← hx2] at HST8';have HX2 : Hid (x2.s = x.s ∧ x2.p = to2 ∧ x2.deep = x.deep ∧ x2.o = x.o ∧ x2.c = x.c ∧ x2.bad = fl) := hid (by rw [hx2]; exact ⟨rfl, rfl, rfl, rfl, rfl, rfl⟩);have HSTQ : Hid (stOf x2 = Mu.st1 (L x.s) t (stOf x)) := hid (by rw [hx2, HTO2.out, HFL.out]; rfl);obtain ⟨wk, hwk⟩ : ∃ wk : World, wk = wc := ⟨_, rfl⟩
       rw [← hwk] at HST8' HTB8' ⊢;clear hx2 hwk;obtain ⟨g1, c1, hv1⟩ := HST8'.out.form;obtain rfl := hv1;have HST8 := HST8';have HTB8 := HTB8';clear HST8' HTB8';have hpos2 : to2 ≤ x.s.size := ab2;have hlt2 : x.p < to2 := by omega
       have HPOS : Hid (x2.p ≤ x2.s.size ∧ (0 < x2.o.size ∧ x2.o.size ≤ 1000) ∧ 0 < x2.c.size ∧ x2.c.size ≤ 1000) := hid (by
        obtain ⟨e1, e2, e3, e4, e5, e6⟩ := HX2.out;rw [e1, e2, e4, e5]; exact ⟨hpos2, ⟨ho, ho2⟩, hc, hc2⟩)
       have hbds : bd.size ≤ 4294967295 := by
        have h1 := Mu.trimBy_length Mu.wsB (Mu.sub (L x.s) a2 en);have : bd.size = t.body.length := by rw [← HBD.out, L_length]
        have h3 : t.body.length ≤ x.s.size := by
         obtain ⟨a2', en', F⟩ := Mu.snext_some HN.out;rw [F.bd];have h1 := Mu.trimBy_length Mu.wsB (Mu.sub (L x.s) a2' en');have h2 : (Mu.sub (L x.s) a2' en').length ≤ (L x.s).length := by unfold Mu.sub; rw [List.length_drop, List.length_take]; omega
         rw [L_length] at h2; omega
        omega
       have hgl1 : ns1.length ≤ 85899346000 - 10 := by omega
       have t0 := blk_cell HTB8.out.1 0;have t1 := blk_cell HTB8.out.1 1;simp only [List.getElem?_toArray, List.getElem?_cons_zero, List.getElem?_cons_succ] at t0 t1;have hpl8 : pb < wk.heap.size := blk_lt HST8.out.tm;have hob8 : w0.heap.size + 1 < wk.heap.size := HST8.out.obl;have htb8 : w1.heap.size < wk.heap.size := blk_lt HTB8.out.1
       as_aux_lemma =>
       by_cases k33 : t.kind = 33
       · as_aux_lemma =>
          have b33 : ((t.kind.toNat : Int) == 33) = true := byte_is (b := 33) k33;have HK := hid k33;clear k33
          go_upto_region 21 with fail
          refine pt_r21 (w0.heap.size + 1) w0.heap.size g1 c1 ns1 wk (fun k => k = pb ∨ k = w0.heap.size + 1)  (hid HST8.out.got) HST8.out.cell (.inr rfl) HST8.out.fr.size HST8.out.ownl (by omega) _ _ _ _ _ _ _ _ _ _ _ _ _ _ _ _ _ _ _ _ _ _ _ _ _ _ _ _ _ _ _ _ _ _ _ _ _ _ _ _ _ _ _ _ _ _ _ _ _ _ _ _ _ _ _ _ _ _ _ _ _ _ _ _ _ _ _ _ _ _ _ _ _ _ _ _ _ _ _ _ _ _ _ _ _ _ _ _ _ _ _ _ _ _ _ _ _ _ _ _ _ _ _ _ _ _ _ _ _ _ _ _ _ _ _ _ _ _ _ _ _ _ _ _ _ _ _ _ _ _ _ _ _ _ _ _ _ _ _ _ _ _ _ _ _ _ _ _ _ _ _ _ _ _ _ _ _ _ _ _ _ _ _ _ _ _ _ _ _ _ _ _ _ _ _ _ _ _ _ _ _ _ _ _ _ _ _ _ _ _ _ _ _ _ _ _ _ _ _ _ _ _ _ _ _ _ _ _ _ _ _ _ _ _ _ _ _ _ _ _ _ _ _ _ _ _ _ _ _ _ _ _ _ _ _ _ _ _ _ _ _ _ _ _ _ _ _ _ _ _ _ _ _ _ _ _ _ _ _ _ _ _ _ _ _ _ _ _ _ _ _ ?_
          intro u146 u147 u148 u149 u150 u151 v9 w9 ha;have HST9 := hid (HST8.out.add ha);obtain ⟨nd9, hnd9⟩ : ∃ nd9, nd9 = Mu.Node.mk 6 (L ⟨#[]⟩) false (L ⟨#[]⟩) [] := ⟨_, rfl⟩
          rw [← hnd9] at HST9;have HND9 := hid hnd9;clear hnd9
          have HNEXT : Hid (PtInv w0 pb (w0.heap.size + 1) x0 R (L nm) g w9 x2 v9 (ns1 ++ [nd9])) := hid (by
           have h := HST9.out;rw [HNS1.out, List.append_assoc] at h ⊢
           exact HI.out.next HBAD.out h HX2.out.1 HPOS.out (by rw [HX2.out.2.1]; exact hlt2) (by rw [List.length_append]; have := HTX2.out; simp; omega) HX2.out.2.2.1 (by
            rw [Mu.parts_33 (st := stOf x) HBAD.out HN.out HK.out, ← HSTQ.out, List.append_assoc, HND9.out]; rfl))
          clear ha;go_wp2_with fail
          go_roundg g
          case rel => exact ⟨x2, v9, ns1 ++ [nd9], by omega, HNEXT⟩
          case measure => omega
       by_cases k61 : t.kind = 61
       · as_aux_lemma =>
          have b33 : ((t.kind.toNat : Int) == 33) = false := byte_isnt (b := 33) k33;have b61 : ((t.kind.toNat : Int) == 61) = true := byte_is (b := 61) k61;have HK := hid k61;clear k33 k61
          go_upto_region 23 with fail
          refine pt_r23 (w0.heap.size + 1) w0.heap.size g1 c1 ns1 wk (fun k => k = pb ∨ k = w0.heap.size + 1)  (hid HST8.out.got) HST8.out.cell (.inr rfl) HST8.out.fr.size HST8.out.ownl (by omega) _ _ _ _ _ _ _ _ _ _ _ _ _ _ _ _ _ _ _ _ _ _ _ _ _ _ _ _ _ _ _ _ _ _ _ _ _ _ _ _ _ _ _ _ _ _ _ _ _ _ _ _ _ _ _ _ _ _ _ _ _ _ _ _ _ _ _ _ _ _ _ _ _ _ _ _ _ _ _ _ _ _ _ _ _ _ _ _ _ _ _ _ _ _ _ _ _ _ _ _ _ _ _ _ _ _ _ _ _ _ _ _ _ _ _ _ _ _ _ _ _ _ _ _ _ _ _ _ _ _ _ _ _ _ _ _ _ _ _ _ _ _ _ _ _ _ _ _ _ _ _ _ _ _ _ _ _ _ _ _ _ _ _ _ _ _ _ _ _ _ _ _ _ _ _ _ _ _ _ _ _ _ _ _ _ _ _ _ _ _ _ _ _ _ _ _ _ _ _ _ _ _ _ _ _ _ _ _ _ _ _ _ _ _ _ _ _ _ _ _ _ _ _ _ _ _ _ _ _ _ _ _ _ _ _ _ _ _ _ _ _ _ _ _ _ _ _ _ _ _ _ _ _ _ _ _ _ _ _ _ _ _ _ _ _ _ _ _ _ _ _ ?_
          intro u154 u155 u156 u157 u158 u159 v9 w9 ha;have HST9 := hid (HST8.out.add ha);obtain ⟨nd9, hnd9⟩ : ∃ nd9, nd9 = Mu.Node.mk 6 (L ⟨#[]⟩) false (L ⟨#[]⟩) [] := ⟨_, rfl⟩
          rw [← hnd9] at HST9;have HND9 := hid hnd9;clear hnd9;have HTB9 := hid (HTB8.out.add ha);have t91 := blk_cell HTB9.out.1 1;simp only [List.getElem?_toArray, List.getElem?_cons_zero, List.getElem?_cons_succ] at t91;have ho9 : x2.o.size ≤ 1000 := HPOS.out.2.1.2;clear ha t0 t1;go_wp2_with fail;refine (delimited_any pb x2 bd _ HST9.out.tm (by omega) ho9).mono ?_;intro e wd hpost
          obtain ⟨rfl, hfd, hmd⟩ := hpost
          cases hdl : Mu.delim (L bd) (L x2.o) with
          | none =>
           rw [hdl] at hmd;have HSTD := hid (HST9.out.pstep hfd hmd);have HDL := hid hdl
           have HNEXT : Hid (PtInv w0 pb (w0.heap.size + 1) x0 R (L nm) g wd { x2 with bad := true } v9 (ns1 ++ [nd9])) := hid (by
            have h := HSTD.out;rw [HNS1.out, List.append_assoc] at h ⊢
            exact HI.out.next HBAD.out h HX2.out.1 HPOS.out (by show x.p < x2.p; rw [HX2.out.2.1]; exact hlt2) (by rw [List.length_append]; have := HTX2.out; simp; omega) HX2.out.2.2.1 (by
             have hs61 : Mu.st61 (L x.s) t (stOf x) = stOf { x2 with bad := true } := by
              have hd := HDL.out;rw [HBD.out, HX2.out.2.2.2.1] at hd;have hd2 : Mu.delim t.body (stOf x).o = none := hd;unfold Mu.st61;rw [hd2, ← HSTQ.out]; rfl
             rw [Mu.parts_61 (st := stOf x) HBAD.out HN.out HK.out, hs61, List.append_assoc, HND9.out]; rfl))
           clear hmd hfd hdl;go_wp2_with fail
           go_roundg g
           case rel => exact ⟨{ x2 with bad := true }, v9, ns1 ++ [nd9], by omega, HNEXT⟩
           case measure => omega
          | some oc =>
           obtain ⟨o', c'⟩ := oc;rw [hdl] at hmd;obtain ⟨obb, cbb, hob, hcb, hmd⟩ := hmd;have HSTD := hid (HST9.out.pstep hfd hmd);have HDL := hid hdl;have hpn := Mu.pairs_ne (Mu.delim_some hdl).1;have HOC := hid (show L obb = o' ∧ L cbb = c' from ⟨hob, hcb⟩)
           have HPD : Hid (x2.p ≤ x2.s.size ∧ (0 < obb.size ∧ obb.size ≤ 1000) ∧ 0 < cbb.size ∧ cbb.size ≤ 1000) := hid (by
            have l1 : 0 < o'.length := List.length_pos_iff.2 hpn.1;have l2 : 0 < c'.length := List.length_pos_iff.2 hpn.2.1;rw [← L_length obb, ← L_length cbb, hob, hcb];exact ⟨HPOS.out.1, ⟨l1, by omega⟩, l2, by omega⟩)
           have HNEXT : Hid (PtInv w0 pb (w0.heap.size + 1) x0 R (L nm) g wd { x2 with o := obb, c := cbb } v9 (ns1 ++ [nd9])) := hid (by
            have h := HSTD.out;rw [HNS1.out, List.append_assoc] at h ⊢
            exact HI.out.next HBAD.out h HX2.out.1 HPD.out (by show x.p < x2.p; rw [HX2.out.2.1]; exact hlt2) (by rw [List.length_append]; have := HTX2.out; simp; omega) HX2.out.2.2.1 (by
             have hs61 : Mu.st61 (L x.s) t (stOf x) = stOf { x2 with o := obb, c := cbb } := by
              have hd := HDL.out;rw [HBD.out, HX2.out.2.2.2.1] at hd;have hd2 : Mu.delim t.body (stOf x).o = some (o', c') := hd;unfold Mu.st61;rw [hd2, ← HSTQ.out, ← HOC.out.1, ← HOC.out.2]; rfl
             rw [Mu.parts_61 (st := stOf x) HBAD.out HN.out HK.out, hs61, List.append_assoc, HND9.out]; rfl))
           clear hmd hfd hdl hob hcb hpn;go_wp2_with fail
           go_roundg g
           case rel => exact ⟨{ x2 with o := obb, c := cbb }, v9, ns1 ++ [nd9], by omega, HNEXT⟩
           case measure => omega
       by_cases k47 : t.kind = 47
       · as_aux_lemma =>
          have b33 : ((t.kind.toNat : Int) == 33) = false := byte_isnt (b := 33) k33;have b61 : ((t.kind.toNat : Int) == 61) = false := byte_isnt (b := 61) k61;have b47 : ((t.kind.toNat : Int) == 47) = true := byte_is (b := 47) k47;have HK := hid k47
          have HR47 : Hid (R = (ns1, { Mu.st1 (L x.s) t (stOf x) with bad := (Mu.st1 (L x.s) t (stOf x)).bad || !(t.body == L nm) || L nm == [] })) := hid (by
           have h := HI.out.res;rw [Mu.parts_47 (st := stOf x) HBAD.out HN.out k47] at h;rw [HNS1.out, ← h])
          have HFLB : Hid ((Mu.st1 (L x.s) t (stOf x)).bad = fl) := hid (by rw [← HSTQ.out]; exact HX2.out.2.2.2.2.2);obtain ⟨-, -, -, -, -, j5⟩ := HST8.out.tm.cells;have jf5 := HST8.out.tm.free 5;rw [HX2.out.2.2.2.2.2] at j5;have jc := blk_cell HST8.out.cell 0;simp only [List.getElem?_toArray, List.getElem?_cons_zero] at jc;have hne8 : w0.heap.size + 1 ≠ pb := HST8.out.ne
          have HPO : Hid (∀ B : Bool, B = (fl || !(t.body == L nm) || L nm == []) → PtPost w0 pb x0 R (.returned (.slice (some ⟨g1, 0, none⟩) ns1.length c1)) (wk.setCell ⟨pb, 5, none⟩ (.bool B))) := hid (fun B hB => by
           have h := HST8.out.pstep (x' := { x2 with bad := B }) ((Fr.refl (· = pb) wk).setA ⟨pb, 5, none⟩ (.bool B) (.inl rfl)) (HST8.out.tm.set5 B);have hq := h.post (x0 := x0) (HX2.out.1.trans HI.out.sx) HPOS.out;rw [HR47.out, HFLB.out, ← hB, ← HSTQ.out];exact hq)
          clear k33 k61 k47
          cases fl with
          | true =>
           have HP := hid (HPO.out true rfl);clear HPO;go_wp2_with fail;go_ret;exact HP.out
          | false =>
           by_cases hbn : L bd = L nm
           · have q1 : (bd.toList == nm.toList) = true := str_is hbn
             have q2 : (bd.toList != nm.toList) = false := by rw [bne, q1]; rfl
             by_cases hnn : L nm = []
             · have HP := hid (HPO.out true (by rw [hnn]; simp))
               have q3 : nm.toList = [] := str_nil hnn;have q5 : bd.toList = [] := str_nil (hbn.trans hnn);clear HPO hbn hnn q1 q2;go_wp2_with fail;go_ret;exact HP.out
             · have HP := hid (HPO.out false (by rw [← HBD.out, hbn]; simp [hnn]))
               have q3 : nm.toList.isEmpty = false := str_notnil hnn;clear HPO hbn hnn;go_wp2_with fail;go_ret;exact HP.out
           · have q1 : (bd.toList == nm.toList) = false := str_isnt hbn
             have q2 : (bd.toList != nm.toList) = true := by rw [bne, q1]; rfl
             have HP := hid (HPO.out true (by
              have : (t.body == L nm) = false := by rw [← HBD.out]; exact beq_eq_false_iff_ne.2 hbn
              rw [this]; rfl))
             clear HPO hbn;go_wp2_with fail;go_ret;exact HP.out
       by_cases k3594 : t.kind = 35 ∨ t.kind = 94
       · as_aux_lemma =>
          rcases id k3594 with kc | kc
          · as_aux_lemma =>
             have b33 : ((t.kind.toNat : Int) == 33) = false := byte_isnt (b := 33) k33;have b61 : ((t.kind.toNat : Int) == 61) = false := byte_isnt (b := 61) k61;have b47 : ((t.kind.toNat : Int) == 47) = false := byte_isnt (b := 47) k47;have b35 : ((t.kind.toNat : Int) == 35) = true := byte_is (b := 35) kc
             have b94 : ((t.kind.toNat : Int) == 94) = false := byte_isnt (b := 94) (fun h => absurd (kc.symm.trans h) (by decide));have HK : Hid (t.kind = 35) := hid kc;clear k33 k61 k47 k3594 kc;obtain ⟨-, -, -, -, -, j5⟩ := HST8.out.tm.cells;have jf5 := HST8.out.tm.free 5;rw [HX2.out.2.2.2.2.2] at j5
             go_upto_region 30 with fail
             go_cut [] (fun wr => Hid (PtSt w0 wr pb (w0.heap.size + 1) { x2 with bad := fl || !Mu.nameOk (L bd) } (.slice (some ⟨g1, 0, none⟩) ns1.length c1) ns1 ∧ PBlk wr pb (w0.heap.size + 1) (.slice (some ⟨g1, 0, none⟩) ns1.length c1) w1.heap.size (.cells #[.int .u8 t.kind.toNat, .string bd, .int .i64 t.at0, .int .i64 t.to] 111 (0, 0))))
             case first =>
              as_aux_lemma =>
               cases fl with
               | true =>
                go_wp2_with fail
                go_meet
                case rel => exact hid ⟨HST8.out.pstep ((Fr.refl (· = pb) _).setA ⟨pb, 5, none⟩ (.bool true) (.inl rfl)) (HST8.out.tm.set5 true), HTB8.out.pstep ((Fr.refl (· = pb) _).setA ⟨pb, 5, none⟩ (.bool true) (.inl rfl))⟩
               | false =>
                cases hok : Mu.nameOk (L bd) with
                | true =>
                 have HOK := hid hok;clear hok;go_wp2_with fail;refine (nameOk_any bd _ (by omega)).mono ?_;intro e w5 hpost;rw [HOK.out] at hpost;obtain ⟨rfl, hf5⟩ := hpost;have HF5 : Hid (F0 wk w5) := hid (by first | exact hf5 | (rw [← hf5]; exact Fr.refl _ _));have HST81 := hid (HST8.out.step0 HF5.out);have HTB81 := hid (HTB8.out.step0 HF5.out)
                 have jj5 := HST81.out.tm.cells.2.2.2.2.2;have jjf := HST81.out.tm.free 5;have hpl81 : pb < w5.heap.size := blk_lt HST81.out.tm;rw [HX2.out.2.2.2.2.2] at jj5;clear hf5;go_wp2_with fail
                 go_meet
                 case rel => exact hid ⟨HST81.out.pstep ((Fr.refl (· = pb) _).setA ⟨pb, 5, none⟩ (.bool false) (.inl rfl)) (HST81.out.tm.set5' (show false = (false || !Mu.nameOk (L bd)) by rw [HOK.out]; rfl)), HTB81.out.pstep ((Fr.refl (· = pb) _).setA ⟨pb, 5, none⟩ (.bool false) (.inl rfl))⟩
                | false =>
                 have HOK := hid hok;clear hok;go_wp2_with fail;refine (nameOk_any bd _ (by omega)).mono ?_;intro e w5 hpost;rw [HOK.out] at hpost;obtain ⟨rfl, hf5⟩ := hpost;have HF5 : Hid (F0 wk w5) := hid (by first | exact hf5 | (rw [← hf5]; exact Fr.refl _ _));have HST81 := hid (HST8.out.step0 HF5.out);have HTB81 := hid (HTB8.out.step0 HF5.out)
                 have jj5 := HST81.out.tm.cells.2.2.2.2.2;have jjf := HST81.out.tm.free 5;have hpl81 : pb < w5.heap.size := blk_lt HST81.out.tm;rw [HX2.out.2.2.2.2.2] at jj5;clear hf5;go_wp2_with fail
                 go_meet
                 case rel => exact hid ⟨HST81.out.pstep ((Fr.refl (· = pb) _).setA ⟨pb, 5, none⟩ (.bool true) (.inl rfl)) (HST81.out.tm.set5' (show true = (false || !Mu.nameOk (L bd)) by rw [HOK.out]; rfl)), HTB81.out.pstep ((Fr.refl (· = pb) _).setA ⟨pb, 5, none⟩ (.bool true) (.inl rfl))⟩
             obtain ⟨wm, hwm⟩ : ∃ wm : World, wm = wc := ⟨_, rfl⟩
             have HSTM := hid hcut.out.1;have HTBM := hid hcut.out.2;clear hcut j5 jf5 t0 t1;rw [← hwm] at HSTM HTBM ⊢;clear hwm;have s1 := blk_cell HTBM.out.1 1;have s0 := blk_cell HTBM.out.1 0;simp only [List.getElem?_toArray, List.getElem?_cons_zero, List.getElem?_cons_succ] at s0 s1;obtain ⟨-, -, m2, -, -, m5⟩ := HSTM.out.tm.cells;have mf2 := HSTM.out.tm.free 2
             have mf5 := HSTM.out.tm.free 5;have hplm : pb < wm.heap.size := blk_lt HSTM.out.tm;have htbm : w1.heap.size < wm.heap.size := blk_lt HTBM.out.1;have hobm : w0.heap.size + 1 < wm.heap.size := HSTM.out.obl;have m2' : wm.cell? ⟨pb, 2, none⟩ = some (.int .i64 (x.deep : Int)) := by rw [m2, show ({ x2 with bad := fl || !Mu.nameOk (L bd) } : Pa).deep = x.deep from HX2.out.2.2.1]
             have m5' : wm.cell? ⟨pb, 5, none⟩ = some (.bool (fl || !Mu.nameOk (L bd))) := m5;clear m2 m5;obtain ⟨bm, hbm⟩ : ∃ bm, bm = (fl || !Mu.nameOk (L bd)) := ⟨_, rfl⟩
             rw [← hbm] at m5' HSTM;have HBM := hid hbm;clear hbm;have hdp : x.deep ≤ 8589934600 := by omega
             have HMD : Hid (∀ B B' : Bool, B = B' → PtSt w0 (((wm.setCell ⟨pb, 2, none⟩ (.int .i64 ((x.deep : Int) + 1))).setCell ⟨pb, 5, none⟩ (.bool B)).alloc (.cells #[.int .i64 3, .string bd, .bool false, .string ⟨#[]⟩, .slice none 0 0] 38)) pb (w0.heap.size + 1) { x2 with bad := B', deep := x.deep + 1 } (.slice (some ⟨g1, 0, none⟩) ns1.length c1) ns1 ∧
              PBlk (((wm.setCell ⟨pb, 2, none⟩ (.int .i64 ((x.deep : Int) + 1))).setCell ⟨pb, 5, none⟩ (.bool B)).alloc (.cells #[.int .i64 3, .string bd, .bool false, .string ⟨#[]⟩, .slice none 0 0] 38)) pb (w0.heap.size + 1) (.slice (some ⟨g1, 0, none⟩) ns1.length c1) w1.heap.size (.cells #[.int .u8 t.kind.toNat, .string bd, .int .i64 t.at0, .int .i64 t.to] 111 (0, 0)) ∧
              PBlk (((wm.setCell ⟨pb, 2, none⟩ (.int .i64 ((x.deep : Int) + 1))).setCell ⟨pb, 5, none⟩ (.bool B)).alloc (.cells #[.int .i64 3, .string bd, .bool false, .string ⟨#[]⟩, .slice none 0 0] 38)) pb (w0.heap.size + 1) (.slice (some ⟨g1, 0, none⟩) ns1.length c1) wm.heap.size (.cells #[.int .i64 3, .string bd, .bool false, .string ⟨#[]⟩, .slice none 0 0] 38 (0, 0)) ∧ Fr (· = pb) wm (((wm.setCell ⟨pb, 2, none⟩ (.int .i64 ((x.deep : Int) + 1))).setCell ⟨pb, 5, none⟩ (.bool B)).alloc (.cells #[.int .i64 3, .string bd, .bool false, .string ⟨#[]⟩, .slice none 0 0] 38))) := hid (fun B B' hBB => by
              subst hBB;have hfr : Fr (· = pb) wm ((wm.setCell ⟨pb, 2, none⟩ (.int .i64 ((x.deep : Int) + 1))).setCell ⟨pb, 5, none⟩ (.bool B)) := ((Fr.refl (· = pb) _).setA ⟨pb, 2, none⟩ _ (.inl rfl)).setA ⟨pb, 5, none⟩ _ (.inl rfl)
              have hsz2 : ((wm.setCell ⟨pb, 2, none⟩ (.int .i64 ((x.deep : Int) + 1))).setCell ⟨pb, 5, none⟩ (.bool B)).heap.size = wm.heap.size := by simp [World.setCell]
              have h2 := HSTM.out.pstep hfr ((HSTM.out.tm.set2 (x.deep + 1)).set5 B);refine ⟨h2.step0 (Fr.alloc No _ _), (HTBM.out.pstep hfr).step0 (Fr.alloc No _ _), h2.blk ?_ (by rw [hsz2]; exact Nat.le_refl _), hfr.allocA _⟩
              have := blk_new ((wm.setCell ⟨pb, 2, none⟩ (.int .i64 ((x.deep : Int) + 1))).setCell ⟨pb, 5, none⟩ (.bool B)) (.cells #[.int .i64 3, .string bd, .bool false, .string ⟨#[]⟩, .slice none 0 0] 38);rw [hsz2] at this;exact this)
             go_upto_region 35 with fail
             go_cut [] (fun wr => Hid (PtSt w0 wr pb (w0.heap.size + 1) { x2 with bad := bm || decide (16 < x.deep + 1), deep := x.deep + 1 } (.slice (some ⟨g1, 0, none⟩) ns1.length c1) ns1 ∧
              PBlk wr pb (w0.heap.size + 1) (.slice (some ⟨g1, 0, none⟩) ns1.length c1) w1.heap.size (.cells #[.int .u8 t.kind.toNat, .string bd, .int .i64 t.at0, .int .i64 t.to] 111 (0, 0)) ∧
              PBlk wr pb (w0.heap.size + 1) (.slice (some ⟨g1, 0, none⟩) ns1.length c1) wm.heap.size (.cells #[.int .i64 3, .string bd, .bool false, .string ⟨#[]⟩, .slice none 0 0] 38 (0, 0)) ∧ Fr (· = pb) wm wr))
             case first =>
              as_aux_lemma =>
               cases bm with
               | true =>
                go_wp2_with fail
                go_meet
                case rel => exact hid (HMD.out true _ rfl)
               | false =>
                by_cases hd16 : 16 < x.deep + 1
                · have q16 : decide ((16 : Int) < (x.deep : Int) + 1) = true := by simp; omega
                  have HB : Hid ((false || decide (16 < x.deep + 1)) = true) := hid (by simpa using hd16);clear hd16;go_wp2_with fail
                  go_meet
                  case rel => exact hid (HMD.out true _ HB.out.symm)
                · have q16 : decide ((16 : Int) < (x.deep : Int) + 1) = false := by simp; omega
                  have HB : Hid ((false || decide (16 < x.deep + 1)) = false) := hid (by simpa using hd16);clear hd16;go_wp2_with fail
                  go_meet
                  case rel => exact hid (HMD.out false _ HB.out.symm)
             obtain ⟨wd, hwd⟩ : ∃ wd : World, wd = wc := ⟨_, rfl⟩
             have HSTD := hid hcut.out.1;have HTD := hid hcut.out.2.1;have HND := hid hcut.out.2.2.1;have HFD := hid hcut.out.2.2.2;have HGM := HSTM;have HTM := HTBM;clear hcut HMD m2' m5' mf2 mf5 s0 s1 HSTM HTBM;rw [← hwd] at HSTD HTD HND HFD ⊢;clear hwd;have s1 := blk_cell HTD.out.1 1;simp only [List.getElem?_toArray, List.getElem?_cons_zero, List.getElem?_cons_succ] at s1
             obtain ⟨x4, hx4⟩ : ∃ x4 : Pa, x4 = { x2 with bad := bm || decide (16 < x.deep + 1), deep := x.deep + 1 } := ⟨_, rfl⟩
             rw [← hx4] at HSTD;have HX4 : Hid (x4.s = x.s ∧ x4.p = to2 ∧ x4.deep = x.deep + 1 ∧ x4.o = x.o ∧ x4.c = x.c) := hid (by rw [hx4]; exact ⟨HX2.out.1, HX2.out.2.1, rfl, HX2.out.2.2.2.1, HX2.out.2.2.2.2.1⟩)
             have HQ35 : Hid (Mu.st35 (L x.s) t (stOf x) = stOf x4) := hid (by
              unfold Mu.st35;rw [← HSTQ.out, hx4, HBM.out, ← HX2.out.2.2.2.2.2, HBD.out]; rfl)
             clear hx4;have hs4 : x4.s.size ≤ 4294967295 := by rw [HX4.out.1]; exact hs
             have hp4 : x4.p ≤ x4.s.size ∧ (0 < x4.o.size ∧ x4.o.size ≤ 1000) ∧ 0 < x4.c.size ∧ x4.c.size ≤ 1000 := by
              obtain ⟨e1, e2, e3, e4, e5⟩ := HX4.out;rw [e1, e2, e4, e5]; exact ⟨hpos2, ⟨ho, ho2⟩, hc, hc2⟩
             have HP4 := hid hp4;have hfu4 : x4.bad = false → x4.s.size + 2 ≤ g + x4.p := fun _ => by rw [HX4.out.1, HX4.out.2.1]; omega
             have HFU4 := hid hfu4;have hdp4 : x4.deep + g ≤ 8589934600 := by rw [HX4.out.2.2.1]; omega
             clear hp4 hfu4;go_wp2_with fail;refine (IH.out g (by omega) pb x4 bd wd hs4 HSTD.out.tm HP4.out HFU4.out (by omega) hdp4 (by omega)).mono ?_;rintro e w5 ⟨v5, x5, rfl, hf5, hx5, hs5, hst5, hpos5, hgot5, g5, c5, rfl⟩;have HST5 := hid (HSTD.out.pstep hf5 hx5);have HTB5 := hid (HTD.out.pstep hf5);have HN5 := hid (HND.out.pstep hf5);have HG5 := hid hgot5;have HF5 := hid hf5
             have HX5 := hid hx5;have HS5 := hid hst5;have HXS5 := hid (show x5.s = x.s from hs5.trans HX4.out.1);have HP5 := hid hpos5;obtain ⟨kids, hkids⟩ : ∃ kids, kids = (Mu.parts (L x4.s) g (stOf x4) (L bd)).1 := ⟨_, rfl⟩
             have HKIDS := hid hkids;rw [← hkids] at HG5 ⊢
             have HINV : Hid (to2 ≤ x5.p ∧ x5.deep = x.deep + 1) := hid (by
              have hone4 : (stOf x4).o ≠ [] := fun h => by have h1 := L_length x4.o; rw [show L x4.o = [] from h] at h1; have := HP4.out.2.1.1; simp at h1; omega
              have hcne4 : (stOf x4).c ≠ [] := fun h => by have h1 := L_length x4.c; rw [show L x4.c = [] from h] at h1; have := HP4.out.2.2.1; simp at h1; omega
              obtain ⟨i1, i2, i3, -⟩ := parts_inv (L x4.s) g (stOf x4) (L bd) (by rw [L_length]; exact HP4.out.1) hone4 hcne4;rw [← HS5.out] at i1 i3;have i1 : x4.p ≤ x5.p := i1;have i3 : x5.deep = x4.deep := i3;rw [HX4.out.2.1] at i1;exact ⟨i1, by rw [i3, HX4.out.2.2.1]⟩)
             obtain ⟨-, -, n2, -, -, -⟩ := HST5.out.tm.cells;have nf2 := HST5.out.tm.free 2;rw [HINV.out.2] at n2;have n4 := blk_cell HN5.out.1 4;have nf4 := blk_free HN5.out.1 4;simp only [List.getElem?_toArray, List.getElem?_cons_zero, List.getElem?_cons_succ] at n4;have hpl5' : pb < w5.heap.size := blk_lt HST5.out.tm;have hnb5 : wm.heap.size < w5.heap.size := blk_lt HN5.out.1
             have hnpb : wm.heap.size ≠ pb := HN5.out.2.1;have n2' : w5.cell? ⟨pb, 2, none⟩ = some (.int .i64 ((x.deep : Int) + 1)) := n2;clear hf5 hx5 hs5 hst5 hpos5 hgot5 hkids n2 s1
             go_upto_region 38 with fail
             obtain ⟨W6, hW6⟩ : ∃ W6 : World, W6 = ((w5.setCell ⟨wm.heap.size, 4, none⟩ (.slice (some ⟨g5, 0, none⟩) kids.length c5)).setCell ⟨pb, 2, none⟩ (.int .i64 (x.deep : Int))) := ⟨_, rfl⟩
             have HFR6 : Hid (Fr (· = pb) wm W6) := hid (by
              rw [hW6];exact (((HFD.out.trans HF5.out).setA ⟨wm.heap.size, 4, none⟩ _ (.inr (Nat.le_refl _))).setA ⟨pb, 2, none⟩ _ (.inl rfl)))
             have HX6 : Hid (PaAt W6 pb { x5 with deep := x.deep }) := hid (by
              rw [hW6];exact PaAt.set2 (blk_set_ne _ _ HX5.out (fun e => hnpb e.symm)) x.deep)
             have HST6 := hid (HGM.out.pstep HFR6.out HX6.out);obtain ⟨Sn, vsn, hrow5, hns5, hS5⟩ := HG5.out.all;have HSN5 := hid hS5;have hsz5 : wd.heap.size ≤ w5.heap.size := HF5.out.size;have hnbd : wm.heap.size < wd.heap.size := blk_lt HND.out.1;have hpld : pb < wd.heap.size := blk_lt HSTD.out.tm;have hobd : w0.heap.size + 1 < wd.heap.size := HSTD.out.obl
             have hlod : w0.heap.size ≤ wd.heap.size := HSTD.out.fr.size;have hs6 : W6.heap.size = w5.heap.size := by rw [hW6]; simp [World.setCell]
             have HS6 := hid hs6
             have HKP : Hid (Keep Sn w5 W6) := hid (fun k hk => by
              have h := HSN5.out k hk;rw [hW6, Below.heap_setCell _ _ _ _ (show k ≠ pb from h.2), Below.heap_setCell _ _ _ _ (show k ≠ wm.heap.size by have := h.1.1; omega)])
             have HNB6 : Hid (W6.heap[wm.heap.size]? = some (.cells #[.int .i64 ((3 : Nat) : Int), .string bd, .bool false, .string ⟨#[]⟩, .slice (some ⟨g5, 0, none⟩) kids.length c5] 38 (0, 0))) := hid (by
              rw [hW6];exact blk_set_ne _ _ (blk_set _ HN5.out.1) hnpb)
             have HNAT : Hid (NAt W6 Sn (.mk 3 (L bd) false (L ⟨#[]⟩) kids) [.int .i64 ((3 : Nat) : Int), .string bd, .bool false, .string ⟨#[]⟩, .slice (some ⟨g5, 0, none⟩) kids.length c5]) := hid (by
              unfold NAt;exact ⟨bd, ⟨#[]⟩, _, vsn, rfl, rfl, rfl, hrow5.keep HKP.out (fun _ h => h), NsAt.keep HKP.out (fun _ h => h) _ _ hns5⟩)
             have HSNN : Hid (∀ k, Sn k → (w0.heap.size ≤ k ∧ k < W6.heap.size) ∧ k ≠ g1 ∧ ¬ (fun k => k = pb ∨ k = w0.heap.size + 1) k) := hid (fun k hk => by
              have h := HSN5.out k hk
              have hg1d : g1 < wd.heap.size := by
               obtain ⟨S', vs', h1', -⟩ := HSTD.out.got.out;exact ownsRow_blk h1' rfl
              rw [HS6.out];refine ⟨⟨by omega, h.1.2⟩, by omega, ?_⟩;rintro (e | e)
              · exact h.2 e
              · omega)
             obtain ⟨nd9, hnd9⟩ : ∃ nd9, nd9 = Mu.Node.mk 3 (L bd) false (L ⟨#[]⟩) kids := ⟨_, rfl⟩
             rw [← hnd9] at HNAT;have HND9 := hid hnd9;have HW6 := hid hW6;clear hnd9 hrow5 hns5 hS5 n4 nf4 n2' nf2 hs6;rw [← hW6];clear hW6
             refine pt_r38 (w0.heap.size + 1) w0.heap.size g1 c1 ns1 W6 (fun k => k = pb ∨ k = w0.heap.size + 1) wm.heap.size 3 bd ⟨#[]⟩ false (some ⟨g5, 0, none⟩) kids.length c5 nd9 Sn HNB6.out HNAT.out HSNN.out (hid HST6.out.got) HST6.out.cell (.inr rfl) HST6.out.fr.size HST6.out.ownl (by omega) _ _ _ _ _ _ _ _ _ _ _ _ _ _ _ _ _ _ _ _ _ _ _ _ _ _ _ _ _ _ _ _ _ _ _ _ _ _ _ _ _ _ _ _ _ _ _ _ _ _ _ _ _ _ _ _ _ _ _ _ _ _ _ _ _ _ _ _ _ _ _ _ _ _ _ _ _ _ _ _ _ _ _ _ _ _ _ _ _ _ _ _ _ _ _ _ _ _ _ _ _ _ _ _ _ _ _ _ _ _ _ _ _ _ _ _ _ _ _ _ _ _ _ _ _ _ _ _ _ _ _ _ _ _ _ _ _ _ _ _ _ _ _ _ _ _ _ _ _ _ _ _ _ _ _ _ _ _ _ _ _ _ _ _ _ _ _ _ _ _ _ _ _ _ _ _ _ _ _ _ _ _ _ _ _ _ _ _ _ _ _ _ _ _ _ _ _ _ _ _ _ _ _ _ _ _ _ _ _ _ _ _ _ _ _ _ _ _ _ _ _ _ _ _ _ _ _ _ _ _ _ _ _ _ _ _ _ _ _ _ _ _ _ _ _ _ _ _ _ _ _ _ _ _ _ _ _ _ _ _ _ _ _ _ _ _ _ _ _ _ ?_
             intro u240 u241 u242 u243 u244 u245 v9 w9 ha;have HST9 := hid (HST6.out.add ha)
             have HNEXT : Hid (PtInv w0 pb (w0.heap.size + 1) x0 R (L nm) g w9 { x5 with deep := x.deep } v9 (ns1 ++ [nd9])) := hid (by
              have h := HST9.out;rw [HNS1.out, List.append_assoc] at h ⊢
              exact HI.out.next HBAD.out h HXS5.out HP5.out (by have := HINV.out.1; show x.p < x5.p; omega) (by rw [List.length_append]; have := HTX2.out; simp; omega) rfl (by
               have hb : Mu.back (stOf x5) = stOf { x5 with deep := x.deep } := by
                unfold Mu.back;have h1 : (stOf x5).deep - 1 = x.deep := by show x5.deep - 1 = x.deep; rw [HINV.out.2]; rfl
                rw [h1]; rfl
               have hk := HKIDS.out;have h5 := HS5.out;rw [HX4.out.1, HBD.out] at hk h5;rw [Mu.parts_35 (st := stOf x) HBAD.out HN.out (by rw [HK.out]; decide), HQ35.out, ← h5, hb, ← hk, List.append_assoc, HND9.out, HBD.out, HK.out]; rfl))
             clear ha;go_wp2_with fail
             go_roundg g
             case rel => exact ⟨{ x5 with deep := x.deep }, v9, ns1 ++ [nd9], by omega, HNEXT⟩
             case measure => omega
          · as_aux_lemma =>
             have b33 : ((t.kind.toNat : Int) == 33) = false := byte_isnt (b := 33) k33;have b61 : ((t.kind.toNat : Int) == 61) = false := byte_isnt (b := 61) k61;have b47 : ((t.kind.toNat : Int) == 47) = false := byte_isnt (b := 47) k47;have b35 : ((t.kind.toNat : Int) == 35) = false := byte_isnt (b := 35) (fun h => absurd (kc.symm.trans h) (by decide))
             have b94 : ((t.kind.toNat : Int) == 94) = true := byte_is (b := 94) kc;have HK : Hid (t.kind = 94) := hid kc;clear k33 k61 k47 k3594 kc;obtain ⟨-, -, -, -, -, j5⟩ := HST8.out.tm.cells;have jf5 := HST8.out.tm.free 5;rw [HX2.out.2.2.2.2.2] at j5
             go_upto_region 30 with fail
             go_cut [] (fun wr => Hid (PtSt w0 wr pb (w0.heap.size + 1) { x2 with bad := fl || !Mu.nameOk (L bd) } (.slice (some ⟨g1, 0, none⟩) ns1.length c1) ns1 ∧ PBlk wr pb (w0.heap.size + 1) (.slice (some ⟨g1, 0, none⟩) ns1.length c1) w1.heap.size (.cells #[.int .u8 t.kind.toNat, .string bd, .int .i64 t.at0, .int .i64 t.to] 111 (0, 0))))
             case first =>
              as_aux_lemma =>
               cases fl with
               | true =>
                go_wp2_with fail
                go_meet
                case rel => exact hid ⟨HST8.out.pstep ((Fr.refl (· = pb) _).setA ⟨pb, 5, none⟩ (.bool true) (.inl rfl)) (HST8.out.tm.set5 true), HTB8.out.pstep ((Fr.refl (· = pb) _).setA ⟨pb, 5, none⟩ (.bool true) (.inl rfl))⟩
               | false =>
                cases hok : Mu.nameOk (L bd) with
                | true =>
                 have HOK := hid hok;clear hok;go_wp2_with fail;refine (nameOk_any bd _ (by omega)).mono ?_;intro e w5 hpost;rw [HOK.out] at hpost;obtain ⟨rfl, hf5⟩ := hpost;have HF5 : Hid (F0 wk w5) := hid (by first | exact hf5 | (rw [← hf5]; exact Fr.refl _ _));have HST81 := hid (HST8.out.step0 HF5.out);have HTB81 := hid (HTB8.out.step0 HF5.out)
                 have jj5 := HST81.out.tm.cells.2.2.2.2.2;have jjf := HST81.out.tm.free 5;have hpl81 : pb < w5.heap.size := blk_lt HST81.out.tm;rw [HX2.out.2.2.2.2.2] at jj5;clear hf5;go_wp2_with fail
                 go_meet
                 case rel => exact hid ⟨HST81.out.pstep ((Fr.refl (· = pb) _).setA ⟨pb, 5, none⟩ (.bool false) (.inl rfl)) (HST81.out.tm.set5' (show false = (false || !Mu.nameOk (L bd)) by rw [HOK.out]; rfl)), HTB81.out.pstep ((Fr.refl (· = pb) _).setA ⟨pb, 5, none⟩ (.bool false) (.inl rfl))⟩
                | false =>
                 have HOK := hid hok;clear hok;go_wp2_with fail;refine (nameOk_any bd _ (by omega)).mono ?_;intro e w5 hpost;rw [HOK.out] at hpost;obtain ⟨rfl, hf5⟩ := hpost;have HF5 : Hid (F0 wk w5) := hid (by first | exact hf5 | (rw [← hf5]; exact Fr.refl _ _));have HST81 := hid (HST8.out.step0 HF5.out);have HTB81 := hid (HTB8.out.step0 HF5.out)
                 have jj5 := HST81.out.tm.cells.2.2.2.2.2;have jjf := HST81.out.tm.free 5;have hpl81 : pb < w5.heap.size := blk_lt HST81.out.tm;rw [HX2.out.2.2.2.2.2] at jj5;clear hf5;go_wp2_with fail
                 go_meet
                 case rel => exact hid ⟨HST81.out.pstep ((Fr.refl (· = pb) _).setA ⟨pb, 5, none⟩ (.bool true) (.inl rfl)) (HST81.out.tm.set5' (show true = (false || !Mu.nameOk (L bd)) by rw [HOK.out]; rfl)), HTB81.out.pstep ((Fr.refl (· = pb) _).setA ⟨pb, 5, none⟩ (.bool true) (.inl rfl))⟩
             obtain ⟨wm, hwm⟩ : ∃ wm : World, wm = wc := ⟨_, rfl⟩
             have HSTM := hid hcut.out.1;have HTBM := hid hcut.out.2;clear hcut j5 jf5 t0 t1;rw [← hwm] at HSTM HTBM ⊢;clear hwm;have s1 := blk_cell HTBM.out.1 1;have s0 := blk_cell HTBM.out.1 0;simp only [List.getElem?_toArray, List.getElem?_cons_zero, List.getElem?_cons_succ] at s0 s1;obtain ⟨-, -, m2, -, -, m5⟩ := HSTM.out.tm.cells;have mf2 := HSTM.out.tm.free 2
             have mf5 := HSTM.out.tm.free 5;have hplm : pb < wm.heap.size := blk_lt HSTM.out.tm;have htbm : w1.heap.size < wm.heap.size := blk_lt HTBM.out.1;have hobm : w0.heap.size + 1 < wm.heap.size := HSTM.out.obl;have m2' : wm.cell? ⟨pb, 2, none⟩ = some (.int .i64 (x.deep : Int)) := by rw [m2, show ({ x2 with bad := fl || !Mu.nameOk (L bd) } : Pa).deep = x.deep from HX2.out.2.2.1]
             have m5' : wm.cell? ⟨pb, 5, none⟩ = some (.bool (fl || !Mu.nameOk (L bd))) := m5;clear m2 m5;obtain ⟨bm, hbm⟩ : ∃ bm, bm = (fl || !Mu.nameOk (L bd)) := ⟨_, rfl⟩
             rw [← hbm] at m5' HSTM;have HBM := hid hbm;clear hbm;have hdp : x.deep ≤ 8589934600 := by omega
             have HMD : Hid (∀ B B' : Bool, B = B' → PtSt w0 (((wm.setCell ⟨pb, 2, none⟩ (.int .i64 ((x.deep : Int) + 1))).setCell ⟨pb, 5, none⟩ (.bool B)).alloc (.cells #[.int .i64 4, .string bd, .bool false, .string ⟨#[]⟩, .slice none 0 0] 38)) pb (w0.heap.size + 1) { x2 with bad := B', deep := x.deep + 1 } (.slice (some ⟨g1, 0, none⟩) ns1.length c1) ns1 ∧
              PBlk (((wm.setCell ⟨pb, 2, none⟩ (.int .i64 ((x.deep : Int) + 1))).setCell ⟨pb, 5, none⟩ (.bool B)).alloc (.cells #[.int .i64 4, .string bd, .bool false, .string ⟨#[]⟩, .slice none 0 0] 38)) pb (w0.heap.size + 1) (.slice (some ⟨g1, 0, none⟩) ns1.length c1) w1.heap.size (.cells #[.int .u8 t.kind.toNat, .string bd, .int .i64 t.at0, .int .i64 t.to] 111 (0, 0)) ∧
              PBlk (((wm.setCell ⟨pb, 2, none⟩ (.int .i64 ((x.deep : Int) + 1))).setCell ⟨pb, 5, none⟩ (.bool B)).alloc (.cells #[.int .i64 4, .string bd, .bool false, .string ⟨#[]⟩, .slice none 0 0] 38)) pb (w0.heap.size + 1) (.slice (some ⟨g1, 0, none⟩) ns1.length c1) wm.heap.size (.cells #[.int .i64 4, .string bd, .bool false, .string ⟨#[]⟩, .slice none 0 0] 38 (0, 0)) ∧ Fr (· = pb) wm (((wm.setCell ⟨pb, 2, none⟩ (.int .i64 ((x.deep : Int) + 1))).setCell ⟨pb, 5, none⟩ (.bool B)).alloc (.cells #[.int .i64 4, .string bd, .bool false, .string ⟨#[]⟩, .slice none 0 0] 38))) := hid (fun B B' hBB => by
              subst hBB;have hfr : Fr (· = pb) wm ((wm.setCell ⟨pb, 2, none⟩ (.int .i64 ((x.deep : Int) + 1))).setCell ⟨pb, 5, none⟩ (.bool B)) := ((Fr.refl (· = pb) _).setA ⟨pb, 2, none⟩ _ (.inl rfl)).setA ⟨pb, 5, none⟩ _ (.inl rfl)
              have hsz2 : ((wm.setCell ⟨pb, 2, none⟩ (.int .i64 ((x.deep : Int) + 1))).setCell ⟨pb, 5, none⟩ (.bool B)).heap.size = wm.heap.size := by simp [World.setCell]
              have h2 := HSTM.out.pstep hfr ((HSTM.out.tm.set2 (x.deep + 1)).set5 B);refine ⟨h2.step0 (Fr.alloc No _ _), (HTBM.out.pstep hfr).step0 (Fr.alloc No _ _), h2.blk ?_ (by rw [hsz2]; exact Nat.le_refl _), hfr.allocA _⟩
              have := blk_new ((wm.setCell ⟨pb, 2, none⟩ (.int .i64 ((x.deep : Int) + 1))).setCell ⟨pb, 5, none⟩ (.bool B)) (.cells #[.int .i64 4, .string bd, .bool false, .string ⟨#[]⟩, .slice none 0 0] 38);rw [hsz2] at this;exact this)
             go_upto_region 35 with fail
             go_cut [] (fun wr => Hid (PtSt w0 wr pb (w0.heap.size + 1) { x2 with bad := bm || decide (16 < x.deep + 1), deep := x.deep + 1 } (.slice (some ⟨g1, 0, none⟩) ns1.length c1) ns1 ∧
              PBlk wr pb (w0.heap.size + 1) (.slice (some ⟨g1, 0, none⟩) ns1.length c1) w1.heap.size (.cells #[.int .u8 t.kind.toNat, .string bd, .int .i64 t.at0, .int .i64 t.to] 111 (0, 0)) ∧
              PBlk wr pb (w0.heap.size + 1) (.slice (some ⟨g1, 0, none⟩) ns1.length c1) wm.heap.size (.cells #[.int .i64 4, .string bd, .bool false, .string ⟨#[]⟩, .slice none 0 0] 38 (0, 0)) ∧ Fr (· = pb) wm wr))
             case first =>
              as_aux_lemma =>
               cases bm with
               | true =>
                go_wp2_with fail
                go_meet
                case rel => exact hid (HMD.out true _ rfl)
               | false =>
                by_cases hd16 : 16 < x.deep + 1
                · have q16 : decide ((16 : Int) < (x.deep : Int) + 1) = true := by simp; omega
                  have HB : Hid ((false || decide (16 < x.deep + 1)) = true) := hid (by simpa using hd16);clear hd16;go_wp2_with fail
                  go_meet
                  case rel => exact hid (HMD.out true _ HB.out.symm)
                · have q16 : decide ((16 : Int) < (x.deep : Int) + 1) = false := by simp; omega
                  have HB : Hid ((false || decide (16 < x.deep + 1)) = false) := hid (by simpa using hd16);clear hd16;go_wp2_with fail
                  go_meet
                  case rel => exact hid (HMD.out false _ HB.out.symm)
             obtain ⟨wd, hwd⟩ : ∃ wd : World, wd = wc := ⟨_, rfl⟩
             have HSTD := hid hcut.out.1;have HTD := hid hcut.out.2.1;have HND := hid hcut.out.2.2.1;have HFD := hid hcut.out.2.2.2;have HGM := HSTM;have HTM := HTBM;clear hcut HMD m2' m5' mf2 mf5 s0 s1 HSTM HTBM;rw [← hwd] at HSTD HTD HND HFD ⊢;clear hwd;have s1 := blk_cell HTD.out.1 1;simp only [List.getElem?_toArray, List.getElem?_cons_zero, List.getElem?_cons_succ] at s1
             obtain ⟨x4, hx4⟩ : ∃ x4 : Pa, x4 = { x2 with bad := bm || decide (16 < x.deep + 1), deep := x.deep + 1 } := ⟨_, rfl⟩
             rw [← hx4] at HSTD;have HX4 : Hid (x4.s = x.s ∧ x4.p = to2 ∧ x4.deep = x.deep + 1 ∧ x4.o = x.o ∧ x4.c = x.c) := hid (by rw [hx4]; exact ⟨HX2.out.1, HX2.out.2.1, rfl, HX2.out.2.2.2.1, HX2.out.2.2.2.2.1⟩)
             have HQ35 : Hid (Mu.st35 (L x.s) t (stOf x) = stOf x4) := hid (by
              unfold Mu.st35;rw [← HSTQ.out, hx4, HBM.out, ← HX2.out.2.2.2.2.2, HBD.out]; rfl)
             clear hx4;have hs4 : x4.s.size ≤ 4294967295 := by rw [HX4.out.1]; exact hs
             have hp4 : x4.p ≤ x4.s.size ∧ (0 < x4.o.size ∧ x4.o.size ≤ 1000) ∧ 0 < x4.c.size ∧ x4.c.size ≤ 1000 := by
              obtain ⟨e1, e2, e3, e4, e5⟩ := HX4.out;rw [e1, e2, e4, e5]; exact ⟨hpos2, ⟨ho, ho2⟩, hc, hc2⟩
             have HP4 := hid hp4;have hfu4 : x4.bad = false → x4.s.size + 2 ≤ g + x4.p := fun _ => by rw [HX4.out.1, HX4.out.2.1]; omega
             have HFU4 := hid hfu4;have hdp4 : x4.deep + g ≤ 8589934600 := by rw [HX4.out.2.2.1]; omega
             clear hp4 hfu4;go_wp2_with fail;refine (IH.out g (by omega) pb x4 bd wd hs4 HSTD.out.tm HP4.out HFU4.out (by omega) hdp4 (by omega)).mono ?_;rintro e w5 ⟨v5, x5, rfl, hf5, hx5, hs5, hst5, hpos5, hgot5, g5, c5, rfl⟩;have HST5 := hid (HSTD.out.pstep hf5 hx5);have HTB5 := hid (HTD.out.pstep hf5);have HN5 := hid (HND.out.pstep hf5);have HG5 := hid hgot5;have HF5 := hid hf5
             have HX5 := hid hx5;have HS5 := hid hst5;have HXS5 := hid (show x5.s = x.s from hs5.trans HX4.out.1);have HP5 := hid hpos5;obtain ⟨kids, hkids⟩ : ∃ kids, kids = (Mu.parts (L x4.s) g (stOf x4) (L bd)).1 := ⟨_, rfl⟩
             have HKIDS := hid hkids;rw [← hkids] at HG5 ⊢
             have HINV : Hid (to2 ≤ x5.p ∧ x5.deep = x.deep + 1) := hid (by
              have hone4 : (stOf x4).o ≠ [] := fun h => by have h1 := L_length x4.o; rw [show L x4.o = [] from h] at h1; have := HP4.out.2.1.1; simp at h1; omega
              have hcne4 : (stOf x4).c ≠ [] := fun h => by have h1 := L_length x4.c; rw [show L x4.c = [] from h] at h1; have := HP4.out.2.2.1; simp at h1; omega
              obtain ⟨i1, i2, i3, -⟩ := parts_inv (L x4.s) g (stOf x4) (L bd) (by rw [L_length]; exact HP4.out.1) hone4 hcne4;rw [← HS5.out] at i1 i3;have i1 : x4.p ≤ x5.p := i1;have i3 : x5.deep = x4.deep := i3;rw [HX4.out.2.1] at i1;exact ⟨i1, by rw [i3, HX4.out.2.2.1]⟩)
             obtain ⟨-, -, n2, -, -, -⟩ := HST5.out.tm.cells;have nf2 := HST5.out.tm.free 2;rw [HINV.out.2] at n2;have n4 := blk_cell HN5.out.1 4;have nf4 := blk_free HN5.out.1 4;simp only [List.getElem?_toArray, List.getElem?_cons_zero, List.getElem?_cons_succ] at n4;have hpl5' : pb < w5.heap.size := blk_lt HST5.out.tm;have hnb5 : wm.heap.size < w5.heap.size := blk_lt HN5.out.1
             have hnpb : wm.heap.size ≠ pb := HN5.out.2.1;have n2' : w5.cell? ⟨pb, 2, none⟩ = some (.int .i64 ((x.deep : Int) + 1)) := n2;clear hf5 hx5 hs5 hst5 hpos5 hgot5 hkids n2 s1
             go_upto_region 38 with fail
             obtain ⟨W6, hW6⟩ : ∃ W6 : World, W6 = ((w5.setCell ⟨wm.heap.size, 4, none⟩ (.slice (some ⟨g5, 0, none⟩) kids.length c5)).setCell ⟨pb, 2, none⟩ (.int .i64 (x.deep : Int))) := ⟨_, rfl⟩
             have HFR6 : Hid (Fr (· = pb) wm W6) := hid (by
              rw [hW6];exact (((HFD.out.trans HF5.out).setA ⟨wm.heap.size, 4, none⟩ _ (.inr (Nat.le_refl _))).setA ⟨pb, 2, none⟩ _ (.inl rfl)))
             have HX6 : Hid (PaAt W6 pb { x5 with deep := x.deep }) := hid (by
              rw [hW6];exact PaAt.set2 (blk_set_ne _ _ HX5.out (fun e => hnpb e.symm)) x.deep)
             have HST6 := hid (HGM.out.pstep HFR6.out HX6.out);obtain ⟨Sn, vsn, hrow5, hns5, hS5⟩ := HG5.out.all;have HSN5 := hid hS5;have hsz5 : wd.heap.size ≤ w5.heap.size := HF5.out.size;have hnbd : wm.heap.size < wd.heap.size := blk_lt HND.out.1;have hpld : pb < wd.heap.size := blk_lt HSTD.out.tm;have hobd : w0.heap.size + 1 < wd.heap.size := HSTD.out.obl
             have hlod : w0.heap.size ≤ wd.heap.size := HSTD.out.fr.size;have hs6 : W6.heap.size = w5.heap.size := by rw [hW6]; simp [World.setCell]
             have HS6 := hid hs6
             have HKP : Hid (Keep Sn w5 W6) := hid (fun k hk => by
              have h := HSN5.out k hk;rw [hW6, Below.heap_setCell _ _ _ _ (show k ≠ pb from h.2), Below.heap_setCell _ _ _ _ (show k ≠ wm.heap.size by have := h.1.1; omega)])
             have HNB6 : Hid (W6.heap[wm.heap.size]? = some (.cells #[.int .i64 ((4 : Nat) : Int), .string bd, .bool false, .string ⟨#[]⟩, .slice (some ⟨g5, 0, none⟩) kids.length c5] 38 (0, 0))) := hid (by
              rw [hW6];exact blk_set_ne _ _ (blk_set _ HN5.out.1) hnpb)
             have HNAT : Hid (NAt W6 Sn (.mk 4 (L bd) false (L ⟨#[]⟩) kids) [.int .i64 ((4 : Nat) : Int), .string bd, .bool false, .string ⟨#[]⟩, .slice (some ⟨g5, 0, none⟩) kids.length c5]) := hid (by
              unfold NAt;exact ⟨bd, ⟨#[]⟩, _, vsn, rfl, rfl, rfl, hrow5.keep HKP.out (fun _ h => h), NsAt.keep HKP.out (fun _ h => h) _ _ hns5⟩)
             have HSNN : Hid (∀ k, Sn k → (w0.heap.size ≤ k ∧ k < W6.heap.size) ∧ k ≠ g1 ∧ ¬ (fun k => k = pb ∨ k = w0.heap.size + 1) k) := hid (fun k hk => by
              have h := HSN5.out k hk
              have hg1d : g1 < wd.heap.size := by
               obtain ⟨S', vs', h1', -⟩ := HSTD.out.got.out;exact ownsRow_blk h1' rfl
              rw [HS6.out];refine ⟨⟨by omega, h.1.2⟩, by omega, ?_⟩;rintro (e | e)
              · exact h.2 e
              · omega)
             obtain ⟨nd9, hnd9⟩ : ∃ nd9, nd9 = Mu.Node.mk 4 (L bd) false (L ⟨#[]⟩) kids := ⟨_, rfl⟩
             rw [← hnd9] at HNAT;have HND9 := hid hnd9;have HW6 := hid hW6;clear hnd9 hrow5 hns5 hS5 n4 nf4 n2' nf2 hs6;rw [← hW6];clear hW6
             refine pt_r38 (w0.heap.size + 1) w0.heap.size g1 c1 ns1 W6 (fun k => k = pb ∨ k = w0.heap.size + 1) wm.heap.size 4 bd ⟨#[]⟩ false (some ⟨g5, 0, none⟩) kids.length c5 nd9 Sn HNB6.out HNAT.out HSNN.out (hid HST6.out.got) HST6.out.cell (.inr rfl) HST6.out.fr.size HST6.out.ownl (by omega) _ _ _ _ _ _ _ _ _ _ _ _ _ _ _ _ _ _ _ _ _ _ _ _ _ _ _ _ _ _ _ _ _ _ _ _ _ _ _ _ _ _ _ _ _ _ _ _ _ _ _ _ _ _ _ _ _ _ _ _ _ _ _ _ _ _ _ _ _ _ _ _ _ _ _ _ _ _ _ _ _ _ _ _ _ _ _ _ _ _ _ _ _ _ _ _ _ _ _ _ _ _ _ _ _ _ _ _ _ _ _ _ _ _ _ _ _ _ _ _ _ _ _ _ _ _ _ _ _ _ _ _ _ _ _ _ _ _ _ _ _ _ _ _ _ _ _ _ _ _ _ _ _ _ _ _ _ _ _ _ _ _ _ _ _ _ _ _ _ _ _ _ _ _ _ _ _ _ _ _ _ _ _ _ _ _ _ _ _ _ _ _ _ _ _ _ _ _ _ _ _ _ _ _ _ _ _ _ _ _ _ _ _ _ _ _ _ _ _ _ _ _ _ _ _ _ _ _ _ _ _ _ _ _ _ _ _ _ _ _ _ _ _ _ _ _ _ _ _ _ _ _ _ _ _ _ _ _ _ _ _ _ _ _ _ _ _ _ _ _ ?_
             intro u240 u241 u242 u243 u244 u245 v9 w9 ha;have HST9 := hid (HST6.out.add ha)
             have HNEXT : Hid (PtInv w0 pb (w0.heap.size + 1) x0 R (L nm) g w9 { x5 with deep := x.deep } v9 (ns1 ++ [nd9])) := hid (by
              have h := HST9.out;rw [HNS1.out, List.append_assoc] at h ⊢
              exact HI.out.next HBAD.out h HXS5.out HP5.out (by have := HINV.out.1; show x.p < x5.p; omega) (by rw [List.length_append]; have := HTX2.out; simp; omega) rfl (by
               have hb : Mu.back (stOf x5) = stOf { x5 with deep := x.deep } := by
                unfold Mu.back;have h1 : (stOf x5).deep - 1 = x.deep := by show x5.deep - 1 = x.deep; rw [HINV.out.2]; rfl
                rw [h1]; rfl
               have hk := HKIDS.out;have h5 := HS5.out;rw [HX4.out.1, HBD.out] at hk h5;rw [Mu.parts_35 (st := stOf x) HBAD.out HN.out (by rw [HK.out]; decide), HQ35.out, ← h5, hb, ← hk, List.append_assoc, HND9.out, HBD.out, HK.out]; rfl))
             clear ha;go_wp2_with fail
             go_roundg g
             case rel => exact ⟨{ x5 with deep := x.deep }, v9, ns1 ++ [nd9], by omega, HNEXT⟩
             case measure => omega
       by_cases k62 : t.kind = 62
       · as_aux_lemma =>
          have b33 : ((t.kind.toNat : Int) == 33) = false := byte_isnt (b := 33) k33;have b61 : ((t.kind.toNat : Int) == 61) = false := byte_isnt (b := 61) k61;have b47 : ((t.kind.toNat : Int) == 47) = false := byte_isnt (b := 47) k47;have b35 : ((t.kind.toNat : Int) == 35) = false := byte_isnt (b := 35) (fun h => k3594 (.inl h))
          have b94 : ((t.kind.toNat : Int) == 94) = false := byte_isnt (b := 94) (fun h => k3594 (.inr h));have b62 : ((t.kind.toNat : Int) == 62) = true := byte_is (b := 62) k62;have HK := hid k62;clear k33 k61 k47 k3594 k62;obtain ⟨-, -, -, -, -, j5⟩ := HST8.out.tm.cells;have jf5 := HST8.out.tm.free 5;rw [HX2.out.2.2.2.2.2] at j5
          go_upto_region 40 with fail
          go_cut [] (fun wr => Hid (PtSt w0 wr pb (w0.heap.size + 1) { x2 with bad := fl || !Mu.wordOk (L bd) } (.slice (some ⟨g1, 0, none⟩) ns1.length c1) ns1 ∧ PBlk wr pb (w0.heap.size + 1) (.slice (some ⟨g1, 0, none⟩) ns1.length c1) w1.heap.size (.cells #[.int .u8 t.kind.toNat, .string bd, .int .i64 t.at0, .int .i64 t.to] 111 (0, 0))))
          case first =>
           as_aux_lemma =>
            cases fl with
            | true =>
             go_wp2_with fail
             go_meet
             case rel => exact hid ⟨HST8.out.pstep ((Fr.refl (· = pb) _).setA ⟨pb, 5, none⟩ (.bool true) (.inl rfl)) (HST8.out.tm.set5 true), HTB8.out.pstep ((Fr.refl (· = pb) _).setA ⟨pb, 5, none⟩ (.bool true) (.inl rfl))⟩
            | false =>
             cases hok : Mu.wordOk (L bd) with
             | true =>
              have HOK := hid hok;clear hok;go_wp2_with fail;refine (wordOk_any bd _ (by omega)).mono ?_;intro e w5 hpost;rw [HOK.out] at hpost;obtain ⟨rfl, hf5⟩ := hpost;have HF5 : Hid (F0 wk w5) := hid (by first | exact hf5 | (rw [← hf5]; exact Fr.refl _ _));have HST81 := hid (HST8.out.step0 HF5.out);have HTB81 := hid (HTB8.out.step0 HF5.out)
              have jj5 := HST81.out.tm.cells.2.2.2.2.2;have jjf := HST81.out.tm.free 5;have hpl81 : pb < w5.heap.size := blk_lt HST81.out.tm;rw [HX2.out.2.2.2.2.2] at jj5;clear hf5;go_wp2_with fail
              go_meet
              case rel => exact hid ⟨HST81.out.pstep ((Fr.refl (· = pb) _).setA ⟨pb, 5, none⟩ (.bool false) (.inl rfl)) (HST81.out.tm.set5' (show false = (false || !Mu.wordOk (L bd)) by rw [HOK.out]; rfl)), HTB81.out.pstep ((Fr.refl (· = pb) _).setA ⟨pb, 5, none⟩ (.bool false) (.inl rfl))⟩
             | false =>
              have HOK := hid hok;clear hok;go_wp2_with fail;refine (wordOk_any bd _ (by omega)).mono ?_;intro e w5 hpost;rw [HOK.out] at hpost;obtain ⟨rfl, hf5⟩ := hpost;have HF5 : Hid (F0 wk w5) := hid (by first | exact hf5 | (rw [← hf5]; exact Fr.refl _ _));have HST81 := hid (HST8.out.step0 HF5.out);have HTB81 := hid (HTB8.out.step0 HF5.out)
              have jj5 := HST81.out.tm.cells.2.2.2.2.2;have jjf := HST81.out.tm.free 5;have hpl81 : pb < w5.heap.size := blk_lt HST81.out.tm;rw [HX2.out.2.2.2.2.2] at jj5;clear hf5;go_wp2_with fail
              go_meet
              case rel => exact hid ⟨HST81.out.pstep ((Fr.refl (· = pb) _).setA ⟨pb, 5, none⟩ (.bool true) (.inl rfl)) (HST81.out.tm.set5' (show true = (false || !Mu.wordOk (L bd)) by rw [HOK.out]; rfl)), HTB81.out.pstep ((Fr.refl (· = pb) _).setA ⟨pb, 5, none⟩ (.bool true) (.inl rfl))⟩
          obtain ⟨wm, hwm⟩ : ∃ wm : World, wm = wc := ⟨_, rfl⟩
          have HSTM := hid hcut.out.1;have HTBM := hid hcut.out.2;clear hcut j5 jf5 t0 t1;rw [← hwm] at HSTM HTBM ⊢;clear hwm
          go_upto_region 41 with fail
          refine pt_r41 (w0.heap.size + 1) w0.heap.size g1 c1 ns1 wm (fun k => k = pb ∨ k = w0.heap.size + 1) w1.heap.size t.kind bd t.at0 t.to HTBM.out.1 (x.s.extract fr t.at0) (hid HSTM.out.got) HSTM.out.cell (.inr rfl) HSTM.out.fr.size HSTM.out.ownl (by omega) _ _ _ _ _ _ _ _ _ _ _ _ _ _ _ _ _ _ _ _ _ _ _ _ _ _ _ _ _ _ _ _ _ _ _ _ _ _ _ _ _ _ _ _ _ _ _ _ _ _ _ _ _ _ _ _ _ _ _ _ _ _ _ _ _ _ _ _ _ _ _ _ _ _ _ _ _ _ _ _ _ _ _ _ _ _ _ _ _ _ _ _ _ _ _ _ _ _ _ _ _ _ _ _ _ _ _ _ _ _ _ _ _ _ _ _ _ _ _ _ _ _ _ _ _ _ _ _ _ _ _ _ _ _ _ _ _ _ _ _ _ _ _ _ _ _ _ _ _ _ _ _ _ _ _ _ _ _ _ _ _ _ _ _ _ _ _ _ _ _ _ _ _ _ _ _ _ _ _ _ _ _ _ _ _ _ _ _ _ _ _ _ _ _ _ _ _ _ _ _ _ _ _ _ _ _ _ _ _ _ _ _ _ _ _ _ _ _ _ _ _ _ _ _ _ _ _ _ _ _ _ _ _ _ _ _ _ _ _ _ _ _ _ _ _ _ _ _ _ _ _ _ _ _ _ _ _ _ _ _ _ _ _ _ _ _ _ _ _ ?_
          intro u261 u262 u263 u264 u265 u266 u267 u268 u269 v9 w9 ha;have HST9 := hid (HSTM.out.add ha);obtain ⟨nd9, hnd9⟩ : ∃ nd9, nd9 = Mu.Node.mk 5 (L bd) false (L (x.s.extract fr t.at0)) [] := ⟨_, rfl⟩
          rw [← hnd9] at HST9;have HND9 : Hid (nd9 = Mu.Node.mk 5 t.body false (Mu.sub (L x.s) (Mu.frOf (L x.s) t (stOf x).pos) t.at0) []) := hid (by rw [hnd9, HBD.out, L_extract, HFRE.out]; rfl);clear hnd9
          have HNEXT : Hid (PtInv w0 pb (w0.heap.size + 1) x0 R (L nm) g w9 { x2 with bad := fl || !Mu.wordOk (L bd) } v9 (ns1 ++ [nd9])) := hid (by
           have h := HST9.out;rw [HNS1.out, List.append_assoc] at h ⊢
           exact HI.out.next HBAD.out h HX2.out.1 HPOS.out (by rw [HX2.out.2.1]; exact hlt2) (by rw [List.length_append]; have := HTX2.out; simp; omega) HX2.out.2.2.1 (by
            have hq : Mu.st62 (L x.s) t (stOf x) = stOf { x2 with bad := fl || !Mu.wordOk (L bd) } := by
             unfold Mu.st62;rw [← HSTQ.out, HBD.out, ← HX2.out.2.2.2.2.2]; rfl
            rw [Mu.parts_62 (st := stOf x) HBAD.out HN.out HK.out, hq, List.append_assoc, HND9.out]; rfl))
          clear ha;go_wp2_with fail
          go_roundg g
          case rel => exact ⟨{ x2 with bad := fl || !Mu.wordOk (L bd) }, v9, ns1 ++ [nd9], by omega, HNEXT⟩
          case measure => omega
       have b33 : ((t.kind.toNat : Int) == 33) = false := byte_isnt (b := 33) k33;have b61 : ((t.kind.toNat : Int) == 61) = false := byte_isnt (b := 61) k61;have b47 : ((t.kind.toNat : Int) == 47) = false := byte_isnt (b := 47) k47;have b35 : ((t.kind.toNat : Int) == 35) = false := byte_isnt (b := 35) (fun h => k3594 (.inl h))
       have b94 : ((t.kind.toNat : Int) == 94) = false := byte_isnt (b := 94) (fun h => k3594 (.inr h));have b62 : ((t.kind.toNat : Int) == 62) = false := byte_isnt (b := 62) k62
       have hkk : ¬ Mu.kinded t.kind := by
        rintro ⟨a, b, c⟩;obtain ⟨a2', en', F⟩ := Mu.snext_some HN.out
        rcases (Mu.kind_isKind F) with h | h
        · exact a h
        · rcases Mu.isKind_cases h with h | h | h | h | h | h | h | h
          · exact k3594 (.inl h)
          · exact k3594 (.inr h)
          · exact k47 h
          · exact k33 h
          · exact k62 h
          · exact b h
          · exact k61 h
          · exact c h
       have HK := hid hkk;clear k33 k61 k47 k3594 k62 hkk;obtain ⟨-, -, -, -, -, j5⟩ := HST8.out.tm.cells;have jf5 := HST8.out.tm.free 5;rw [HX2.out.2.2.2.2.2] at j5
       as_aux_lemma =>
       go_upto_region 18 with fail
       go_cut [] (fun wr => Hid (PtSt w0 wr pb (w0.heap.size + 1) { x2 with bad := fl || !Mu.nameOk (L bd) } (.slice (some ⟨g1, 0, none⟩) ns1.length c1) ns1 ∧ PBlk wr pb (w0.heap.size + 1) (.slice (some ⟨g1, 0, none⟩) ns1.length c1) w1.heap.size (.cells #[.int .u8 t.kind.toNat, .string bd, .int .i64 t.at0, .int .i64 t.to] 111 (0, 0))))
       case first =>
        as_aux_lemma =>
         cases fl with
         | true =>
          go_wp2_with fail
          go_meet
          case rel => exact hid ⟨HST8.out.pstep ((Fr.refl (· = pb) _).setA ⟨pb, 5, none⟩ (.bool true) (.inl rfl)) (HST8.out.tm.set5 true), HTB8.out.pstep ((Fr.refl (· = pb) _).setA ⟨pb, 5, none⟩ (.bool true) (.inl rfl))⟩
         | false =>
          cases hok : Mu.nameOk (L bd) with
          | true =>
           have HOK := hid hok;clear hok;go_wp2_with fail;refine (nameOk_any bd _ (by omega)).mono ?_;intro e w5 hpost;rw [HOK.out] at hpost;obtain ⟨rfl, hf5⟩ := hpost;have HF5 : Hid (F0 wk w5) := hid (by first | exact hf5 | (rw [← hf5]; exact Fr.refl _ _));have HST81 := hid (HST8.out.step0 HF5.out);have HTB81 := hid (HTB8.out.step0 HF5.out);have jj5 := HST81.out.tm.cells.2.2.2.2.2
           have jjf := HST81.out.tm.free 5;have hpl81 : pb < w5.heap.size := blk_lt HST81.out.tm;rw [HX2.out.2.2.2.2.2] at jj5;clear hf5;go_wp2_with fail
           go_meet
           case rel => exact hid ⟨HST81.out.pstep ((Fr.refl (· = pb) _).setA ⟨pb, 5, none⟩ (.bool false) (.inl rfl)) (HST81.out.tm.set5' (show false = (false || !Mu.nameOk (L bd)) by rw [HOK.out]; rfl)), HTB81.out.pstep ((Fr.refl (· = pb) _).setA ⟨pb, 5, none⟩ (.bool false) (.inl rfl))⟩
          | false =>
           have HOK := hid hok;clear hok;go_wp2_with fail;refine (nameOk_any bd _ (by omega)).mono ?_;intro e w5 hpost;rw [HOK.out] at hpost;obtain ⟨rfl, hf5⟩ := hpost;have HF5 : Hid (F0 wk w5) := hid (by first | exact hf5 | (rw [← hf5]; exact Fr.refl _ _));have HST81 := hid (HST8.out.step0 HF5.out);have HTB81 := hid (HTB8.out.step0 HF5.out);have jj5 := HST81.out.tm.cells.2.2.2.2.2
           have jjf := HST81.out.tm.free 5;have hpl81 : pb < w5.heap.size := blk_lt HST81.out.tm;rw [HX2.out.2.2.2.2.2] at jj5;clear hf5;go_wp2_with fail
           go_meet
           case rel => exact hid ⟨HST81.out.pstep ((Fr.refl (· = pb) _).setA ⟨pb, 5, none⟩ (.bool true) (.inl rfl)) (HST81.out.tm.set5' (show true = (false || !Mu.nameOk (L bd)) by rw [HOK.out]; rfl)), HTB81.out.pstep ((Fr.refl (· = pb) _).setA ⟨pb, 5, none⟩ (.bool true) (.inl rfl))⟩
       obtain ⟨wm, hwm⟩ : ∃ wm : World, wm = wc := ⟨_, rfl⟩
       have HSTM := hid hcut.out.1;have HTBM := hid hcut.out.2;clear hcut j5 jf5 t0 t1;rw [← hwm] at HSTM HTBM ⊢;clear hwm
       as_aux_lemma =>
       go_upto_region 19 with fail
       refine pt_r19 (w0.heap.size + 1) w0.heap.size g1 c1 ns1 wm (fun k => k = pb ∨ k = w0.heap.size + 1) w1.heap.size t.kind bd t.at0 t.to HTBM.out.1 (hid HSTM.out.got) HSTM.out.cell (.inr rfl) HSTM.out.fr.size HSTM.out.ownl (by omega) _ _ _ _ _ _ _ _ _ _ _ _ _ _ _ _ _ _ _ _ _ _ _ _ _ _ _ _ _ _ _ _ _ _ _ _ _ _ _ _ _ _ _ _ _ _ _ _ _ _ _ _ _ _ _ _ _ _ _ _ _ _ _ _ _ _ _ _ _ _ _ _ _ _ _ _ _ _ _ _ _ _ _ _ _ _ _ _ _ _ _ _ _ _ _ _ _ _ _ _ _ _ _ _ _ _ _ _ _ _ _ _ _ _ _ _ _ _ _ _ _ _ _ _ _ _ _ _ _ _ _ _ _ _ _ _ _ _ _ _ _ _ _ _ _ _ _ _ _ _ _ _ _ _ _ _ _ _ _ _ _ _ _ _ _ _ _ _ _ _ _ _ _ _ _ _ _ _ _ _ _ _ _ _ _ _ _ _ _ _ _ _ _ _ _ _ _ _ _ _ _ _ _ _ _ _ _ _ _ _ _ _ _ _ _ _ _ _ _ _ _ _ _ _ _ _ _ _ _ _ _ _ _ _ _ _ _ _ _ _ _ _ _ _ _ _ _ _ _ _ _ _ _ _ _ _ _ _ _ _ _ _ _ _ _ _ _ _ _ _ ?_
       intro u133 u134 u135 u136 u137 u138 u139 u140 u141 u142 u143 v9 w9 ha;have HST9 := hid (HSTM.out.add ha);obtain ⟨nd9, hnd9⟩ : ∃ nd9, nd9 = Mu.Node.mk 2 (L bd) ((t.kind.toNat : Int) != 0) (L ⟨#[]⟩) [] := ⟨_, rfl⟩
       rw [← hnd9] at HST9
       have HND9 : Hid (nd9 = Mu.Node.mk 2 t.body (!(t.kind == 0)) [] []) := hid (by
        rw [hnd9, HBD.out, bne, show ((t.kind.toNat : Int) == 0) = (t.kind == 0) from byte_beq0 t.kind 0]; rfl)
       clear hnd9
       have HNEXT : Hid (PtInv w0 pb (w0.heap.size + 1) x0 R (L nm) g w9 { x2 with bad := fl || !Mu.nameOk (L bd) } v9 (ns1 ++ [nd9])) := hid (by
        have h := HST9.out;rw [HNS1.out, List.append_assoc] at h ⊢
        exact HI.out.next HBAD.out h HX2.out.1 HPOS.out (by rw [HX2.out.2.1]; exact hlt2) (by rw [List.length_append]; have := HTX2.out; simp; omega) HX2.out.2.2.1 (by
         have hq : Mu.st2 (L x.s) t (stOf x) = stOf { x2 with bad := fl || !Mu.nameOk (L bd) } := by
          unfold Mu.st2;rw [← HSTQ.out, HBD.out, ← HX2.out.2.2.2.2.2]; rfl
         rw [Mu.parts_var (st := stOf x) HBAD.out HN.out HK.out, hq, List.append_assoc, HND9.out]; rfl))
       clear ha;go_wp2_with fail
       go_roundg g
       case rel => exact ⟨{ x2 with bad := fl || !Mu.nameOk (L bd) }, v9, ns1 ++ [nd9], by omega, HNEXT⟩
       case measure => omega
end Go.Proofs.YtfakghnpkdoclaaGreatDoor
