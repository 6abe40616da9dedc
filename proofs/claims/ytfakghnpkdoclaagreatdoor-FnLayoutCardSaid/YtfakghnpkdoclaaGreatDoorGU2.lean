/-
  The specification's partial. (Joined by wip/pack.py.)
-/
import Derived.Test.YtfakghnpkdoclaaGreatDoorGU1
set_option linter.unusedVariables false
set_option linter.unusedSimpArgs false
set_option maxRecDepth 100000
set_option maxHeartbeats 8000000
namespace Go.Proofs.YtfakghnpkdoclaaGreatDoor
open Go.RowKit
open Go.Lib (hid)
theorem partOf_all (ps : List (ByteArray × ByteArray)) (hps : ∀ p ∈ ps, p.2.size ≤ 400 ∧ Mu.signs (L p.2)) (n : Mu.B) : Mu.signs (Mu.partOf (pL ps) n) ∧ (Mu.partOf (pL ps) n).length ≤ 400 := by
 unfold Mu.partOf
 cases hf : (pL ps).reverse.find? (fun p => p.1 == n) with
 | none => exact ⟨(fun _ h => by cases h), Nat.zero_le _⟩
 | some p =>
  have hm := List.mem_of_find?_eq_some hf;rw [List.mem_reverse] at hm;obtain ⟨q, hq, rfl⟩ := List.mem_map.1 hm;exact ⟨(hps q hq).2, (hps q hq).1⟩
theorem partial_any (K r T : Nat) (pv : Value) (ps : List (ByteArray × ByteArray)) (raw : Bool) (n : Nat) (hpl : ps.length ≤ 2147483647) (hps : ∀ p ∈ ps, p.2.size ≤ 400 ∧ Mu.signs (L p.2)) (HRC : RnC K r T pv ps raw n) : NdC 59 (· = 5) K r T pv ps raw n := by
 intro D kd tb ib nraw kids ka kc stack sv st w hk5 hD hno hkz hnk hst hsl hpv hru hfew hfu
 obtain ⟨pa, pc, hpvf⟩ : ∃ pa pc, pv = .slice pa ps.length pc := by
  obtain ⟨a, c, h1, -⟩ := hpv.ps;exact ⟨a, c, h1⟩
 subst hpvf
 obtain ⟨i0, hi, hz1, hz2, hz3⟩ := info_parts infoU8
 have hb : w.heap[r]? = some (.cells #[.slice pa ps.length pc, .bool raw, .bool false, .bool st.missing, .int .i64 (st.pieces : Nat), .int .i64 (st.asked : Nat)] 54 (0, 0)) := hru
 simp only [Mu.NOk] at hno
 have hinds := hno.2.1 hk5
 have hibs : ib.size ≤ D := by rw [← L_length]; exact hinds.2
 have c0 := blk_cell hb 0
 have c5 := blk_cell hb 5
 have f5 := blk_free hb 5
 have hl := blk_lt hb
 simp only [List.getElem?_toArray, List.getElem?_cons_zero, List.getElem?_cons_succ] at c0 c5
 have hfa := hfew.2
 have hfp := hfew.1
 have hwa : IntKind.i64.wrap ((st.asked : Int) + 1) = (st.asked : Int) + 1 := by rw [IntKind.wrap_i64]; omega
 obtain ⟨nb, hnb⟩ : ∃ nb, nb = w.heap.size := ⟨_, rfl⟩
 obtain ⟨wA, hwA⟩ : ∃ wA, wA = (w.setCell ⟨r, 5, none⟩ (.int .i64 ((st.asked : Int) + 1))).alloc (.cells #[.int .i64 (kd : Nat), .string tb, .bool nraw, .string ib, .slice ka kids.length kc] 38) := ⟨_, rfl⟩
 have hsz : (w.setCell ⟨r, 5, none⟩ (.int .i64 ((st.asked : Int) + 1))).heap.size = w.heap.size := by simp [World.setCell]
 obtain ⟨st2, hst2⟩ : ∃ st2 : Mu.RS, st2 = { st with asked := st.asked + 1 } := ⟨_, rfl⟩
 have HRA : Hid (wA.heap[r]? = some (.cells #[.slice pa ps.length pc, .bool raw, .bool false, .bool st2.missing, .int .i64 (st2.pieces : Nat), .int .i64 (st2.asked : Nat)] 54 (0, 0))) := hid (by
  rw [hwA, hst2];have := blk_alloc (.cells #[.int .i64 (kd : Nat), .string tb, .bool nraw, .string ib, .slice ka kids.length kc] 38) (blk_set (i := 5) (.int .i64 ((st.asked : Int) + 1)) hb);simpa using this)
 have HNA : Hid (wA.heap[nb]? = some (.cells #[.int .i64 (kd : Nat), .string tb, .bool nraw, .string ib, .slice ka kids.length kc] 38 (0, 0))) := hid (by
  rw [hwA, hnb, ← hsz]; exact blk_new _ _)
 have HFA : Hid (Fr (· = r) w wA) := hid (by rw [hwA]; exact ((Fr.refl (· = r) w).setA ⟨r, 5, none⟩ _ (.inl rfl)).allocA _)
 have HWA : Hid (wA = (w.setCell ⟨r, 5, none⟩ (.int .i64 ((st.asked : Int) + 1))).alloc (.cells #[.int .i64 (kd : Nat), .string tb, .bool nraw, .string ib, .slice ka kids.length kc] 38) ∧ nb = w.heap.size) := hid ⟨hwA, hnb⟩
 have HS2 : Hid (st2 = { st with asked := st.asked + 1 }) := hid hst2
 have HPS := hid hpv.ps
 have HPV := hid hpv
 have HST := hid hst
 have HPA := hid (partOf_all ps hps (L tb))
 have HIN := hid hinds
 have HEND : Hid (∀ (sx : ByteArray) (w5 : World), L sx = Mu.indL (L ib) true (Mu.partOf (pL ps) (L tb)) → Fr (· = r) w w5 → w5.heap[r]? = some (.cells #[.slice pa ps.length pc, .bool raw, .bool false, .bool st2.missing, .int .i64 (st2.pieces : Nat), .int .i64 (st2.asked : Nat)] 54 (0, 0)) →
  ∀ (w6 w7 : World) (v : Value), F0 w5 w6 → NodesAt w6 w5.heap.size v (Mu.parse (L sx)).1 → w7 = w6.setCell ⟨r, 2, none⟩ (.bool (!(Mu.parse (L sx)).2)) →
  Calls Tryz.prog 32 #[.pointer (some ⟨r, 0, none⟩), v, sv] w7 (RnPost K r (.slice pa ps.length pc) raw (some st) (Mu.sNode (pL ps) raw (Mu.srender (pL ps) raw n) stack (.mk kd (L tb) nraw (L ib) kids) st) w)) := hid (fun sx w5 hsx hf5 hb5 w6 w7 v hf6 hnv hw7 => by
  have hsg : Mu.signs (L sx) := by rw [hsx]; exact Mu.indL_signs HIN.out.1 HPA.out.1 true
  have hln : (L sx).length ≤ 400 * (D + 1) := by
   rw [hsx];refine Nat.le_trans (Mu.indL_length _ _ _) (Nat.mul_le_mul HPA.out.2 (by have := HIN.out.2; omega))
  have hro : Mu.RunOk (L sx) (D + 400) := by rw [hsx]; exact Mu.RunOk.indL true (by have := HIN.out.2; have := HPA.out.2; omega)
  have hq : Mu.sNode (pL ps) raw (Mu.srender (pL ps) raw n) stack (.mk kd (L tb) nraw (L ib) kids) st = if (Mu.parse (L sx)).2 then Mu.srender (pL ps) raw n (Mu.parse (L sx)).1 stack st2 else none := by
   rw [hk5, hsx, HS2.out]; rfl
  have hb6 := hf6.blk hb5 id
  have hb7 : w7.heap[r]? = some (.cells #[.slice pa ps.length pc, .bool raw, .bool (!(Mu.parse (L sx)).2), .bool st2.missing, .int .i64 (st2.pieces : Nat), .int .i64 (st2.asked : Nat)] 54 (0, 0)) := by
   rw [hw7];have := blk_set (i := 2) (.bool (!(Mu.parse (L sx)).2)) hb6;simpa using this
  have hf67 : Fr (· = r) w6 w7 := by rw [hw7]; exact (Fr.refl (· = r) w6).setA ⟨r, 2, none⟩ _ (.inl rfl)
  have hf7 : Fr (· = r) w w7 := (hf5.trans0 hf6).trans hf67;have hlt5 := blk_lt hb5
  have hnd : NdAt w7 r v (Mu.parse (L sx)).1 := by
   obtain ⟨S, vs, h1, h2, h3⟩ := hnv;exact NdAt.fr ⟨S, vs, h1, h2, fun k hk => ⟨(h3 k hk).2, by have := (h3 k hk).1; omega⟩⟩ hf67
  have hnz : nszL (Mu.parse (L sx)).1 ≤ 85899346000 := by have := parse_nsz (L sx); omega
  rw [hq]
  cases hp : (Mu.parse (L sx)).2 with
  | true =>
   rw [hp] at hb7;have h1 := HRC (D + 400) (Mu.parse (L sx)).1 stack v sv st2 w7 (by omega) (Mu.parse_nok hsg (by omega) hro hp) hnz hnd (HST.out.fr hf7) (by omega) (HPV.out.fr hf7) hb7 (by rw [HS2.out]; exact hfp) (by rw [HS2.out]; exact hfu) (by rw [HS2.out]; show st.asked + 1 ≤ 41; omega);refine h1.mono ?_;rintro e w8 ⟨o, rfl, HO⟩
   refine ⟨o, rfl, hid ⟨HO.out.1, HO.out.2.1, ?_, hf7.trans HO.out.2.2.2⟩⟩;have h2 := HO.out.2.2.1;have h3 : Mu.Pc (some st2) = Mu.Pc (some st) := by rw [HS2.out]; rfl
   rw [h3] at h2;exact h2
  | false =>
   rw [hp] at hb7;have h1 := render_open K r (.slice pa ps.length pc) raw (Mu.parse (L sx)).1 v sv w7 (by have := len_nsz (Mu.parse (L sx)).1; omega) hnd ⟨_, _, _, hb7⟩;refine h1.mono ?_;rintro e w8 ⟨o, rfl, HO⟩;refine ⟨o, rfl, hid ⟨HO.out.1, (fun _ h => by cases h), ?_, hf7.trans HO.out.2.2.2⟩⟩;have h2 := HO.out.2.2.1;show o.size + K * st.pieces ≤ K * 1001
   have h3 : o.size + K * 1001 ≤ K * 1001 := h2;have h4 : K * st.pieces ≤ K * 1001 := Nat.mul_le_mul_left _ (by omega)
   omega)
 clear hno hnk hst hpv hru hb hfew hps hwA hnb hst2 hsz hinds hk5
 go_enter Tryz.func59, Tryz.ntmps59
 go_wp2_with fail
 rw [← HWA.out.1, ← HWA.out.2]
 go_loopg [7, 26] ps.length (fun g v7 v26 wr => ∃ (j : Nat) (tx : ByteArray), v26 = .int .i64 j ∧ v7 = .string tx ∧ j ≤ ps.length ∧ g = ps.length - j ∧ Hid (F0 wA wr ∧ L tx = Mu.partOf (pL (ps.take j)) (L tb)))
 case atStart => exact ⟨0, _, rfl, rfl, Nat.zero_le _, rfl, hid ⟨Fr.refl _ _, rfl⟩⟩
 case round =>
  obtain ⟨j, tx, rfl, rfl, hj, rfl, HJ⟩ := hrel;have hnb2 := HJ.out.1.blk HNA.out id;have q1 := blk_cell hnb2 1;have q3 := blk_cell hnb2 3;have hl2 := blk_lt hnb2;simp only [List.getElem?_toArray, List.getElem?_cons_zero, List.getElem?_cons_succ] at q1 q3;clear hnb2
  by_cases hjl : j < ps.length
  · obtain ⟨pb, po, pn, pt, rfl, hpe, c0, c1, hpb⟩ := (HPV.out.fr (HFA.out.trans0 HJ.out.1)).ps.at hjl
    have HST2 : Hid (Mu.partOf (pL (ps.take (j + 1))) (L tb) = if L pn = L tb then L pt else Mu.partOf (pL (ps.take j)) (L tb)) := hid (by
     rw [pL_take hjl, partOf_snoc, hpe])
    clear hpe
    by_cases hq : L pn = L tb
    · have q2 : (pn.toList == tb.toList) = true := by rw [beq_iff_eq, ByteArray.toList_eq, ByteArray.toList_eq]; exact hq
      have HN : Hid (L pt = Mu.partOf (pL (ps.take (j + 1))) (L tb)) := hid (by rw [HST2.out, if_pos hq]);clear hq;go_wp2_with fail
      go_roundg (ps.length - (j + 1))
      case rel => exact ⟨j + 1, _, by go_num, rfl, by omega, rfl, hid ⟨HJ.out.1.allocA _, HN.out⟩⟩
      case measure => omega
    · have q2 : (pn.toList == tb.toList) = false := by rw [beq_eq_false_iff_ne, ByteArray.toList_eq, ByteArray.toList_eq]; exact hq
      have HN : Hid (L tx = Mu.partOf (pL (ps.take (j + 1))) (L tb)) := hid (by rw [HST2.out, if_neg hq, HJ.out.2]);clear hq;go_wp2_with fail
      go_roundg (ps.length - (j + 1))
      case rel => exact ⟨j + 1, _, by go_num, rfl, by omega, rfl, hid ⟨HJ.out.1.allocA _, HN.out⟩⟩
      case measure => omega
  · have HTX : Hid (L tx = Mu.partOf (pL ps) (L tb)) := hid (by rw [HJ.out.2, List.take_of_length_le (by omega)])
    have htx : tx.size ≤ 400 := by
     have := HPA.out.2;rw [← HTX.out, L_length] at this;exact this
    have HFW : Hid (Fr (· = r) w wr) := hid (HFA.out.trans0 HJ.out.1);have HRW := hid (HJ.out.1.blk HRA.out id)
    by_cases hib : ib.size = 0
    · have p3 : (ib.toList == []) = true := by rw [beq_iff_eq, ByteArray.toList_eq]; exact List.length_eq_zero_iff.1 hib
      have p4 : ib.toList = [] := by simpa using p3
      have HSX : Hid (L tx = Mu.indL (L ib) true (Mu.partOf (pL ps) (L tb))) := hid (by
       have : L ib = [] := List.length_eq_zero_iff.1 hib;rw [this, Mu.indL_nil]; exact HTX.out)
      have HGO := hid (HEND.out tx wr HSX.out HFW.out HRW.out);clear hib;go_wp2_with fail;have HRW5 := HRW;refine (parse_spec tx _ (by omega)).mono ?_;rintro e w6 ⟨v, rfl, hf6, hnv, -⟩;have hb6 := hf6.blk HRW5.out id;have d2 := blk_cell hb6 2;have g2 := blk_free hb6 2;have hl6 := blk_lt hb6;simp only [List.getElem?_toArray, List.getElem?_cons_zero, List.getElem?_cons_succ] at d2
      obtain ⟨ok, hok⟩ : ∃ ok, ok = (Mu.parse (L tx)).2 := ⟨_, rfl⟩
      have HGO2 : Hid (∀ b : Bool, b = !ok → Calls Tryz.prog 32 #[.pointer (some ⟨r, 0, none⟩), v, sv] (w6.setCell ⟨r, 2, none⟩ (.bool b)) (RnPost K r (.slice pa ps.length pc) raw (some st) (Mu.sNode (pL ps) raw (Mu.srender (pL ps) raw n) stack (.mk kd (L tb) nraw (L ib) kids) st) w)) := hid (fun b hb => HGO.out w6 _ v hf6 hnv (by rw [hb, hok]));rw [← hok];clear hb6 hf6 hnv hok
      cases ok with
      | true =>
       have HG3 := hid (HGO2.out false rfl);go_wp2_with fail;refine HG3.out.mono ?_;rintro e w8 ⟨o, rfl, HO⟩;go_wp2_with fail;go_ret;exact ⟨o, rfl, HO⟩
      | false =>
       have HG3 := hid (HGO2.out true rfl);go_wp2_with fail;refine HG3.out.mono ?_;rintro e w8 ⟨o, rfl, HO⟩;go_wp2_with fail;go_ret;exact ⟨o, rfl, HO⟩
    · have p3 : ib.toList.isEmpty = false := by
       rw [ByteArray.toList_eq]
       cases hh : ib.data.toList with
       | nil => exact absurd (show ib.size = 0 by have := congrArg List.length hh; simpa using this) hib
       | cons => rfl
      have p5 : (ib.toList != []) = true := by
       rw [bne_iff_ne];intro h;rw [h] at p3;cases p3
      obtain ⟨wr0, hwr0⟩ : ∃ wr0, wr0 = wr := ⟨_, rfl⟩
      subst hwr0;have hD2 : D ≤ 401600 := by omega
      clear hD hkz hsl hfu hfa hfp hwa c0 c5 f5 HRC hpl;clear hib;go_wp2_with fail
      go_loopg [10, 11] tx.size (fun g v10 v11 w4 => ∃ (k : Nat) (l : Mu.B), v11 = .int .i64 k ∧ k ≤ tx.size ∧ g = tx.size - k ∧ l.length ≤ k * (D + 2) ∧ Hid (BAt wr0 w4 v10 l ∧ l = Mu.indL (L ib) true ((L tx).take k)))
      case atStart => exact ⟨0, [], rfl, Nat.zero_le _, rfl, Nat.zero_le _, hid ⟨⟨ownsRow_new wr0 _ _, Fr.alloc _ _ _⟩, rfl⟩⟩
      case round =>
       obtain ⟨k, l, rfl, hk, rfl, hll, HI⟩ := hrel;have hbase : wr0.heap.size ≤ wr.heap.size := HI.out.1.fr.size;have hnb5 := (HJ.out.1.trans HI.out.1.fr).blk HNA.out id;have z3 := blk_cell hnb5 3;have hl5 := blk_lt hnb5;simp only [List.getElem?_toArray, List.getElem?_cons_zero, List.getElem?_cons_succ] at z3;clear hnb5
       have hkd : k * (D + 2) + D + 1 ≤ (k + 1) * (D + 2) := by rw [Nat.add_mul]; omega
       have hkm : (k + 1) * (D + 2) ≤ 401 * 402002 := Nat.mul_le_mul (by omega) (by omega);have HB1 : Hid (l.length + 1 ≤ (k + 1) * (D + 2)) := hid (by omega);have HB2 : Hid (l.length + ib.size + 1 ≤ (k + 1) * (D + 2)) := hid (by omega);have hlb : l.length + ib.size + 1 ≤ 161202802 := by omega
       clear hll hkd hkm hD2 hibs
       by_cases hlt : k < tx.size
       · by_cases h10 : tx[k] = 10
         · have q10 : ((tx[k].toNat : Int) != 10) = false := byte_lit_eq (b := 10) h10
           have HN : Hid (l ++ [tx[k]] = Mu.indL (L ib) true ((L tx).take (k + 1))) := hid (by rw [take_one tx k hlt, indL_snoc, ← HI.out.2, h10]; simp)
           cases k with
           | zero =>
            clear h10
            go_wp2_with (at_builtin; refine wpList_append_own_at _ rfl _ _ 121 rfl wr0.heap.size 5 i0 (.int .u8 0) 1 1 Tryz.underlying121 hi hz1 hz2 hz3 rfl (by decide) u10 l.length (bc l) rfl ?own ⟨_, 0, none⟩ 1 1 [.int .u8 tx[0].toNat] rfl rfl ?c1 ?c2 ?c3 ?c4 ?c5 ?_)
            case own => exact HI.out.1.own.alloc _
            case c1 => exact one_new0 _ _ _ rfl
            case c2 => intro v hv; rw [List.mem_singleton.1 hv]; rfl
            case c3 => unfold maxLen; omega
            case c4 => omega
            case c5 => simp; omega
            intro xv w3 hown hgrow _ hat;have HX : Hid (BAt wr0 w3 xv (l ++ [tx[0]]) ∧ l ++ [tx[0]] = Mu.indL (L ib) true ((L tx).take (0 + 1))) := hid ⟨⟨by rw [List.length_append, bc_app]; exact hown, grown_f0 (HI.out.1.fr.allocA _) hgrow (own_base HI.out.1.own)⟩, HN.out⟩;clear hown hgrow hat;go_wp2_with fail
            go_roundg (tx.size - (0 + 1))
            case rel => exact ⟨0 + 1, _, by go_num, by omega, rfl, by rw [List.length_append]; exact HB1.out, HX⟩
            case measure => omega
           | succ k =>
            have hlt2 : k < tx.size := by omega
            by_cases hp : tx[k] = 10
            · have qp : ((tx[k].toNat : Int) == 10) = true := byte_is (b := 10) hp
              clear h10 hp
              go_wp2_with (at_builtin; refine wpList_append_own_at _ rfl _ _ 121 rfl wr0.heap.size 5 i0 (.int .u8 0) 1 1 Tryz.underlying121 hi hz1 hz2 hz3 rfl (by decide) u10 l.length (bc l) rfl ?own ⟨_, 0, none⟩ 1 1 [.int .u8 tx[k + 1].toNat] rfl rfl ?c1 ?c2 ?c3 ?c4 ?c5 ?_)
              case own => exact HI.out.1.own.alloc _
              case c1 => exact one_new0 _ _ _ rfl
              case c2 => intro v hv; rw [List.mem_singleton.1 hv]; rfl
              case c3 => unfold maxLen; omega
              case c4 => omega
              case c5 => simp; omega
              intro xv w3 hown hgrow _ hat;have HX : Hid (BAt wr0 w3 xv (l ++ [tx[k + 1]]) ∧ l ++ [tx[k + 1]] = Mu.indL (L ib) true ((L tx).take (k + 1 + 1))) := hid ⟨⟨by rw [List.length_append, bc_app]; exact hown, grown_f0 (HI.out.1.fr.allocA _) hgrow (own_base HI.out.1.own)⟩, HN.out⟩;clear hown hgrow hat;go_wp2_with fail
              go_roundg (tx.size - (k + 1 + 1))
              case rel => exact ⟨k + 1 + 1, _, by go_num, by omega, rfl, by rw [List.length_append]; exact HB1.out, HX⟩
              case measure => omega
            · have qp : ((tx[k].toNat : Int) == 10) = false := byte_isnt (b := 10) hp
              clear h10 hp
              go_wp2_with (at_builtin; refine wpList_append_own_at _ rfl _ _ 121 rfl wr0.heap.size 5 i0 (.int .u8 0) 1 1 Tryz.underlying121 hi hz1 hz2 hz3 rfl (by decide) u10 l.length (bc l) rfl ?own ⟨_, 0, none⟩ 1 1 [.int .u8 tx[k + 1].toNat] rfl rfl ?c1 ?c2 ?c3 ?c4 ?c5 ?_)
              case own => exact HI.out.1.own.alloc _
              case c1 => exact one_new0 _ _ _ rfl
              case c2 => intro v hv; rw [List.mem_singleton.1 hv]; rfl
              case c3 => unfold maxLen; omega
              case c4 => omega
              case c5 => simp; omega
              intro xv w3 hown hgrow _ hat;have HX : Hid (BAt wr0 w3 xv (l ++ [tx[k + 1]]) ∧ l ++ [tx[k + 1]] = Mu.indL (L ib) true ((L tx).take (k + 1 + 1))) := hid ⟨⟨by rw [List.length_append, bc_app]; exact hown, grown_f0 (HI.out.1.fr.allocA _) hgrow (own_base HI.out.1.own)⟩, HN.out⟩;clear hown hgrow hat;go_wp2_with fail
              go_roundg (tx.size - (k + 1 + 1))
              case rel => exact ⟨k + 1 + 1, _, by go_num, by omega, rfl, by rw [List.length_append]; exact HB1.out, HX⟩
              case measure => omega
         · have q10 : ((tx[k].toNat : Int) != 10) = true := byte_lit_ne (b := 10) h10
           cases k with
           | zero =>
            have HN : Hid (l ++ L ib ++ [tx[0]] = Mu.indL (L ib) true ((L tx).take (0 + 1))) := hid (by
             have hb : (tx[0] != 10) = true := by simpa using h10
             rw [take_one tx 0 hlt, indL_snoc, ← HI.out.2, startAt_zero, hb]; simp)
            clear h10
            go_wp2_with (at_builtin; refine Lib.wpList_append_own_string _ rfl _ _ 121 9 rfl wr0.heap.size 5 i0 Tryz.underlying121 Tryz.underlying9 hi hz1 hz2 hz3 u10 l.length (bc l) rfl ?own ib rfl ?c1 ?c2 ?c3 ?_)
            case own => exact HI.out.1.own
            case c1 => unfold maxLen; omega
            case c2 => omega
            case c3 => exact hbase
            intro x2 w2 hown2 hgrow2 hat2;have HI2 : Hid (BAt wr0 w2 x2 (l ++ L ib)) := hid ⟨by rw [List.length_append, bc_app]; exact hown2, grown_f0 HI.out.1.fr hgrow2 (own_base HI.out.1.own)⟩;clear hown2 hgrow2 hat2;have hb2 := HI2.out.fr.size
            go_wp2_with (at_builtin; refine wpList_append_own_at _ rfl _ _ 121 rfl wr0.heap.size 5 i0 (.int .u8 0) 1 1 Tryz.underlying121 hi hz1 hz2 hz3 rfl (by decide) x2 (l ++ L ib).length (bc (l ++ L ib)) rfl ?own ⟨_, 0, none⟩ 1 1 [.int .u8 tx[0].toNat] rfl rfl ?c1 ?c2 ?c3 ?c4 ?c5 ?_)
            case own => exact HI2.out.own.alloc _
            case c1 => exact one_new0 _ _ _ rfl
            case c2 => intro v hv; rw [List.mem_singleton.1 hv]; rfl
            case c3 => rw [List.length_append, L_length]; unfold maxLen; omega
            case c4 => rw [List.length_append, L_length]; omega
            case c5 => simp; omega
            intro xv w3 hown hgrow _ hat;have HX : Hid (BAt wr0 w3 xv (l ++ L ib ++ [tx[0]]) ∧ l ++ L ib ++ [tx[0]] = Mu.indL (L ib) true ((L tx).take (0 + 1))) := hid ⟨⟨by simp only [List.length_append, bc_app] at hown ⊢; exact hown, grown_f0 (HI2.out.fr.allocA _) hgrow (own_base HI2.out.own)⟩, HN.out⟩;clear hown hgrow hat;go_wp2_with fail
            go_roundg (tx.size - (0 + 1))
            case rel => exact ⟨0 + 1, _, by go_num, by omega, rfl, by rw [List.length_append, List.length_append, L_length]; exact HB2.out, HX⟩
            case measure => omega
           | succ k =>
            have hlt2 : k < tx.size := by omega
            by_cases hp : tx[k] = 10
            · have qp : ((tx[k].toNat : Int) == 10) = true := byte_is (b := 10) hp
              have HN : Hid (l ++ L ib ++ [tx[k + 1]] = Mu.indL (L ib) true ((L tx).take (k + 1 + 1))) := hid (by
               have hb : (tx[k + 1] != 10) = true := by simpa using h10
               rw [take_one tx (k + 1) hlt, indL_snoc, ← HI.out.2, startAt_succ tx k hlt2, hp, hb]; simp)
              clear h10 hp
              go_wp2_with (at_builtin; refine Lib.wpList_append_own_string _ rfl _ _ 121 9 rfl wr0.heap.size 5 i0 Tryz.underlying121 Tryz.underlying9 hi hz1 hz2 hz3 u10 l.length (bc l) rfl ?own ib rfl ?c1 ?c2 ?c3 ?_)
              case own => exact HI.out.1.own
              case c1 => unfold maxLen; omega
              case c2 => omega
              case c3 => exact hbase
              intro x2 w2 hown2 hgrow2 hat2;have HI2 : Hid (BAt wr0 w2 x2 (l ++ L ib)) := hid ⟨by rw [List.length_append, bc_app]; exact hown2, grown_f0 HI.out.1.fr hgrow2 (own_base HI.out.1.own)⟩;clear hown2 hgrow2 hat2;have hb2 := HI2.out.fr.size
              go_wp2_with (at_builtin; refine wpList_append_own_at _ rfl _ _ 121 rfl wr0.heap.size 5 i0 (.int .u8 0) 1 1 Tryz.underlying121 hi hz1 hz2 hz3 rfl (by decide) x2 (l ++ L ib).length (bc (l ++ L ib)) rfl ?own ⟨_, 0, none⟩ 1 1 [.int .u8 tx[k + 1].toNat] rfl rfl ?c1 ?c2 ?c3 ?c4 ?c5 ?_)
              case own => exact HI2.out.own.alloc _
              case c1 => exact one_new0 _ _ _ rfl
              case c2 => intro v hv; rw [List.mem_singleton.1 hv]; rfl
              case c3 => rw [List.length_append, L_length]; unfold maxLen; omega
              case c4 => rw [List.length_append, L_length]; omega
              case c5 => simp; omega
              intro xv w3 hown hgrow _ hat;have HX : Hid (BAt wr0 w3 xv (l ++ L ib ++ [tx[k + 1]]) ∧ l ++ L ib ++ [tx[k + 1]] = Mu.indL (L ib) true ((L tx).take (k + 1 + 1))) := hid ⟨⟨by simp only [List.length_append, bc_app] at hown ⊢; exact hown, grown_f0 (HI2.out.fr.allocA _) hgrow (own_base HI2.out.own)⟩, HN.out⟩;clear hown hgrow hat;go_wp2_with fail
              go_roundg (tx.size - (k + 1 + 1))
              case rel => exact ⟨k + 1 + 1, _, by go_num, by omega, rfl, by rw [List.length_append, List.length_append, L_length]; exact HB2.out, HX⟩
              case measure => omega
            · have qp : ((tx[k].toNat : Int) == 10) = false := byte_isnt (b := 10) hp
              have HN : Hid (l ++ [tx[k + 1]] = Mu.indL (L ib) true ((L tx).take (k + 1 + 1))) := hid (by
               have hb : (tx[k] == 10) = false := by simpa using hp
               rw [take_one tx (k + 1) hlt, indL_snoc, ← HI.out.2, startAt_succ tx k hlt2, hb]; simp)
              clear h10 hp
              go_wp2_with (at_builtin; refine wpList_append_own_at _ rfl _ _ 121 rfl wr0.heap.size 5 i0 (.int .u8 0) 1 1 Tryz.underlying121 hi hz1 hz2 hz3 rfl (by decide) u10 l.length (bc l) rfl ?own ⟨_, 0, none⟩ 1 1 [.int .u8 tx[k + 1].toNat] rfl rfl ?c1 ?c2 ?c3 ?c4 ?c5 ?_)
              case own => exact HI.out.1.own.alloc _
              case c1 => exact one_new0 _ _ _ rfl
              case c2 => intro v hv; rw [List.mem_singleton.1 hv]; rfl
              case c3 => unfold maxLen; omega
              case c4 => omega
              case c5 => simp; omega
              intro xv w3 hown hgrow _ hat;have HX : Hid (BAt wr0 w3 xv (l ++ [tx[k + 1]]) ∧ l ++ [tx[k + 1]] = Mu.indL (L ib) true ((L tx).take (k + 1 + 1))) := hid ⟨⟨by rw [List.length_append, bc_app]; exact hown, grown_f0 (HI.out.1.fr.allocA _) hgrow (own_base HI.out.1.own)⟩, HN.out⟩;clear hown hgrow hat;go_wp2_with fail
              go_roundg (tx.size - (k + 1 + 1))
              case rel => exact ⟨k + 1 + 1, _, by go_num, by omega, rfl, by rw [List.length_append]; exact HB1.out, HX⟩
              case measure => omega
       · have hcv := own_convert HI.out.1.own
         have HSX : Hid (L ⟨l.toArray⟩ = Mu.indL (L ib) true (Mu.partOf (pL ps) (L tb))) := hid (by rw [L_mk, HI.out.2, List.take_of_length_le (by rw [L_length]; omega), HTX.out]);have HRW5 : Hid (wr.heap[r]? = _) := hid (HI.out.1.fr.blk HRW.out id);have HGO := hid (HEND.out ⟨l.toArray⟩ wr HSX.out (HFW.out.trans0 HI.out.1.fr) HRW5.out)
         obtain ⟨sx, hsx⟩ : ∃ sx : ByteArray, sx = ⟨l.toArray⟩ := ⟨_, rfl⟩
         have hsz : sx.size ≤ 401 * 402002 := by
          rw [hsx];show l.toArray.size ≤ _;rw [List.size_toArray]; omega
         rw [← hsx] at hcv HGO;clear hsx;go_wp2_with fail;refine (parse_spec sx _ (by omega)).mono ?_;rintro e w6 ⟨v, rfl, hf6, hnv, -⟩;have hb6 := hf6.blk HRW5.out id;have d2 := blk_cell hb6 2;have g2 := blk_free hb6 2;have hl6 := blk_lt hb6;simp only [List.getElem?_toArray, List.getElem?_cons_zero, List.getElem?_cons_succ] at d2
         obtain ⟨ok, hok⟩ : ∃ ok, ok = (Mu.parse (L sx)).2 := ⟨_, rfl⟩
         have HGO2 : Hid (∀ b : Bool, b = !ok → Calls Tryz.prog 32 #[.pointer (some ⟨r, 0, none⟩), v, sv] (w6.setCell ⟨r, 2, none⟩ (.bool b)) (RnPost K r (.slice pa ps.length pc) raw (some st) (Mu.sNode (pL ps) raw (Mu.srender (pL ps) raw n) stack (.mk kd (L tb) nraw (L ib) kids) st) w)) := hid (fun b hb => HGO.out w6 _ v hf6 hnv (by rw [hb, hok]));rw [← hok];clear hb6 hf6 hnv hok
         cases ok with
         | true =>
          have HG3 := hid (HGO2.out false rfl);go_wp2_with fail;refine HG3.out.mono ?_;rintro e w8 ⟨o, rfl, HO⟩;go_wp2_with fail;go_ret;exact ⟨o, rfl, HO⟩
         | false =>
          have HG3 := hid (HGO2.out true rfl);go_wp2_with fail;refine HG3.out.mono ?_;rintro e w8 ⟨o, rfl, HO⟩;go_wp2_with fail;go_ret;exact ⟨o, rfl, HO⟩
end Go.Proofs.YtfakghnpkdoclaaGreatDoor
