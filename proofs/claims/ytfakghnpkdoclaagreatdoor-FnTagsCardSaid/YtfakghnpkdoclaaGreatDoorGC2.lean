/-
  The thin package's values; texts of values; escapes. (Joined by wip/pack.py.)
-/
import Derived.Test.YtfakghnpkdoclaaGreatDoorGC1
import Derived.Test.YtfakghnpkdoclaaGreatDoorGR1
import Derived.Test.YtfakghnpkdoclaaGreatDoorGC0
import Derived.Maps.Own
import Derived.Deep.RegionLawGrows
import Derived.Test.YtfakghnpkdoclaaGreatDoorGP2
import Derived.Test.YtfakghnpkdoclaaGreatDoorGS1
import Derived.Test.YtfakghnpkdoclaaGreatDoorGCA
import Derived.Lib.AppendStr
import Derived.Laws.IdiomStrings
set_option linter.unusedVariables false
set_option linter.unusedSimpArgs false
set_option maxRecDepth 100000
set_option maxHeartbeats 8000000
namespace Go.Proofs.YtfakghnpkdoclaaGreatDoor
open Go.RowKit
open Go.Lib (hid)
def LkPost (S : Nat → Prop) (o : Option Mu.Val) (am : Bool) (w : World) (e : Ending) (w' : World) : Prop := F0 w w' ∧
 match o with
 | some v => ∃ x, e = .returned (.tuple #[.agg #[x, .bool true], .nilIface]) ∧ CAt w S v x
 | none => if am = true then e = .returned (.tuple #[.agg #[.nilIface, .bool false], .nilIface]) else ∃ T v, e = .returned (.tuple #[.agg #[.nilIface, .bool false], .iface T v])
theorem look1_drop_none {n : Mu.B} {ch : List (Option Mu.Val)} {j : Nat} (hj : j < ch.length) (h : ch[j] = none) : Mu.look1 n (ch.drop j) = Mu.look1 n (ch.drop (j + 1)) := by
 rw [List.drop_eq_getElem_cons hj, h]
 rfl
theorem look1_drop_point {ch : List (Option Mu.Val)} {j : Nat} {v : Mu.Val} (hj : j < ch.length) (h : ch[j] = some v) : Mu.look1 [46] (ch.drop j) = some v := by
 rw [List.drop_eq_getElem_cons hj, h]
 simp [Mu.look1]
theorem look1_drop_some {n : Mu.B} {ch : List (Option Mu.Val)} {j : Nat} {v : Mu.Val} (hj : j < ch.length) (h : ch[j] = some v) (hn : n ≠ [46]) : Mu.look1 n (ch.drop j) = match Mu.fieldV v n with
 | some x => some x
 | none => Mu.look1 n (ch.drop (j + 1)) := by
 rw [List.drop_eq_getElem_cons hj, h]
 simp only [Mu.look1, if_neg hn]
 cases Mu.fieldV v n <;> rfl
theorem set_read0 {w : World} {b : Nat} {x0 y0 : Value} {T : TypeId} (h : w.heap[b]? = some (.cells #[x0, y0] T (0, 0))) (x : Value) : (w.setCell ⟨b, 0, none⟩ x).cell? ⟨b, 0, none⟩ = some x := by
 rw [blk_cell (blk_set x h) 0]; rfl
theorem set_read1 {w : World} {b : Nat} {x0 y0 : Value} {T : TypeId} (h : w.heap[b]? = some (.cells #[x0, y0] T (0, 0))) (x y : Value) : ((w.setCell ⟨b, 0, none⟩ x).setCell ⟨b, 1, none⟩ y).cell? ⟨b, 1, none⟩ = some y := by
 rw [blk_cell (blk_set y (blk_set x h)) 1]; rfl
theorem CAt.form {w : World} {S : Nat → Prop} {v : Mu.Val} {x : Value} (h : CAt w S v x) : x = .nilIface ∨ ∃ T y, x = .iface T y := by
 obtain ⟨k, t, n, b, ks, l⟩ := v
 unfold CAt at h
 rcases h with ⟨-, h⟩ | ⟨-, tb, h, -⟩ | ⟨-, h⟩ | ⟨-, h⟩ | ⟨-, sv, vs, h, -⟩ | ⟨-, r, es, clock, vs, h, -⟩
 · exact .inl h
 all_goals exact .inr ⟨_, _, h⟩
theorem CAt.f0 {w w' : World} {S : Nat → Prop} {v : Mu.Val} {x : Value} (h : CAt w S v x) (hf : Fr (fun _ => False) w w') (hS : ∀ k, S k → k < w.heap.size) : CAt w' S v x :=
 CAt.keep (fun k hk => hf.block k (hS k hk) id) (fun _ h => h) _ _ h
theorem res_read0 {w : World} {b : Nat} {x0 y0 : Value} {T : TypeId} (h : w.heap[b]? = some (.cells #[x0, y0] T (0, 0))) (x y : Value) (O : Obj) : (((w.setCell ⟨b, 0, none⟩ x).setCell ⟨b, 1, none⟩ y).alloc O).cell? ⟨b, 0, none⟩ = some x := by
 rw [blk_cell (blk_alloc O (blk_set y (blk_set x h))) 0]; rfl
theorem res_read1 {w : World} {b : Nat} {x0 y0 : Value} {T : TypeId} (h : w.heap[b]? = some (.cells #[x0, y0] T (0, 0))) (x y : Value) (O : Obj) : (((w.setCell ⟨b, 0, none⟩ x).setCell ⟨b, 1, none⟩ y).alloc O).cell? ⟨b, 1, none⟩ = some y := by
 rw [blk_cell (blk_alloc O (blk_set y (blk_set x h))) 1]; rfl
theorem keep_of {w w' : World} {S : Nat → Prop} (hf : F0 w w') (hS : ∀ k, S k → k < w.heap.size) : Keep S w w' := fun k hk => hf.block k (hS k hk) id
theorem res_fr {w wr : World} {b : Nat} (h : F0 w wr) (hb : w.heap.size ≤ b) (x y : Value) : F0 w ((wr.setCell ⟨b, 0, none⟩ x).setCell ⟨b, 1, none⟩ y) := (h.setA ⟨b, 0, none⟩ _ (.inr hb)).setA ⟨b, 1, none⟩ _ (.inr hb)
theorem lookup_point (nm : ByteArray) (ch : List (Option Mu.Val)) (cv : Value) (R S : Nat → Prop) (am : Bool) (w : World) (hs : nm.size ≤ 65536) (hn : L nm = [46]) (hcl : ch.length ≤ 2147483647) (hch : ChAt w R S cv ch) (hS : ∀ k, R k → k < w.heap.size) (hg : am = false → GlT w) :
 Calls Tryz.prog 102 #[cv, .string nm, .bool am] w (LkPost S (Mu.look1 (L nm) ch) am w) := by
 obtain ⟨a, c, rfl⟩ := hch.form
 have hf : Mu.find (L nm) (L ⟨#[46]⟩) 0 = some 0 := by rw [hn]; decide
 have qd : (nm.toList == [46]) = true := by rw [beq_iff_eq, ByteArray.toList_eq]; exact hn
 have qe : (nm.toList != [46]) = false := by rw [bne, qd]; rfl
 have HCH := hid hch
 have HS := hid hS
 have HG := hid hg
 have HN := hid hn
 have HF := hid hf
 have HL0 : Hid (Mu.look1 (L nm) ch = Mu.look1 (L nm) (ch.drop 0)) := hid rfl
 have hzz := fun (v : Value) (w : World) => isZz w v
 clear hch hS hg hn hf
 go_enter Tryz.func102, Tryz.ntmps102
 go_wp2_with fail
 go_step3
 go_wp2_with fail
 refine (zzCut_any nm ⟨#[46]⟩ _ (by omega) (show (1 : Nat) ≤ 2147483647 by omega) (show (0 : Nat) < 1 by omega)).mono ?_
 rintro e w1 ⟨hsm, he⟩
 rw [HF.out] at he
 simp only at he
 subst he
 have HF1 : Hid (F0 w w1) := hid ((Fr.alloc _ _ _).trans (hsm.fr _))
 have hrb : w1.heap[w.heap.size]? = some (.cells #[.nilIface, .bool false] 143 (0, 0)) := (hsm.fr No).blk (blk_new w _) id
 have HRB := hid hrb
 have hlt := blk_lt hrb
 clear hsm hrb
 go_wp2_with fail
 go_step3
 go_wp2_with fail
 go_loopg [52] ch.length (fun g v wr => ∃ j : Nat, v = .int .i64 j ∧ j ≤ ch.length ∧ g = ch.length - j ∧ w.heap.size < wr.heap.size ∧ Hid (F0 w wr ∧ wr.heap[w.heap.size]? = some (.cells #[.nilIface, .bool false] 143 (0, 0)) ∧ Mu.look1 (L nm) ch = Mu.look1 (L nm) (ch.drop j)))
 case atStart => exact ⟨0, rfl, Nat.zero_le _, rfl, hlt, hid ⟨HF1.out, HRB.out, HL0.out⟩⟩
 case round =>
  obtain ⟨j, rfl, hj, rfl, hlt2, HI⟩ := hrel;have r0 := blk_cell HI.out.2.1 0;have r1 := blk_cell HI.out.2.1 1;have s0 := blk_free HI.out.2.1 0;have s1 := blk_free HI.out.2.1 1;simp only [List.getElem?_toArray, List.getElem?_cons_zero, List.getElem?_cons_succ] at r0 r1
  by_cases hjl : j < ch.length
  · obtain ⟨gb, c', u, hv, hSg, hcell0, hz⟩ := HCH.out.at hjl
    have hcell := F0.cell HI.out.1 hcell0
    obtain ⟨rfl, rfl⟩ : a = some ⟨gb, 0, none⟩ ∧ c = c' := by
     injection hv with h1 h2 h3;exact ⟨h1, h3⟩
    have hgl : gb < wr.heap.size := by have := HS.out gb hSg; have := HI.out.1.size; omega
    have hgne : gb ≠ w.heap.size := by have := HS.out gb hSg; omega
    have HSJ : Hid (∀ o : Obj, F0 w (wr.alloc o)) := hid (fun o => HI.out.1.allocA o);have HSB : Hid (∀ o : Obj, (wr.alloc o).heap[w.heap.size]? = some (.cells #[.nilIface, .bool false] 143 (0, 0))) := hid (fun o => blk_alloc o HI.out.2.1);clear hv hSg hcell0
    cases hcj : ch[j] with
    | none =>
     rw [hcj] at hz;have HNX : Hid (Mu.look1 (L nm) ch = Mu.look1 (L nm) (ch.drop (j + 1))) := hid (by rw [HI.out.2.2, look1_drop_none hjl hcj]);unfold ZAt at hz;subst hz;clear hcj;go_wp2_with fail
     go_roundg (ch.length - (j + 1))
     case rel => exact ⟨j + 1, by go_num, by omega, rfl, by simp; omega, hid ⟨HSJ.out _, HSB.out _, HNX.out⟩⟩
     case measure => omega
    | some v =>
     rw [hcj] at hz;obtain ⟨x, rfl, hx⟩ := hz;have HX := hid hx;have HNX : Hid (Mu.look1 (L nm) ch = some v) := hid (by rw [HI.out.2.2, HN.out, look1_drop_point hjl hcj]);have hfx := hx.form;clear hcj hx
     rcases hfx with rfl | ⟨T, y, rfl⟩
     · go_wp2_with fail
       try rw [Exit.noGoto_ret]
       refine bodyPost_ret (v := .tuple #[.agg #[.nilIface, .bool true], .nilIface]) (by simp [results, Tryz.results102, go_sem, res_read0 HI.out.2.1, res_read1 HI.out.2.1]) rfl ⟨?_, ?_⟩
       · exact (res_fr HI.out.1 (Nat.le_refl _) _ _).allocA _
       · rw [HNX.out]
         exact ⟨_, rfl, HX.out⟩
     · go_wp2_with fail
       try rw [Exit.noGoto_ret]
       refine bodyPost_ret (v := .tuple #[.agg #[(.iface T y), .bool true], .nilIface]) (by simp [results, Tryz.results102, go_sem, res_read0 HI.out.2.1, res_read1 HI.out.2.1]) rfl ⟨?_, ?_⟩
       · exact (res_fr HI.out.1 (Nat.le_refl _) _ _).allocA _
       · rw [HNX.out]
         exact ⟨_, rfl, HX.out⟩
  · have HNX : Hid (Mu.look1 (L nm) ch = none) := hid (by rw [HI.out.2.2, show j = ch.length by omega, List.drop_length]; rfl)
    cases am with
    | true =>
     go_wp2_with fail;refine bodyPost_ret (v := .tuple #[.agg #[.nilIface, .bool false], .nilIface]) (by simp [results, Tryz.results102, go_sem, set_read0 HI.out.2.1, set_read1 HI.out.2.1]) rfl ⟨?_, ?_⟩
     · exact res_fr HI.out.1 (Nat.le_refl _) _ _
     · rw [HNX.out]; rfl
    | false =>
     go_wp2_with fail;refine (Tryz.strconv_Quote Lib.goPrintTabs nm _ (by omega) ((HG.out (by simp)).below HI.out.1.below).prt ((HG.out (by simp)).below HI.out.1.below).utf).mono ?_
     rintro e w3 ⟨rfl, hb3⟩;obtain ⟨qs, hqs⟩ : ∃ qs : ByteArray, qs = strOfNums (Lib.quoteZ Lib.goPrintTabs nm) := ⟨_, rfl⟩
     have hql : qs.size ≤ 1000000 := by
      have h1 : qs.size = (Lib.quoteZ Lib.goPrintTabs nm).length := by rw [hqs]; exact strOfNums_size _
      have := Lib.quoteZ_length_le Lib.goPrintTabs nm;omega
     rw [← hqs];have HF3 : Hid (F0 w w3) := hid (HI.out.1.trans (Fr.ofBelow hb3));have HB3 : Hid (w3.heap[w.heap.size]? = some (.cells #[.nilIface, .bool false] 143 (0, 0))) := hid ((Fr.ofBelow hb3).blk HI.out.2.1 id);clear hqs hb3;go_wp2_with fail;refine (errorsNew_any _ _).mono ?_;rintro e w4 ⟨rfl, hf4⟩;have HF4 : Hid (F0 w w4) := hid (HF3.out.trans hf4)
     have hb4 : w4.heap[w.heap.size]? = some (.cells #[.nilIface, .bool false] 143 (0, 0)) := hf4.blk HB3.out id;have HB4 := hid hb4;have t0 := blk_cell hb4 0;have t1 := blk_cell hb4 1;have v0 := blk_free hb4 0;have v1 := blk_free hb4 1;simp only [List.getElem?_toArray, List.getElem?_cons_zero, List.getElem?_cons_succ] at t0 t1;clear hf4 hb4;go_wp2_with fail
     refine bodyPost_ret (v := .tuple #[.agg #[.nilIface, .bool false], .iface 219 (.pointer (some ⟨w3.heap.size, 0, none⟩))]) (by simp [results, Tryz.results102, go_sem, set_read0 HB4.out, set_read1 HB4.out]) rfl ⟨?_, ?_⟩
     · exact res_fr HF4.out (Nat.le_refl _) _ _
     · rw [HNX.out]; exact ⟨_, _, rfl⟩
theorem lookup_word (nm : ByteArray) (ch : List (Option Mu.Val)) (cv : Value) (R S : Nat → Prop) (am : Bool) (w : World) (hs : nm.size ≤ 65536) (hn : L nm ≠ [46]) (hn2 : Mu.find (L nm) [46] 0 = none) (hcl : ch.length ≤ 2147483647) (hch : ChAt w R S cv ch) (hS : ∀ k, R k → k < w.heap.size) (hg : am = false → GlT w) :
 Calls Tryz.prog 102 #[cv, .string nm, .bool am] w (LkPost S (Mu.look1 (L nm) ch) am w) := by
 obtain ⟨a, c, rfl⟩ := hch.form
 have hf : Mu.find (L nm) (L ⟨#[46]⟩) 0 = none := hn2
 have qd : (nm.toList == [46]) = false := by rw [beq_eq_false_iff_ne, ByteArray.toList_eq]; exact hn
 have qe : (nm.toList != [46]) = true := by rw [bne, qd]; rfl
 have HCH := hid hch
 have HS := hid hS
 have HG := hid hg
 have HN := hid hn
 have HF := hid hf
 have HL0 : Hid (Mu.look1 (L nm) ch = Mu.look1 (L nm) (ch.drop 0)) := hid rfl
 have hzz := fun (v : Value) (w : World) => isZz w v
 have m0 := fun (w : World) => nilMap w
 have m1 := fun (v : Value) (w : World) => notMap w 9 v (by decide)
 have m2 := fun (v : Value) (w : World) => notMap w 2 v (by decide)
 have m3 := fun (v : Value) (w : World) => notMap w 4 v (by decide)
 have m4 := fun (v : Value) (w : World) => notMap w 66 v (by decide)
 have m5 := fun (v : Value) (w : World) => isMap w v
 clear hch hS hg hn hf hn2
 go_enter Tryz.func102, Tryz.ntmps102
 go_wp2_with fail
 go_step3
 go_wp2_with fail
 refine (zzCut_any nm ⟨#[46]⟩ _ (by omega) (show (1 : Nat) ≤ 2147483647 by omega) (show (0 : Nat) < 1 by omega)).mono ?_
 rintro e w1 ⟨hsm, he⟩
 rw [HF.out] at he
 simp only at he
 subst he
 have HF1 : Hid (F0 w w1) := hid ((Fr.alloc _ _ _).trans (hsm.fr _))
 have hrb : w1.heap[w.heap.size]? = some (.cells #[.nilIface, .bool false] 143 (0, 0)) := (hsm.fr No).blk (blk_new w _) id
 have HRB := hid hrb
 have hlt := blk_lt hrb
 clear hsm hrb
 go_wp2_with fail
 go_step3
 go_wp2_with fail
 go_loopg [52] ch.length (fun g v wr => ∃ j : Nat, v = .int .i64 j ∧ j ≤ ch.length ∧ g = ch.length - j ∧ w.heap.size < wr.heap.size ∧ Hid (F0 w wr ∧ wr.heap[w.heap.size]? = some (.cells #[.nilIface, .bool false] 143 (0, 0)) ∧ Mu.look1 (L nm) ch = Mu.look1 (L nm) (ch.drop j)))
 case atStart => exact ⟨0, rfl, Nat.zero_le _, rfl, hlt, hid ⟨HF1.out, HRB.out, HL0.out⟩⟩
 case round =>
  obtain ⟨j, rfl, hj, rfl, hlt2, HI⟩ := hrel;have r0 := blk_cell HI.out.2.1 0;have r1 := blk_cell HI.out.2.1 1;have s0 := blk_free HI.out.2.1 0;have s1 := blk_free HI.out.2.1 1;simp only [List.getElem?_toArray, List.getElem?_cons_zero, List.getElem?_cons_succ] at r0 r1
  by_cases hjl : j < ch.length
  · obtain ⟨gb, c', u, hv, hSg, hcell0, hz⟩ := HCH.out.at hjl
    have hcell := F0.cell HI.out.1 hcell0
    obtain ⟨rfl, rfl⟩ : a = some ⟨gb, 0, none⟩ ∧ c = c' := by
     injection hv with h1 h2 h3;exact ⟨h1, h3⟩
    have hgl : gb < wr.heap.size := by have := HS.out gb hSg; have := HI.out.1.size; omega
    have hgne : gb ≠ w.heap.size := by have := HS.out gb hSg; omega
    have HSJ : Hid (∀ o : Obj, F0 w (wr.alloc o)) := hid (fun o => HI.out.1.allocA o);have HSB : Hid (∀ o : Obj, (wr.alloc o).heap[w.heap.size]? = some (.cells #[.nilIface, .bool false] 143 (0, 0))) := hid (fun o => blk_alloc o HI.out.2.1);clear hv hSg hcell0
    cases hcj : ch[j] with
    | none =>
     rw [hcj] at hz;have HNX : Hid (Mu.look1 (L nm) ch = Mu.look1 (L nm) (ch.drop (j + 1))) := hid (by rw [HI.out.2.2, look1_drop_none hjl hcj]);unfold ZAt at hz;subst hz;clear hcj;go_wp2_with fail
     go_roundg (ch.length - (j + 1))
     case rel => exact ⟨j + 1, by go_num, by omega, rfl, by simp; omega, hid ⟨HSJ.out _, HSB.out _, HNX.out⟩⟩
     case measure => omega
    | some v =>
     rw [hcj] at hz;obtain ⟨x, rfl, hx⟩ := hz;have HX := hid hx
     have HNX : Hid (Mu.look1 (L nm) ch = match Mu.fieldV v (L nm) with
      | some y => some y
      | none => Mu.look1 (L nm) (ch.drop (j + 1))) := hid (by rw [HI.out.2.2, look1_drop_some hjl hcj HN.out])
     obtain ⟨k, tx, n, b, ks, l⟩ := v;have HX2 := hid hx;clear hcj;unfold CAt at hx
     rcases hx with ⟨rfl, rfl⟩ | ⟨rfl, tb, rfl, -⟩ | ⟨rfl, rfl⟩ | ⟨rfl, rfl⟩ | ⟨rfl, sv, vs, rfl, ⟨a2, c2, rfl, -⟩, -⟩ | ⟨rfl, r, es, clock, vs, rfl, hSr, hmap, hents, hcs⟩
     · go_wp2_with fail
       go_roundg (ch.length - (j + 1))
       case rel => exact ⟨j + 1, by go_num, by omega, rfl, by simp; omega, hid ⟨HSJ.out _, HSB.out _, by rw [HNX.out]; rfl⟩⟩
       case measure => omega
     · go_wp2_with fail
       go_roundg (ch.length - (j + 1))
       case rel => exact ⟨j + 1, by go_num, by omega, rfl, by simp; omega, hid ⟨HSJ.out _, HSB.out _, by rw [HNX.out]; rfl⟩⟩
       case measure => omega
     · go_wp2_with fail
       go_roundg (ch.length - (j + 1))
       case rel => exact ⟨j + 1, by go_num, by omega, rfl, by simp; omega, hid ⟨HSJ.out _, HSB.out _, by rw [HNX.out]; rfl⟩⟩
       case measure => omega
     · go_wp2_with fail
       go_roundg (ch.length - (j + 1))
       case rel => exact ⟨j + 1, by go_num, by omega, rfl, by simp; omega, hid ⟨HSJ.out _, HSB.out _, by rw [HNX.out]; rfl⟩⟩
       case measure => omega
     · go_wp2_with fail
       go_roundg (ch.length - (j + 1))
       case rel => exact ⟨j + 1, by go_num, by omega, rfl, by simp; omega, hid ⟨HSJ.out _, HSB.out _, by rw [HNX.out]; rfl⟩⟩
       case measure => omega
     · have HE := hid hents
       have HMAP : Hid (∀ o : Obj, (wr.alloc o).heap[r]? = some (.map es clock)) := hid (fun o => blk_alloc o (HI.out.1.blk hmap id));have hget := CsAt.get (key := L nm) (ks := ks) hcs;have hfv : Mu.fieldV (.mk 5 tx n b ks l) (L nm) = Mu.getKV ks l (L nm) := rfl;rw [hfv] at HNX;clear hents hmap hcs hfv
       cases hkv : Mu.getKV ks l (L nm) with
       | none =>
        rw [hkv] at hget HNX;have HQ := hid hget;clear hkv hget
        go_wp2_with (at_lookup; refine wpList_lookup_ctx _ rfl _ _ rfl r es clock ks vs rfl (HMAP.out _) HE.out nm rfl ?_; rw [HQ.out]; refine Hid.out ?_)
        refine hid ?_
        try simp only [Option.getD_none, Option.isSome_none]
        go_wp2_with fail
        go_roundg (ch.length - (j + 1))
        case rel => exact ⟨j + 1, by go_num, by omega, rfl, by simp; omega, hid ⟨HSJ.out _, HSB.out _, HNX.out⟩⟩
        case measure => omega
       | some y =>
        rw [hkv] at hget HNX;obtain ⟨z, hz1, hz2⟩ := hget;have HQ := hid hz1;have HZ := hid hz2;have hfz := hz2.form;clear hkv hz1 hz2
        rcases hfz with rfl | ⟨T, q, rfl⟩
        · go_wp2_with (at_lookup; refine wpList_lookup_ctx _ rfl _ _ rfl r es clock ks vs rfl (HMAP.out _) HE.out nm rfl ?_; rw [HQ.out]; refine Hid.out ?_)
          refine hid ?_
          try simp only [Option.getD_some, Option.isSome_some]
          go_wp2_with fail
          try rw [Exit.noGoto_ret]
          refine bodyPost_ret (v := .tuple #[.agg #[.nilIface, .bool true], .nilIface]) (by simp [results, Tryz.results102, go_sem, res_read0 HI.out.2.1, res_read1 HI.out.2.1]) rfl ⟨?_, ?_⟩
          · exact (res_fr HI.out.1 (Nat.le_refl _) _ _).allocA _
          · rw [HNX.out]
            exact ⟨_, rfl, HZ.out⟩
        · go_wp2_with (at_lookup; refine wpList_lookup_ctx _ rfl _ _ rfl r es clock ks vs rfl (HMAP.out _) HE.out nm rfl ?_; rw [HQ.out]; refine Hid.out ?_)
          refine hid ?_
          try simp only [Option.getD_some, Option.isSome_some]
          go_wp2_with fail
          try rw [Exit.noGoto_ret]
          refine bodyPost_ret (v := .tuple #[.agg #[(.iface T q), .bool true], .nilIface]) (by simp [results, Tryz.results102, go_sem, res_read0 HI.out.2.1, res_read1 HI.out.2.1]) rfl ⟨?_, ?_⟩
          · exact (res_fr HI.out.1 (Nat.le_refl _) _ _).allocA _
          · rw [HNX.out]
            exact ⟨_, rfl, HZ.out⟩
  · have HNX : Hid (Mu.look1 (L nm) ch = none) := hid (by rw [HI.out.2.2, show j = ch.length by omega, List.drop_length]; rfl)
    cases am with
    | true =>
     go_wp2_with fail;refine bodyPost_ret (v := .tuple #[.agg #[.nilIface, .bool false], .nilIface]) (by simp [results, Tryz.results102, go_sem, set_read0 HI.out.2.1, set_read1 HI.out.2.1]) rfl ⟨?_, ?_⟩
     · exact res_fr HI.out.1 (Nat.le_refl _) _ _
     · rw [HNX.out]; rfl
    | false =>
     go_wp2_with fail;refine (Tryz.strconv_Quote Lib.goPrintTabs nm _ (by omega) ((HG.out (by simp)).below HI.out.1.below).prt ((HG.out (by simp)).below HI.out.1.below).utf).mono ?_
     rintro e w3 ⟨rfl, hb3⟩;obtain ⟨qs, hqs⟩ : ∃ qs : ByteArray, qs = strOfNums (Lib.quoteZ Lib.goPrintTabs nm) := ⟨_, rfl⟩
     have hql : qs.size ≤ 1000000 := by
      have h1 : qs.size = (Lib.quoteZ Lib.goPrintTabs nm).length := by rw [hqs]; exact strOfNums_size _
      have := Lib.quoteZ_length_le Lib.goPrintTabs nm;omega
     rw [← hqs];have HF3 : Hid (F0 w w3) := hid (HI.out.1.trans (Fr.ofBelow hb3));have HB3 : Hid (w3.heap[w.heap.size]? = some (.cells #[.nilIface, .bool false] 143 (0, 0))) := hid ((Fr.ofBelow hb3).blk HI.out.2.1 id);clear hqs hb3;go_wp2_with fail;refine (errorsNew_any _ _).mono ?_;rintro e w4 ⟨rfl, hf4⟩;have HF4 : Hid (F0 w w4) := hid (HF3.out.trans hf4)
     have hb4 : w4.heap[w.heap.size]? = some (.cells #[.nilIface, .bool false] 143 (0, 0)) := hf4.blk HB3.out id;have HB4 := hid hb4;have t0 := blk_cell hb4 0;have t1 := blk_cell hb4 1;have v0 := blk_free hb4 0;have v1 := blk_free hb4 1;simp only [List.getElem?_toArray, List.getElem?_cons_zero, List.getElem?_cons_succ] at t0 t1;clear hf4 hb4;go_wp2_with fail
     refine bodyPost_ret (v := .tuple #[.agg #[.nilIface, .bool false], .iface 219 (.pointer (some ⟨w3.heap.size, 0, none⟩))]) (by simp [results, Tryz.results102, go_sem, set_read0 HB4.out, set_read1 HB4.out]) rfl ⟨?_, ?_⟩
     · exact res_fr HF4.out (Nat.le_refl _) _ _
     · rw [HNX.out]; exact ⟨_, _, rfl⟩
theorem wordsL_none : ∀ (l acc : Mu.B), (46 : UInt8) ∉ l → Mu.wordsL acc l = [acc ++ l]
 | [], acc, _ => by simp [Mu.wordsL]
 | c :: l, acc, h => by
  have h1 : c ≠ 46 := fun e => h (by simp [e])
  simp only [Mu.wordsL, if_neg h1];rw [wordsL_none l (acc ++ [c]) (fun e => h (by simp [e]))];simp
theorem wordsL_some : ∀ (a b acc : Mu.B), (46 : UInt8) ∉ a → Mu.wordsL acc (a ++ 46 :: b) = (acc ++ a) :: Mu.wordsL [] b
 | [], b, acc, _ => by simp [Mu.wordsL]
 | c :: a, b, acc, h => by
  have h1 : c ≠ 46 := fun e => h (by simp [e])
  simp only [List.cons_append, Mu.wordsL, if_neg h1];rw [wordsL_some a b (acc ++ [c]) (fun e => h (by simp [e]))];simp
theorem find_dot_none {l : Mu.B} (h : Mu.find l [46] 0 = none) : (46 : UInt8) ∉ l := by
 intro hm
 obtain ⟨a, b, rfl⟩ := List.append_of_mem hm
 refine Mu.find_none h a.length (Nat.zero_le _) ?_
 unfold Mu.At
 rw [List.drop_left]
 exact ⟨b, rfl⟩
theorem find_dot_some {l : Mu.B} {k : Nat} (h : Mu.find l [46] 0 = some k) : k < l.length ∧ (46 : UInt8) ∉ l.take k ∧ l = l.take k ++ 46 :: l.drop (k + 1) := by
 obtain ⟨-, h2, h3⟩ := Mu.find_some h
 have hk := Mu.find_le h (by simp)
 simp only [List.length_singleton] at hk
 have hl : l = l.take k ++ 46 :: l.drop (k + 1) := by
  obtain ⟨t, ht⟩ := h2;have h4 : l.drop (k + 1) = t := by rw [← List.drop_drop, ← ht]; rfl
  conv => lhs; rw [← List.take_append_drop k l, ← ht]
  rw [h4]; rfl
 refine ⟨hk, fun hm => ?_, hl⟩
 obtain ⟨a, b, hab⟩ := List.append_of_mem hm
 have hal : a.length < k := by
  have := congrArg List.length hab;simp at this; omega
 refine h3 a.length (Nat.zero_le _) hal ?_
 unfold Mu.At
 have : l.drop a.length = 46 :: (b ++ l.drop k) := by
  conv => lhs; rw [← List.take_append_drop k l, hab]
  rw [List.append_assoc, List.drop_left]; rfl
 rw [this]
 exact ⟨_, rfl⟩
theorem words_dot {l : Mu.B} {k : Nat} (h : Mu.find l [46] 0 = some k) : Mu.words l = l.take k :: Mu.words (l.drop (k + 1)) := by
 obtain ⟨h1, h2, h3⟩ := find_dot_some h
 unfold Mu.words
 conv => lhs; rw [h3]
 rw [wordsL_some _ _ _ h2]; rfl
theorem words_one {l : Mu.B} (h : Mu.find l [46] 0 = none) : Mu.words l = [l] := by
 unfold Mu.words
 rw [wordsL_none _ _ (find_dot_none h)]; rfl
theorem lookW_none : ∀ ws : List Mu.B, Mu.lookW ws [none] = none
 | [] => rfl
 | [_] => rfl
 | _ :: _ :: _ => rfl
theorem lookW_cons {w : Mu.B} {ws : List Mu.B} {ch : List (Option Mu.Val)} (h : ws ≠ []) : Mu.lookW (w :: ws) ch = match Mu.look1 w ch with
 | none => none
 | some v => Mu.lookW ws [some v] := by
 cases ws with
 | nil => exact absurd rfl h
 | cons w2 ws =>
  simp only [Mu.lookW]
  cases Mu.look1 w ch <;> rfl
theorem zone {w : World} {S : Nat → Prop} {o : Option Mu.Val} {u : Value} {g : Nat} (h : ZAt w S o u) (hg : w.heap[g]? = some (.cells #[u] 20 (0, 0))) : ChAt w (· = g) S (.slice (some ⟨g, 0, none⟩) 1 1) [o] := by
 refine ⟨[u], ⟨_, _, rfl, fun _ => ⟨g, rfl, rfl, fun j v hj => ?_⟩⟩, rfl, fun j hj => ?_⟩
 · cases j with
   | zero =>
    simp at hj;rw [blk_cell hg 0, ← hj]; rfl
   | succ j => simp at hj
 · have : j = 0 := by simp at hj; omega
   subst this;exact ⟨u, rfl, h⟩
theorem lookup_words (S : Nat → Prop) (am : Bool) : ∀ (m : Nat) (ws : List Mu.B) (nm : ByteArray) (ch : List (Option Mu.Val)) (cv : Value) (R : Nat → Prop) (w : World), ws.length ≤ m → Mu.words (L nm) = ws → (∀ x ∈ ws, Mu.wordOk x = true) → nm.size ≤ 65536 → ch.length ≤ 2147483647 → ChAt w R S cv ch →
 (∀ k, R k → k < w.heap.size) → (∀ k, S k → k < w.heap.size) → (am = false → GlT w) → Calls Tryz.prog 102 #[cv, .string nm, .bool am] w (LkPost S (Mu.lookW ws ch) am w) := by
 intro m
 induction m with
 | zero =>
  intro ws nm ch cv R w hm hw;have : ws = [] := List.eq_nil_of_length_eq_zero (by omega);exact absurd (hw.trans this) (Mu.words_ne _)
 | succ m IH =>
  intro ws nm ch cv R w hm hw hok hs hcl hch hR hS hg
  cases hf : Mu.find (L nm) [46] 0 with
  | none =>
   have h1 := words_one hf;rw [hw] at h1;subst h1;have h2 : L nm ≠ [46] := Mu.wordOk_ne (hok _ (by simp));exact lookup_word nm ch cv R S am w hs h2 hf hcl hch hR hg
  | some k =>
   have hwd := words_dot hf;rw [hw] at hwd;obtain ⟨hk, hnd, hsp⟩ := find_dot_some hf;rw [L_length] at hk;obtain ⟨a, c, rfl⟩ := hch.form;obtain ⟨hd, hhd⟩ : ∃ hd, hd = nm.extract 0 k := ⟨_, rfl⟩
   obtain ⟨tl, htl⟩ : ∃ tl, tl = nm.extract (k + 1) nm.size := ⟨_, rfl⟩
   have hLh : L hd = (L nm).take k := by rw [hhd, L_extract]; unfold Mu.sub; rw [List.drop_zero]
   have hLt : L tl = (L nm).drop (k + 1) := by
    rw [htl, L_extract];have := Mu.sub_to_end (L nm) (k + 1)
    rwa [L_length] at this
   rw [← hLh, ← hLt] at hwd
   have hhs : hd.size ≤ 65536 := by
    have h1 : (L hd).length = hd.size := L_length _;rw [hLh, List.length_take, L_length] at h1; omega
   have hts : tl.size ≤ 65536 := by
    have h1 : (L tl).length = tl.size := L_length _;rw [hLt, List.length_drop, L_length] at h1; omega
   have hf1 : Mu.find (L hd) [46] 0 = none := by
    refine Mu.find_eq_none fun j _ hj => ?_
    obtain ⟨t, ht⟩ := hj;exact hnd (by rw [← hLh]; exact List.mem_of_mem_drop (ht ▸ List.mem_append_left _ (List.mem_singleton.2 rfl)))
   have hne : L hd ≠ [46] := Mu.wordOk_ne (hok _ (by rw [hwd]; simp))
   have hn46 : L nm ≠ [46] := by
    intro h;rw [h] at hw;have : Mu.words [46] = [[], []] := by decide
    rw [this] at hw;have := hok [] (by rw [← hw]; simp);exact absurd this (by decide)
   have hfL : Mu.find (L nm) (L ⟨#[46]⟩) 0 = some k := hf;have qd : (nm.toList == [46]) = false := by rw [beq_eq_false_iff_ne, ByteArray.toList_eq]; exact hn46
   have qe : (nm.toList != [46]) = true := by rw [bne, qd]; rfl
   have HF := hid hfL;have HWD := hid hwd;have HOK := hid hok;have HCH := hid hch;have HR := hid hR;have HS := hid hS;have HG := hid hg;have HH := hid hhd;have HT := hid htl;have H1 := hid (And.intro hne hf1);have HIH := hid IH;have HM : Hid ((Mu.words (L tl)).length ≤ m) := hid (by rw [hwd] at hm; simp at hm; exact hm)
   clear hfL hwd hok hch hR hS hg hhd htl hne hf1 IH hLh hLt hw hm hnd hsp hf hn46;go_enter Tryz.func102, Tryz.ntmps102;go_wp2_with fail
   go_step3
   go_wp2_with fail;refine (zzCut_any nm ⟨#[46]⟩ _ (by omega) (show (1 : Nat) ≤ 2147483647 by omega) (show (0 : Nat) < 1 by omega)).mono ?_
   rintro e w1 ⟨hsm, he⟩;rw [HF.out] at he;simp only at he;rw [show (⟨#[46]⟩ : ByteArray).size = 1 from rfl, ← HH.out, ← HT.out] at he;subst he;have HF1 : Hid (F0 w w1) := hid ((Fr.alloc _ _ _).trans (hsm.fr _));have hrb : w1.heap[w.heap.size]? = some (.cells #[.nilIface, .bool false] 143 (0, 0)) := (hsm.fr No).blk (blk_new w _) id;have HRB := hid hrb;clear hsm hrb;go_wp2_with fail
   refine (lookup_word hd ch _ R S am w1 hhs H1.out.1 H1.out.2 hcl (HCH.out.keep (keep_of HF1.out HR.out) (fun _ h => h) (keep_of HF1.out HS.out) (fun _ h => h)) (fun k hk => by have := HR.out k hk; have := HF1.out.size; omega) (fun h => (HG.out h).below HF1.out.below)).mono ?_;rintro e w2 ⟨hf2, he⟩;have HF2 : Hid (F0 w w2) := hid (HF1.out.trans hf2)
   have hb2 : w2.heap[w.heap.size]? = some (.cells #[.nilIface, .bool false] 143 (0, 0)) := hf2.blk HRB.out id;have HB2 := hid hb2;have HF12 : Hid (F0 w1 w2) := hid hf2;have s0 := blk_cell hb2 0;have s1 := blk_cell hb2 1;have g0 := blk_free hb2 0;have g1 := blk_free hb2 1;simp only [List.getElem?_toArray, List.getElem?_cons_zero, List.getElem?_cons_succ] at s0 s1;have hbl2 := blk_lt hb2
   have HWN : Hid (Mu.words (L tl) ≠ []) := hid (Mu.words_ne _);clear hf2 hb2
   cases hlk : Mu.look1 (L hd) ch with
   | none =>
    rw [hlk] at he;have HRES : Hid (Mu.lookW ws ch = none) := hid (by rw [HWD.out, lookW_cons HWN.out, hlk]);clear hlk
    cases am with
    | false =>
     rw [if_neg Bool.false_ne_true] at he;obtain ⟨T2, y2, rfl⟩ := he;go_wp2_with fail;refine bodyPost_ret (v := .tuple #[.agg #[.nilIface, .bool false], .iface T2 y2]) (by simp [results, Tryz.results102, go_sem, res_read0 HB2.out, res_read1 HB2.out]) rfl ⟨?_, ?_⟩
     · exact (res_fr HF2.out (Nat.le_refl _) _ _).allocA _
     · rw [HRES.out]; exact ⟨_, _, rfl⟩
    | true =>
     simp only [if_true] at he;subst he;go_wp2_with fail;have hz : ZAt ((w2.alloc (.cells #[.nilIface, .bool false] 143)).alloc (.cells #[.iface 143 (.agg #[.nilIface, .bool false])] 20)) S none (.iface 143 (.agg #[.nilIface, .bool false])) := rfl;have hg2 := blk_new (w2.alloc (.cells #[.nilIface, .bool false] 143)) (.cells #[.iface 143 (.agg #[.nilIface, .bool false])] 20)
     simp only [World.size_alloc] at hg2;have hF3 : F0 w ((w2.alloc (.cells #[.nilIface, .bool false] 143)).alloc (.cells #[.iface 143 (.agg #[.nilIface, .bool false])] 20)) := (HF2.out.allocA _).allocA _;have HFX := hid hF3
     have HBX : Hid (((w2.alloc (.cells #[.nilIface, .bool false] 143)).alloc (.cells #[.iface 143 (.agg #[.nilIface, .bool false])] 20)).heap[w.heap.size]? = some (.cells #[.nilIface, .bool false] 143 (0, 0))) := hid (blk_alloc _ (blk_alloc _ HB2.out))
     refine (HIH.out (Mu.words (L tl)) tl [none] _ (· = w2.heap.size + 1) _ HM.out rfl (fun y hy => HOK.out y (by rw [HWD.out]; exact List.mem_cons_of_mem _ hy)) hts (show (1 : Nat) ≤ 2147483647 by omega) (zone hz hg2) (fun k hk => by simp; omega) (fun k hk => by have := HS.out k hk; have := HF2.out.size; simp; omega) (fun h => (HG.out h).below HFX.out.below)).mono ?_;rintro e w3 ⟨hf3, he⟩
     have HF3 : Hid (F0 w w3) := hid (HFX.out.trans hf3);have hb3 : w3.heap[w.heap.size]? = some (.cells #[.nilIface, .bool false] 143 (0, 0)) := hf3.blk HBX.out id;have HB3 := hid hb3;have t0 := blk_cell hb3 0;have t1 := blk_cell hb3 1;have v0 := blk_free hb3 0;have v1 := blk_free hb3 1;simp only [List.getElem?_toArray, List.getElem?_cons_zero, List.getElem?_cons_succ] at t0 t1
     have hbl := blk_lt hb3;rw [lookW_none] at he;clear hf3 hb3 hz hg2 hF3;simp only [if_true] at he;subst he;go_wp2_with fail;refine bodyPost_ret (v := .tuple #[.agg #[.nilIface, .bool false], .nilIface]) (by simp [results, Tryz.results102, go_sem, set_read0 HB3.out, set_read1 HB3.out]) rfl ⟨?_, ?_⟩
     · exact res_fr HF3.out (Nat.le_refl _) _ _
     · rw [HRES.out]; rfl
   | some v =>
    rw [hlk] at he;obtain ⟨x, rfl, hx⟩ := he;have HRES : Hid (Mu.lookW ws ch = Mu.lookW (Mu.words (L tl)) [some v]) := hid (by rw [HWD.out, lookW_cons HWN.out, hlk]);have HXV := hid hx;have hfz := hx.form;clear hlk hx
    rcases hfz with rfl | ⟨T, y, rfl⟩
    ·
     go_wp2_with fail;have hz : ZAt ((w2.alloc (.cells #[.nilIface, .bool true] 143)).alloc (.cells #[.iface 143 (.agg #[.nilIface, .bool true])] 20)) S (some v) (.iface 143 (.agg #[.nilIface, .bool true])) := ⟨_, rfl, CAt.keep (keep_of (((Fr.refl No w1).trans HF12.out).allocA _ |>.allocA _) (fun k hk => by have := HS.out k hk; have := HF1.out.size; omega)) (fun _ h => h) _ _ HXV.out⟩
     have hg2 := blk_new (w2.alloc (.cells #[.nilIface, .bool true] 143)) (.cells #[.iface 143 (.agg #[.nilIface, .bool true])] 20);simp only [World.size_alloc] at hg2;have hF3 : F0 w ((w2.alloc (.cells #[.nilIface, .bool true] 143)).alloc (.cells #[.iface 143 (.agg #[.nilIface, .bool true])] 20)) := (HF2.out.allocA _).allocA _;have HFX := hid hF3
     have HBX : Hid (((w2.alloc (.cells #[.nilIface, .bool true] 143)).alloc (.cells #[.iface 143 (.agg #[.nilIface, .bool true])] 20)).heap[w.heap.size]? = some (.cells #[.nilIface, .bool false] 143 (0, 0))) := hid (blk_alloc _ (blk_alloc _ HB2.out))
     refine (HIH.out (Mu.words (L tl)) tl [some v] _ (· = w2.heap.size + 1) _ HM.out rfl (fun y hy => HOK.out y (by rw [HWD.out]; exact List.mem_cons_of_mem _ hy)) hts (show (1 : Nat) ≤ 2147483647 by omega) (zone hz hg2) (fun k hk => by simp; omega) (fun k hk => by have := HS.out k hk; have := HF2.out.size; simp; omega) (fun h => (HG.out h).below HFX.out.below)).mono ?_;rintro e w3 ⟨hf3, he⟩
     have HF3 : Hid (F0 w w3) := hid (HFX.out.trans hf3);have hb3 : w3.heap[w.heap.size]? = some (.cells #[.nilIface, .bool false] 143 (0, 0)) := hf3.blk HBX.out id;have HB3 := hid hb3;have t0 := blk_cell hb3 0;have t1 := blk_cell hb3 1;have v0 := blk_free hb3 0;have v1 := blk_free hb3 1;simp only [List.getElem?_toArray, List.getElem?_cons_zero, List.getElem?_cons_succ] at t0 t1
     have hbl := blk_lt hb3;have HTA : Hid (CAt w3 S = CAt w3 S) := hid rfl;clear hb3 hz hg2 hF3
     cases hlr : Mu.lookW (Mu.words (L tl)) [some v] with
     | some v2 =>
      rw [hlr] at he HRES;obtain ⟨x2, rfl, hx2⟩ := he;have HX2 : Hid (CAt w S v2 x2) := hid (CAt.keep (w := (w2.alloc (.cells #[.nilIface, .bool true] 143)).alloc (.cells #[.iface 143 (.agg #[.nilIface, .bool true])] 20)) (fun k hk => (HFX.out.block k (HS.out k hk) id).symm) (fun _ h => h) _ _ hx2);have hfz := hx2.form;clear hx2 hf3 hlr HTA
      rcases hfz with rfl | ⟨T2, y2, rfl⟩
      · go_wp2_with fail
        refine bodyPost_ret (v := .tuple #[.agg #[.nilIface, .bool true], .nilIface]) (by simp [results, Tryz.results102, go_sem, set_read0 HB3.out, set_read1 HB3.out]) rfl ⟨?_, ?_⟩
        · exact res_fr HF3.out (Nat.le_refl _) _ _
        · rw [HRES.out]; exact ⟨_, rfl, HX2.out⟩
      · go_wp2_with fail
        refine bodyPost_ret (v := .tuple #[.agg #[(.iface T2 y2), .bool true], .nilIface]) (by simp [results, Tryz.results102, go_sem, set_read0 HB3.out, set_read1 HB3.out]) rfl ⟨?_, ?_⟩
        · exact res_fr HF3.out (Nat.le_refl _) _ _
        · rw [HRES.out]; exact ⟨_, rfl, HX2.out⟩
     | none =>
      rw [hlr] at he HRES;clear hf3 hlr HTA
      cases am with
      | true =>
       simp only [if_true] at he;subst he;go_wp2_with fail;refine bodyPost_ret (v := .tuple #[.agg #[.nilIface, .bool false], .nilIface]) (by simp [results, Tryz.results102, go_sem, set_read0 HB3.out, set_read1 HB3.out]) rfl ⟨?_, ?_⟩
       · exact res_fr HF3.out (Nat.le_refl _) _ _
       · rw [HRES.out]; rfl
      | false =>
       rw [if_neg Bool.false_ne_true] at he;obtain ⟨T2, y2, rfl⟩ := he;go_wp2_with fail;refine bodyPost_ret (v := .tuple #[.agg #[.nilIface, .bool false], .iface T2 y2]) (by simp [results, Tryz.results102, go_sem, set_read0 HB3.out, set_read1 HB3.out]) rfl ⟨?_, ?_⟩
       · exact res_fr HF3.out (Nat.le_refl _) _ _
       · rw [HRES.out]; exact ⟨_, _, rfl⟩
    ·
     go_wp2_with fail
     have hz : ZAt ((w2.alloc (.cells #[(.iface T y), .bool true] 143)).alloc (.cells #[.iface 143 (.agg #[(.iface T y), .bool true])] 20)) S (some v) (.iface 143 (.agg #[(.iface T y), .bool true])) := ⟨_, rfl, CAt.keep (keep_of (((Fr.refl No w1).trans HF12.out).allocA _ |>.allocA _) (fun k hk => by have := HS.out k hk; have := HF1.out.size; omega)) (fun _ h => h) _ _ HXV.out⟩
     have hg2 := blk_new (w2.alloc (.cells #[(.iface T y), .bool true] 143)) (.cells #[.iface 143 (.agg #[(.iface T y), .bool true])] 20);simp only [World.size_alloc] at hg2;have hF3 : F0 w ((w2.alloc (.cells #[(.iface T y), .bool true] 143)).alloc (.cells #[.iface 143 (.agg #[(.iface T y), .bool true])] 20)) := (HF2.out.allocA _).allocA _;have HFX := hid hF3
     have HBX : Hid (((w2.alloc (.cells #[(.iface T y), .bool true] 143)).alloc (.cells #[.iface 143 (.agg #[(.iface T y), .bool true])] 20)).heap[w.heap.size]? = some (.cells #[.nilIface, .bool false] 143 (0, 0))) := hid (blk_alloc _ (blk_alloc _ HB2.out))
     refine (HIH.out (Mu.words (L tl)) tl [some v] _ (· = w2.heap.size + 1) _ HM.out rfl (fun y hy => HOK.out y (by rw [HWD.out]; exact List.mem_cons_of_mem _ hy)) hts (show (1 : Nat) ≤ 2147483647 by omega) (zone hz hg2) (fun k hk => by simp; omega) (fun k hk => by have := HS.out k hk; have := HF2.out.size; simp; omega) (fun h => (HG.out h).below HFX.out.below)).mono ?_;rintro e w3 ⟨hf3, he⟩
     have HF3 : Hid (F0 w w3) := hid (HFX.out.trans hf3);have hb3 : w3.heap[w.heap.size]? = some (.cells #[.nilIface, .bool false] 143 (0, 0)) := hf3.blk HBX.out id;have HB3 := hid hb3;have t0 := blk_cell hb3 0;have t1 := blk_cell hb3 1;have v0 := blk_free hb3 0;have v1 := blk_free hb3 1;simp only [List.getElem?_toArray, List.getElem?_cons_zero, List.getElem?_cons_succ] at t0 t1
     have hbl := blk_lt hb3;have HTA : Hid (CAt w3 S = CAt w3 S) := hid rfl;clear hb3 hz hg2 hF3
     cases hlr : Mu.lookW (Mu.words (L tl)) [some v] with
     | some v2 =>
      rw [hlr] at he HRES;obtain ⟨x2, rfl, hx2⟩ := he;have HX2 : Hid (CAt w S v2 x2) := hid (CAt.keep (w := (w2.alloc (.cells #[(.iface T y), .bool true] 143)).alloc (.cells #[.iface 143 (.agg #[(.iface T y), .bool true])] 20)) (fun k hk => (HFX.out.block k (HS.out k hk) id).symm) (fun _ h => h) _ _ hx2);have hfz := hx2.form;clear hx2 hf3 hlr HTA
      rcases hfz with rfl | ⟨T2, y2, rfl⟩
      · go_wp2_with fail
        refine bodyPost_ret (v := .tuple #[.agg #[.nilIface, .bool true], .nilIface]) (by simp [results, Tryz.results102, go_sem, set_read0 HB3.out, set_read1 HB3.out]) rfl ⟨?_, ?_⟩
        · exact res_fr HF3.out (Nat.le_refl _) _ _
        · rw [HRES.out]; exact ⟨_, rfl, HX2.out⟩
      · go_wp2_with fail
        refine bodyPost_ret (v := .tuple #[.agg #[(.iface T2 y2), .bool true], .nilIface]) (by simp [results, Tryz.results102, go_sem, set_read0 HB3.out, set_read1 HB3.out]) rfl ⟨?_, ?_⟩
        · exact res_fr HF3.out (Nat.le_refl _) _ _
        · rw [HRES.out]; exact ⟨_, rfl, HX2.out⟩
     | none =>
      rw [hlr] at he HRES;clear hf3 hlr HTA
      cases am with
      | true =>
       simp only [if_true] at he;subst he;go_wp2_with fail;refine bodyPost_ret (v := .tuple #[.agg #[.nilIface, .bool false], .nilIface]) (by simp [results, Tryz.results102, go_sem, set_read0 HB3.out, set_read1 HB3.out]) rfl ⟨?_, ?_⟩
       · exact res_fr HF3.out (Nat.le_refl _) _ _
       · rw [HRES.out]; rfl
      | false =>
       rw [if_neg Bool.false_ne_true] at he;obtain ⟨T2, y2, rfl⟩ := he;go_wp2_with fail;refine bodyPost_ret (v := .tuple #[.agg #[.nilIface, .bool false], .iface T2 y2]) (by simp [results, Tryz.results102, go_sem, set_read0 HB3.out, set_read1 HB3.out]) rfl ⟨?_, ?_⟩
       · exact res_fr HF3.out (Nat.le_refl _) _ _
       · rw [HRES.out]; exact ⟨_, _, rfl⟩
theorem nameOk_size {l : Mu.B} (h : Mu.nameOk l = true) : l = [46] ∨ (∀ x ∈ Mu.words l, Mu.wordOk x = true) := by
 unfold Mu.nameOk at h
 simp only [Bool.or_eq_true, beq_iff_eq, Bool.and_eq_true, List.all_eq_true] at h
 rcases h with h | h
 · exact .inl h
 · exact .inr h.1
theorem lookup_any (S R : Nat → Prop) (am : Bool) (nm : ByteArray) (ch : List (Option Mu.Val)) (cv : Value) (w : World) (hn : Mu.nameOk (L nm) = true) (hs : nm.size ≤ 65536) (hcl : ch.length ≤ 2147483647) (hch : ChAt w R S cv ch)
 (hR : ∀ k, R k → k < w.heap.size) (hS : ∀ k, S k → k < w.heap.size) (hg : am = false → GlT w) : Calls Tryz.prog 102 #[cv, .string nm, .bool am] w (LkPost S (Mu.lookP ch (L nm)) am w) := by
 rcases nameOk_size hn with h | h
 · have h1 : Mu.lookP ch (L nm) = Mu.look1 (L nm) ch := by unfold Mu.lookP; rw [if_pos h]
   rw [h1];exact lookup_point nm ch cv R S am w hs h hcl hch hR hg
 · have h1 : L nm ≠ [46] := by
    intro h2;rw [h2] at h;exact absurd (h [] (by decide)) (by decide)
   have h2 : Mu.lookP ch (L nm) = Mu.lookW (Mu.words (L nm)) ch := by unfold Mu.lookP; rw [if_neg h1]
   rw [h2];exact lookup_words S am _ _ nm ch cv R w (Nat.le_refl _) rfl h hs hcl hch hR hS hg
end Go.Proofs.YtfakghnpkdoclaaGreatDoor
namespace Go.Proofs.YtfakghnpkdoclaaGreatDoor
open Go.RowKit
open Go.Lib (hid)
theorem DAt.form {w : World} {S : Nat → Prop} {v : Mu.Val} {u : Value} (h : DAt w S v u) : ∃ k1 t1 n1 b1 a1 l1 c1 a2 l2 c2, u = .agg #[.int .i64 k1, .string t1, .int .i64 n1, .bool b1, .slice a1 l1 c1, .slice a2 l2 c2] := by
 obtain ⟨k, t, n, b, ks, l⟩ := v
 unfold DAt at h
 obtain ⟨tb, kv, lv, kbs, us, h1, -, ⟨a1, c1, rfl, -⟩, -, ⟨a2, c2, rfl, -⟩, -⟩ := h
 exact ⟨_, _, _, _, _, _, _, _, _, _, h1⟩
theorem VsAt.one {w : World} {S : Nat → Prop} {la : Option Addr} {lc : Nat} {us : List Value} {l : List Mu.Val} (h : VsAt w S (.slice la us.length lc) us) (hd : DsAt w S l us) {j : Nat} (hj : j < us.length) : ∃ g o k1 t1 n1 b1 a1 l1 c1 a2 l2 c2, la = some ⟨g, o, none⟩ ∧ S g ∧ us[j] = .agg #[.int .i64 k1, .string t1, .int .i64 n1, .bool b1, .slice a1 l1 c1, .slice a2 l2 c2] ∧ w.cell? ⟨g, o + j * 6, none⟩ = some (.int .i64 k1) ∧ w.cell? ⟨g, o + j * 6 + 1, none⟩ = some (.string t1) ∧ w.cell? ⟨g, o + j * 6 + 2, none⟩ = some (.int .i64 n1) ∧ w.cell? ⟨g, o + j * 6 + 3, none⟩ = some (.bool b1) ∧ w.cell? ⟨g, o + j * 6 + 4, none⟩ = some (.slice a1 l1 c1) ∧ w.cell? ⟨g, o + j * 6 + 5, none⟩ = some (.slice a2 l2 c2) := by
 obtain ⟨a, c, h1, h2, h3⟩ := h
 injection h1 with h1 _ h1'
 subst h1 h1'
 obtain ⟨g, o, h4, h5, h6⟩ := h3 (by omega)
 obtain ⟨x0, x1, x2, x3, x4, x5, e, e0, e1, e2, e3, e4, e5⟩ := h6 j hj
 obtain ⟨k1, t1, n1, b1, a1, l1, c1, a2, l2, c2, f⟩ := (hd.at j (by have := hd.length; omega) hj).form
 rw [e] at f
 simp only [Value.agg.injEq, Array.mk.injEq, List.cons.injEq, and_true] at f
 obtain ⟨rfl, rfl, rfl, rfl, rfl, rfl⟩ := f
 exact ⟨g, o, _, _, _, _, _, _, _, _, _, _, h4, h5, e, e0, e1, e2, e3, e4, e5⟩
def VPost (v : Mu.Val) (w : World) (e : Ending) (w' : World) : Prop := ∃ u S', e = .returned u ∧ Hid (CAt w' S' v u ∧ F0 w w' ∧ ∀ k, S' k → w.heap.size ≤ k ∧ k < w'.heap.size)
def VC (x : Mu.Val) : Prop := ∀ (w : World) (S : Nat → Prop) (u : Value), DAt w S x u → (∀ k, S k → k < w.heap.size) → Calls Tryz.prog 40 #[u] w (VPost x w)
theorem value_flat (k : Int) (t : Mu.B) (n : Int) (b : Bool) (ks : List Mu.B) (l : List Mu.Val) (hk : k = 0 ∨ k = 1 ∨ k = 2 ∨ k = 3) : VC (.mk k t n b ks l) := by
 intro w S u hd hS
 unfold DAt at hd
 obtain ⟨tb, kv, lv, kbs, us, rfl, ht, -, -, -, -⟩ := hd
 have HT := hid ht
 clear ht hS
 rcases hk with rfl | rfl | rfl | rfl
 all_goals
  go_enter Tryz.func40, Tryz.ntmps40;go_wp2_with fail;go_ret;refine ⟨_, fun _ => False, rfl, hid ⟨?_, by repeat (first | exact Fr.refl _ _ | refine Fr.allocA ?_ _), fun _ h => h.elim⟩⟩;unfold CAt
 · exact .inl ⟨rfl, rfl⟩
 · exact .inr (.inl ⟨rfl, tb, rfl, HT.out⟩)
 · exact .inr (.inr (.inl ⟨rfl, rfl⟩))
 · exact .inr (.inr (.inr (.inl ⟨rfl, rfl⟩)))
theorem value_list (t : Mu.B) (n : Int) (b : Bool) (ks : List Mu.B) (l : List Mu.Val) (IH : ∀ x ∈ l, VC x) (hl : l.length ≤ 8) : VC (.mk 4 t n b ks l) := by
 intro w S u hd hS
 unfold DAt at hd
 obtain ⟨tb, kv, lv, kbs, us, rfl, -, -, -, hvs, hds⟩ := hd
 obtain ⟨la, lc, rfl, -⟩ := id hvs
 have hul := hds.length
 obtain ⟨i0, hi, hz1, hz2, hz3⟩ := info_parts infoAny
 have HC : Hid (∀ j (h : j < us.length), ∃ g o k1 t1 n1 b1 a1 l1 c1 a2 l2 c2, la = some ⟨g, o, none⟩ ∧ S g ∧ us[j] = .agg #[.int .i64 k1, .string t1, .int .i64 n1, .bool b1, .slice a1 l1 c1, .slice a2 l2 c2] ∧ w.cell? ⟨g, o + j * 6, none⟩ = some (.int .i64 k1) ∧ w.cell? ⟨g, o + j * 6 + 1, none⟩ = some (.string t1) ∧ w.cell? ⟨g, o + j * 6 + 2, none⟩ = some (.int .i64 n1) ∧ w.cell? ⟨g, o + j * 6 + 3, none⟩ = some (.bool b1) ∧ w.cell? ⟨g, o + j * 6 + 4, none⟩ = some (.slice a1 l1 c1) ∧ w.cell? ⟨g, o + j * 6 + 5, none⟩ = some (.slice a2 l2 c2)) := hid (fun j hj => hvs.one hds hj)
 have HD : Hid (∀ (w' : World), F0 w w' → ∀ j (h : j < us.length) (h' : j < l.length), Calls Tryz.prog 40 #[us[j]] w' (VPost l[j] w')) := hid (fun w' hf j hj hj' =>
  IH l[j] (List.getElem_mem hj') w' S _ (DAt.keep (fun k hk => hf.block k (hS k hk) id) (fun _ h => h) _ _ (hds.at j hj' hj)) (fun k hk => by have := hS k hk; have := hf.size; omega))
 have HUL := hid hul
 have hu8 : us.length ≤ 8 := by omega
 clear hvs hds hul hl IH hS
 go_enter Tryz.func40, Tryz.ntmps40
 go_wp2_with fail
 go_loopg [3, 32] us.length (fun g v3 v32 wr => ∃ (i : Nat) (outs : List Value), v32 = .int .i64 i ∧ i ≤ us.length ∧ outs.length = i ∧ g = us.length - i ∧ Hid (Gath w wr v3 (l.take i) outs))
 case atStart =>
  refine ⟨0, [], rfl, Nat.zero_le _, rfl, rfl, hid ⟨⟨by simp, .inr ⟨w.heap.size + 1, 0, #[], rfl, by omega, ?_, Nat.le_refl _, Nat.zero_le _, by simp, by simp⟩⟩, ((Fr.refl _ _).allocA _).allocA _, fun _ => False, by simp [CsAt], fun _ h => h.elim⟩⟩;have := blk_new (w.alloc (.cells #[.int .i64 4, .string tb, .int .i64 n, .bool b, kv, .slice la us.length lc] 25)) (.cells #[] 20);simpa using this
 case round =>
  obtain ⟨i, outs, rfl, hi0, hol, rfl, HG⟩ := hrel
  by_cases hlt : i < us.length
  · obtain ⟨g, o, k1, t1, n1, b1, a1, l1, c1, a2, l2, c2, rfl, -, hu, e0, e1, e2, e3, e4, e5⟩ := HC.out i hlt
    have hf0 := HG.out.fr;have d0 := F0.cell hf0 e0;have d1 := F0.cell hf0 e1;have d2 := F0.cell hf0 e2;have d3 := F0.cell hf0 e3;have d4 := F0.cell hf0 e4;have d5 := F0.cell hf0 e5
    have hcall : Calls Tryz.prog 40 #[.agg #[.int .i64 k1, .string t1, .int .i64 n1, .bool b1, .slice a1 l1 c1, .slice a2 l2 c2]] (wr.alloc (.cells #[.int .i64 k1, .string t1, .int .i64 n1, .bool b1, .slice a1 l1 c1, .slice a2 l2 c2] 25)) (VPost (l[i]'(by have := HUL.out; omega)) (wr.alloc (.cells #[.int .i64 k1, .string t1, .int .i64 n1, .bool b1, .slice a1 l1 c1, .slice a2 l2 c2] 25))) := by
     rw [← hu]; exact HD.out _ (hf0.allocA _) i hlt (by have := HUL.out; omega)
    have HCALL := hid hcall;have hsz := hf0.size;clear hf0 hu e0 e1 e2 e3 e4 e5 hcall;go_wp2_with fail;refine HCALL.out.mono ?_;rintro e w2 ⟨u, S2, rfl, HV⟩;have hs2 := HV.out.2.1.size;simp at hs2
    rcases HV.out.1.form with rfl | ⟨T9, z9, rfl⟩
    · go_wp2_with (at_builtin; refine wpList_append_own_at _ rfl _ _ 66 rfl w.heap.size 20 i0 .nilIface 1 16 Tryz.underlying66 hi hz1 hz2 hz3 rfl (by decide) u3 outs.length outs rfl ?own ⟨_, 0, none⟩ 1 1 [.nilIface] rfl rfl ?c1 ?c2 ?c3 ?c4 ?c5 ?_)
      case own =>
       subst hol;exact (ownsRow_of_block HG.out.own (fun k hk => (HV.out.2.1.block k (by have := (HG.out.own.lt k hk).2; simp; omega) id).trans (Below.heap_alloc wr _ k (HG.out.own.lt k hk).2))).alloc _
      case c1 => exact one_new0 _ _ _ (by simp)
      case c2 => intro v hv; rw [List.mem_singleton.1 hv]; rfl
      case c3 => unfold maxLen; omega
      case c4 => omega
      case c5 => simp; omega
      intro xv w3 hown hgrow _ hat;rw [← hol] at hown
      have HN : Hid (Gath w w3 xv (l.take (i + 1)) (outs ++ [.nilIface])) := hid (by
       have hil : i < l.length := by have := HUL.out; omega
       rw [List.take_add_one, List.getElem?_eq_getElem hil, Option.toList_some];exact HG.out.add (w2 := w2) ((Fr.alloc _ _ _).trans HV.out.2.1) HV.out.1 (fun k hk => by have := HV.out.2.2 k hk; simp at this; omega) hown hgrow (by simp) hat)
      clear hown hgrow hat;go_wp2_with fail
      go_roundg (us.length - (i + 1))
      case rel => exact ⟨i + 1, _, by go_num, by omega, by simp; omega, rfl, HN⟩
      case measure => omega
    · go_wp2_with (at_builtin; refine wpList_append_own_at _ rfl _ _ 66 rfl w.heap.size 20 i0 .nilIface 1 16 Tryz.underlying66 hi hz1 hz2 hz3 rfl (by decide) u3 outs.length outs rfl ?own ⟨_, 0, none⟩ 1 1 [.iface T9 z9] rfl rfl ?c1 ?c2 ?c3 ?c4 ?c5 ?_)
      case own =>
       subst hol;exact (ownsRow_of_block HG.out.own (fun k hk => (HV.out.2.1.block k (by have := (HG.out.own.lt k hk).2; simp; omega) id).trans (Below.heap_alloc wr _ k (HG.out.own.lt k hk).2))).alloc _
      case c1 => exact one_new0 _ _ _ (by simp)
      case c2 => intro v hv; rw [List.mem_singleton.1 hv]; rfl
      case c3 => unfold maxLen; omega
      case c4 => omega
      case c5 => simp; omega
      intro xv w3 hown hgrow _ hat;rw [← hol] at hown
      have HN : Hid (Gath w w3 xv (l.take (i + 1)) (outs ++ [.iface T9 z9])) := hid (by
       have hil : i < l.length := by have := HUL.out; omega
       rw [List.take_add_one, List.getElem?_eq_getElem hil, Option.toList_some];exact HG.out.add (w2 := w2) ((Fr.alloc _ _ _).trans HV.out.2.1) HV.out.1 (fun k hk => by have := HV.out.2.2 k hk; simp at this; omega) hown hgrow (by simp) hat)
      clear hown hgrow hat;go_wp2_with fail
      go_roundg (us.length - (i + 1))
      case rel => exact ⟨i + 1, _, by go_num, by omega, by simp; omega, rfl, HN⟩
      case measure => omega
  · have HG2 : Hid (Gath w wr u3 l outs) := hid (by
     have := HG.out
     rwa [List.take_of_length_le (by have := HUL.out; omega)] at this)
    clear HG;go_wp2_with fail;go_ret;obtain ⟨S2, c1, c2⟩ := HG2.out.cs;refine ⟨_, fun k => S2 k ∨ u3.ownBlock = some k, rfl, hid ⟨?_, HG2.out.fr, ?_⟩⟩
    · unfold CAt
      refine .inr (.inr (.inr (.inr (.inl ⟨rfl, u3, outs, rfl, ?_, CsAt.keep (fun _ _ => rfl) (fun _ h => .inl h) _ _ c1⟩))));have ho := HG2.out.own;refine (row_of_owns (n := outs.length) (e := 20) ⟨ho.1, ?_⟩).keep (fun _ _ => rfl) (fun _ h => .inr h)
      rcases ho.2 with h | ⟨g, cap, cur, h1, h2, h3⟩
      · exact .inl h
      · exact .inr ⟨g, cap, cur, h1, Nat.zero_le _, h3⟩
    · rintro k (hk | hk)
      · exact (c2 k hk).1
      · exact HG2.out.own.lt k hk
structure MapG (w0 w : World) (r : Nat) (ks : List Mu.B) (l : List Mu.Val) (outs : List Value) : Prop where
 ent : ∃ es clock, w.heap[r]? = some (.map es clock) ∧ EntsAre es ks outs
 lo : w0.heap.size ≤ r
 fr : F0 w0 w
 cs : ∃ S, CsAt w S l outs ∧ ∀ k, S k → (w0.heap.size ≤ k ∧ k < w.heap.size) ∧ k ≠ r
theorem MapG.add {w0 w w2 : World} {r : Nat} {ks : List Mu.B} {l : List Mu.Val} {outs : List Value} {x : Mu.Val} {S2 : Nat → Prop} {u : Value} {kb : ByteArray} (h : MapG w0 w r ks l outs) (hf : F0 w w2) (hc : CAt w2 S2 x u) (h2 : ∀ k, S2 k → w.heap.size ≤ k ∧ k < w2.heap.size) (hn : L kb ∉ ks) :
 ∃ W, (Instr.mapUpdate 78 (.map (some r)) (.string kb) u).run Tryz.prog w2 = .ok () W ∧ Hid (MapG w0 W r (ks ++ [L kb]) (l ++ [x]) (outs ++ [u])) := by
 obtain ⟨es, clock, hb, he⟩ := h.ent
 have hb2 : w2.heap[r]? = some (.map es clock) := (hf.block r (blk_lt hb) id).trans hb
 have hlr := blk_lt hb
 have hs := hf.size
 have hs0 := h.fr.size
 obtain ⟨S, c1, c2⟩ := h.cs
 have hset := MapKept.heap_set (o' := .map (es.push { key := .string kb, val := u, born := clock }) (clock + 1)) hb2
 refine ⟨_, run_update_new hb2 he kb u hn, hid ⟨⟨_, _, hset.1, he.push kb u clock⟩, h.lo, ?_, fun k => S k ∨ S2 k, ?_, ?_⟩⟩
 · have hw := h.fr.trans hf
   refine ⟨hw.os, hw.tape, hw.output, by simpa using hw.size, fun i hi _ => (hset.2 i ?_).trans (hw.block i hi id)⟩;have := h.lo;omega
 · refine CsAt.snoc (CsAt.keep (w := w) (S := S) (fun k hk => ?_) (fun _ h => .inl h) _ _ c1) (CAt.keep (w := w2) (S := S2) (fun k hk => ?_) (fun _ h => .inr h) _ _ hc)
   · obtain ⟨a, b⟩ := c2 k hk
     exact (hset.2 k b).trans (hf.block k a.2 id)
   · exact hset.2 k (by have := h2 k hk; omega)
 · rintro k (hk | hk)
   · obtain ⟨a, b⟩ := c2 k hk
     exact ⟨⟨a.1, by simp; omega⟩, b⟩
   · have := h2 k hk
     exact ⟨⟨by omega, by simp; omega⟩, by omega⟩
theorem value_map (t : Mu.B) (n : Int) (b : Bool) (ks : List Mu.B) (l : List Mu.Val) (IH : ∀ x ∈ l, VC x) (hl : l.length ≤ 8) (hkl : ks.length = l.length) (hnd : ks.Nodup) : VC (.mk 5 t n b ks l) := by
 intro w S u hd hS
 unfold DAt at hd
 obtain ⟨tb, kv, lv, kbs, us, rfl, -, ⟨ka, kc, rfl, -, hkcells⟩, hks, hvs, hds⟩ := hd
 obtain ⟨la, lc, rfl, -⟩ := id hvs
 have hul := hds.length
 have hkb : kbs.length = ks.length := by rw [← hks]; simp
 have HC : Hid (∀ j (h : j < us.length), ∃ g o k1 t1 n1 b1 a1 l1 c1 a2 l2 c2, la = some ⟨g, o, none⟩ ∧ S g ∧ us[j] = .agg #[.int .i64 k1, .string t1, .int .i64 n1, .bool b1, .slice a1 l1 c1, .slice a2 l2 c2] ∧ w.cell? ⟨g, o + j * 6, none⟩ = some (.int .i64 k1) ∧ w.cell? ⟨g, o + j * 6 + 1, none⟩ = some (.string t1) ∧ w.cell? ⟨g, o + j * 6 + 2, none⟩ = some (.int .i64 n1) ∧ w.cell? ⟨g, o + j * 6 + 3, none⟩ = some (.bool b1) ∧ w.cell? ⟨g, o + j * 6 + 4, none⟩ = some (.slice a1 l1 c1) ∧ w.cell? ⟨g, o + j * 6 + 5, none⟩ = some (.slice a2 l2 c2)) := hid (fun j hj => hvs.one hds hj)
 have HKC : Hid (∀ j (h : j < kbs.length), ∃ g o, ka = some ⟨g, o, none⟩ ∧ w.cell? ⟨g, o + j, none⟩ = some (.string kbs[j])) := hid (fun j hj => by
  obtain ⟨g, o, h1, -, h2⟩ := hkcells (by omega);exact ⟨g, o, h1, h2 j hj⟩)
 have HD : Hid (∀ (w' : World), F0 w w' → ∀ j (h : j < us.length) (h' : j < l.length), Calls Tryz.prog 40 #[us[j]] w' (VPost l[j] w')) := hid (fun w' hf j hj hj' =>
  IH l[j] (List.getElem_mem hj') w' S _ (DAt.keep (fun k hk => hf.block k (hS k hk) id) (fun _ h => h) _ _ (hds.at j hj' hj)) (fun k hk => by have := hS k hk; have := hf.size; omega))
 have HUL := hid hul
 have HKL := hid hkl
 have HKS := hid hks
 have HND := hid hnd
 have hu8 : us.length ≤ 8 := by omega
 obtain ⟨N, hN1, hN2⟩ : ∃ N, us.length = N ∧ kbs.length = N := ⟨_, rfl, by omega⟩
 rw [hN1, hN2]
 rw [hN1] at hu8
 have HN := hid (And.intro hN1 hN2)
 clear hkcells hvs hds hul hl hkl hkb hnd hks IH hS hN1 hN2
 obtain ⟨w1, hw1⟩ : ∃ w1, w1 = w.alloc (.cells #[.int .i64 5, .string tb, .int .i64 n, .bool b, .slice ka N kc, .slice la N lc] 25) := ⟨_, rfl⟩
 have hf1 : F0 w w1 := by rw [hw1]; exact Fr.alloc _ _ _
 have hs1 : w1.heap.size = w.heap.size + 1 := by rw [hw1]; simp
 have hbx : w1.heap[w.heap.size]? = some (.cells #[.int .i64 5, .string tb, .int .i64 n, .bool b, .slice ka N kc, .slice la N lc] 25 (0, 0)) := by rw [hw1]; exact blk_new _ _
 have HW1 := hid hw1
 have HF1 := hid hf1
 have HBX := hid hbx
 clear hw1 hf1 hbx
 have hmm := fun (W : World) => run_makeMap (P := Tryz.prog) 78 W
 go_enter Tryz.func40, Tryz.ntmps40
 go_wp2_with fail
 go_loopg [50] N (fun g v50 wr => ∃ (i : Nat) (outs : List Value), v50 = .int .i64 i ∧ i ≤ N ∧ outs.length = i ∧ g = N - i ∧ Hid (MapG w1 wr (w.heap.size + 1) (ks.take i) (l.take i) outs))
 case atStart =>
  rw [← HW1.out];refine ⟨0, [], rfl, Nat.zero_le _, rfl, rfl, hid ⟨⟨#[], 0, ?_, [], by simp, by simp, by simp⟩, by omega, Fr.alloc _ _ _, fun _ => False, by simp [CsAt], fun _ h => h.elim⟩⟩;have := blk_new w1 (.map #[] 0)
  rwa [hs1] at this
 case round =>
  obtain ⟨i, outs, rfl, hi0, hol, rfl, HG⟩ := hrel
  by_cases hlt : i < N
  · obtain ⟨g, o, k1, t1, n1, b1, a1, l1, c1, a2, l2, c2, rfl, -, hu, e0, e1, e2, e3, e4, e5⟩ := HC.out i (by have := HN.out; omega)
    obtain ⟨gk, ok, rfl, ek⟩ := HKC.out i (by have := HN.out; omega);have hf0 := HF1.out.trans HG.out.fr;have d0 := F0.cell hf0 e0;have d1 := F0.cell hf0 e1;have d2 := F0.cell hf0 e2;have d3 := F0.cell hf0 e3;have d4 := F0.cell hf0 e4;have d5 := F0.cell hf0 e5;have dk := F0.cell hf0 ek;have hbx := HG.out.fr.blk HBX.out id;have x4 := blk_cell hbx 4;have x5 := blk_cell hbx 5
    simp only [List.getElem?_toArray, List.getElem?_cons_zero, List.getElem?_cons_succ] at x4 x5
    have hcall : Calls Tryz.prog 40 #[.agg #[.int .i64 k1, .string t1, .int .i64 n1, .bool b1, .slice a1 l1 c1, .slice a2 l2 c2]] wr (VPost (l[i]'(by have := HUL.out; have := HN.out; omega)) wr) := by
     rw [← hu]; exact HD.out _ hf0 i (by have := HN.out; omega) (by have := HUL.out; have := HN.out; omega)
    have HCALL := hid hcall;have hsz := hf0.size;obtain ⟨kb, hkb⟩ : ∃ kb, kb = kbs[i]'(by have := HN.out; omega) := ⟨_, rfl⟩
    rw [← hkb] at dk;have HKB := hid hkb;clear hf0 hu e0 e1 e2 e3 e4 e5 hcall ek hkb hbx;have hil : i < l.length := by have := HUL.out; have := HN.out; omega
    have hik : i < ks.length := by have := HKL.out; have := HUL.out; have := HN.out; omega
    have hkeq : ks[i] = L kb := by
     have h1 : (kbs.map L)[i]'(by rw [HKS.out]; exact hik) = ks[i] := by simp only [HKS.out]
     rw [← h1, List.getElem_map, HKB.out]
    have hnin : L kb ∉ ks.take i := by
     rw [← hkeq];intro hm;obtain ⟨j, hj, he⟩ := List.mem_iff_getElem.1 hm;rw [List.getElem_take] at he;rw [List.length_take] at hj;have h3 := (List.pairwise_iff_getElem.1 HND.out) j i (by omega) hik (by omega);exact h3 he
    have HNI := hid hnin;have HKE := hid hkeq;clear hnin hkeq;go_wp2_with fail;refine HCALL.out.mono ?_;rintro e w2 ⟨u, S2, rfl, HV⟩;obtain ⟨W, hup, HM⟩ := HG.out.add HV.out.2.1 HV.out.1 HV.out.2.2 HNI.out
    have HN : Hid (MapG w1 W (w.heap.size + 1) (ks.take (i + 1)) (l.take (i + 1)) (outs ++ [u])) := hid (by
     rw [List.take_add_one, List.getElem?_eq_getElem hik, Option.toList_some, HKE.out, List.take_add_one, List.getElem?_eq_getElem hil, Option.toList_some];exact HM.out)
    clear HM;go_wp2_with fail
    go_roundg (N - (i + 1))
    case rel => exact ⟨i + 1, _, by go_num, by omega, by simp; omega, rfl, HN⟩
    case measure => omega
  · have HG2 : Hid (MapG w1 wr (w.heap.size + 1) ks l outs) := hid (by
     have := HG.out
     rwa [List.take_of_length_le (by have := HUL.out; have := HKL.out; have := HUL.out; have := HN.out; omega), List.take_of_length_le (by have := HUL.out; have := HN.out; omega)] at this)
    clear HG;go_wp2_with fail;go_ret;obtain ⟨S2, c1, c2⟩ := HG2.out.cs;obtain ⟨es, clock, h1, h2⟩ := HG2.out.ent;refine ⟨_, fun k => S2 k ∨ k = w.heap.size + 1, rfl, hid ⟨?_, HF1.out.trans HG2.out.fr, ?_⟩⟩
    · unfold CAt
      exact .inr (.inr (.inr (.inr (.inr ⟨rfl, _, es, clock, outs, rfl, .inr rfl, h1, h2, CsAt.keep (fun _ _ => rfl) (fun _ h => .inl h) _ _ c1⟩))))
    · rintro k (hk | hk)
      · have := (c2 k hk).1; omega
      · subst hk
        exact ⟨by omega, blk_lt h1⟩
theorem value_all (T : Nat) : ∀ (d : Nat) (v : Mu.Val), Mu.VOk T d v → VC v
 | 0, v, h => h.elim
 | d + 1, .mk k t n b ks l, h => by
  obtain ⟨⟨h1, h2⟩, -, -, ⟨h3, h4⟩, -, h5⟩ := h;have IH : ∀ x ∈ l, VC x := fun x hx => value_all T d x (h5 x hx)
  simp only [Mu.Val.kind, Mu.Val.list, Mu.Val.keys] at h1 h2 h3 h4
  by_cases e4 : k = 4
  · subst e4
    exact value_list t n b ks l IH h4
  by_cases e5 : k = 5
  · subst e5
    exact value_map t n b ks l IH h4 (h3 rfl).1 (h3 rfl).2
  exact value_flat k t n b ks l (by omega)
end Go.Proofs.YtfakghnpkdoclaaGreatDoor
namespace Go.Proofs.YtfakghnpkdoclaaGreatDoor
open Go.RowKit
open Go.Lib (hid)
namespace Mu
mutual
def vsz : Val → Nat
 | .mk _ _ _ _ _ l => 1 + vszL l
def vszL : List Val → Nat
 | [] => 0
 | v :: l => vsz v + vszL l
end
theorem vszL_app : ∀ (a b : List Val), vszL (a ++ b) = vszL a + vszL b
 | [], b => by simp [vszL]
 | v :: a, b => by
  show vszL (v :: (a ++ b)) = _;simp only [vszL, vszL_app a b]; omega
theorem vszL_take (l : List Val) (i : Nat) (h : i < l.length) : vszL (l.take (i + 1)) = vszL (l.take i) + vsz l[i] := by
 rw [List.take_add_one, List.getElem?_eq_getElem h, Option.toList_some, vszL_app]
 simp [vszL]
theorem vszL_le (l : List Val) (i : Nat) : vszL (l.take i) ≤ vszL l := by
 have := vszL_app (l.take i) (l.drop i)
 rw [List.take_append_drop] at this
 omega
end Mu
def CoPost (nb N : Nat) (w : World) (e : Ending) (w' : World) : Prop := e = .returned (.bool true) ∧ Hid (∃ m : Nat, m ≤ N ∧ w'.heap[nb]? = some (.cells #[.int .i64 m] 3 (0, 0)) ∧ Fr (· = nb) w w')
def CoC (d : Nat) (x : Mu.Val) : Prop := ∀ (w : World) (S : Nat → Prop) (u : Value) (nb n0 depth : Nat), DAt w S x u → (∀ k, S k → k < w.heap.size ∧ k ≠ nb) → w.heap[nb]? = some (.cells #[.int .i64 n0] 3 (0, 0)) → depth + d ≤ 21 → 1 ≤ d → n0 + Mu.vsz x ≤ 1000 →
 Calls Tryz.prog 61 #[u, .int .i64 depth, .pointer (some ⟨nb, 0, none⟩)] w (CoPost nb (n0 + Mu.vsz x) w)
theorem count_flat (d : Nat) (k : Int) (t : Mu.B) (n : Int) (b : Bool) (ks : List Mu.B) (l : List Mu.Val) (h0 : 0 ≤ k) (h4 : k < 4) : CoC (d + 1) (.mk k t n b ks l) := by
 intro w S u nb n0 depth hd hS hnb hdep _ hsz
 unfold DAt at hd
 obtain ⟨tb, kv, lv, kbs, us, rfl, -, ⟨ka, kc, rfl, -, -⟩, hks, hvs, hds⟩ := hd
 obtain ⟨la, lc, rfl, -⟩ := id hvs
 have hul := hds.length
 have hkb : kbs.length = ks.length := by rw [← hks]; simp
 simp only [Mu.vsz] at hsz ⊢
 have lnb := blk_lt hnb
 have hn0 := blk_cell hnb 0
 have fn0 := blk_free hnb 0
 simp only [List.getElem?_toArray, List.getElem?_cons_zero] at hn0
 obtain ⟨w1, hw1⟩ : ∃ w1, w1 = (w.setCell ⟨nb, 0, none⟩ (.int .i64 ((n0 : Int) + 1))).alloc (.cells #[.int .i64 k, .string tb, .int .i64 n, .bool b, .slice ka kbs.length kc, .slice la us.length lc] 25) := ⟨_, rfl⟩
 have hf1 : Fr (· = nb) w w1 := by rw [hw1]; exact ((Fr.refl (· = nb) w).setA ⟨nb, 0, none⟩ _ (.inl rfl)).allocA _
 have hb1 : w1.heap[nb]? = some (.cells #[.int .i64 ((n0 + 1 : Nat) : Int)] 3 (0, 0)) := by
  rw [hw1, blk_alloc _ (blk_set _ hnb)]; simp
 have HW1 := hid hw1
 have HF1 := hid hf1
 have HB1 := hid hb1
 clear hnb hw1 hf1 hb1 hvs hds hks hkb hS hul
 have q1 : decide ((20 : Int) < (depth : Int)) = false := by simp; omega
 have q2 : decide ((1000 : Int) < (n0 : Int) + 1) = false := by simp; omega
 have q3 : decide (k < 0) = false := by simp; omega
 have q4 : decide (5 < k) = false := by simp; omega
 have q5 : (k == 5) = false := by simp; omega
 have q6 : decide (k < 4) = true := by simp; omega
 have q7 : ¬ k = 5 := by omega
 go_enter Tryz.func61, Tryz.ntmps61
 go_wp2_with fail
 go_ret
 exact ⟨rfl, hid ⟨n0 + 1, by omega, by rw [← HW1.out]; exact HB1.out, by rw [← HW1.out]; exact HF1.out⟩⟩
theorem count_4 (d : Nat) (t : Mu.B) (n : Int) (b : Bool) (ks : List Mu.B) (l : List Mu.Val) (IH : ∀ x ∈ l, CoC d x) (hd1 : l ≠ [] → 1 ≤ d) (hl : l.length ≤ 8) : CoC (d + 1) (.mk 4 t n b ks l) := by
 intro w S u nb n0 depth hd hS hnb hdep _ hsz
 unfold DAt at hd
 obtain ⟨tb, kv, lv, kbs, us, rfl, -, ⟨ka, kc, rfl, -, -⟩, hks, hvs, hds⟩ := hd
 obtain ⟨la, lc, rfl, -⟩ := id hvs
 have hul := hds.length
 have hkb : kbs.length = ks.length := by rw [← hks]; simp
 obtain ⟨N, hN1⟩ : ∃ N, us.length = N := ⟨_, rfl⟩
 rw [hN1]
 simp only [Mu.vsz] at hsz ⊢
 have lnb := blk_lt hnb
 have hn0 := blk_cell hnb 0
 have fn0 := blk_free hnb 0
 simp only [List.getElem?_toArray, List.getElem?_cons_zero] at hn0
 obtain ⟨w1, hw1⟩ : ∃ w1, w1 = (w.setCell ⟨nb, 0, none⟩ (.int .i64 ((n0 : Int) + 1))).alloc (.cells #[.int .i64 4, .string tb, .int .i64 n, .bool b, .slice ka kbs.length kc, .slice la N lc] 25) := ⟨_, rfl⟩
 have hf1 : Fr (· = nb) w w1 := by rw [hw1]; exact ((Fr.refl (· = nb) w).setA ⟨nb, 0, none⟩ _ (.inl rfl)).allocA _
 have hb1 : w1.heap[nb]? = some (.cells #[.int .i64 ((n0 + 1 : Nat) : Int)] 3 (0, 0)) := by
  rw [hw1, blk_alloc _ (blk_set _ hnb)]; simp
 have HW1 := hid hw1
 have HF1 := hid hf1
 have HB1 := hid hb1
 have hs1 : w1.heap.size = w.heap.size + 1 := by rw [hw1]; simp [World.setCell]
 have hbx : w1.heap[w.heap.size]? = some (.cells #[.int .i64 4, .string tb, .int .i64 n, .bool b, .slice ka kbs.length kc, .slice la N lc] 25 (0, 0)) := by
  rw [hw1];have := blk_new (w.setCell ⟨nb, 0, none⟩ (.int .i64 ((n0 : Int) + 1))) (.cells #[.int .i64 4, .string tb, .int .i64 n, .bool b, .slice ka kbs.length kc, .slice la N lc] 25);simpa [World.setCell] using this
 have hnlt : N ≤ 8 := by omega
 have HC : Hid (∀ j (h : j < us.length), ∃ g o k1 t1 n1 b1 a1 l1 c1 a2 l2 c2, la = some ⟨g, o, none⟩ ∧ S g ∧ us[j] = .agg #[.int .i64 k1, .string t1, .int .i64 n1, .bool b1, .slice a1 l1 c1, .slice a2 l2 c2] ∧ w.cell? ⟨g, o + j * 6, none⟩ = some (.int .i64 k1) ∧ w.cell? ⟨g, o + j * 6 + 1, none⟩ = some (.string t1) ∧ w.cell? ⟨g, o + j * 6 + 2, none⟩ = some (.int .i64 n1) ∧ w.cell? ⟨g, o + j * 6 + 3, none⟩ = some (.bool b1) ∧ w.cell? ⟨g, o + j * 6 + 4, none⟩ = some (.slice a1 l1 c1) ∧ w.cell? ⟨g, o + j * 6 + 5, none⟩ = some (.slice a2 l2 c2)) := hid (fun j hj => hvs.one hds hj)
 have HD : Hid (∀ (w' : World), Fr (· = nb) w w' → ∀ j (h : j < us.length) (h' : j < l.length) (m : Nat), w'.heap[nb]? = some (.cells #[.int .i64 m] 3 (0, 0)) → m + Mu.vsz l[j] ≤ 1000 → Calls Tryz.prog 61 #[us[j], .int .i64 ((depth : Int) + 1), .pointer (some ⟨nb, 0, none⟩)] w' (CoPost nb (m + Mu.vsz l[j]) w')) := hid (fun w' hf j hj hj' m hm hm2 => by
  have hd2 := hd1 (List.ne_nil_of_length_pos (by omega));exact IH l[j] (List.getElem_mem hj') w' S _ nb m (depth + 1) (DAt.keep (fun k hk => hf.block k (hS k hk).1 (hS k hk).2) (fun _ h => h) _ _ (hds.at j hj' hj)) (fun k hk => ⟨by have := (hS k hk).1; have := hf.size; omega, (hS k hk).2⟩) hm (by omega) hd2 hm2)
 have HS := hid hS
 have HBX := hid hbx
 have HUL := hid hul
 have HN := hid hN1
 have hwd : IntKind.i64.wrap ((depth : Int) + 1) = (depth : Int) + 1 := by rw [IntKind.wrap_i64]; omega
 have q1 : decide ((20 : Int) < (depth : Int)) = false := by simp; omega
 have q2 : decide ((1000 : Int) < (n0 : Int) + 1) = false := by simp; omega
 clear hnb hw1 hf1 hb1 hvs hds hks hkb hS hbx hul IH hd1 hN1
 go_enter Tryz.func61, Tryz.ntmps61
 go_wp2_with fail
 go_loopg [52] N (fun g v52 wr => ∃ (i m : Nat), v52 = .int .i64 i ∧ i ≤ N ∧ g = N - i ∧ m ≤ n0 + 1 + Mu.vszL (l.take i) ∧ Hid (wr.heap[nb]? = some (.cells #[.int .i64 m] 3 (0, 0)) ∧ Fr (· = nb) w1 wr))
 case atStart =>
  rw [← HW1.out];exact ⟨0, n0 + 1, rfl, Nat.zero_le _, rfl, by omega, hid ⟨HB1.out, Fr.refl _ _⟩⟩
 case round =>
  obtain ⟨i, m, rfl, hi0, rfl, hm, HG⟩ := hrel
  by_cases hlt : i < N
  · obtain ⟨g, o, k1, t1, n1, b1, a1, l1, c1, a2, l2, c2, rfl, hSg, hu, e0, e1, e2, e3, e4, e5⟩ := HC.out i (by have := HN.out; omega)
    have hil : i < l.length := by have := HUL.out; have := HN.out; omega
    have hm2 : m + Mu.vsz l[i] ≤ n0 + 1 + Mu.vszL (l.take (i + 1)) := by rw [Mu.vszL_take l i hil]; omega
    have hm3 : n0 + 1 + Mu.vszL (l.take (i + 1)) ≤ 1000 := by have := Mu.vszL_le l (i + 1); omega
    have hfw := HF1.out.trans HG.out.2;have hgw : ∀ x v, w.cell? ⟨g, x, none⟩ = some v → wr.cell? ⟨g, x, none⟩ = some v := fun x v h => (World.cell?_of_block (w := w) (a := ⟨g, x, none⟩) (hfw.block g (HS.out g hSg).1 (HS.out g hSg).2)).trans h
    have d0 := hgw _ _ e0;have d1 := hgw _ _ e1;have d2 := hgw _ _ e2;have d3 := hgw _ _ e3;have d4 := hgw _ _ e4;have d5 := hgw _ _ e5
    have hcall : Calls Tryz.prog 61 #[.agg #[.int .i64 k1, .string t1, .int .i64 n1, .bool b1, .slice a1 l1 c1, .slice a2 l2 c2], .int .i64 ((depth : Int) + 1), .pointer (some ⟨nb, 0, none⟩)] (wr.alloc (.cells #[.int .i64 k1, .string t1, .int .i64 n1, .bool b1, .slice a1 l1 c1, .slice a2 l2 c2] 25)) (CoPost nb (m + Mu.vsz l[i]) (wr.alloc (.cells #[.int .i64 k1, .string t1, .int .i64 n1, .bool b1, .slice a1 l1 c1, .slice a2 l2 c2] 25))) := by
     rw [← hu]; exact HD.out _ (hfw.allocA _) i (by have := HN.out; omega) hil m (blk_alloc _ HG.out.1) (by omega)
    have HCALL := hid hcall;have hsz2 := hfw.size;clear hfw hgw hu e0 e1 e2 e3 e4 e5 hcall hSg;go_wp2_with fail;refine HCALL.out.mono ?_;rintro e w2 ⟨rfl, HP⟩
    have HNX : Hid (∃ m2 : Nat, m2 ≤ n0 + 1 + Mu.vszL (l.take (i + 1)) ∧ w2.heap[nb]? = some (.cells #[.int .i64 m2] 3 (0, 0)) ∧ Fr (· = nb) w1 w2) := hid (by
     obtain ⟨m2, h1, h2, h3⟩ := HP.out;exact ⟨m2, by omega, h2, (HG.out.2.allocA _).trans h3⟩)
    clear HP;go_wp2_with fail;obtain ⟨m2, h1, h2, h3⟩ := HNX.out
    go_roundg (N - (i + 1))
    case rel => exact ⟨i + 1, m2, by go_num, by omega, rfl, h1, hid ⟨h2, h3⟩⟩
    case measure => omega
  · have hmf : m ≤ n0 + (1 + Mu.vszL l) := by
     have : l.take i = l := List.take_of_length_le (by have := HUL.out; have := HN.out; omega);rw [this] at hm;omega
    go_wp2_with fail;go_ret
    exact ⟨rfl, hid ⟨m, hmf, HG.out.1, HF1.out.trans HG.out.2⟩⟩
theorem count_5 (d : Nat) (t : Mu.B) (n : Int) (b : Bool) (ks : List Mu.B) (l : List Mu.Val) (IH : ∀ x ∈ l, CoC d x) (hd1 : l ≠ [] → 1 ≤ d) (hl : l.length ≤ 8) (hkl : ks.length = l.length) : CoC (d + 1) (.mk 5 t n b ks l) := by
 intro w S u nb n0 depth hd hS hnb hdep _ hsz
 unfold DAt at hd
 obtain ⟨tb, kv, lv, kbs, us, rfl, -, ⟨ka, kc, rfl, -, -⟩, hks, hvs, hds⟩ := hd
 obtain ⟨la, lc, rfl, -⟩ := id hvs
 have hul := hds.length
 have hkb : kbs.length = ks.length := by rw [← hks]; simp
 obtain ⟨N, hN1, hN2⟩ : ∃ N, us.length = N ∧ kbs.length = N := ⟨_, rfl, by omega⟩
 rw [hN1, hN2]
 simp only [Mu.vsz] at hsz ⊢
 have lnb := blk_lt hnb
 have hn0 := blk_cell hnb 0
 have fn0 := blk_free hnb 0
 simp only [List.getElem?_toArray, List.getElem?_cons_zero] at hn0
 obtain ⟨w1, hw1⟩ : ∃ w1, w1 = (w.setCell ⟨nb, 0, none⟩ (.int .i64 ((n0 : Int) + 1))).alloc (.cells #[.int .i64 5, .string tb, .int .i64 n, .bool b, .slice ka N kc, .slice la N lc] 25) := ⟨_, rfl⟩
 have hf1 : Fr (· = nb) w w1 := by rw [hw1]; exact ((Fr.refl (· = nb) w).setA ⟨nb, 0, none⟩ _ (.inl rfl)).allocA _
 have hb1 : w1.heap[nb]? = some (.cells #[.int .i64 ((n0 + 1 : Nat) : Int)] 3 (0, 0)) := by
  rw [hw1, blk_alloc _ (blk_set _ hnb)]; simp
 have HW1 := hid hw1
 have HF1 := hid hf1
 have HB1 := hid hb1
 have hs1 : w1.heap.size = w.heap.size + 1 := by rw [hw1]; simp [World.setCell]
 have hbx : w1.heap[w.heap.size]? = some (.cells #[.int .i64 5, .string tb, .int .i64 n, .bool b, .slice ka N kc, .slice la N lc] 25 (0, 0)) := by
  rw [hw1];have := blk_new (w.setCell ⟨nb, 0, none⟩ (.int .i64 ((n0 : Int) + 1))) (.cells #[.int .i64 5, .string tb, .int .i64 n, .bool b, .slice ka N kc, .slice la N lc] 25);simpa [World.setCell] using this
 have hnlt : N ≤ 8 := by omega
 have HC : Hid (∀ j (h : j < us.length), ∃ g o k1 t1 n1 b1 a1 l1 c1 a2 l2 c2, la = some ⟨g, o, none⟩ ∧ S g ∧ us[j] = .agg #[.int .i64 k1, .string t1, .int .i64 n1, .bool b1, .slice a1 l1 c1, .slice a2 l2 c2] ∧ w.cell? ⟨g, o + j * 6, none⟩ = some (.int .i64 k1) ∧ w.cell? ⟨g, o + j * 6 + 1, none⟩ = some (.string t1) ∧ w.cell? ⟨g, o + j * 6 + 2, none⟩ = some (.int .i64 n1) ∧ w.cell? ⟨g, o + j * 6 + 3, none⟩ = some (.bool b1) ∧ w.cell? ⟨g, o + j * 6 + 4, none⟩ = some (.slice a1 l1 c1) ∧ w.cell? ⟨g, o + j * 6 + 5, none⟩ = some (.slice a2 l2 c2)) := hid (fun j hj => hvs.one hds hj)
 have HD : Hid (∀ (w' : World), Fr (· = nb) w w' → ∀ j (h : j < us.length) (h' : j < l.length) (m : Nat), w'.heap[nb]? = some (.cells #[.int .i64 m] 3 (0, 0)) → m + Mu.vsz l[j] ≤ 1000 → Calls Tryz.prog 61 #[us[j], .int .i64 ((depth : Int) + 1), .pointer (some ⟨nb, 0, none⟩)] w' (CoPost nb (m + Mu.vsz l[j]) w')) := hid (fun w' hf j hj hj' m hm hm2 => by
  have hd2 := hd1 (List.ne_nil_of_length_pos (by omega));exact IH l[j] (List.getElem_mem hj') w' S _ nb m (depth + 1) (DAt.keep (fun k hk => hf.block k (hS k hk).1 (hS k hk).2) (fun _ h => h) _ _ (hds.at j hj' hj)) (fun k hk => ⟨by have := (hS k hk).1; have := hf.size; omega, (hS k hk).2⟩) hm (by omega) hd2 hm2)
 have HS := hid hS
 have HBX := hid hbx
 have HUL := hid hul
 have HN := hid hN1
 have hwd : IntKind.i64.wrap ((depth : Int) + 1) = (depth : Int) + 1 := by rw [IntKind.wrap_i64]; omega
 have q1 : decide ((20 : Int) < (depth : Int)) = false := by simp; omega
 have q2 : decide ((1000 : Int) < (n0 : Int) + 1) = false := by simp; omega
 clear hnb hw1 hf1 hb1 hvs hds hks hkb hS hbx hul IH hd1 hN1 hN2 hkl
 go_enter Tryz.func61, Tryz.ntmps61
 go_wp2_with fail
 go_loopg [52] N (fun g v52 wr => ∃ (i m : Nat), v52 = .int .i64 i ∧ i ≤ N ∧ g = N - i ∧ m ≤ n0 + 1 + Mu.vszL (l.take i) ∧ Hid (wr.heap[nb]? = some (.cells #[.int .i64 m] 3 (0, 0)) ∧ Fr (· = nb) w1 wr))
 case atStart =>
  rw [← HW1.out];exact ⟨0, n0 + 1, rfl, Nat.zero_le _, rfl, by omega, hid ⟨HB1.out, Fr.refl _ _⟩⟩
 case round =>
  obtain ⟨i, m, rfl, hi0, rfl, hm, HG⟩ := hrel
  by_cases hlt : i < N
  · obtain ⟨g, o, k1, t1, n1, b1, a1, l1, c1, a2, l2, c2, rfl, hSg, hu, e0, e1, e2, e3, e4, e5⟩ := HC.out i (by have := HN.out; omega)
    have hil : i < l.length := by have := HUL.out; have := HN.out; omega
    have hm2 : m + Mu.vsz l[i] ≤ n0 + 1 + Mu.vszL (l.take (i + 1)) := by rw [Mu.vszL_take l i hil]; omega
    have hm3 : n0 + 1 + Mu.vszL (l.take (i + 1)) ≤ 1000 := by have := Mu.vszL_le l (i + 1); omega
    have hfw := HF1.out.trans HG.out.2;have hgw : ∀ x v, w.cell? ⟨g, x, none⟩ = some v → wr.cell? ⟨g, x, none⟩ = some v := fun x v h => (World.cell?_of_block (w := w) (a := ⟨g, x, none⟩) (hfw.block g (HS.out g hSg).1 (HS.out g hSg).2)).trans h
    have d0 := hgw _ _ e0;have d1 := hgw _ _ e1;have d2 := hgw _ _ e2;have d3 := hgw _ _ e3;have d4 := hgw _ _ e4;have d5 := hgw _ _ e5
    have hcall : Calls Tryz.prog 61 #[.agg #[.int .i64 k1, .string t1, .int .i64 n1, .bool b1, .slice a1 l1 c1, .slice a2 l2 c2], .int .i64 ((depth : Int) + 1), .pointer (some ⟨nb, 0, none⟩)] (wr.alloc (.cells #[.int .i64 k1, .string t1, .int .i64 n1, .bool b1, .slice a1 l1 c1, .slice a2 l2 c2] 25)) (CoPost nb (m + Mu.vsz l[i]) (wr.alloc (.cells #[.int .i64 k1, .string t1, .int .i64 n1, .bool b1, .slice a1 l1 c1, .slice a2 l2 c2] 25))) := by
     rw [← hu]; exact HD.out _ (hfw.allocA _) i (by have := HN.out; omega) hil m (blk_alloc _ HG.out.1) (by omega)
    have HCALL := hid hcall;have hsz2 := hfw.size;clear hfw hgw hu e0 e1 e2 e3 e4 e5 hcall hSg;go_wp2_with fail;refine HCALL.out.mono ?_;rintro e w2 ⟨rfl, HP⟩
    have HNX : Hid (∃ m2 : Nat, m2 ≤ n0 + 1 + Mu.vszL (l.take (i + 1)) ∧ w2.heap[nb]? = some (.cells #[.int .i64 m2] 3 (0, 0)) ∧ Fr (· = nb) w1 w2) := hid (by
     obtain ⟨m2, h1, h2, h3⟩ := HP.out;exact ⟨m2, by omega, h2, (HG.out.2.allocA _).trans h3⟩)
    clear HP;go_wp2_with fail;obtain ⟨m2, h1, h2, h3⟩ := HNX.out
    go_roundg (N - (i + 1))
    case rel => exact ⟨i + 1, m2, by go_num, by omega, rfl, h1, hid ⟨h2, h3⟩⟩
    case measure => omega
  · have hmf : m ≤ n0 + (1 + Mu.vszL l) := by
     have : l.take i = l := List.take_of_length_le (by have := HUL.out; have := HN.out; omega);rw [this] at hm;omega
    go_wp2_with fail;go_ret
    exact ⟨rfl, hid ⟨m, hmf, HG.out.1, HF1.out.trans HG.out.2⟩⟩
theorem count_all (T : Nat) : ∀ (d : Nat) (v : Mu.Val), Mu.VOk T d v → CoC d v
 | 0, v, h => h.elim
 | d + 1, .mk k t n b ks l, h => by
  obtain ⟨⟨h1, h2⟩, -, -, ⟨h3, h4⟩, -, h5⟩ := h;have IH : ∀ x ∈ l, CoC d x := fun x hx => count_all T d x (h5 x hx)
  have hd1 : l ≠ [] → 1 ≤ d := fun hne => by
   obtain ⟨x, hx⟩ := List.exists_mem_of_ne_nil l hne
   cases d with
   | zero => exact (h5 x hx).elim
   | succ d => omega
  simp only [Mu.Val.kind, Mu.Val.list, Mu.Val.keys] at h1 h2 h3 h4
  by_cases e4 : k = 4
  · subst e4
    exact count_4 d t n b ks l IH hd1 h4
  by_cases e5 : k = 5
  · subst e5
    exact count_5 d t n b ks l IH hd1 h4 (h3 rfl).1
  exact count_flat d k t n b ks l h1 (by omega)
end Go.Proofs.YtfakghnpkdoclaaGreatDoor
namespace Go.Proofs.YtfakghnpkdoclaaGreatDoor
open Go.RowKit
open Go.Lib (hid)
def VlPost (cs : List Mu.Val) (w : World) (e : Ending) (w' : World) : Prop := ∃ v, e = .returned v ∧ Hid (∃ R us S', RowAt w' R v us ∧ CsAt w' S' cs us ∧ F0 w w' ∧ (∀ k, R k → w.heap.size ≤ k ∧ k < w'.heap.size) ∧ ∀ k, S' k → w.heap.size ≤ k ∧ k < w'.heap.size)
theorem values_any (l : List Mu.Val) (IH : ∀ x ∈ l, VC x) (hl : l.length ≤ 8) (w : World) (S : Nat → Prop) (cv : Value) (us : List Value) (hvs : VsAt w S cv us) (hds : DsAt w S l us) (hS : ∀ k, S k → k < w.heap.size) :
 Calls Tryz.prog 36 #[cv] w (VlPost l w) := by
 obtain ⟨la, lc, rfl, -⟩ := id hvs
 have hul := hds.length
 obtain ⟨i0, hi, hz1, hz2, hz3⟩ := info_parts infoAny
 have HC : Hid (∀ j (h : j < us.length), ∃ g o k1 t1 n1 b1 a1 l1 c1 a2 l2 c2, la = some ⟨g, o, none⟩ ∧ S g ∧ us[j] = .agg #[.int .i64 k1, .string t1, .int .i64 n1, .bool b1, .slice a1 l1 c1, .slice a2 l2 c2] ∧ w.cell? ⟨g, o + j * 6, none⟩ = some (.int .i64 k1) ∧ w.cell? ⟨g, o + j * 6 + 1, none⟩ = some (.string t1) ∧ w.cell? ⟨g, o + j * 6 + 2, none⟩ = some (.int .i64 n1) ∧ w.cell? ⟨g, o + j * 6 + 3, none⟩ = some (.bool b1) ∧ w.cell? ⟨g, o + j * 6 + 4, none⟩ = some (.slice a1 l1 c1) ∧ w.cell? ⟨g, o + j * 6 + 5, none⟩ = some (.slice a2 l2 c2)) := hid (fun j hj => hvs.one hds hj)
 have HD : Hid (∀ (w' : World), F0 w w' → ∀ j (h : j < us.length) (h' : j < l.length), Calls Tryz.prog 40 #[us[j]] w' (VPost l[j] w')) := hid (fun w' hf j hj hj' =>
  IH l[j] (List.getElem_mem hj') w' S _ (DAt.keep (fun k hk => hf.block k (hS k hk) id) (fun _ h => h) _ _ (hds.at j hj' hj)) (fun k hk => by have := hS k hk; have := hf.size; omega))
 have HUL := hid hul
 have hu8 : us.length ≤ 8 := by omega
 clear hvs hds hul hl IH hS
 go_enter Tryz.func36, Tryz.ntmps36
 go_wp2_with fail
 go_loopg [3, 8] us.length (fun g v3 v8 wr => ∃ (i : Nat) (outs : List Value), v8 = .int .i64 i ∧ i ≤ us.length ∧ outs.length = i ∧ g = us.length - i ∧ Hid (Gath w wr v3 (l.take i) outs))
 case atStart =>
  exact ⟨0, [], rfl, Nat.zero_le _, rfl, rfl, hid ⟨World.ownsRow_nil _ _ _ _, Fr.refl _ _, fun _ => False, by simp [CsAt], fun _ h => h.elim⟩⟩
 case round =>
  obtain ⟨i, outs, rfl, hi0, hol, rfl, HG⟩ := hrel
  by_cases hlt : i < us.length
  · obtain ⟨g, o, k1, t1, n1, b1, a1, l1, c1, a2, l2, c2, rfl, -, hu, e0, e1, e2, e3, e4, e5⟩ := HC.out i hlt
    have hf0 := HG.out.fr;have d0 := F0.cell hf0 e0;have d1 := F0.cell hf0 e1;have d2 := F0.cell hf0 e2;have d3 := F0.cell hf0 e3;have d4 := F0.cell hf0 e4;have d5 := F0.cell hf0 e5
    have hcall : Calls Tryz.prog 40 #[.agg #[.int .i64 k1, .string t1, .int .i64 n1, .bool b1, .slice a1 l1 c1, .slice a2 l2 c2]] (wr.alloc (.cells #[.int .i64 k1, .string t1, .int .i64 n1, .bool b1, .slice a1 l1 c1, .slice a2 l2 c2] 25)) (VPost (l[i]'(by have := HUL.out; omega)) (wr.alloc (.cells #[.int .i64 k1, .string t1, .int .i64 n1, .bool b1, .slice a1 l1 c1, .slice a2 l2 c2] 25))) := by
     rw [← hu]; exact HD.out _ (hf0.allocA _) i hlt (by have := HUL.out; omega)
    have HCALL := hid hcall;have hsz := hf0.size;clear hf0 hu e0 e1 e2 e3 e4 e5 hcall;go_wp2_with fail;refine HCALL.out.mono ?_;rintro e w2 ⟨u, S2, rfl, HV⟩;have hs2 := HV.out.2.1.size;simp at hs2
    rcases HV.out.1.form with rfl | ⟨T9, z9, rfl⟩
    · go_wp2_with (at_builtin; refine wpList_append_own_at _ rfl _ _ 66 rfl w.heap.size 20 i0 .nilIface 1 16 Tryz.underlying66 hi hz1 hz2 hz3 rfl (by decide) u3 outs.length outs rfl ?own ⟨_, 0, none⟩ 1 1 [.nilIface] rfl rfl ?c1 ?c2 ?c3 ?c4 ?c5 ?_)
      case own =>
       subst hol;exact (ownsRow_of_block HG.out.own (fun k hk => (HV.out.2.1.block k (by have := (HG.out.own.lt k hk).2; simp; omega) id).trans (Below.heap_alloc wr _ k (HG.out.own.lt k hk).2))).alloc _
      case c1 => exact one_new0 _ _ _ (by simp)
      case c2 => intro v hv; rw [List.mem_singleton.1 hv]; rfl
      case c3 => unfold maxLen; omega
      case c4 => omega
      case c5 => simp; omega
      intro xv w3 hown hgrow _ hat;rw [← hol] at hown
      have HN : Hid (Gath w w3 xv (l.take (i + 1)) (outs ++ [.nilIface])) := hid (by
       have hil : i < l.length := by have := HUL.out; omega
       rw [List.take_add_one, List.getElem?_eq_getElem hil, Option.toList_some];exact HG.out.add (w2 := w2) ((Fr.alloc _ _ _).trans HV.out.2.1) HV.out.1 (fun k hk => by have := HV.out.2.2 k hk; simp at this; omega) hown hgrow (by simp) hat)
      clear hown hgrow hat;go_wp2_with fail
      go_roundg (us.length - (i + 1))
      case rel => exact ⟨i + 1, _, by go_num, by omega, by simp; omega, rfl, HN⟩
      case measure => omega
    · go_wp2_with (at_builtin; refine wpList_append_own_at _ rfl _ _ 66 rfl w.heap.size 20 i0 .nilIface 1 16 Tryz.underlying66 hi hz1 hz2 hz3 rfl (by decide) u3 outs.length outs rfl ?own ⟨_, 0, none⟩ 1 1 [.iface T9 z9] rfl rfl ?c1 ?c2 ?c3 ?c4 ?c5 ?_)
      case own =>
       subst hol;exact (ownsRow_of_block HG.out.own (fun k hk => (HV.out.2.1.block k (by have := (HG.out.own.lt k hk).2; simp; omega) id).trans (Below.heap_alloc wr _ k (HG.out.own.lt k hk).2))).alloc _
      case c1 => exact one_new0 _ _ _ (by simp)
      case c2 => intro v hv; rw [List.mem_singleton.1 hv]; rfl
      case c3 => unfold maxLen; omega
      case c4 => omega
      case c5 => simp; omega
      intro xv w3 hown hgrow _ hat;rw [← hol] at hown
      have HN : Hid (Gath w w3 xv (l.take (i + 1)) (outs ++ [.iface T9 z9])) := hid (by
       have hil : i < l.length := by have := HUL.out; omega
       rw [List.take_add_one, List.getElem?_eq_getElem hil, Option.toList_some];exact HG.out.add (w2 := w2) ((Fr.alloc _ _ _).trans HV.out.2.1) HV.out.1 (fun k hk => by have := HV.out.2.2 k hk; simp at this; omega) hown hgrow (by simp) hat)
      clear hown hgrow hat;go_wp2_with fail
      go_roundg (us.length - (i + 1))
      case rel => exact ⟨i + 1, _, by go_num, by omega, by simp; omega, rfl, HN⟩
      case measure => omega
  · have HG2 : Hid (Gath w wr u3 l outs) := hid (by
     have := HG.out
     rwa [List.take_of_length_le (by have := HUL.out; omega)] at this)
    clear HG;go_wp2_with fail;go_ret;obtain ⟨S2, c1, c2⟩ := HG2.out.cs;have ho := HG2.out.own;refine ⟨_, rfl, hid ⟨_, outs, S2, row_of_owns (n := outs.length) (e := 20) ⟨ho.1, ?_⟩, c1, HG2.out.fr, fun k hk => ho.lt k hk, fun k hk => (c2 k hk).1⟩⟩
    rcases ho.2 with h | ⟨g, cap, cur, h1, h2, h3⟩
    · exact .inl h
    · exact .inr ⟨g, cap, cur, h1, Nat.zero_le _, h3⟩
end Go.Proofs.YtfakghnpkdoclaaGreatDoor
namespace Go.Proofs.YtfakghnpkdoclaaGreatDoor
open Go.RowKit
open Go.Lib (hid)
theorem addr_addz (b j : Nat) : (⟨b, 0, none⟩ : Addr).add j = ⟨b, j, none⟩ := by unfold Addr.add; split <;> simp_all
def TxAt (w : World) (g : Nat) (xs : List ByteArray) : Prop := ∀ j (h : j < xs.length), w.cell? ⟨g, j, none⟩ = some (.string xs[j])
theorem TxAt.f0 {w w' : World} {g : Nat} {xs : List ByteArray} (h : TxAt w g xs) (hf : F0 w w') : TxAt w' g xs := fun j hj => F0.cell hf (h j hj)
theorem TxAt.olds {w w' : World} {g : Nat} {xs : List ByteArray} (h : TxAt w g xs) (hf : F0 w w') : ∀ b, some (⟨g, 0, none⟩ : Addr) = some b → ∀ j u, (xs.map Value.string)[j]? = some u → w'.cell? (b.add j) = some u := by
 intro b hb j u hj
 injection hb with hb
 subst hb
 have e1 : (⟨g, 0, none⟩ : Addr).add j = ⟨g, j, none⟩ := addr_addz g j
 rw [e1]
 have hjl : j < xs.length := by
  have := (List.getElem?_eq_some_iff.1 hj).1;simpa using this
 rw [List.getElem?_map, List.getElem?_eq_getElem hjl] at hj
 rw [← Option.some.inj hj]
 exact h.f0 hf j hjl
theorem TxAt.own {w : World} {B n : Nat} {v : Value} {xs : List ByteArray} (h : w.ownsRow B 9 1 v n (xs.map .string)) (h0 : 0 < xs.length) : ∃ g c, v = .slice (some ⟨g, 0, none⟩) xs.length c ∧ TxAt w g xs := by
 have hl : xs.length = n := by have := h.1; simpa using this
 rcases h.2 with ⟨-, h2⟩ | ⟨g, cap, cur, h1, -⟩
 · omega
 · refine ⟨g, cap, by rw [hl]; exact h1, fun j hj => ?_⟩
   have := h.cells (g := g) (by rw [h1]; rfl) j (.string xs[j]) (by rw [List.getElem?_map, List.getElem?_eq_getElem hj]; rfl)
   rwa [addr_addz] at this
theorem two_new (w : World) (a b : Value) (T : TypeId) {n : Nat} (hn : n = w.heap.size) : ∀ (j : Nat) (v : Value), [a, b][j]? = some v → (w.alloc (.cells #[a, b] T)).drew.cell? ((⟨n, 0, none⟩ : Addr).add j) = some v := by
 subst hn
 intro j v hj
 rw [addr_addz]
 have := blk_cell (blk_new w (.cells #[a, b] T)) j
 rw [show (w.alloc (.cells #[a, b] T)).drew.cell? ⟨w.heap.size, j, none⟩ = (w.alloc (.cells #[a, b] T)).cell? ⟨w.heap.size, j, none⟩ from rfl, this]
 simpa using hj
theorem taken_any (xs0 : List ByteArray) (b1 c0 : Nat) (pv : Value) (ps : List (ByteArray × ByteArray)) (cs : List Mu.Val) (T d : Nat) (w : World) (S : Nat → Prop) (cv : Value) (us : List Value)
 (htx : TxAt w b1 xs0) (hx1 : 0 < xs0.length) (hx2 : xs0.length ≤ 2) (hc0 : xs0.length ≤ c0) (hc0m : c0 ≤ maxLen) (hxs : ∀ x ∈ xs0, x.size ≤ 4096) (hps : PsAt w pv ps) (hpl : ps.length ≤ 4) (hpz : ∀ p ∈ ps, p.1.size ≤ 4096 ∧ p.2.size ≤ 4096)
 (hvs : VsAt w S cv us) (hds : DsAt w S cs us) (hS : ∀ k, S k → k < w.heap.size) (hc1 : 1 ≤ cs.length) (hc2 : cs.length ≤ 10) (hok : ∀ x ∈ cs, Mu.VOk T d x) (hd : 1 ≤ d ∧ d ≤ 20) (hsz : Mu.vszL cs ≤ 1000) :
 Calls Tryz.prog 33 #[.slice (some ⟨b1, 0, none⟩) xs0.length c0, pv, cv] w (fun e w' => e = .returned (.bool true) ∧ F0 w w') := by
 obtain ⟨pa, pc, rfl, -⟩ := id hps
 obtain ⟨la, lc, rfl, -⟩ := id hvs
 have hul := hds.length
 obtain ⟨i0, hi, hz1, hz2, hz3⟩ := info_parts infoStr
 have HPS := hid hps
 have HTX := hid htx
 have HXS := hid hxs
 have HPZ := hid hpz
 have HVS := hid hvs
 have HDS := hid hds
 have HSS := hid hS
 have HOK := hid hok
 have HUL := hid hul
 obtain ⟨N, hN⟩ : ∃ N, us.length = N := ⟨_, rfl⟩
 rw [hN]
 have HN := hid hN
 have hn1 : 1 ≤ N := by omega
 have hn2 : N ≤ 10 := by omega
 have q1 : decide ((20 : Int) < (ps.length : Int)) = false := by simp; omega
 have q2 : decide ((N : Int) < 1) = false := by simp; omega
 have q3 : decide ((10 : Int) < (N : Int)) = false := by simp; omega
 clear hps htx hxs hpz hvs hds hS hok hul hN
 go_enter Tryz.func33, Tryz.ntmps33
 go_wp2_with fail
 go_loopg [0, 29] ps.length (fun g v0 v29 wr => ∃ (i gx c : Nat) (xs : List ByteArray), v0 = .slice (some ⟨gx, 0, none⟩) xs.length c ∧ v29 = .int .i64 i ∧ i ≤ ps.length ∧ g = ps.length - i ∧ 0 < xs.length ∧ xs.length ≤ 2 + 2 * i ∧ xs.length ≤ c ∧ c ≤ maxLen ∧ Hid (TxAt wr gx xs ∧ F0 w wr ∧ ∀ x ∈ xs, x.size ≤ 4096))
 case atStart => exact ⟨0, b1, c0, xs0, rfl, rfl, Nat.zero_le _, rfl, hx1, by omega, hc0, hc0m, hid ⟨HTX.out, Fr.refl _ _, HXS.out⟩⟩
 case round =>
  obtain ⟨i, gx, c, xs, rfl, rfl, hi0, rfl, hx0, hxl, hxc, hxm, HG⟩ := hrel;unfold maxLen at hxm
  by_cases hlt : i < ps.length
  · obtain ⟨pb, po, pn, pt, rfl, hpe, e0, e1, -⟩ := HPS.out.at hlt
    have d0 := F0.cell HG.out.2.1 e0;have d1 := F0.cell HG.out.2.1 e1;have HPE := hid hpe;clear hpe e0 e1;have hb1 : xs.length + 2 ≤ maxLen := by unfold maxLen; omega
    have hb2 : (xs.length + 2) * 16 ≤ 140737488355328 := by omega
    go_upto_region 6 with fail
    go_region_law (refine step_append_grows (by rfl) _ _ 22 (by rfl) 9 i0 (.string ⟨#[]⟩) 1 16 Tryz.underlying22 hi hz1 hz2 hz3 rfl (by decide) (some ⟨gx, 0, none⟩) xs.length xs.length (xs.map .string) (by rfl) (fun h => by cases h) (by simp) (HG.out.1.olds (by repeat (first | exact Fr.refl _ _ | refine Fr.drewA ?_ | refine Fr.allocA ?_ _))) ⟨_, 0, none⟩ 2 2 [.string pn, .string pt] (by rfl) (by rfl) (two_new _ _ _ _ (by simp)) (by intro u hu; simp at hu; rcases hu with rfl | rfl <;> rfl) (by omega) hb1 hb2 ?_; intro v' w2 hown hgrow)
    all_goals
     have HN2 : Hid (∃ gy cy, v' = .slice (some ⟨gy, 0, none⟩) (xs ++ [pn, pt]).length cy ∧ TxAt w2 gy (xs ++ [pn, pt]) ∧ (xs ++ [pn, pt]).length ≤ cy ∧ cy ≤ maxLen ∧ F0 w w2 ∧ ∀ x ∈ xs ++ [pn, pt], x.size ≤ 4096) := hid (by
      have ho2 := hown;rw [show xs.map Value.string ++ [.string pn, .string pt] = (xs ++ [pn, pt]).map .string by rw [List.map_append]; rfl] at ho2;obtain ⟨gy, cy, h1, h2⟩ := TxAt.own ho2 (by simp)
      have hcy : (xs ++ [pn, pt]).length ≤ cy ∧ cy ≤ maxLen := by
       rcases ho2.2 with ⟨h3, -⟩ | ⟨g3, cap3, cur3, h3, -, -, h4, h5, -⟩
       · rw [h1] at h3; cases h3
       · rw [h1] at h3
         injection h3 with _ _ h3;rw [h3];exact ⟨by simpa using h4, h5⟩
      refine ⟨gy, cy, h1, h2, hcy.1, hcy.2, grown_f0 (by repeat (first | exact HG.out.2.1 | refine Fr.drewA ?_ | refine Fr.allocA ?_ _)) hgrow (fun k hk => by cases hk), fun x hx => ?_⟩
      rcases List.mem_append.1 hx with hx | hx
      · exact HG.out.2.2 x hx
      · have := HPZ.out _ (List.getElem_mem hlt)
        rw [HPE.out] at this;simp at hx
        rcases hx with rfl | rfl
        · exact this.1
        · exact this.2)
     clear hown hgrow;obtain ⟨gy, cy, rfl, h2, h3, h4, h5, h6⟩ := HN2.out;go_wp2_with fail
     go_roundg (ps.length - (i + 1))
     case rel => exact ⟨i + 1, gy, cy, xs ++ [pn, pt], by simp, by go_num, by omega, rfl, by simp, by simp; omega, h3, h4, hid ⟨h2, h5, h6⟩⟩
     case measure => omega
  ·
    have hxl10 : xs.length ≤ 10 := by omega
    go_wp2_with fail
    go_loopg [48] xs.length (fun g v48 w2 => ∃ j : Nat, v48 = .int .i64 j ∧ j ≤ xs.length ∧ g = xs.length - j ∧ w2 = wr)
    case atStart => exact ⟨0, rfl, Nat.zero_le _, rfl, rfl⟩
    case round =>
     obtain ⟨j, rfl, hj0, rfl, rfl⟩ := hrel
     by_cases hjl : j < xs.length
     · have e0 := HG.out.1 j hjl
       have hz := HG.out.2.2 xs[j] (List.getElem_mem hjl);obtain ⟨xj, hxj⟩ : ∃ xj, xj = xs[j] := ⟨_, rfl⟩
       rw [← hxj] at e0 hz;clear hxj;have q4 : decide ((4096 : Int) < (xj.size : Int)) = false := by simp; omega
       go_wp2_with fail
       go_roundg (xs.length - (j + 1))
       case rel => exact ⟨j + 1, by go_num, by omega, rfl, rfl⟩
       case measure => omega
     ·
       obtain ⟨wT, hwT⟩ : ∃ wT, wT = wr := ⟨_, rfl⟩
       subst hwT;obtain ⟨nb, hnb⟩ : ∃ nb, nb = wT.heap.size := ⟨_, rfl⟩
       have hC0 : (wT.alloc (.cells #[.int .i64 0] 3)).heap[nb]? = some (.cells #[.int .i64 ((0 : Nat) : Int)] 3 (0, 0)) := by rw [hnb]; exact blk_new _ _
       have hs0 := HG.out.2.1.size;have HNB := hid hnb;have HC0 := hid hC0;clear hC0;go_wp2_with fail;rw [← hnb];clear hnb
       go_loopg [58] N (fun g v58 w2 => ∃ (j m : Nat), v58 = .int .i64 j ∧ j ≤ N ∧ g = N - j ∧ m ≤ Mu.vszL (cs.take j) ∧ Hid (w2.heap[nb]? = some (.cells #[.int .i64 m] 3 (0, 0)) ∧ F0 wT w2))
       case atStart => exact ⟨0, 0, rfl, Nat.zero_le _, rfl, Nat.zero_le _, hid ⟨HC0.out, Fr.alloc _ _ _⟩⟩
       case round =>
        obtain ⟨j, m, rfl, hj0, rfl, hm, HP⟩ := hrel
        by_cases hlt2 : j < N
        · obtain ⟨g, o, k1, t1, n1, b1, a1, l1, c1, a2, l2, c2, rfl, hSg, hu, e0, e1, e2, e3, e4, e5⟩ := VsAt.one (j := j) (by rw [← HN.out] at *; exact HVS.out) HDS.out (by rw [HN.out]; exact hlt2)
          have hf0 := HG.out.2.1.trans HP.out.2;have d0 := F0.cell hf0 e0;have d1 := F0.cell hf0 e1;have d2 := F0.cell hf0 e2;have d3 := F0.cell hf0 e3;have d4 := F0.cell hf0 e4;have d5 := F0.cell hf0 e5;have hjc : j < cs.length := by have := HUL.out; have := HN.out; omega
          have hm2 : m + Mu.vsz cs[j] ≤ Mu.vszL (cs.take (j + 1)) := by rw [Mu.vszL_take cs j hjc]; omega
          have hm3 : m + Mu.vsz cs[j] ≤ 1000 := by have := Mu.vszL_le cs (j + 1); omega
          have hda := HDS.out.at j hjc (by rw [HN.out]; exact hlt2);rw [hu] at hda
          have hcall : Calls Tryz.prog 61 #[.agg #[.int .i64 k1, .string t1, .int .i64 n1, .bool b1, .slice a1 l1 c1, .slice a2 l2 c2], .int .i64 1, .pointer (some ⟨nb, 0, none⟩)] (wr.alloc (.cells #[.int .i64 k1, .string t1, .int .i64 n1, .bool b1, .slice a1 l1 c1, .slice a2 l2 c2] 25)) (CoPost nb (m + Mu.vsz cs[j]) (wr.alloc (.cells #[.int .i64 k1, .string t1, .int .i64 n1, .bool b1, .slice a1 l1 c1, .slice a2 l2 c2] 25))) := by
           have := count_all T d cs[j] (HOK.out _ (List.getElem_mem hjc)) (wr.alloc (.cells #[.int .i64 k1, .string t1, .int .i64 n1, .bool b1, .slice a1 l1 c1, .slice a2 l2 c2] 25)) S _ nb m 1 (DAt.keep (fun k hk => (hf0.allocA _).block k (HSS.out k hk) id) (fun _ h => h) _ _ hda) (fun k hk => by
            have h1 := HSS.out k hk;have h2 := HNB.out;have h3 := (hf0.allocA (.cells #[.int .i64 k1, .string t1, .int .i64 n1, .bool b1, .slice a1 l1 c1, .slice a2 l2 c2] 25)).size;exact ⟨by omega, by omega⟩) (blk_alloc _ HP.out.1) (by omega) hd.1 hm3
           exact this
          have HCALL := hid hcall;have hsz2 := hf0.size;have hnbl := blk_lt HP.out.1;clear hf0 hu e0 e1 e2 e3 e4 e5 hcall hda hSg;go_wp2_with fail;refine HCALL.out.mono ?_;rintro e w2 ⟨rfl, HQ⟩
          have HNX : Hid (∃ m2 : Nat, m2 ≤ Mu.vszL (cs.take (j + 1)) ∧ w2.heap[nb]? = some (.cells #[.int .i64 m2] 3 (0, 0)) ∧ F0 wT w2) := hid (by
           obtain ⟨m2, h1, h2, h3⟩ := HQ.out;exact ⟨m2, by omega, h2, (HP.out.2.allocA _).trans' h3 (fun i hi hm => by have := HNB.out; omega)⟩)
          clear HQ;go_wp2_with fail;obtain ⟨m2, h1, h2, h3⟩ := HNX.out
          go_roundg (N - (j + 1))
          case rel => exact ⟨j + 1, m2, by go_num, by omega, rfl, h1, hid ⟨h2, h3⟩⟩
          case measure => omega
        · go_wp2_with fail
          go_ret;exact ⟨rfl, HG.out.2.1.trans HP.out.2⟩
end Go.Proofs.YtfakghnpkdoclaaGreatDoor
namespace Go.Proofs.YtfakghnpkdoclaaGreatDoor
open Go.RowKit
open Go.Lib (hid)
def TxPost (t : Mu.B) (w : World) (e : Ending) (w' : World) : Prop := ∃ o : ByteArray, e = .returned (.string o) ∧ Hid (L o = t ∧ F0 w w')
theorem dig_sub : ∀ u, u < 10 → Mu.sub (L ⟨#[48, 49, 50, 51, 52, 53, 54, 55, 56, 57]⟩) u (u + 1) = [UInt8.ofNat (48 + u)] := by decide
theorem dec_len (u : Nat) : (Lib.decDigits u).length ≤ u + 1 := by
 induction u using Nat.strongRecOn with
 | ind u ih =>
  rw [Lib.decDigits];split
  · simp
  · have := ih (u / 10) (by omega)
    simp only [List.length_append, List.length_singleton]; omega
theorem dec_len2 (m : Nat) : ∀ u, u < 10 ^ (m + 1) → (Lib.decDigits u).length ≤ m + 1 := by
 induction m with
 | zero => intro u hu; rw [Lib.decDigits, dif_pos (by simpa using hu)]; simp
 | succ m ih =>
  intro u hu;rw [Lib.decDigits];split
  · simp
  · have := ih (u / 10) (by rw [Nat.pow_succ] at hu; omega)
    simp only [List.length_append, List.length_singleton]; omega
theorem dec_len20 (u : Nat) (hu : u ≤ 9223372036854775807) : (Lib.decDigits u).length ≤ 20 := dec_len2 19 u (by omega)
theorem decimal_nat (u : Nat) : ∀ (w : World), u ≤ 9223372036854775807 → Calls Tryz.prog 81 #[.int .i64 u] w (fun e w' => ∃ o : ByteArray, e = .returned (.string o) ∧ Hid (L o = Lib.decDigits u) ∧ w' = w) := by
 induction u using Nat.strongRecOn with
 | ind u ih =>
  intro w hu;have IH := hid ih;clear ih;have q0 : decide ((u : Int) < 0) = false := decide_eq_false (by omega)
  by_cases h10 : u < 10
  · have q1 : decide ((u : Int) < 10) = true := decide_eq_true (by omega)
    have HD : Hid (∀ x : ByteArray, x = (⟨#[48, 49, 50, 51, 52, 53, 54, 55, 56, 57]⟩ : ByteArray).extract u (u + 1) → L x = Lib.decDigits u) := hid (by
     rintro x rfl;rw [L_extract, dig_sub u h10, Lib.decDigits, dif_pos h10])
    have hb1 : (u : Int) + 1 ≤ 10 := by omega
    go_enter Tryz.func81, Tryz.ntmps81;go_wp2_with fail;go_ret;exact ⟨_, rfl, hid (HD.out _ rfl), rfl⟩
  · have q1 : decide ((u : Int) < 10) = false := decide_eq_false (by omega)
    have r1 : (u : Int).tdiv 10 = ((u / 10 : Nat) : Int) := by rw [Int.tdiv_eq_ediv_of_nonneg (by omega)]; omega
    have r2 : (u : Int).tmod 10 = ((u % 10 : Nat) : Int) := by rw [Int.tmod_eq_emod_of_nonneg (by omega)]; omega
    have hl1 : u / 10 < u := by omega
    have hl2 : u % 10 < u := by omega
    have hw1 : IntKind.i64.wrap ((u / 10 : Nat) : Int) = ((u / 10 : Nat) : Int) := by rw [IntKind.wrap_i64]; omega
    obtain ⟨a, ha⟩ : ∃ a, a = u / 10 := ⟨_, rfl⟩
    obtain ⟨b, hb⟩ : ∃ b, b = u % 10 := ⟨_, rfl⟩
    rw [← ha] at r1 hl1 hw1;rw [← hb] at r2 hl2;have HA := hid ha;have HB := hid hb;have HH := hid h10;clear ha hb h10;go_enter Tryz.func81, Tryz.ntmps81;go_wp2_with fail;refine (IH.out a hl1 _ (by omega)).mono ?_;rintro e w1 ⟨o1, rfl, HO1, rfl⟩;go_wp2_with fail;refine (IH.out b hl2 _ (by omega)).mono ?_;rintro e w2 ⟨o2, rfl, HO2, rfl⟩
    have hsz : ¬ 9223372036854775807 < o1.size + o2.size := by
     have h1 := dec_len a;have h2 := dec_len b;have h3 := HB.out;have h4 := HA.out;rw [← HO1.out, L_length] at h1;rw [← HO2.out, L_length] at h2;omega
    go_wp2_with fail;go_ret
    refine ⟨_, rfl, hid ?_, rfl⟩;rw [L_add, HO1.out, HO2.out, HA.out, HB.out, Lib.decDigits.eq_def u, dif_neg HH.out]
    congr 1
    rw [Lib.decDigits, dif_pos (by omega)]
theorem decimal_any (n : Int) (w : World) (h1 : -9223372036854775808 ≤ n) (h2 : n ≤ 9223372036854775807) : Calls Tryz.prog 81 #[.int .i64 n] w (fun e w' => ∃ o : ByteArray, e = .returned (.string o) ∧ Hid (L o = Lib.itoa n) ∧ w' = w) := by
 by_cases h0 : n < 0
 · by_cases hm : n = -9223372036854775808
   · subst hm
     have HD : Hid (L ⟨#[45, 57, 50, 50, 51, 51, 55, 50, 48, 51, 54, 56, 53, 52, 55, 55, 53, 56, 48, 56]⟩ = Lib.itoa (-9223372036854775808)) := hid (by decide +kernel);go_enter Tryz.func81, Tryz.ntmps81;go_wp2_with fail;go_ret;exact ⟨_, rfl, HD, rfl⟩
   · have q0 : decide (n < 0) = true := decide_eq_true h0
     have q1 : (n == -9223372036854775808) = false := by simpa using hm
     obtain ⟨u, hu⟩ : ∃ u : Nat, u = n.natAbs := ⟨_, rfl⟩
     have hun : -n = (u : Int) := by omega
     have hwn : IntKind.i64.wrap (-n) = (u : Int) := by rw [IntKind.wrap_i64]; omega
     have hul : u ≤ 9223372036854775807 := by omega
     have HD : Hid (Lib.itoa n = 45 :: Lib.decDigits u) := hid (by unfold Lib.itoa; rw [if_pos h0, hu]);clear hm h0 hu;go_enter Tryz.func81, Tryz.ntmps81;go_wp2_with fail;refine (decimal_nat u _ hul).mono ?_;rintro e w1 ⟨o1, rfl, HO1, rfl⟩
     have hsz : ¬ 9223372036854775807 < (⟨#[45]⟩ : ByteArray).size + o1.size := by
      have h1 := dec_len20 u hul;rw [← HO1.out, L_length] at h1;have h2 : (⟨#[45]⟩ : ByteArray).size = 1 := rfl;omega
     have hsz2 : ¬ 9223372036854775807 < 1 + o1.size := hsz;go_wp2_with fail;go_ret;refine ⟨_, rfl, hid ?_, rfl⟩;rw [L_add, HO1.out, HD.out]; rfl
 · obtain ⟨u, rfl⟩ : ∃ u : Nat, n = (u : Int) := ⟨n.toNat, by omega⟩
   have HD : Hid (Lib.itoa (u : Int) = Lib.decDigits u) := hid (by unfold Lib.itoa; rw [if_neg h0]; simp);refine (decimal_nat u w (by omega)).mono ?_;rintro e w1 ⟨o1, rfl, HO1, rfl⟩;exact ⟨o1, rfl, hid (by rw [HO1.out, HD.out]), rfl⟩
theorem shown_any (x : Mu.Val) (w : World) (S : Nat → Prop) (u : Value) (hd : DAt w S x u) (hn : -9223372036854775808 ≤ x.num ∧ x.num ≤ 9223372036854775807) : Calls Tryz.prog 57 #[u] w (TxPost (Mu.shown x) w) := by
 obtain ⟨k, t, n, b, ks, l⟩ := x
 unfold DAt at hd
 obtain ⟨tb, kv, lv, kbs, us, rfl, ht, -, -, -, -⟩ := hd
 have HT := hid ht
 simp only [Mu.Val.num] at hn
 clear ht
 by_cases h1 : k = 1
 · subst h1
   go_enter Tryz.func57, Tryz.ntmps57;go_wp2_with fail;go_ret;exact ⟨_, rfl, hid ⟨HT.out, Fr.alloc _ _ _⟩⟩
 by_cases h2 : k = 2
 · subst h2
   go_enter Tryz.func57, Tryz.ntmps57;go_wp2_with fail;refine (decimal_any n _ hn.1 hn.2).mono ?_;rintro e w1 ⟨o, rfl, HO, rfl⟩;go_wp2_with fail;go_ret;exact ⟨_, rfl, hid ⟨HO.out, Fr.alloc _ _ _⟩⟩
 by_cases h3 : k = 3
 · subst h3
   cases b
   all_goals
    go_enter Tryz.func57, Tryz.ntmps57;go_wp2_with fail;go_ret;exact ⟨_, rfl, hid ⟨rfl, Fr.alloc _ _ _⟩⟩
 have q1 : (k == 1) = false := by simpa using h1
 have q2 : (k == 2) = false := by simpa using h2
 have q3 : (k == 3) = false := by simpa using h3
 have HR : Hid (Mu.shown (.mk k t n b ks l) = []) := hid (by simp [Mu.shown, Mu.Val.kind, h1, h2, h3])
 clear h1 h2 h3
 go_enter Tryz.func57, Tryz.ntmps57
 go_wp2_with fail
 go_ret
 exact ⟨_, rfl, hid ⟨HR.out.symm, Fr.alloc _ _ _⟩⟩
end Go.Proofs.YtfakghnpkdoclaaGreatDoor
namespace Go.Proofs.YtfakghnpkdoclaaGreatDoor
open Go.RowKit
open Go.Lib (hid)
theorem trimmed_big (s : ByteArray) (w : World) (hs : s.size ≤ 4000000000000) :
 Calls Tryz.prog 82 #[.string s] w (TrimmedPost s w) := by
 go_enter Tryz.func82, Tryz.ntmps82
 go_wp2_with fail
 go_loopg [0] s.size (fun g v wr => ∃ t : ByteArray, v = .string t ∧ t.size ≤ s.size ∧ g = t.size ∧ wr = w ∧ Hid ((L t).dropWhile Mu.wsB = (L s).dropWhile Mu.wsB))
 case atStart => exact ⟨s, rfl, Nat.le_refl _, rfl, rfl, hid rfl⟩
 case round =>
  obtain ⟨t, rfl, hts, rfl, rfl, HT⟩ := hrel
  by_cases h0 : 0 < t.size
  · have hsz : (t.extract 1 t.size).size = t.size - 1 := by rw [ByteArray.size_extract]; omega
    have z1 : (1 : Int) ≤ (t.size : Int) := by omega
    have HSZ := hid hsz;clear hsz
    cases hb : Mu.blankB t[0] with
    | true =>
     have HW := hid (dw_step h0 (by rw [wsB_split, hb]; rfl));go_wp2_with fail;refine (blank_any _ _).mono ?_;rintro e w' ⟨rfl, rfl⟩;go_wp2_with fail
     go_roundg (t.extract 1 t.size).size
     case rel => exact ⟨_, rfl, by rw [HSZ.out]; omega, rfl, rfl, hid (by rw [HW.out, HT.out])⟩
     case measure => rw [HSZ.out]; omega
    | false =>
     by_cases h10 : t[0] = 10
     · have HW := hid (dw_step h0 (by rw [wsB_split, hb, h10]; rfl))
       have b10 : ((t[0].toNat : Int) == 10) = true := byte_is (b := 10) h10;clear h10;go_wp2_with fail;refine (blank_any _ _).mono ?_;rintro e w' ⟨rfl, rfl⟩;go_wp2_with fail
       go_roundg (t.extract 1 t.size).size
       case rel => exact ⟨_, rfl, by rw [HSZ.out]; omega, rfl, rfl, hid (by rw [HW.out, HT.out])⟩
       case measure => rw [HSZ.out]; omega
     · have HW := hid (dw_stop h0 (by rw [wsB_split, hb]; simpa using h10))
       have b10 : ((t[0].toNat : Int) == 10) = false := byte_isnt (b := 10) h10;have HQ : Hid (L t = (L s).dropWhile Mu.wsB) := hid (by rw [← HT.out, HW.out]);clear h10 HW HT HSZ;go_wp2_with fail;refine (blank_any _ _).mono ?_;rintro e w' ⟨rfl, rfl⟩;go_wp2_with fail
       go_loopg [0] t.size (fun g v w2 => ∃ u : ByteArray, v = .string u ∧ u.size ≤ t.size ∧ g = u.size ∧ w2 = wr ∧ Hid (Mu.trimR Mu.wsB (L u) = Mu.trimR Mu.wsB (L t)))
       case atStart => exact ⟨t, rfl, Nat.le_refl _, rfl, rfl, hid rfl⟩
       case round =>
        obtain ⟨u, rfl, hus, rfl, rfl, HU⟩ := hrel
        by_cases h1 : 0 < u.size
        · obtain ⟨m, hm⟩ : ∃ m, u.size = m + 1 := ⟨u.size - 1, by omega⟩
          have hmm : ((u.size : Int) - 1) = (m : Int) := by omega
          have hm1 : m < u.size := by omega
          have hlast : u[u.size - 1]'(Nat.sub_lt h1 Nat.one_pos) = u[m] := by congr 1; omega
          have z2 : (m : Int) ≤ (u.size : Int) := by omega
          have hsz : (u.extract 0 m).size = m := by rw [ByteArray.size_extract]; omega
          have HSZ := hid hsz;have HMM : Hid (u.size - 1 = m) := hid (by omega);have HLAST := hid hlast;clear hsz hm hlast
          cases hb2 : Mu.blankB u[m] with
          | true =>
           have HW := hid (tr_step h1 (by rw [HLAST.out, wsB_split, hb2]; rfl));rw [HMM.out] at HW;go_wp2_with fail;refine (blank_any _ _).mono ?_;rintro e w' ⟨rfl, rfl⟩;go_wp2_with fail
           go_roundg m
           case rel => exact ⟨_, rfl, by rw [HSZ.out]; omega, HSZ.out.symm, rfl, hid (by rw [HW.out, HU.out])⟩
           case measure => omega
          | false =>
           by_cases h10 : u[m] = 10
           · have HW := hid (tr_step h1 (by rw [HLAST.out, wsB_split, hb2, h10]; rfl))
             rw [HMM.out] at HW;have b10' : ((u[m].toNat : Int) == 10) = true := byte_is (b := 10) h10;clear h10;go_wp2_with fail;refine (blank_any _ _).mono ?_;rintro e w' ⟨rfl, rfl⟩;go_wp2_with fail
             go_roundg m
             case rel => exact ⟨_, rfl, by rw [HSZ.out]; omega, HSZ.out.symm, rfl, hid (by rw [HW.out, HU.out])⟩
             case measure => omega
           · have HW := hid (tr_stop h1 (by rw [HLAST.out, wsB_split, hb2]; simpa using h10))
             have b10' : ((u[m].toNat : Int) == 10) = false := byte_isnt (b := 10) h10;have HR : Hid (L u = Mu.trimBy Mu.wsB (L s)) := hid (by rw [← HW.out, HU.out, HQ.out]; rfl);clear h10 HW HU HSZ;go_wp2_with fail;refine (blank_any _ _).mono ?_;rintro e w' ⟨rfl, rfl⟩;go_wp2_with fail;go_ret;exact ⟨u, rfl, HR.out, rfl⟩
        · have HR : Hid (L u = Mu.trimBy Mu.wsB (L s)) := hid (by
           have h2 := HU.out;have h3 := dw_nil h1;rw [h3, HQ.out] at h2;rw [h3]; exact h2)
          go_wp2_with fail;go_ret
          exact ⟨u, rfl, HR.out, rfl⟩
  · have HQ : Hid (L t = (L s).dropWhile Mu.wsB) := hid (by rw [← HT.out, dw_nil h0]; rfl)
    clear HT;go_wp2_with fail
    go_loopg [0] t.size (fun g v w2 => ∃ u : ByteArray, v = .string u ∧ u.size ≤ t.size ∧ g = u.size ∧ w2 = wr ∧ Hid (Mu.trimR Mu.wsB (L u) = Mu.trimR Mu.wsB (L t)))
    case atStart => exact ⟨t, rfl, Nat.le_refl _, rfl, rfl, hid rfl⟩
    case round =>
     obtain ⟨u, rfl, hus, rfl, rfl, HU⟩ := hrel
     by_cases h1 : 0 < u.size
     · obtain ⟨m, hm⟩ : ∃ m, u.size = m + 1 := ⟨u.size - 1, by omega⟩
       have hmm : ((u.size : Int) - 1) = (m : Int) := by omega
       have hm1 : m < u.size := by omega
       have hlast : u[u.size - 1]'(Nat.sub_lt h1 Nat.one_pos) = u[m] := by congr 1; omega
       have z2 : (m : Int) ≤ (u.size : Int) := by omega
       have hsz : (u.extract 0 m).size = m := by rw [ByteArray.size_extract]; omega
       have HSZ := hid hsz;have HMM : Hid (u.size - 1 = m) := hid (by omega);have HLAST := hid hlast;clear hsz hm hlast
       cases hb2 : Mu.blankB u[m] with
       | true =>
        have HW := hid (tr_step h1 (by rw [HLAST.out, wsB_split, hb2]; rfl));rw [HMM.out] at HW;go_wp2_with fail;refine (blank_any _ _).mono ?_;rintro e w' ⟨rfl, rfl⟩;go_wp2_with fail
        go_roundg m
        case rel => exact ⟨_, rfl, by rw [HSZ.out]; omega, HSZ.out.symm, rfl, hid (by rw [HW.out, HU.out])⟩
        case measure => omega
       | false =>
        by_cases h10 : u[m] = 10
        · have HW := hid (tr_step h1 (by rw [HLAST.out, wsB_split, hb2, h10]; rfl))
          rw [HMM.out] at HW;have b10' : ((u[m].toNat : Int) == 10) = true := byte_is (b := 10) h10;clear h10;go_wp2_with fail;refine (blank_any _ _).mono ?_;rintro e w' ⟨rfl, rfl⟩;go_wp2_with fail
          go_roundg m
          case rel => exact ⟨_, rfl, by rw [HSZ.out]; omega, HSZ.out.symm, rfl, hid (by rw [HW.out, HU.out])⟩
          case measure => omega
        · have HW := hid (tr_stop h1 (by rw [HLAST.out, wsB_split, hb2]; simpa using h10))
          have b10' : ((u[m].toNat : Int) == 10) = false := byte_isnt (b := 10) h10;have HR : Hid (L u = Mu.trimBy Mu.wsB (L s)) := hid (by rw [← HW.out, HU.out, HQ.out]; rfl);clear h10 HW HU HSZ;go_wp2_with fail;refine (blank_any _ _).mono ?_;rintro e w' ⟨rfl, rfl⟩;go_wp2_with fail;go_ret;exact ⟨u, rfl, HR.out, rfl⟩
     · have HR : Hid (L u = Mu.trimBy Mu.wsB (L s)) := hid (by
        have h2 := HU.out;have h3 := dw_nil h1;rw [h3, HQ.out] at h2;rw [h3]; exact h2)
       go_wp2_with fail;go_ret
       exact ⟨u, rfl, HR.out, rfl⟩
end Go.Proofs.YtfakghnpkdoclaaGreatDoor
namespace Go.Proofs.YtfakghnpkdoclaaGreatDoor
open Go.RowKit
open Go.Lib (hid)
def bc (l : Mu.B) : List Value := l.map fun b => Value.int .u8 b.toNat
theorem bc_app (a b : Mu.B) : bc (a ++ b) = bc a ++ bc b := by simp [bc]
theorem bc_len (a : Mu.B) : (bc a).length = a.length := by simp [bc]
theorem infoU8 : (Tryz.prog.info? 5).map (fun i => (i.zero, i.size, i.bytes)) = some (some (.int .u8 0), 1, 1) := by kernel_rfl
structure BAt (w0 w : World) (v : Value) (l : Mu.B) : Prop where
 own : w.ownsRow w0.heap.size 5 1 v l.length (bc l)
 fr : F0 w0 w
theorem own_convert {w : World} {B : Nat} {v : Value} {l : Mu.B} (h : w.ownsRow B 5 1 v l.length (bc l)) : (convert 121 9 v).run Tryz.prog w = .ok (.string ⟨l.toArray⟩) w := by
 by_cases hp : 0 < l.length
 · obtain ⟨g, c, rfl, -, -, h3⟩ := own_read h hp
   refine run_convert_bytes_back w _ _ 5 _ c l Tryz.underlying121 Tryz.underlying5 Tryz.underlying9 (fun j hj => ?_);have := h3 j (by rw [bc_len]; exact hj);rw [show (⟨g, 0, none⟩ : Addr).add j = ⟨g, j, none⟩ by simp [Addr.add]; omega, this];simp [bc]
 · have hl : l = [] := List.length_eq_zero_iff.1 (by omega)
   subst hl
   rcases h.2 with ⟨rfl, -⟩ | ⟨g, cap, cur, rfl, -⟩
   · exact run_convert_bytes_nil (P := Tryz.prog) (w := w) _ 5 Tryz.underlying121 Tryz.underlying5 0 0 _ Tryz.underlying9
   · exact run_convert_bytes_back w _ _ 5 ⟨g, 0, none⟩ cap [] Tryz.underlying121 Tryz.underlying5 Tryz.underlying9 (fun j hj => absurd hj (by simp))
theorem escaped_any (s : ByteArray) (w : World) (hs : s.size ≤ 4000000000000) : Calls Tryz.prog 58 #[.string s] w (TxPost (Mu.esc (L s)) w) := by
 obtain ⟨i0, hi, hz1, hz2, hz3⟩ := info_parts infoU8
 go_enter Tryz.func58, Tryz.ntmps58
 go_wp2_with fail
 go_loopg [3, 4] s.size (fun g v3 v4 wr => ∃ (k : Nat) (l : Mu.B), v4 = .int .i64 k ∧ k ≤ s.size ∧ g = s.size - k ∧ l.length ≤ 5 * k ∧ Hid (BAt w wr v3 l ∧ l = Mu.esc ((L s).take k)))
 case atStart =>
  refine ⟨0, [], rfl, Nat.zero_le _, rfl, Nat.zero_le _, hid ⟨⟨ownsRow_new w _ _, Fr.alloc _ _ _⟩, rfl⟩⟩
 case round =>
  obtain ⟨k, l, rfl, hk, rfl, hll, HB⟩ := hrel
  by_cases hlt : k < s.size
  · have HST : Hid (∀ (w' : World) (v' : Value) (m : Mu.B), m = Mu.escB s[k] → w'.ownsRow w.heap.size 5 1 v' (l ++ m).length (bc (l ++ m)) → F0 w w' → (l ++ m).length ≤ 5 * (k + 1) ∧ Hid (BAt w w' v' (l ++ m) ∧ l ++ m = Mu.esc ((L s).take (k + 1)))) := hid (fun w' v' m hm ho hf => ⟨by
     have := escB_len s[k];rw [← hm] at this;rw [List.length_append]; omega, hid ⟨⟨ho, hf⟩, by rw [take_one s k hlt, esc_snoc, ← HB.out.2, hm]⟩⟩)
    have hbase : w.heap.size ≤ wr.heap.size := HB.out.1.fr.size;obtain ⟨c, hc⟩ : ∃ c, c = s[k] := ⟨_, rfl⟩
    by_cases h38 : s[k] = 38
    · have q38 : ((s[k].toNat : Int) == 38) = true := byte_is (b := 38) h38
      have HN := hid (fun w' v' => HST.out w' v' [38, 97, 109, 112, 59] (by rw [h38]; decide));clear h38 hc
      go_wp2_with (at_builtin; refine Lib.wpList_append_own_string _ rfl _ _ 121 9 rfl w.heap.size 5 i0 Tryz.underlying121 Tryz.underlying9 hi hz1 hz2 hz3 u3 l.length (bc l) rfl ?own ⟨#[38, 97, 109, 112, 59]⟩ rfl ?c1 ?c2 ?c3 ?_)
      case own => exact HB.out.1.own
      case c1 => show l.length + 5 ≤ _; unfold maxLen; omega
      case c2 => show l.length + 5 ≤ _; omega
      case c3 => exact hbase
      intro xv w3 hown hgrow hat;have HX := hid (HN.out w3 xv (by rw [List.length_append, bc_app]; exact hown) (grown_f0 HB.out.1.fr hgrow (own_base HB.out.1.own)));clear hown hgrow hat;go_wp2_with fail
      go_roundg (s.size - (k + 1))
      case rel => exact ⟨k + 1, _, by go_num, by omega, rfl, HX.out.1, HX.out.2⟩
      case measure => omega
    have q38 : ((s[k].toNat : Int) == 38) = false := byte_isnt (b := 38) h38
    by_cases h60 : s[k] = 60
    · have q60 : ((s[k].toNat : Int) == 60) = true := byte_is (b := 60) h60
      have HN := hid (fun w' v' => HST.out w' v' [38, 108, 116, 59] (by rw [h60]; decide));clear h60 hc
      go_wp2_with (at_builtin; refine Lib.wpList_append_own_string _ rfl _ _ 121 9 rfl w.heap.size 5 i0 Tryz.underlying121 Tryz.underlying9 hi hz1 hz2 hz3 u3 l.length (bc l) rfl ?own ⟨#[38, 108, 116, 59]⟩ rfl ?c1 ?c2 ?c3 ?_)
      case own => exact HB.out.1.own
      case c1 => show l.length + 4 ≤ _; unfold maxLen; omega
      case c2 => show l.length + 4 ≤ _; omega
      case c3 => exact hbase
      intro xv w3 hown hgrow hat;have HX := hid (HN.out w3 xv (by rw [List.length_append, bc_app]; exact hown) (grown_f0 HB.out.1.fr hgrow (own_base HB.out.1.own)));clear hown hgrow hat;go_wp2_with fail
      go_roundg (s.size - (k + 1))
      case rel => exact ⟨k + 1, _, by go_num, by omega, rfl, HX.out.1, HX.out.2⟩
      case measure => omega
    have q60 : ((s[k].toNat : Int) == 60) = false := byte_isnt (b := 60) h60
    by_cases h62 : s[k] = 62
    · have q62 : ((s[k].toNat : Int) == 62) = true := byte_is (b := 62) h62
      have HN := hid (fun w' v' => HST.out w' v' [38, 103, 116, 59] (by rw [h62]; decide));clear h62 hc
      go_wp2_with (at_builtin; refine Lib.wpList_append_own_string _ rfl _ _ 121 9 rfl w.heap.size 5 i0 Tryz.underlying121 Tryz.underlying9 hi hz1 hz2 hz3 u3 l.length (bc l) rfl ?own ⟨#[38, 103, 116, 59]⟩ rfl ?c1 ?c2 ?c3 ?_)
      case own => exact HB.out.1.own
      case c1 => show l.length + 4 ≤ _; unfold maxLen; omega
      case c2 => show l.length + 4 ≤ _; omega
      case c3 => exact hbase
      intro xv w3 hown hgrow hat;have HX := hid (HN.out w3 xv (by rw [List.length_append, bc_app]; exact hown) (grown_f0 HB.out.1.fr hgrow (own_base HB.out.1.own)));clear hown hgrow hat;go_wp2_with fail
      go_roundg (s.size - (k + 1))
      case rel => exact ⟨k + 1, _, by go_num, by omega, rfl, HX.out.1, HX.out.2⟩
      case measure => omega
    have q62 : ((s[k].toNat : Int) == 62) = false := byte_isnt (b := 62) h62
    by_cases h34 : s[k] = 34
    · have q34 : ((s[k].toNat : Int) == 34) = true := byte_is (b := 34) h34
      have HN := hid (fun w' v' => HST.out w' v' [38, 35, 51, 52, 59] (by rw [h34]; decide));clear h34 hc
      go_wp2_with (at_builtin; refine Lib.wpList_append_own_string _ rfl _ _ 121 9 rfl w.heap.size 5 i0 Tryz.underlying121 Tryz.underlying9 hi hz1 hz2 hz3 u3 l.length (bc l) rfl ?own ⟨#[38, 35, 51, 52, 59]⟩ rfl ?c1 ?c2 ?c3 ?_)
      case own => exact HB.out.1.own
      case c1 => show l.length + 5 ≤ _; unfold maxLen; omega
      case c2 => show l.length + 5 ≤ _; omega
      case c3 => exact hbase
      intro xv w3 hown hgrow hat;have HX := hid (HN.out w3 xv (by rw [List.length_append, bc_app]; exact hown) (grown_f0 HB.out.1.fr hgrow (own_base HB.out.1.own)));clear hown hgrow hat;go_wp2_with fail
      go_roundg (s.size - (k + 1))
      case rel => exact ⟨k + 1, _, by go_num, by omega, rfl, HX.out.1, HX.out.2⟩
      case measure => omega
    have q34 : ((s[k].toNat : Int) == 34) = false := byte_isnt (b := 34) h34
    by_cases h39 : s[k] = 39
    · have q39 : ((s[k].toNat : Int) == 39) = true := byte_is (b := 39) h39
      have HN := hid (fun w' v' => HST.out w' v' [38, 35, 51, 57, 59] (by rw [h39]; decide));clear h39 hc
      go_wp2_with (at_builtin; refine Lib.wpList_append_own_string _ rfl _ _ 121 9 rfl w.heap.size 5 i0 Tryz.underlying121 Tryz.underlying9 hi hz1 hz2 hz3 u3 l.length (bc l) rfl ?own ⟨#[38, 35, 51, 57, 59]⟩ rfl ?c1 ?c2 ?c3 ?_)
      case own => exact HB.out.1.own
      case c1 => show l.length + 5 ≤ _; unfold maxLen; omega
      case c2 => show l.length + 5 ≤ _; omega
      case c3 => exact hbase
      intro xv w3 hown hgrow hat;have HX := hid (HN.out w3 xv (by rw [List.length_append, bc_app]; exact hown) (grown_f0 HB.out.1.fr hgrow (own_base HB.out.1.own)));clear hown hgrow hat;go_wp2_with fail
      go_roundg (s.size - (k + 1))
      case rel => exact ⟨k + 1, _, by go_num, by omega, rfl, HX.out.1, HX.out.2⟩
      case measure => omega
    have q39 : ((s[k].toNat : Int) == 39) = false := byte_isnt (b := 39) h39;have HN := hid (fun w' v' => HST.out w' v' [s[k]] (by unfold Mu.escB; rw [if_neg h38, if_neg h60, if_neg h62, if_neg h34, if_neg h39]));clear h38 h60 h62 h34 h39 hc
    go_wp2_with (at_builtin; refine wpList_append_own_at _ rfl _ _ 121 rfl w.heap.size 5 i0 (.int .u8 0) 1 1 Tryz.underlying121 hi hz1 hz2 hz3 rfl (by decide) u3 l.length (bc l) rfl ?own ⟨_, 0, none⟩ 1 1 [.int .u8 s[k].toNat] rfl rfl ?c1 ?c2 ?c3 ?c4 ?c5 ?_)
    case own => exact HB.out.1.own.alloc _
    case c1 => exact one_new0 _ _ _ rfl
    case c2 => intro v hv; rw [List.mem_singleton.1 hv]; rfl
    case c3 => unfold maxLen; omega
    case c4 => omega
    case c5 => simp; omega
    intro xv w3 hown hgrow _ hat;have HX := hid (HN.out w3 xv (by rw [List.length_append, bc_app]; exact hown) (grown_f0 (HB.out.1.fr.allocA _) hgrow (own_base HB.out.1.own)));clear hown hgrow hat;go_wp2_with fail
    go_roundg (s.size - (k + 1))
    case rel => exact ⟨k + 1, _, by go_num, by omega, rfl, HX.out.1, HX.out.2⟩
    case measure => omega
  · have hcv := own_convert HB.out.1.own
    have HR : Hid (L ⟨l.toArray⟩ = Mu.esc (L s)) := hid (by rw [L_mk, HB.out.2, show k = s.size by omega, take_all]);go_wp2_with fail;go_ret;exact ⟨_, rfl, hid ⟨HR.out, HB.out.1.fr⟩⟩
end Go.Proofs.YtfakghnpkdoclaaGreatDoor
