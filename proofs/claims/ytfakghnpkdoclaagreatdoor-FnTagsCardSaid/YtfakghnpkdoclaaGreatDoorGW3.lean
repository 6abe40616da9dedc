/-
  The package's renders at every depth. (Joined by wip/pack.py.)
-/
import Derived.Test.YtfakghnpkdoclaaGreatDoorGW2
import Derived.Test.YtfakghnpkdoclaaGreatDoorGW1
import Derived.Deep.RegionWith
set_option linter.unusedVariables false
set_option linter.unusedSimpArgs false
set_option maxRecDepth 100000
set_option maxHeartbeats 8000000
namespace Go.Proofs.YtfakghnpkdoclaaGreatDoor
open Go.RowKit
open Go.Lib (hid)
theorem partOf_ok {ps : List (ByteArray × ByteArray)} (h : ∀ p ∈ ps, p.1.size ≤ 4096 ∧ p.2.size ≤ 400 ∧ Mu.signs (L p.2)) (n : Mu.B) : Mu.signs (Mu.partOf (pL ps) n) ∧ (Mu.partOf (pL ps) n).length ≤ 400 := by
 unfold Mu.partOf
 split
 · rename_i p hp
   have h1 := List.mem_of_find?_eq_some hp;rw [List.mem_reverse] at h1;unfold pL at h1;obtain ⟨q, hq, rfl⟩ := List.mem_map.1 h1;obtain ⟨-, h2, h3⟩ := h q hq;exact ⟨h3, by show (L q.2).length ≤ 400; rw [L_length]; exact h2⟩
 · refine ⟨fun x hx => ?_, Nat.zero_le _⟩
   cases hx
theorem psp_any (B : Nat) (eb : Addr) (n : Nat) (s : ByteArray) (T : TypeId) (pp : Value) (w : World) (es : List Mu.Elem) (st : Mu.ISt) (hs : s.size ≤ 2147483647) (ha : ∀ c ∈ L s, c.toNat < 128) (hr : ∀ c ∈ L s, c ≠ 13) (hg : Gl B eb w)
 (hR : Mu.iparse (L s) false n 0 ⟨0, Mu.OB, Mu.CB⟩ none = some (some (es, st))) (hn : 4 * n ≤ 8589934600) :
 Calls Tryz.prog 34 #[.string s, .iface T pp] w (fun e w' => ∃ t, e = .returned (.tuple #[.pointer (some ⟨t, 0, none⟩), .nilIface]) ∧ Hid (F0 w w' ∧ TplAt w' w.heap.size t false (.iface T pp) es)) := by
 have HC := hid (psr_any B eb n s false T pp w _ hs ha hr hg hR hn)
 clear hs ha hr hg hR hn
 go_enter Tryz.func34, Tryz.ntmps34
 go_wp2_with fail
 refine HC.out.mono ?_
 rintro e w1 ⟨t, rfl, hp⟩
 have HP := hid hp
 clear hp
 go_wp2_with fail
 go_ret2
 exact ⟨t, rfl, HP⟩
theorem ba_ne {B : Nat} {eb : Addr} {pv : Value} {ps : List (ByteArray × ByteArray)} {w : World} (h : Ba B eb pv ps w) {c o k : Nat} (he : pv = .slice (some ⟨c, o, none⟩) ps.length k) (h0 : 0 < ps.length) : c < B := by
 obtain ⟨W, rfl, h2, h3, ⟨a, c', h4, h5, h6⟩, -⟩ := h
 obtain ⟨b, o', rfl, h7⟩ := h6 h0
 rw [he] at h4
 injection h4 with h4 h5 h6
 injection h4 with h4
 injection h4 with h4
 subst h4
 exact World.block_lt_of_cell? W _ (h7 0 h0).1
theorem signs_ok {l : Mu.B} (h : Mu.signs l) : (∀ c ∈ l, c.toNat < 128) ∧ ∀ c ∈ l, c ≠ 13 := by
 refine ⟨fun c hc => ?_, fun c hc => ?_⟩ <;> have := h c hc
 · unfold Mu.signB at this
   simp only [Bool.or_eq_true, Bool.and_eq_true, decide_eq_true_eq, beq_iff_eq] at this
   rcases this with h1 | rfl
   · have := UInt8.le_iff_toNat_le.1 h1.2
     simp at this; omega
   · decide
 · rintro rfl
   exact absurd this (by decide)
theorem gp_any (E : En) (hE : E.Ok) (nb ib : ByteArray) (own : Nat → Prop) (ws : List Mu.B) (k : Nat) (w : World) (es : List Mu.Elem) (st : Mu.ISt) (hst : St E w own ws k) (hk : k < 100) (hib : ib.size ≤ 402000) (hsi : Mu.signs (L ib))
 (hR : Mu.iparse (Mu.indL (L ib) true (Mu.partOf (pL E.ps) (L nb))) false ((Mu.indL (L ib) true (Mu.partOf (pL E.ps) (L nb))).length + 9) 0 ⟨0, Mu.OB, Mu.CB⟩ none = some (some (es, st))) :
 Calls Tryz.prog 105 #[E.prov, .string nb, .string ib] w (fun e w' => ∃ t, e = .returned (.tuple #[.pointer (some ⟨t, 0, none⟩), .nilIface]) ∧ Hid (ProvAt w' E.pb E.pv (k + 1) ∧ Fr (· = E.pb) w w' ∧ TplAt w' w.heap.size t false E.prov es)) := by
 have hpo := partOf_ok hE.parts (L nb)
 have HG := hid (get_any E.pb k E.pv E.ps nb w hst.prov hst.ba.ps hE.len hk (fun c o k he h0 => by have := ba_ne hst.ba he h0; have := hst.pbB; omega))
 have HST := hid hst
 have HR := hid hR
 have HS := hid (Mu.indL_signs hsi hpo.1 true)
 have hln : (Mu.indL (L ib) true (Mu.partOf (pL E.ps) (L nb))).length ≤ 400 * 402001 := by
  have h1 := Mu.indL_length (L ib) (Mu.partOf (pL E.ps) (L nb)) true;have h2 : (L ib).length ≤ 402000 := by rw [L_length]; exact hib
  exact Nat.le_trans h1 (Nat.mul_le_mul hpo.2 (by omega))
 have HP := hid hpo
 have HL := hid hln
 clear hst hR hsi hpo hln
 unfold En.prov
 go_enter Tryz.func105, Tryz.ntmps105
 go_wp2_with fail
 refine HG.out.mono ?_
 rintro e w1 ⟨o, rfl, ho, hp1, hf1⟩
 have HO := hid ho
 have HP1 := hid hp1
 have HF1 := hid hf1
 clear ho hp1 hf1
 go_wp2_with fail
 refine (zzIndent_any o ib w1 (by have := HP.out.2; rw [← HO.out, L_length] at this; omega) (by omega)).mono ?_
 rintro e w1' ⟨o2, rfl, ho2, rfl⟩
 rw [HO.out] at ho2
 have HO2 := hid ho2
 clear ho2
 go_wp2_with fail
 refine (psp_any E.B E.eb _ o2 57 (.pointer (some ⟨E.pb, 0, none⟩)) w1 es st ?_ ?_ ?_ ?_ (by rw [HO2.out]; exact HR.out) ?_).mono ?_
 · rw [← L_length, HO2.out]; have := HL.out; omega
 · rw [HO2.out]; exact (signs_ok HS.out).1
 · rw [HO2.out]; exact (signs_ok HS.out).2
 · exact (HST.out.ba.fr HF1.out (fun k hk hm => by have := HST.out.pbB; omega)).gl
 · have := HL.out; omega
 rintro e w2 ⟨t, rfl, HQ⟩
 go_wp2_with fail
 go_ret2
 obtain ⟨x, S, vs, h1, h2, h3, h4, h5, h6, h7, h8, h9⟩ := HQ.out.2
 have hs := HF1.out.size
 exact ⟨t, rfl, hid ⟨HQ.out.1.blk HP1.out id, HF1.out.trans0 HQ.out.1, x, S, vs, h1, h2, h3, h4, h5, h6, h7, fun k hk => ⟨⟨by have := (h8 k hk).1.1; omega, (h8 k hk).1.2⟩, (h8 k hk).2⟩, by omega⟩⟩
end Go.Proofs.YtfakghnpkdoclaaGreatDoor
namespace Go.Proofs.YtfakghnpkdoclaaGreatDoor
open Go.RowKit
open Go.Lib (hid)
theorem part_ready (E : En) (hE : E.Ok) (n : Nat) (IH : TC E n) (tb : Nat) (x : Tm) (cv : Value) (nb ib : ByteArray) (R S2 own : Nat → Prop) (ch : List (Option Mu.Val)) (ws wsr : List Mu.B) (k kf : Nat) (er : Bool) (w : World) (D : Nat)
 (hst : St E w own ws k) (hcx : Cx E w own tb x R S2 cv ch) (hib : (L ib).length ≤ D) (hsi : Mu.signs (L ib)) (hD : D + 400 * (n + 1) ≤ 402000) (hcl : ch.length + n ≤ 90000)
 (hr : Mu.rElem (pL E.ps) E.am (Mu.rrender (pL E.ps) E.am n) ch (.part (L nb) (L ib)) k = some (wsr, kf, er)) (hft : Fits (ws ++ wsr)) (hkf : kf ≤ 100) (w' : World) (hsm : Sm w w') :
 Calls Tryz.prog 105 #[E.prov, .string nb, .string ib] w' (fun e w1 => ∃ t x1, e = .returned (.tuple #[.pointer (some ⟨t, 0, none⟩), .nilIface]) ∧ t ≠ tb ∧ TmAt w1 t x1 ∧ TmAt w1 tb x ∧ Hid (Calls Tryz.prog 83 #[.pointer (some ⟨t, 0, none⟩), cv, .iface E.T (.pointer (some ⟨E.b, 0, none⟩))] (w1.setCell ⟨t, 9, none⟩ (.bool E.am)) (RPost E own ws wsr kf er w))) := by
 simp only [Mu.rElem] at hr
 split at hr
 · rename_i hp
   split at hr
   · rename_i y hy
     obtain ⟨es, st⟩ := y;have hpo := partOf_ok hE.parts (L nb);have hsg := Mu.indL_signs hsi hpo.1 true
     have hln : (Mu.indL (L ib) true (Mu.partOf (pL E.ps) (L nb))).length ≤ 400 * 402001 :=
      Nat.le_trans (Mu.indL_length (L ib) (Mu.partOf (pL E.ps) (L nb)) true) (Nat.mul_le_mul hpo.2 (by omega))
     obtain ⟨es', st', h1, h2⟩ := Mu.parse_rel hsg hp false;rw [hy] at h1;injection h1 with h1;injection h1 with h1;injection h1 with h1 h1';subst h1 h1';have hlen := Mu.iparse_len (N := 2147483647) _ _ _ _ _ (by omega) hy;have hle : es.length ≤ 2147483647 := Nat.le_trans hlen.1 (by omega);have hok := Mu.rel_eok hsg (Mu.RunOk.indL true (D := D + 400) (by have := hpo.2; omega)) h2 hlen.2
     have hk1 : k + 1 ≤ kf := rrender_mono _ _ _ _ _ _ _ hr;have hst' := hst.f0 hE (hsm.fr _);refine (gp_any E hE nb ib own ws k w' es st hst' (by omega) (by rw [← L_length]; omega) hsi hy).mono ?_;rintro e w1 ⟨t, rfl, HQ⟩;obtain ⟨hp1, hf1, x1, S1, vs1, g1, g2, g3, g4, g5, g6, g7, g8, g9⟩ := HQ.out;rw [hsm.heap] at g8 g9;have htb := hcx.ot tb rfl
     refine ⟨t, x1, rfl, by omega, g1, (hcx.tm.sm hsm).fr hf1 htb.2.2, hid ?_⟩;have hfw : Fr (· = E.pb) w w1 := (hsm.fr _).trans hf1;have hf2 : Fr (· = E.pb) w (w1.setCell ⟨t, 9, none⟩ (.bool E.am)) := hfw.setA _ _ (.inr g9);have hs2 : (w1.setCell ⟨t, 9, none⟩ (.bool E.am)).heap.size = w1.heap.size := by simp [World.setCell]
     have hset := g1.set9 E.am;have hoth : ∀ j, j ≠ t → (w1.setCell ⟨t, 9, none⟩ (.bool E.am)).heap[j]? = w1.heap[j]? := fun j hj => Below.heap_setCell w1 ⟨t, 9, none⟩ _ j hj
     generalize w1.setCell ⟨t, 9, none⟩ (.bool E.am) = w2 at *;have hl1 := hfw.size;have hBb := hst.ba.size;have hpl := blk_lt hst.prov;have htl := blk_lt g1;have hownl := hE.wr.lt _ _ _ hst.wat;have hprov2 : ProvAt w2 E.pb E.pv (k + 1) := (hoth E.pb (by omega)).trans hp1
     have hst2 : St E w2 own ws (k + 1) := ⟨hE.wr.fr _ _ _ _ _ hst.wat hf2 (fun j hj hm => hst.pbo (hm ▸ hj)), hprov2, hst.ba.fr hf2 (fun j hj hm => by have := hst.pbB; omega), hst.ownB, hst.pbB, hst.pbo⟩
     have hf2' : Fr (Mt E own) w w2 := hf2.mono (fun i _ h => .inr h);have hcx1 := hcx.step hf2' (Grew.refl own w w2)
     have hcx2 : Cx E w2 own t { x1 with am := E.am } R S2 cv ch :=
      ⟨hset, ⟨rfl, g3, g4⟩, hcx1.cha, hcx1.vg, fun j hj => by
       subst hj;exact ⟨by omega, fun h => by have := hownl _ h; omega, by omega⟩, hcx1.oR, hcx1.oS, hcx1.ne, hcx1.len⟩
     have hkS : Keep S1 w1 w2 := fun j hj => hoth j (g8 j hj).2
     refine (IH t { x1 with am := E.am } cv es vs1 S1 R S2 own ch ws wsr (k + 1) kf er w2 (D + 400) hst2 hcx2 (g6.keep hkS (fun _ h => h)) (EsAt.keep hkS (fun _ h => h) _ _ g7) (fun j hj => ⟨by have := (g8 j hj).1.2; omega, fun h => by have := hownl _ h; have := (g8 j hj).1.1; omega, by have := (g8 j hj).1.1; omega⟩) hok (by omega) hcl hle hr hft hkf).mono ?_
     rintro e w3 ⟨h5, own', h6, h7, h8⟩;exact ⟨h5, own', h6, fun j hj => (h7 j hj).imp_right (fun h => ⟨by omega, h.2⟩), hf2'.trans h8⟩
   · cases hr
 · cases hr
theorem el_part (E : En) (hE : E.Ok) (n : Nat) (IH : TC E n) (tb : Nat) (x : Tm) (u cv : Value) (nm ind : Mu.B) (S R S2 own : Nat → Prop) (ch : List (Option Mu.Val)) (ws wsr : List Mu.B) (k kf : Nat) (er : Bool) (w : World) (D : Nat)
 (hst : St E w own ws k) (hcx : Cx E w own tb x R S2 cv ch) (hu : EAt w S E.prov (.part nm ind) u) (hS : Off E w own S) (hok : Mu.EOk D (.part nm ind)) (hD : D + 400 * (n + 1) ≤ 402000) (hcl : ch.length + n ≤ 90000)
 (hr : Mu.rElem (pL E.ps) E.am (Mu.rrender (pL E.ps) E.am n) ch (.part nm ind) k = some (wsr, kf, er)) (hft : Fits (ws ++ wsr)) (hkf : kf ≤ 100) :
 Calls Tryz.prog 93 #[.pointer (some ⟨tb, 0, none⟩), u, cv, .iface E.T (.pointer (some ⟨E.b, 0, none⟩))] w (RPost E own ws wsr kf er w) := by
 unfold EAt at hu
 obtain ⟨eb, nb, ib, rfl, hSe, he, hnb, hib⟩ := hu
 subst hnb hib
 simp only [Mu.EOk] at hok
 have c0 := blk_cell he 0
 have c1 := blk_cell he 1
 have c2 := blk_cell he 2
 simp only [List.getElem?_toArray, List.getElem?_cons_zero, List.getElem?_cons_succ] at c0 c1 c2
 have hel := (hS eb hSe).1
 have htl := (hcx.ot tb rfl).1
 have HC : Hid (∀ w', Sm w w' → _) := hid (part_ready E hE n IH tb x cv nb ib R S2 own ch ws wsr k kf er w D hst hcx hok.2.2 hok.2.1 hD hcl hr hft hkf)
 have a0 := fun (v : Value) (w : World) => notText w 170 v (by decide)
 have a1 := fun (v : Value) (w : World) => notVar w 170 v (by decide)
 have a2 := fun (v : Value) (w : World) => notSect w 170 v (by decide)
 have a3 := fun (v : Value) (w : World) => isPart w v
 have hxa := hcx.tmo.am
 clear hst hcx he hS hSe hr hft hok IH
 go_enter Tryz.func93, Tryz.ntmps93
 go_wp2_with fail
 go_region_with (go_at_call 105; refine (HC.out _ (by repeat (first | exact Sm.refl _ | refine Sm.drew ?_))).mono ?_; rintro e w1 ⟨t, x1, rfl, hne, ht, htb, HT⟩; have t9 := htb.cells.2.2.2.2.2.2.2.2.2; rw [hxa] at t9; have c9 := ht.cells.2.2.2.2.2.2.2.2.2; have f9 := ht.free 9; have l1 := blk_lt ht; have l2 := blk_lt htb)
 all_goals
  go_wp2_with fail;refine HT.out.mono ?_
  rintro e w3 ⟨he, hrs⟩;have HRS := hid hrs;clear hrs
  cases er with
  | true =>
   rw [if_pos rfl] at he;obtain ⟨T9, v9, rfl⟩ := he;go_wp2_with fail;go_ret;exact RPost.err HRS.out
  | false =>
   rw [if_neg Bool.false_ne_true] at he;subst he;go_wp2_with fail;go_ret;exact RPost.ok HRS.out
theorem el_sect (E : En) (hE : E.Ok) (n : Nat) (IH : SC E n) (tb : Nat) (x : Tm) (u cv : Value) (nm : Mu.B) (inv : Bool) (es : List Mu.Elem) (S R S2 own : Nat → Prop) (ch : List (Option Mu.Val)) (ws wsr : List Mu.B) (k kf : Nat) (er : Bool) (w : World) (D : Nat)
 (hst : St E w own ws k) (hcx : Cx E w own tb x R S2 cv ch) (hu : EAt w S E.prov (.sect nm inv es) u) (hS : Off E w own S) (hok : Mu.EOk D (.sect nm inv es)) (hD : D + 400 * (n + 1) ≤ 402000) (hcl : ch.length + n ≤ 90000)
 (hr : Mu.rElem (pL E.ps) E.am (Mu.rrender (pL E.ps) E.am n) ch (.sect nm inv es) k = some (wsr, kf, er)) (hft : Fits (ws ++ wsr)) (hkf : kf ≤ 100) :
 Calls Tryz.prog 93 #[.pointer (some ⟨tb, 0, none⟩), u, cv, .iface E.T (.pointer (some ⟨E.b, 0, none⟩))] w (RPost E own ws wsr kf er w) := by
 unfold EAt at hu
 obtain ⟨sb, nb, line, sv, vs, rfl, hSb, he, hnb, hrow, hes⟩ := hu
 simp only [Mu.EOk] at hok
 have HC := hid (IH tb sb x cv sv nb inv line nm es vs S R S2 own ch ws wsr k kf er w D hst hcx hSb he hnb hrow hes hS hok.1 hok.2.2 (by omega) hcl hok.2.1 hr hft hkf)
 have a0 := fun (v : Value) (w : World) => notText w 165 v (by decide)
 have a1 := fun (v : Value) (w : World) => notVar w 165 v (by decide)
 have a2 := fun (v : Value) (w : World) => isSect w v
 clear hst hcx he hS hSb hr hft hok IH hrow hes hnb
 go_enter Tryz.func93, Tryz.ntmps93
 go_wp2_with fail
 refine HC.out.mono ?_
 rintro e w3 ⟨he, hrs⟩
 have HRS := hid hrs
 clear hrs
 cases er with
 | true =>
  rw [if_pos rfl] at he;obtain ⟨T9, v9, rfl⟩ := he;go_wp2_with fail;go_ret;exact RPost.err HRS.out
 | false =>
  rw [if_neg Bool.false_ne_true] at he;subst he;go_wp2_with fail;go_ret;exact RPost.ok HRS.out
theorem ec_of (E : En) (hE : E.Ok) (n : Nat) (HT : TC E n) (HS : SC E n) : EC E n := by
 intro tb x u cv e S R S2 own ch ws wsr k kf er w D hst hcx hu hS hok hD hcl hr hft hkf
 cases e with
 | text t =>
  simp only [Mu.rElem, Option.some.injEq, Prod.mk.injEq] at hr;obtain ⟨rfl, rfl, rfl⟩ := hr;exact el_text E hE _ u cv t S own ws k w hst hu hS hft
 | var nm raw =>
  simp only [Mu.EOk] at hok;exact el_var E hE tb x u cv nm raw S R S2 own ch ws wsr k kf er w hst hcx hu hS hok hr hft
 | sect nm inv es => exact el_sect E hE n HS tb x u cv nm inv es S R S2 own ch ws wsr k kf er w D hst hcx hu hS hok hD hcl hr hft hkf
 | part nm ind => exact el_part E hE n HT tb x u cv nm ind S R S2 own ch ws wsr k kf er w D hst hcx hu hS hok hD hcl hr hft hkf
theorem all_depths (E : En) (hE : E.Ok) : ∀ n, TC E n ∧ EC E n
 | 0 => by
  have hT : TC E 0 := by
   intro tb x cv es vs S R S2 own ch ws wsr k kf er w D hst hcx hrow hes hS hok hD hcl hel hr;cases hr
  exact ⟨hT, ec_of E hE 0 hT (sc_of E hE 0 (fun m hm => by cases hm))⟩
 | n + 1 => by
  have h := all_depths E hE n;have hT := tc_succ E hE n h.2
  exact ⟨hT, ec_of E hE (n + 1) hT (sc_of E hE (n + 1) (fun m hm => by
   cases hm; exact h.2))⟩
end Go.Proofs.YtfakghnpkdoclaaGreatDoor
namespace Go.Proofs.YtfakghnpkdoclaaGreatDoor
open Go.RowKit
open Go.Lib (hid)
structure Rd (E : En) (w : World) (own : Nat → Prop) (tb : Nat) (x : Tm) (es : List Mu.Elem) (cv : Value) (cs : List Mu.Val) (D : Nat) : Prop where
 tm : TmAt w tb x
 tmo : TmOk E x
 ot : Off E w own (· = tb)
 el : ∃ S vs, RowAt w S x.el vs ∧ EsAt w S E.prov es vs ∧ Off E w own S
 ok : Mu.EsOk D es
 len : es.length ≤ 2147483647
 cx : ∃ R us S2, RowAt w R cv us ∧ CsAt w S2 cs us ∧ Off E w own R ∧ Off E w own S2
 kd : ∀ v ∈ cs, v.kind ≠ 0
 vg : ∀ v ∈ cs, Mu.VG E.X v
 ne : cs ≠ []
 few : cs.length ≤ 1000
theorem frender_any (E : En) (hE : E.Ok) (n tb : Nat) (x : Tm) (es : List Mu.Elem) (cv : Value) (cs : List Mu.Val) (own : Nat → Prop) (ws wsr : List Mu.B) (k kf : Nat) (er : Bool) (w : World) (D : Nat)
 (hst : St E w own ws k) (hrd : Rd E w own tb x es cv cs D) (hD : D + 400 * n ≤ 402000) (hn : n ≤ 80000) (hr : Mu.rrender (pL E.ps) E.am n es (cs.map some) k = some (wsr, kf, er)) (hft : Fits (ws ++ wsr)) (hkf : kf ≤ 100) :
 Calls Tryz.prog 62 #[.pointer (some ⟨tb, 0, none⟩), .iface E.T (.pointer (some ⟨E.b, 0, none⟩)), cv] w (RPost E own ws wsr kf er w) := by
 obtain ⟨R, us, S2, ⟨ca, cc, rfl, hcells⟩, hcs, hR, hS2⟩ := hrd.cx
 have hl := hcs.length
 have hfew := hrd.few
 obtain ⟨i0, hi, hz1, hz2, hz3⟩ := info_parts infoAny
 have HC : Hid (∀ j (h : j < us.length), ∃ g T z, ca = some ⟨g, 0, none⟩ ∧ us[j] = .iface T z ∧ w.cell? ⟨g, j, none⟩ = some (.iface T z)) := hid (fun j hj => by
  obtain ⟨g, h1, h2, h3⟩ := hcells (by omega);obtain ⟨u, h4, h5⟩ := hcs.at j (by omega);rw [List.getElem?_eq_getElem hj] at h4;injection h4 with h4;obtain ⟨T, z, h6⟩ := h5.iface (hrd.kd _ (List.getElem_mem _));refine ⟨g, T, z, h1, by rw [h4, h6], ?_⟩;rw [← h6, ← h4];exact h3 j _ (List.getElem?_eq_getElem hj))
 have HT : Hid (∀ (w1 : World) (v : Value), w1.ownsRow w.heap.size 20 1 v us.length (us.map (fun u => .iface 143 (.agg #[u, .bool true]))) → F0 w w1 → Calls Tryz.prog 83 #[.pointer (some ⟨tb, 0, none⟩), v, .iface E.T (.pointer (some ⟨E.b, 0, none⟩))] w1 (RPost E own ws wsr kf er w)) := hid (by
  intro w1 v ho hf;obtain ⟨S, vs, hrow, hes, hS⟩ := hrd.el;have hgr : Grew own own w w1 := Grew.refl _ _ _;have hff : Fr (Mt E own) w w1 := Fr.of0 hf;have hsz := hf.size;have hlt := hE.wr.lt _ _ _ hst.wat;have hpl := blk_lt hst.prov
  have hcx : Cx E w1 own tb x (fun k => v.ownBlock = some k) S2 v (cs.map some) :=
   ⟨(hrd.ot.keep hff tb rfl).trans hrd.tm, hrd.tmo, ⟨_, row_of_owns (n := us.length) (e := 20) ⟨ho.1, by
     rcases ho.2 with h | ⟨g, cap, cur, h1, h2, h3⟩
     · exact .inl h
     · exact .inr ⟨g, cap, cur, h1, Nat.zero_le _, h3⟩⟩, (zs_list hcs).keep (hS2.keep hff) (fun _ h => h)⟩, fun u hu => by
       obtain ⟨u', h1, h2⟩ := List.mem_map.1 hu;injection h2 with h2;exact h2 ▸ hrd.vg u' h1, hrd.ot.step hsz hgr, fun k hk => by
       have := ho.lt k hk;exact ⟨this.2, fun h => by have := hlt _ h; omega, by omega⟩, hS2.step hsz hgr, by
       intro h;exact hrd.ne (List.map_eq_nil_iff.1 h), by rw [List.length_map]; omega⟩
  refine ((all_depths E hE n).1 tb x v es vs S _ S2 own (cs.map some) ws wsr k kf er w1 D (hst.f0 hE hf) hcx (hrow.keep (hS.keep hff) (fun _ h => h)) (EsAt.keep (hS.keep hff) (fun _ h => h) _ _ hes) (hS.step hsz hgr) hrd.ok hD (by rw [List.length_map]; omega) hrd.len hr hft hkf).mono ?_;rintro e w2 ⟨h1, h2⟩;exact ⟨h1, h2.pre hf⟩)
 have HO0 : Hid (w.ownsRow w.heap.size 20 1 (.slice none 0 0) 0 ((us.map (fun u => .iface 143 (.agg #[u, .bool true]))).take 0) ∧ F0 w w) := hid ⟨World.ownsRow_nil _ _ _ _, Fr.refl _ _⟩
 have huf : us.length ≤ 1000 := by omega
 clear hst hrd hr hft hcells hcs hR hS2 hl hfew
 go_enter Tryz.func62, Tryz.ntmps62
 go_wp2_with fail
 go_loopg [7, 13] us.length (fun g v7 v13 wr => ∃ i : Nat, v13 = .int .i64 i ∧ i ≤ us.length ∧ g = us.length - i ∧ Hid (wr.ownsRow w.heap.size 20 1 v7 i ((us.map (fun u => .iface 143 (.agg #[u, .bool true]))).take i) ∧ F0 w wr))
 case atStart => exact ⟨0, rfl, Nat.zero_le _, rfl, HO0⟩
 case round =>
  obtain ⟨i, rfl, hi0, rfl, HO⟩ := hrel
  by_cases hlt : i < us.length
  · obtain ⟨g, T9, z9, rfl, hu9, hcw⟩ := HC.out i hlt
    have hcell := F0.cell HO.out.2 hcw;have hsz := HO.out.2.size;have HU := hid hu9;clear hu9 hcw
    go_wp2_with (at_builtin; refine wpList_append_own_at _ rfl _ _ 66 rfl w.heap.size 20 i0 .nilIface 1 16 Tryz.underlying66 hi hz1 hz2 hz3 rfl (by decide) u7 i ((us.map (fun u => .iface 143 (.agg #[u, .bool true]))).take i) rfl ?own ⟨_, 0, none⟩ 1 1 [.iface 143 (.agg #[.iface T9 z9, .bool true])] rfl rfl ?c1 ?c2 ?c3 ?c4 ?c5 ?_)
    case own => exact (HO.out.1.alloc _).alloc _
    case c1 => exact one_new0 _ _ _ (by simp)
    case c2 => intro v hv; rw [List.mem_singleton.1 hv]; rfl
    case c3 => unfold maxLen; omega
    case c4 => omega
    case c5 => simp; omega
    intro xv w3 hown hgrow _ _
    have HN : Hid (w3.ownsRow w.heap.size 20 1 xv (i + 1) ((us.map (fun u => .iface 143 (.agg #[u, .bool true]))).take (i + 1)) ∧ F0 w w3) := hid (by
     refine ⟨?_, grown_f0 ((HO.out.2.allocA _).allocA _) hgrow (own_base HO.out.1)⟩;rw [List.take_add_one, List.getElem?_map, List.getElem?_eq_getElem hlt, Option.map_some, Option.toList_some, HU.out];exact hown)
    clear hown hgrow;go_wp2_with fail
    go_roundg (us.length - (i + 1))
    case rel => exact ⟨i + 1, by go_num, by omega, rfl, HN⟩
    case measure => omega
  · have HCALL := hid (HT.out wr u7 (by
     have hie : i = us.length := by omega
     have ho := HO.out.1;subst hie
     rwa [List.take_of_length_le (by simp)] at ho) HO.out.2)
    go_wp2_with fail;refine HCALL.out.mono ?_
    rintro e w2 ⟨he, hrs⟩;have HRS := hid hrs;clear hrs
    cases er with
    | true =>
     rw [if_pos rfl] at he;obtain ⟨T9, v9, rfl⟩ := he;go_wp2_with fail;go_ret;exact RPost.err HRS.out
    | false =>
     rw [if_neg Bool.false_ne_true] at he;subst he;go_wp2_with fail;go_ret;exact RPost.ok HRS.out
end Go.Proofs.YtfakghnpkdoclaaGreatDoor
