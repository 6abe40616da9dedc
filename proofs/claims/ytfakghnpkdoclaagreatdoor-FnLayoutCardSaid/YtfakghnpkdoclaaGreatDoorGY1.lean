/-
  The renders of layouts. (Joined by wip/pack.py.)
-/
import Derived.Test.YtfakghnpkdoclaaGreatDoorGD1
import Derived.Test.YtfakghnpkdoclaaGreatDoorGP3
set_option linter.unusedVariables false
set_option linter.unusedSimpArgs false
set_option maxRecDepth 100000
set_option maxHeartbeats 8000000
namespace Go.Proofs.YtfakghnpkdoclaaGreatDoor
open Go.RowKit
open Go.Lib (hid)
def contentB : Mu.B := [99, 111, 110, 116, 101, 110, 116]
def contV (o : Mu.B) : Mu.Val := .mk 5 [] 0 false [contentB] [.mk 1 o 0 false [] []]
theorem cont_map (W : World) (o : ByteArray) : ∃ W2, (Instr.mapUpdate 78 (.map (some W.heap.size)) (.string ⟨#[99, 111, 110, 116, 101, 110, 116]⟩) (.iface 9 (.string o))).run Tryz.prog (W.alloc (.map #[] 0)) = .ok () W2 ∧
 Hid (F0 W W2 ∧ CAt W2 (· = W.heap.size) (contV (L o)) (.iface 78 (.map (some W.heap.size))) ∧ W.heap.size < W2.heap.size) := by
 have hg : MapG W (W.alloc (.map #[] 0)) W.heap.size [] [] [] := ⟨⟨#[], 0, blk_new _ _, [], by simp, by simp, by simp⟩, Nat.le_refl _, Fr.alloc _ _ _, fun _ => False, by simp [CsAt], fun _ h => h.elim⟩
 obtain ⟨W2, h1, HG⟩ := hg.add (x := .mk 1 (L o) 0 false [] []) (u := .iface 9 (.string o)) (kb := ⟨#[99, 111, 110, 116, 101, 110, 116]⟩) (S2 := fun _ => False) (Fr.refl _ _) (by unfold CAt; exact .inr (.inl ⟨rfl, o, rfl, rfl⟩)) (fun _ h => h.elim) (by simp)
 refine ⟨W2, h1, hid ⟨HG.out.fr, ?_, ?_⟩⟩
 · obtain ⟨es, clock, hb, he⟩ := HG.out.ent
   unfold contV CAt;refine .inr (.inr (.inr (.inr (.inr ⟨rfl, _, es, clock, _, rfl, rfl, hb, he, ?_⟩))));show CsAt W2 _ [.mk 1 (L o) 0 false [] []] [.iface 9 (.string o)];unfold CsAt;exact ⟨_, [], rfl, by unfold CAt; exact .inr (.inl ⟨rfl, o, rfl, rfl⟩), by unfold CsAt; rfl⟩
 · obtain ⟨es, clock, hb, he⟩ := HG.out.ent
   exact blk_lt hb
theorem cells_one {w : World} {S : Nat → Prop} {cs : List Mu.Val} {us : List Value} (h : CsAt w S cs us) : ∀ v ∈ us, v.oneCell' = true := by
 intro v hv
 obtain ⟨j, hj, rfl⟩ := List.mem_iff_getElem.1 hv
 obtain ⟨u9, h1, h2⟩ := h.at j (by rw [← h.length]; exact hj)
 rw [List.getElem?_eq_getElem hj] at h1
 injection h1 with h1
 rw [h1]
 generalize cs[j]'(by rw [← h.length]; exact hj) = x at h2
 obtain ⟨k, t, n, b, ks, l⟩ := x
 unfold CAt at h2
 rcases h2 with ⟨-, rfl⟩ | ⟨-, tb, rfl, -⟩ | ⟨-, rfl⟩ | ⟨-, rfl⟩ | ⟨-, sv, vs, rfl, -⟩ | ⟨-, r, es, c, vs, rfl, -⟩ <;> rfl
theorem row_ahead {w : World} {R : Nat → Prop} {cb n : Nat} {u : Value} {us : List Value} (h : w.heap[cb]? = some (.cells (u :: us).toArray 20 (0, 0))) (hn : us.length + 1 = n) : RowAt w (· = cb) (.slice (some ⟨cb, 0, none⟩) n n) (u :: us) := by
 subst hn
 exact ⟨_, _, rfl, fun _ => ⟨cb, rfl, rfl, fun j v hj => by
  rw [blk_cell h j];simpa using hj⟩⟩
theorem frl_any (P : En) (n1 n2 t tl m : Nat) (x xl : Tm) (es esl : List Mu.Elem) (cg : Nat) (cc : Nat) (cs : List Mu.Val) (ws1 ws2 : List Mu.B) (kf1 kf2 : Nat) (w0 : World) (D1 D2 : Nat) (hm : m = cs.length) (hm8 : m ≤ 8)
 (hpk : Pk P w0 0) (hrd : Rd P w0 No1 t x es (.slice (some ⟨cg, 0, none⟩) m cc) cs D1) (hrl : Rd P w0 No1 tl xl esl (.slice (some ⟨cg, 0, none⟩) m cc) cs D2) (hD1 : D1 + 400 * n1 ≤ 402000) (hD2 : D2 + 400 * n2 ≤ 402000) (hn1 : n1 ≤ 80000) (hn2 : n2 ≤ 80000)
 (hr1 : Mu.rrender (pL P.ps) P.am n1 es (cs.map some) 0 = some (ws1, kf1, false)) (hft1 : Fits ws1) (hk1 : kf1 ≤ 100)
 (hr2 : Mu.rrender (pL P.ps) P.am n2 esl ((contV ws1.flatten :: cs).map some) kf1 = some (ws2, kf2, false)) (hft2 : Fits ws2) (hk2 : kf2 ≤ 100) (hvg : Mu.VG P.X (contV ws1.flatten)) :
 Calls Tryz.prog 73 #[.pointer (some ⟨t, 0, none⟩), .iface 127 (.pointer (some ⟨w0.heap.size, 0, none⟩)), .pointer (some ⟨tl, 0, none⟩), .slice (some ⟨cg, 0, none⟩) m cc] (w0.alloc (.cells #[.slice none 0 0, .int .i64 0, .int .i8 0] 125))
  (fun e w' => e = .returned .nilIface ∧ Hid (∃ k', Pk P w' k' ∧ Fr (· = P.pb) w0 w' ∧ Lib.IsBuffer 125 5 0 w0.heap.size (Lib.byteCells ws2.flatten) w')) := by
 obtain ⟨mm, rfl⟩ : ∃ mm, m = mm + 1 := ⟨m - 1, by
  have := List.length_pos_iff.2 hrd.ne
  omega⟩
 obtain ⟨wb, hwb⟩ : ∃ wb, wb = w0.alloc (.cells #[.slice none 0 0, .int .i64 0, .int .i8 0] 125) := ⟨_, rfl⟩
 have hfb : F0 w0 wb := by rw [hwb]; exact Fr.alloc _ _ _
 have hsb : wb.heap.size = w0.heap.size + 1 := by rw [hwb]; simp
 have hbb : wb.heap[w0.heap.size]? = some (.cells #[.slice none 0 0, .int .i64 0, .int .i8 0] 125 (0, 0)) := by rw [hwb]; exact blk_new _ _
 rw [← hwb]
 have hpb0 := blk_lt hpk.prov
 have hpkb : Pk P wb 0 := hpk.fr (Fr.of0 hfb) (hfb.blk hpk.prov id)
 have HT1 := hid (trender_any P n1 t x es _ cs ws1 0 kf1 false wb D1 hpkb (hrd.go (Fr.of0 hfb) rfl rfl rfl (fun _ h => h.elim)) hD1 hn1 hr1 hft1 hk1)
 obtain ⟨R, us0, S2, hrow, hcs, hR, hS2⟩ := hrd.cx
 have hul := hcs.length
 obtain ⟨a9, c9, e9, hcells⟩ := hrow
 injection e9 with e1 e2 e3
 have hl0 : us0.length = (mm + 1) := by omega
 have hcell0 : ∀ (w3 : World), Fr (· = P.pb) wb w3 → ∀ j v, us0[j]? = some v → w3.cell? ((⟨cg, 0, none⟩ : Addr).add j) = some v := fun w3 hf j v hj => by
  obtain ⟨g, h3, h4, h5⟩ := hcells (by have := (List.getElem?_eq_some_iff.1 hj).1; omega);rw [← e1] at h3;injection h3 with h3;injection h3 with h3;subst h3;rw [addr_add0];have hb : w3.heap[cg]? = w0.heap[cg]? := (hf.block cg (by have := (hR cg h4).1; omega) (fun h => (hR cg h4).2.2 h)).trans (hfb.block cg (hR cg h4).1 id)
  exact (World.cell?_of_block (w := w0) (a := ⟨cg, j, none⟩) hb).trans (h5 j v hj)
 have HGO : Hid (∀ (w1 wB wM wC : World) (s : ByteArray) (q0 : Value), Pk P w1 kf1 → Fr (· = P.pb) wb w1 → L s = ws1.flatten → F0 w1 wB → wB.heap[w1.heap.size]? = some (.cells (q0 :: us0).toArray 20 (0, 0)) → F0 wB wM → CAt wM (· = wB.heap.size) (contV (L s)) (.iface 78 (.map (some wB.heap.size))) → wB.heap.size < wM.heap.size →
  wC = wM.setCell ⟨w1.heap.size, 0, none⟩ (.iface 78 (.map (some wB.heap.size))) →
  Calls Tryz.prog 62 #[.pointer (some ⟨tl, 0, none⟩), .iface 127 (.pointer (some ⟨w0.heap.size, 0, none⟩)), .slice (some ⟨w1.heap.size, 0, none⟩) (mm + 1 + 1) (mm + 1 + 1)] wC (fun e w' => e = .returned .nilIface ∧ Hid (∃ k', Pk P w' k' ∧ Fr (· = P.pb) w0 w' ∧ Lib.IsBuffer 125 5 0 w0.heap.size (Lib.byteCells ws2.flatten) w'))) := hid (by
  intro w1 wB wM wC s q0 hp1 hf1 hs hfB hrB hfM hcM hlM hwC;have hlr := blk_lt hrB;have hs1 := hf1.size;have hsB := hfB.size;have hsM := hfM.size;have hrM := hfM.blk hrB id
  have hrC : wC.heap[w1.heap.size]? = some (.cells (.iface 78 (.map (some wB.heap.size)) :: us0).toArray 20 (0, 0)) := by
   rw [hwC, blk_set _ hrM]; simp
  have hsC : wC.heap.size = wM.heap.size := by rw [hwC]; simp [World.setCell]
  have hfC : Fr (· = w1.heap.size) wM wC := by rw [hwC]; exact (Fr.refl (· = w1.heap.size) wM).setA ⟨w1.heap.size, 0, none⟩ _ (.inl rfl)
  have hf1C : F0 w1 wC := (hfB.trans hfM).trans' hfC (fun i hi hm' => by omega);have hfwC : Fr (· = P.pb) w0 wC := ((Fr.of0 hfb).trans hf1).trans (Fr.of0 hf1C);have hpl1 := blk_lt hp1.prov;have hBs := hpk.ba.size
  have hbC : wC.heap[w0.heap.size]? = some (.cells #[.slice none 0 0, .int .i64 0, .int .i8 0] 125 (0, 0)) := by
   rw [hf1C.block w0.heap.size (by omega) id, hf1.block w0.heap.size (by omega) (fun h => by omega)]; exact hbb
  have hst : St (enB P w0.heap.size) wC (· = w0.heap.size) [] kf1 :=
   ⟨.inl ⟨rfl, fun k => Iff.rfl, 0, hbC⟩, hf1C.blk hp1.prov id, hp1.ba.fr0 hf1C, fun j hj => by
    show P.B ≤ j
    omega, hpk.pbB, fun h => by
    have h : P.pb = w0.heap.size := h
    omega⟩
  have hrd0 : Rd (enB P w0.heap.size) wC (· = w0.heap.size) tl xl esl _ cs D2 := hrl.go hfwC rfl rfl rfl (fun k hk => by omega)
  have hcb : CAt wC (· = wB.heap.size) (contV ws1.flatten) (.iface 78 (.map (some wB.heap.size))) := by
   rw [← hs];exact CAt.keep (fun k hk => by rw [hk]; exact hfC.block _ hlM (by omega)) (fun _ h => h) _ _ hcM
  have hrd' : Rd (enB P w0.heap.size) wC (· = w0.heap.size) tl xl esl (.slice (some ⟨w1.heap.size, 0, none⟩) (mm + 1 + 1) (mm + 1 + 1)) (contV ws1.flatten :: cs) D2 := by
   refine ⟨hrd0.tm, hrd0.tmo, hrd0.ot, hrd0.el, hrd0.ok, hrd0.len, ⟨(· = w1.heap.size), .iface 78 (.map (some wB.heap.size)) :: us0, fun k => k = wB.heap.size ∨ S2 k, row_ahead (R := fun _ => True) hrC (by omega), ?_, ?_, ?_⟩, ?_, ?_, by simp, ?_⟩
   · unfold CsAt
     exact ⟨_, us0, rfl, CAt.keep (w := wC) (S := (· = wB.heap.size)) (fun _ _ => rfl) (fun _ h => .inl h) _ _ hcb, CsAt.keep (w := w0) (S := S2) (fun k hk => hfwC.block k (hS2 k hk).1 (hS2 k hk).2.2) (fun _ h => .inr h) _ _ hcs⟩
   · intro k hk
     rw [hk]
     exact ⟨by omega, fun h => by omega, fun h => by
      have h : w1.heap.size = P.pb := h
      omega⟩
   · rintro k (hk | hk)
     · rw [hk]
       exact ⟨by omega, fun h => by omega, fun h => by
        have h : wB.heap.size = P.pb := h
        omega⟩
     · have := hS2 k hk
       exact ⟨by omega, fun h => by omega, this.2.2⟩
   · intro v hv
     rcases List.mem_cons.1 hv with rfl | hv
     · simp [contV, Mu.Val.kind]
     · exact hrl.kd v hv
   · intro v hv
     rcases List.mem_cons.1 hv with rfl | hv
     · exact hvg
     · exact hrl.vg v hv
   · simp; omega
  refine (frender_any (enB P w0.heap.size) (enB_ok hpk _) n2 tl xl esl _ _ _ [] ws2 kf1 kf2 false _ D2 hst hrd' hD2 hn2 hr2 hft2 hk2).mono ?_;rintro e w5 ⟨he, own', h2, h3, h4⟩;rw [if_neg Bool.false_ne_true] at he
  have hown : ∀ j, own' j → w0.heap.size ≤ j := fun j hj => by
   rcases h3 j hj with h | h
   · omega
   · have := h.1
     omega
  have hfr : Fr (· = P.pb) w0 w5 := hfwC.trans' (h4.mono (fun i hi hm => hm) : Fr (fun j => j = w0.heap.size ∨ j = P.pb) _ w5) (fun i hi hm => by
   rcases hm with hm | hm
   · omega
   · exact hm)
  exact ⟨he, hid ⟨kf2, hpk.fr hfr h2.prov, hfr, BufAt.is (ws := ws2) (own := own') (by have := h2.wat; rw [List.nil_append] at this; exact this)⟩⟩)
 have hone := cells_one hcs
 have HONE := hid hone
 have HCELL := hid hcell0
 have HL0 := hid hl0
 clear hpk hrd hrl hr1 hr2 hft1 hft2 hvg hcells hcell0 hcs hR hS2 hpkb hone hbb hfb hsb hpb0 hwb hm e1 e2 e3 hul hl0 hD1 hD2 hn1 hn2 hk1 hk2
 go_enter Tryz.func73, Tryz.ntmps73
 go_wp2_with fail
 refine HT1.out.mono ?_
 rintro e w1 ⟨⟨s, y, rfl, hy⟩, HP1⟩
 rw [if_neg Bool.false_ne_true] at hy
 obtain ⟨rfl, hs⟩ := hy
 have hl0 := HL0.out
 have hmk := run_make_row' (P := Tryz.prog) 66 20 .nilIface 16 Tryz.underlying66 infoAny rfl .i64 .i64 (mm + 1 + 1) (by omega) (by omega)
 have ec : ((mm + 1 + 1 : Nat) : Int) = ((mm : Int) + 1) + 1 := by omega
 rw [ec] at hmk
 have hmm := fun (W : World) => run_makeMap (P := Tryz.prog) 78 W
 have hcp := run_copy_row (P := Tryz.prog) (w1.alloc (.cells (madeCells #[.nilIface] (mm + 1 + 1)) 20)) 66 66 3 20 w1.heap.size 1 (mm + 1) (mm + 1) ⟨cg, 0, none⟩ (mm + 1) cc (madeCells #[.nilIface] (mm + 1 + 1)) 20 us0 Tryz.underlying66 anySize (blk_new _ _) (by rw [hl0]; exact (Nat.min_self _).symm) (fun j v hj => F0.cell (Fr.alloc _ _ _) (HCELL.out w1 HP1.out.2 j v hj)) (by rw [size_madeCells]; omega) HONE.out
 obtain ⟨q0, hq0⟩ := row_made hl0
 rw [hq0, hl0] at hcp
 obtain ⟨wB, hwB⟩ : ∃ wB, wB = (w1.alloc (.cells (madeCells #[.nilIface] (mm + 1 + 1)) 20)).setRow w1.heap.size (q0 :: us0).toArray := ⟨_, rfl⟩
 rw [← hwB] at hcp
 have hF1B : F0 w1 wB := by rw [hwB]; exact below_row (T := 0) _ rfl
 have hcbB : wB.heap[w1.heap.size]? = some (.cells (q0 :: us0).toArray 20 (0, 0)) := by rw [hwB]; exact setRow_heap _ _ _ _ _ _ (blk_new _ _)
 obtain ⟨wM, hupd, HM⟩ := cont_map wB s
 have hrM := HM.out.1.blk hcbB id
 have m0 := blk_cell hrM 0
 have mf := blk_free hrM 0
 have ml := blk_lt hrM
 simp only [List.getElem?_toArray, List.getElem?_cons_zero] at m0
 obtain ⟨wC, hwC⟩ : ∃ wC, wC = wM.setCell ⟨w1.heap.size, 0, none⟩ (.iface 78 (.map (some wB.heap.size))) := ⟨_, rfl⟩
 have HC := hid (HGO.out w1 wB wM wC s q0 HP1.out.1 HP1.out.2 hs hF1B hcbB HM.out.1 HM.out.2.1 HM.out.2.2 hwC)
 have HWC := hid hwC
 clear hwB hF1B hcbB hrM hq0 hwC hs hl0 ec
 go_wp2_with fail
 rw [← HWC.out]
 refine HC.out.mono ?_
 rintro e w5 ⟨rfl, HX⟩
 go_wp2_with fail
 go_ret
 exact ⟨rfl, HX⟩
end Go.Proofs.YtfakghnpkdoclaaGreatDoor
namespace Go.Proofs.YtfakghnpkdoclaaGreatDoor
open Go.RowKit
open Go.Lib (hid)
theorem ril_any (P : En) (n1 n2 t tl m : Nat) (x xl : Tm) (es esl : List Mu.Elem) (cg : Nat) (cc : Nat) (cs : List Mu.Val) (ws1 ws2 : List Mu.B) (kf1 kf2 : Nat) (w0 : World) (D1 D2 : Nat) (hm : m = cs.length) (hm8 : m ≤ 8)
 (hpk : Pk P w0 0) (hrd : Rd P w0 No1 t x es (.slice (some ⟨cg, 0, none⟩) m cc) cs D1) (hrl : Rd P w0 No1 tl xl esl (.slice (some ⟨cg, 0, none⟩) m cc) cs D2) (hD1 : D1 + 400 * n1 ≤ 402000) (hD2 : D2 + 400 * n2 ≤ 402000) (hn1 : n1 ≤ 80000) (hn2 : n2 ≤ 80000)
 (hr1 : Mu.rrender (pL P.ps) P.am n1 es (cs.map some) 0 = some (ws1, kf1, false)) (hft1 : Fits ws1) (hk1 : kf1 ≤ 100)
 (hr2 : Mu.rrender (pL P.ps) P.am n2 esl ((contV ws1.flatten :: cs).map some) kf1 = some (ws2, kf2, false)) (hft2 : Fits ws2) (hk2 : kf2 ≤ 100) (hvg : Mu.VG P.X (contV ws1.flatten)) :
 Calls Tryz.prog 43 #[.pointer (some ⟨t, 0, none⟩), .pointer (some ⟨tl, 0, none⟩), .slice (some ⟨cg, 0, none⟩) m cc] w0
  (fun e w' => ∃ s : ByteArray, e = .returned (.tuple #[.string s, .nilIface]) ∧ Hid (L s = ws2.flatten ∧ Fr (· = P.pb) w0 w')) := by
 have HC := hid (frl_any P n1 n2 t tl m x xl es esl cg cc cs ws1 ws2 kf1 kf2 w0 D1 D2 hm hm8 hpk hrd hrl hD1 hD2 hn1 hn2 hr1 hft1 hk1 hr2 hft2 hk2 hvg)
 clear hm hm8 hpk hrd hrl hD1 hD2 hn1 hn2 hr1 hft1 hk1 hr2 hft2 hk2 hvg
 go_enter Tryz.func43, Tryz.ntmps43
 go_wp2_with fail
 refine HC.out.mono ?_
 rintro e w1 ⟨rfl, HX⟩
 obtain ⟨k', h1, h2, h3⟩ := HX.out
 have HB := hid h3
 have HF := hid h2
 clear h1 h2 h3
 go_wp2_with fail
 refine (Tryz.Buffer_String 0 w0.heap.size ws2.flatten w1 HB.out).mono ?_
 rintro e w2 ⟨rfl, q, rfl⟩
 go_wp2_with fail
 go_ret2
 exact ⟨_, rfl, hid ⟨rfl, HF.out.trans (Fr.drewN _ _ _)⟩⟩
structure Tb (P : En) (w : World) (tb : Nat) (es : List Mu.Elem) (D : Nat) (x : Tm) : Prop where
 tm : TmAt w tb x
 tmo : TmOk P x
 ot : Off P w No1 (· = tb)
 el : ∃ S vs, RowAt w S x.el vs ∧ EsAt w S P.prov es vs ∧ Off P w No1 S
 ok : Mu.EsOk D es
 len : es.length ≤ 2147483647
theorem Off.go {P : En} {w w' : World} {S : Nat → Prop} (h : Off P w No1 S) (hf : Fr (· = P.pb) w w') : Off P w' No1 S := fun k hk => by
 obtain ⟨a, b, c⟩ := h k hk
 exact ⟨by have := hf.size; omega, b, c⟩
theorem Off.kp {P : En} {w w' : World} {S : Nat → Prop} (h : Off P w No1 S) (hf : Fr (· = P.pb) w w') : Keep S w w' := fun k hk => hf.block k (h k hk).1 (h k hk).2.2
theorem Tb.go {P : En} {w w' : World} {tb : Nat} {es : List Mu.Elem} {D : Nat} {x : Tm} (h : Tb P w tb es D x) (hf : Fr (· = P.pb) w w') : Tb P w' tb es D x := by
 obtain ⟨S, vs, e1, e2, e3⟩ := h.el
 exact ⟨(h.ot.kp hf tb rfl).trans h.tm, h.tmo, h.ot.go hf, ⟨S, vs, e1.keep (e3.kp hf) (fun _ h => h), EsAt.keep (e3.kp hf) (fun _ h => h) _ _ e2, e3.go hf⟩, h.ok, h.len⟩
theorem Tb.rd {P : En} {w : World} {tb : Nat} {es : List Mu.Elem} {D : Nat} {x : Tm} {cv : Value} {cs : List Mu.Val} (h : Tb P w tb es D x) (hcx : ∃ R us S2, RowAt w R cv us ∧ CsAt w S2 cs us ∧ Off P w No1 R ∧ Off P w No1 S2) (hkd : ∀ v ∈ cs, v.kind ≠ 0) (hvg : ∀ v ∈ cs, Mu.VG P.X v) (hne : cs ≠ []) (hfew : cs.length ≤ 1000) : Rd P w No1 tb x es cv cs D :=
 ⟨h.tm, h.tmo, h.ot, h.el, h.ok, h.len, hcx, hkd, hvg, hne, hfew⟩
theorem Tb.of {B X : Nat} {eb : Addr} {pv : Value} {ps : List (ByteArray × ByteArray)} {pb : Nat} {w2 w3 : World} {t : Nat} {es : List Mu.Elem} {D : Nat} (h : TplAt w3 w2.heap.size t false (.iface 57 (.pointer (some ⟨pb, 0, none⟩))) es) (hpb : pb < w2.heap.size) (hok : Mu.EsOk D es) (hlen : es.length ≤ 2147483647) :
 ∃ x, Tb (enP pb pv ps B eb true X) w3 t es D x := by
 obtain ⟨x, SE, vs, h1, h2, h3, h4, h5, h6, h7, h8, h9⟩ := h
 refine ⟨x, h1, ⟨h5, h3, h4⟩, fun k hk => ?_, ⟨SE, vs, h6, h7, fun k hk => ?_⟩, hok, hlen⟩
 · rw [hk]
   exact ⟨blk_lt h1, id, by
    show t ≠ pb
    omega⟩
 · have := (h8 k hk).1
   exact ⟨this.2, id, by
    show k ≠ pb
    omega⟩
theorem CAt.one_cell {w : World} {S : Nat → Prop} {v : Mu.Val} {u : Value} (h : CAt w S v u) : CsAt w S [v] [u] := by
 unfold CsAt
 exact ⟨u, [], rfl, h, by unfold CsAt; rfl⟩
theorem VOk.mono {T T' : Nat} (hT : T ≤ T') : ∀ (d : Nat) (v : Mu.Val), Mu.VOk T d v → Mu.VOk T' d v
 | 0, _, h => h.elim
 | d + 1, v, h => by
  obtain ⟨h1, h2, h3, h4, h5, h6⟩ := h;exact ⟨h1, h2, Nat.le_trans h3 hT, h4, h5, fun x hx => VOk.mono hT d x (h6 x hx)⟩
end Go.Proofs.YtfakghnpkdoclaaGreatDoor
namespace Go.Proofs.YtfakghnpkdoclaaGreatDoor
open Go.RowKit
open Go.Lib (hid)
structure Rn (ps : List (ByteArray × ByteArray)) (s : ByteArray) (cs : List Mu.Val) (wsr : List Mu.B) (n D kf : Nat) (es : List Mu.Elem) (st : Mu.ISt) : Prop where
 size : s.size ≤ 400
 signs : Mu.signs (L s)
 p : Mu.iparse (L s) false ((L s).length + 9) 0 ⟨0, Mu.OB, Mu.CB⟩ none = some (some (es, st))
 ok : Mu.EsOk D es
 hD : D + 400 * n ≤ 402000
 hn : n ≤ 80000
 r : Mu.rrender (pL ps) true n es (cs.map some) 0 = some (wsr, kf, false)
 hk : kf ≤ 40
 fits : Fits wsr
theorem Rn.len {ps : List (ByteArray × ByteArray)} {s : ByteArray} {cs : List Mu.Val} {wsr : List Mu.B} {n D kf : Nat} {es : List Mu.Elem} {st : Mu.ISt} (h : Rn ps s cs wsr n D kf es st) : es.length ≤ 2147483647 := by
 have := Mu.iparse_len (N := 2147483647) _ _ _ _ _ (by have := h.size; rw [← L_length] at this; omega) h.p
 exact Nat.le_trans this.1 (by have := h.size; rw [← L_length] at this; omega)
theorem row_at1 {w : World} {b : Nat} {us : List Value} {n : Nat} (h : w.heap[b]? = some (.cells us.toArray 20 (0, 0))) (hn : us.length = n) : RowAt w (· = b) (.slice (some ⟨b, 0, none⟩) n n) us := by
 subst hn
 exact ⟨_, _, rfl, fun _ => ⟨b, rfl, rfl, fun j v hj => by
  rw [blk_cell h j];simpa using hj⟩⟩
theorem layout_any (B X d : Nat) (eb : Addr) (pv : Value) (ps : List (ByteArray × ByteArray)) (s l : ByteArray) (v : Mu.Val) (ws1 ws2 : List Mu.B) (n1 D1 kf1 n2 D2 kf2 : Nat) (es1 es2 : List Mu.Elem) (st1 st2 : Mu.ISt) (w : World) (S : Nat → Prop) (u : Value)
 (hX : X ≤ 16777216) (h1 : Rn ps s [v] ws1 n1 D1 kf1 es1 st1) (h2 : Rn ps l [contV ws1.flatten, v] ws2 n2 D2 kf2 es2 st2) (hparts : ∀ p ∈ ps, p.1.size ≤ 4096 ∧ p.2.size ≤ 400 ∧ Mu.signs (L p.2)) (hplen : ps.length ≤ 4) (hvgc : Mu.VG X (contV ws1.flatten)) (hba : Ba B eb pv ps w) (hin : Oin w X d v S u) :
 Calls Tryz.prog 26 #[.string s, .string l, pv, u] w (fun e w' => ∃ o : ByteArray, e = .returned (.tuple #[.string o, .bool true]) ∧ Hid (L o = ws2.flatten ∧ F0 w w')) := by
 obtain ⟨k1, t1, m1, b1, a1, l1, c1, a2, l2, c2, rfl⟩ := hin.da.form
 obtain ⟨wA, hwA⟩ : ∃ wA, wA = ((w.alloc (.cells #[.int .i64 k1, .string t1, .int .i64 m1, .bool b1, .slice a1 l1 c1, .slice a2 l2 c2] 25)).alloc (.cells #[.string s, .string l] 9)).alloc (.cells #[.int .i64 k1, .string t1, .int .i64 m1, .bool b1, .slice a1 l1 c1, .slice a2 l2 c2] 25) := ⟨_, rfl⟩
 have hfA : F0 w wA := by rw [hwA]; exact ((Fr.alloc _ _ _).allocA _).allocA _
 have hT : Calls Tryz.prog 33 #[.slice (some ⟨w.heap.size + 1, 0, none⟩) 2 2, pv, .slice (some ⟨w.heap.size + 1 + 1, 0, none⟩) 1 1] wA (fun e w' => e = .returned (.bool true) ∧ F0 wA w') := by
  have hb1 : wA.heap[w.heap.size + 1]? = some (.cells #[.string s, .string l] 9 (0, 0)) := by
   rw [hwA];have := blk_alloc (.cells #[.int .i64 k1, .string t1, .int .i64 m1, .bool b1, .slice a1 l1 c1, .slice a2 l2 c2] 25) (blk_new (w.alloc (.cells #[.int .i64 k1, .string t1, .int .i64 m1, .bool b1, .slice a1 l1 c1, .slice a2 l2 c2] 25)) (.cells #[.string s, .string l] 9));simpa using this
  have hb2 : wA.heap[w.heap.size + 1 + 1]? = some (.cells #[.int .i64 k1, .string t1, .int .i64 m1, .bool b1, .slice a1 l1 c1, .slice a2 l2 c2] 25 (0, 0)) := by
   rw [hwA];have := blk_new ((w.alloc (.cells #[.int .i64 k1, .string t1, .int .i64 m1, .bool b1, .slice a1 l1 c1, .slice a2 l2 c2] 25)).alloc (.cells #[.string s, .string l] 9)) (.cells #[.int .i64 k1, .string t1, .int .i64 m1, .bool b1, .slice a1 l1 c1, .slice a2 l2 c2] 25);simpa using this
  have hc := hin.row (B := B) hfA rfl rfl _ hb2;have hz1 := h1.size;have hz2 := h2.size
  have := taken_any [s, l] (w.heap.size + 1) 2 pv ps [v] X d wA _ _ _ (fun j hj => by
   have hj' : j = 0 ∨ j = 1 := by
    have : j < 2 := hj;omega
   rcases hj' with rfl | rfl
   · have := blk_cell hb1 0
     simpa using this
   · have := blk_cell hb1 1
     simpa using this) (by simp) (by simp) (by simp) (by unfold maxLen; simp) (by
   intro x hx
   rcases List.mem_cons.1 hx with rfl | hx
   · omega
   · rw [List.mem_singleton.1 hx]; omega) (hba.ps.f0 hfA) hplen (fun p hp => ⟨(hparts p hp).1, by have := (hparts p hp).2.1; omega⟩) hc.vs hc.ds hc.lo (by simp) (by simp) hc.ok hc.deep hc.sz
  exact this
 have HT0 := hid hT
 have HFA := hid hfA
 have HR1 := hid h1
 have HR2 := hid h2
 have HBA := hid hba
 have HIN := hid hin
 have HPT := hid hparts
 have HVC := hid hvgc
 have hs1z := h1.size
 have hs2z := h2.size
 have hbx : wA.heap[w.heap.size]? = some (.cells #[.int .i64 k1, .string t1, .int .i64 m1, .bool b1, .slice a1 l1 c1, .slice a2 l2 c2] 25 (0, 0)) := by
  rw [hwA]; exact blk_alloc _ (blk_alloc _ (blk_new _ _))
 have hsA : wA.heap.size = w.heap.size + 3 := by rw [hwA]; simp
 have HBX := hid hbx
 have HX := hid hX
 have HPL := hid hplen
 clear h1 h2 hba hin hT hfA hbx hparts hvgc hX hplen
 go_enter Tryz.func26, Tryz.ntmps26
 go_wp2_with fail
 rw [← hwA]
 clear hwA
 refine HT0.out.mono ?_
 rintro e w1 ⟨rfl, hf1⟩
 have HF1 : Hid (F0 w w1) := hid (HFA.out.trans hf1)
 have HA1 := hid hf1
 have hs1 := hf1.size
 clear hf1
 have hba2 : Ba B eb pv ps (w1.alloc (.cells #[pv, .int .i64 0] 59)) := HBA.out.fr0 (HF1.out.allocA _)
 obtain ⟨w2, hw2⟩ : ∃ w2, w2 = w1.alloc (.cells #[pv, .int .i64 0] 59) := ⟨_, rfl⟩
 have hpr : ProvAt w2 w1.heap.size pv 0 := by rw [hw2]; exact blk_new _ _
 rw [← hw2] at hba2
 have HA2 : Hid (F0 wA w2) := hid (by rw [hw2]; exact HA1.out.allocA _)
 have HF2 : Hid (F0 w w2) := hid (by rw [hw2]; exact HF1.out.allocA _)
 have HPV := hid hpr
 have HBA2 := hid hba2
 have hs2 : w2.heap.size = w1.heap.size + 1 := by rw [hw2]; simp
 have hwz := HF1.out.size
 obtain ⟨pa, pc, rfl, -⟩ := HBA.out.ps
 clear hpr hba2
 obtain ⟨P, hP⟩ : ∃ P, P = enP w1.heap.size (.slice pa ps.length pc) ps B eb true X := ⟨_, rfl⟩
 have HP := hid hP
 have hPpb : P.pb = w1.heap.size := by rw [hP]; rfl
 clear hP
 go_wp2_with fail
 rw [← hw2]
 clear hw2
 have hso1 := signs_ok HR1.out.signs
 refine (psp_any B eb ((L s).length + 9) s 57 (.pointer (some ⟨w1.heap.size, 0, none⟩)) w2 es1 st1 (by omega) hso1.1 hso1.2 HBA2.out.gl HR1.out.p (by rw [L_length]; omega)).mono ?_
 rintro e w3 ⟨t, rfl, HT⟩
 clear hso1
 have hso2 := signs_ok HR2.out.signs
 have HBA3 := hid (HBA2.out.fr0 HT.out.1)
 go_wp2_with fail
 refine (psp_any B eb ((L l).length + 9) l 57 (.pointer (some ⟨w1.heap.size, 0, none⟩)) w3 es2 st2 (by omega) hso2.1 hso2.2 HBA3.out.gl HR2.out.p (by rw [L_length]; omega)).mono ?_
 rintro e w4 ⟨tl, rfl, HTL⟩
 clear hso2
 have hz23 := HT.out.1.size
 have hz34 := HTL.out.1.size
 have HF4 : Hid (F0 w2 w4) := hid (HT.out.1.trans HTL.out.1)
 have HTB : Hid (∃ x1 x2, Tb P w4 t es1 D1 x1 ∧ Tb P w4 tl es2 D2 x2) := hid (by
  rw [HP.out];obtain ⟨x1, e1⟩ := Tb.of (B := B) (X := X) (eb := eb) (pv := .slice pa ps.length pc) (ps := ps) HT.out.2 (by omega) HR1.out.ok HR1.out.len;obtain ⟨x2, e2⟩ := Tb.of (B := B) (X := X) (eb := eb) (pv := .slice pa ps.length pc) (ps := ps) HTL.out.2 (by omega) HR2.out.ok HR2.out.len;exact ⟨x1, x2, e1.go (Fr.of0 HTL.out.1), e2⟩)
 obtain ⟨x1, x2, htb1, htb2⟩ := HTB.out
 have HTS4 := hid htb1
 have HTL4 := hid htb2
 have HPK4 : Hid (Pk P w4 0) := hid (by
  rw [HP.out]
  exact ⟨HF4.out.blk HPV.out id, HBA2.out.fr0 HF4.out, by
   show B ≤ w1.heap.size;have := HBA.out.size
   omega, HPT.out, by
   show ps.length ≤ 2147483647;have := HPL.out
   omega, HX.out⟩)
 clear htb1 htb2
 have hbx4 := (HA2.out.trans HF4.out).blk HBX.out id
 have p0 := blk_cell hbx4 0
 have p1 := blk_cell hbx4 1
 have p2 := blk_cell hbx4 2
 have p3 := blk_cell hbx4 3
 have p4 := blk_cell hbx4 4
 have p5 := blk_cell hbx4 5
 simp only [List.getElem?_toArray, List.getElem?_cons_zero, List.getElem?_cons_succ] at p0 p1 p2 p3 p4 p5
 clear hbx4
 go_wp2_with fail
 refine (value_all X d v HIN.out.ok w4 S _ (HIN.out.f0 (HF2.out.trans HF4.out)).da (HIN.out.f0 (HF2.out.trans HF4.out)).lo).mono ?_
 rintro e w5 ⟨u2, S2, rfl, HV⟩
 obtain ⟨T9, z9, rfl⟩ := HV.out.1.iface HIN.out.kd
 clear p0 p1 p2 p3 p4 p5
 have hz45 := HV.out.2.1.size
 have hoff2 : Off P w5 No1 S2 := fun k hk => by
  have := HV.out.2.2 k hk;exact ⟨this.2, id, by omega⟩
 have HOF := hid hoff2
 clear hoff2
 have hf56 : F0 w5 (w5.alloc (.cells #[.iface T9 z9] 20)) := Fr.alloc _ _ _
 have HC1 : Hid (Calls Tryz.prog 35 #[.pointer (some ⟨t, 0, none⟩), .pointer (some ⟨w1.heap.size, 0, none⟩), .slice (some ⟨w5.heap.size, 0, none⟩) 1 1] (w5.alloc (.cells #[.iface T9 z9] 20)) (fun e w' => ∃ o : ByteArray, e = .returned (.tuple #[.string o, .bool true]) ∧ Hid (L o = ws1.flatten ∧ ∃ k', Pk P w' k' ∧ Fr (· = P.pb) w5 w'))) := hid (by
  have hf46 : F0 w4 (w5.alloc (.cells #[.iface T9 z9] 20)) := HV.out.2.1.trans hf56
  have hrd := (HTS4.out.go (Fr.of0 hf46)).rd (cs := [v]) ⟨(· = w5.heap.size), [.iface T9 z9], S2, row_at1 (blk_new w5 _) rfl, (CAt.keep (HOF.out.kp (Fr.of0 hf56)) (fun _ h => h) _ _ HV.out.1).one_cell, fun k hk => ⟨by rw [hk]; simp, id, by rw [hk]; omega⟩, HOF.out.go (Fr.of0 hf56)⟩ (by simpa using HIN.out.kd) (by
   intro y hy;rw [List.mem_singleton.1 hy, HP.out];exact ⟨d, HIN.out.ok⟩) (by simp) (by simp)
  have := rendered_any P n1 t x1 es1 _ [v] ws1 0 kf1 false _ D1 (HPK4.out.fr (Fr.of0 hf46) (hf46.blk HPK4.out.prov id)) hrd HR1.out.hD HR1.out.hn (by rw [HP.out]; exact HR1.out.r) HR1.out.fits (by have := HR1.out.hk; omega);rw [hPpb] at this;refine this.mono ?_;rintro e w' ⟨⟨o, rfl, ho⟩, HE⟩;obtain ⟨k', g1, g2⟩ := HE.out;exact ⟨o, rfl, hid ⟨ho rfl, k', g1, (Fr.of0 hf56).trans g2⟩⟩)
 clear hf56
 go_wp2_with fail
 refine HC1.out.mono ?_
 rintro e w7 ⟨o1, rfl, HO1⟩
 obtain ⟨wM, hupd, HM⟩ := cont_map w7 o1
 have hmm := fun (W : World) => run_makeMap (P := Tryz.prog) 78 W
 obtain ⟨k7, hpk7, hfr7⟩ := HO1.out.2
 have HPK7 := hid hpk7
 have HFR7 := hid hfr7
 have hz57 := hfr7.size
 have hzM := HM.out.1.size
 have hlM := HM.out.2.2
 clear hpk7 hfr7
 have HC2 : Hid (Calls Tryz.prog 35 #[.pointer (some ⟨tl, 0, none⟩), .pointer (some ⟨w1.heap.size, 0, none⟩), .slice (some ⟨wM.heap.size, 0, none⟩) 2 2] (wM.alloc (.cells #[.iface 78 (.map (some w7.heap.size)), .iface T9 z9] 20)) (fun e w' => ∃ o : ByteArray, e = .returned (.tuple #[.string o, .bool true]) ∧ Hid (∃ k', Pk P w' k' ∧ Fr (· = P.pb) w5 w'))) := hid (by
  have hf7 : F0 w7 (wM.alloc (.cells #[.iface 78 (.map (some w7.heap.size)), .iface T9 z9] 20)) := HM.out.1.allocA _;have hf5 : Fr (· = P.pb) w5 (wM.alloc (.cells #[.iface 78 (.map (some w7.heap.size)), .iface T9 z9] 20)) := HFR7.out.trans (Fr.of0 hf7)
  have hcs : CsAt (wM.alloc (.cells #[.iface 78 (.map (some w7.heap.size)), .iface T9 z9] 20)) (fun k => k = w7.heap.size ∨ S2 k) [contV ws1.flatten, v] [.iface 78 (.map (some w7.heap.size)), .iface T9 z9] := by
   unfold CsAt;refine ⟨_, _, rfl, ?_, ?_⟩
   · rw [← HO1.out.1]
     exact CAt.keep (w := wM) (S := (· = w7.heap.size)) (fun k hk => by rw [hk]; exact Below.heap_alloc wM _ _ hlM) (fun _ h => .inl h) _ _ HM.out.2.1
   · unfold CsAt
     exact ⟨_, [], rfl, CAt.keep (w := w5) (S := S2) (HOF.out.kp hf5) (fun _ h => .inr h) _ _ HV.out.1, by unfold CsAt; rfl⟩
  have hrd := ((HTL4.out.go (Fr.of0 HV.out.2.1)).go hf5).rd (cs := [contV ws1.flatten, v]) ⟨(· = wM.heap.size), _, _, row_at1 (blk_new wM _) rfl, hcs, fun k hk => ⟨by rw [hk]; simp, id, by rw [hk]; omega⟩, fun k hk => by
   rcases hk with hk | hk
   · rw [hk]
     exact ⟨by simp; omega, id, by omega⟩
   · have := HOF.out k hk
     exact ⟨by simp; omega, id, this.2.2⟩⟩ (by
   intro y hy
   rcases List.mem_cons.1 hy with rfl | hy
   · simp [contV, Mu.Val.kind]
   · rw [List.mem_singleton.1 hy]; exact HIN.out.kd) (by
   intro y hy;rw [HP.out]
   rcases List.mem_cons.1 hy with rfl | hy
   · exact HVC.out
   · rw [List.mem_singleton.1 hy]; exact ⟨d, HIN.out.ok⟩) (by simp) (by simp)
  have := rendered_any P n2 tl x2 es2 _ [contV ws1.flatten, v] ws2 k7 kf2 false _ D2 (HPK7.out.fr (Fr.of0 hf7) (hf7.blk HPK7.out.prov id)) hrd HR2.out.hD HR2.out.hn (by rw [HP.out]; exact HR2.out.r) HR2.out.fits (by have := HR2.out.hk; omega);rw [hPpb] at this;refine this.mono ?_;rintro e w' ⟨⟨o, rfl, ho⟩, HE⟩;obtain ⟨k', g1, g2⟩ := HE.out;exact ⟨o, rfl, hid ⟨k', g1, hf5.trans g2⟩⟩)
 clear hzM hlM
 go_wp2_with fail
 refine HC2.out.mono ?_
 rintro e w9 ⟨o2, rfl, HO2⟩
 obtain ⟨k9, hpk9, hfr9⟩ := HO2.out
 have hp9 := hpk9.prov
 rw [hPpb] at hp9
 have g1 := blk_cell hp9 1
 have gf := blk_free hp9 1
 have gl := blk_lt hp9
 simp only [List.getElem?_toArray, List.getElem?_cons_zero, List.getElem?_cons_succ] at g1
 obtain ⟨wR, hwR⟩ : ∃ wR, wR = w9.setCell ⟨w1.heap.size, 1, none⟩ (.int .i64 0) := ⟨_, rfl⟩
 have hre := hpk9.reset
 rw [hPpb, ← hwR] at hre
 have HRE : Hid (Pk P wR 0 ∧ Fr (· = P.pb) w5 wR) := hid ⟨hre.1, hfr9.trans (by rw [hPpb]; exact hre.2)⟩
 have hzR := HRE.out.2.size
 have hsR : wR.heap.size = w9.heap.size := by rw [hwR]; simp [World.setCell]
 have HWR := hid hwR
 clear hpk9 hfr9 hp9 hre hwR hupd hmm
 have HC3 : Hid (Calls Tryz.prog 43 #[.pointer (some ⟨t, 0, none⟩), .pointer (some ⟨tl, 0, none⟩), .slice (some ⟨w9.heap.size, 0, none⟩) 1 1] (wR.alloc (.cells #[.iface T9 z9] 20)) (fun e w' => ∃ o : ByteArray, e = .returned (.tuple #[.string o, .nilIface]) ∧ Hid (L o = ws2.flatten ∧ Fr (· = P.pb) w5 w'))) := hid (by
  have hfR : F0 wR (wR.alloc (.cells #[.iface T9 z9] 20)) := Fr.alloc _ _ _;have hf5 : Fr (· = P.pb) w5 (wR.alloc (.cells #[.iface T9 z9] 20)) := HRE.out.2.trans (Fr.of0 hfR);rw [← hsR]
  have hcx : ∃ R us S3, RowAt (wR.alloc (.cells #[.iface T9 z9] 20)) R (.slice (some ⟨wR.heap.size, 0, none⟩) 1 1) us ∧ CsAt (wR.alloc (.cells #[.iface T9 z9] 20)) S3 [v] us ∧ Off P (wR.alloc (.cells #[.iface T9 z9] 20)) No1 R ∧ Off P (wR.alloc (.cells #[.iface T9 z9] 20)) No1 S3 :=
   ⟨(· = wR.heap.size), [.iface T9 z9], S2, row_at1 (blk_new wR _) rfl, (CAt.keep (HOF.out.kp hf5) (fun _ h => h) _ _ HV.out.1).one_cell, fun k hk => ⟨by rw [hk]; simp, id, by rw [hk]; omega⟩, HOF.out.go hf5⟩
  have hkd : ∀ y ∈ [v], y.kind ≠ 0 := by simpa using HIN.out.kd
  have hvg : ∀ y ∈ [v], Mu.VG P.X y := by
   intro y hy;rw [List.mem_singleton.1 hy, HP.out];exact ⟨d, HIN.out.ok⟩
  have hr2 : Mu.rrender (pL P.ps) P.am n2 es2 ((contV ws1.flatten :: [v]).map some) kf1 = some (ws2, kf2 + kf1, false) := by
   have := Mu.rrender_shf (pL ps) true kf1 n2 es2 ([contV ws1.flatten, v].map some) 0;rw [Nat.zero_add, HR2.out.r] at this;rw [HP.out];exact this
  refine (ril_any P n1 n2 t tl 1 x1 x2 es1 es2 wR.heap.size 1 [v] ws1 ws2 kf1 (kf2 + kf1) _ D1 D2 rfl (by omega) (HRE.out.1.fr (Fr.of0 hfR) (hfR.blk HRE.out.1.prov id)) (((HTS4.out.go (Fr.of0 HV.out.2.1)).go hf5).rd hcx hkd hvg (by simp) (by simp)) (((HTL4.out.go (Fr.of0 HV.out.2.1)).go hf5).rd hcx hkd hvg (by simp) (by simp)) HR1.out.hD HR2.out.hD HR1.out.hn HR2.out.hn (by rw [HP.out]; exact HR1.out.r) HR1.out.fits (by have := HR1.out.hk; omega) hr2 HR2.out.fits (by have := HR1.out.hk; have := HR2.out.hk; omega) (by rw [HP.out]; exact HVC.out)).mono ?_
  rintro e w' ⟨o, rfl, HE⟩;exact ⟨o, rfl, hid ⟨HE.out.1, hf5.trans HE.out.2⟩⟩)
 clear hzR
 go_wp2_with fail
 rw [← HWR.out]
 refine HC3.out.mono ?_
 rintro e w12 ⟨o3, rfl, HO3⟩
 go_wp2_with fail
 go_quiet (fail)
 go_wp2_with fail
 go_ret2
 refine ⟨o3, rfl, hid ⟨HO3.out.1, ?_⟩⟩
 have hff : F0 w w5 := (HF2.out.trans HF4.out).trans HV.out.2.1
 have hfz : F0 w w12 := hff.trans' HO3.out.2 (fun i hi hm => by
  have : i = P.pb := hm
  omega)
 exact Fr.drewNA hfz _
end Go.Proofs.YtfakghnpkdoclaaGreatDoor
