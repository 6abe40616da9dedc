/-
  Template.Render and the thin package's renders. (Joined by wip/pack.py.)
-/
import Derived.Test.YtfakghnpkdoclaaGreatDoorGW3
import Derived.Test.YtfakghnpkdoclaaGreatDoorGW4
import Derived.Test.YtfakghnpkdoclaaGreatDoorGC2
set_option linter.unusedVariables false
set_option linter.unusedSimpArgs false
set_option maxRecDepth 100000
set_option maxHeartbeats 8000000
namespace Go.Proofs.YtfakghnpkdoclaaGreatDoor
open Go.RowKit
open Go.Lib (hid)
def No1 : Nat → Prop := fun _ => False
structure Pk (P : En) (w : World) (k : Nat) : Prop where
 prov : ProvAt w P.pb P.pv k
 ba : Ba P.B P.eb P.pv P.ps w
 pbB : P.B ≤ P.pb
 parts : ∀ p ∈ P.ps, p.1.size ≤ 4096 ∧ p.2.size ≤ 400 ∧ Mu.signs (L p.2)
 len : P.ps.length ≤ 2147483647
 xb : P.X ≤ 16777216
def enB (P : En) (b : Nat) : En := { P with T := 127, b := b, f := 164, At := BufAt b }
def enC (P : En) (b : Nat) : En := { P with T := 105, b := b, f := 162, At := CounterAt b }
theorem enB_ok {P : En} {w : World} {k : Nat} (h : Pk P w k) (b : Nat) : (enB P b).Ok := ⟨buf_writer b, h.parts, h.len, h.xb⟩
theorem enC_ok {P : En} {w : World} {k : Nat} (h : Pk P w k) (b : Nat) : (enC P b).Ok := ⟨cnt_writer b, h.parts, h.len, h.xb⟩
theorem Rd.go {P E : En} {w w' : World} {own : Nat → Prop} {tb : Nat} {x : Tm} {es : List Mu.Elem} {cv : Value} {cs : List Mu.Val} {D : Nat} (h : Rd P w No1 tb x es cv cs D) (hf : Fr (· = P.pb) w w') (h1 : E.pb = P.pb) (h2 : E.am = P.am) (h3 : E.X = P.X) (ho : ∀ k, own k → w.heap.size ≤ k) : Rd E w' own tb x es cv cs D := by
 have hoff : ∀ {S : Nat → Prop}, Off P w No1 S → Off E w' own S := fun hS k hk => by
  obtain ⟨a, -, c⟩ := hS k hk;exact ⟨by have := hf.size; omega, fun h => by have := ho k h; omega, by rw [h1]; exact c⟩
 have hkp : ∀ {S : Nat → Prop}, Off P w No1 S → Keep S w w' := fun hS k hk => hf.block k (hS k hk).1 (hS k hk).2.2
 have hpv : E.prov = P.prov := by unfold En.prov; rw [h1]
 obtain ⟨S, vs, e1, e2, e3⟩ := h.el
 obtain ⟨R, us, S2, c1, c2, c3, c4⟩ := h.cx
 exact ⟨(hkp h.ot tb rfl).trans h.tm, ⟨by rw [h2]; exact h.tmo.am, by rw [hpv]; exact h.tmo.prov, h.tmo.esc⟩, hoff h.ot, ⟨S, vs, e1.keep (hkp e3) (fun _ h => h), by rw [hpv]; exact EsAt.keep (hkp e3) (fun _ h => h) _ _ e2, hoff e3⟩, h.ok, h.len,
  ⟨R, us, S2, c1.keep (hkp c3) (fun _ h => h), CsAt.keep (hkp c4) (fun _ h => h) _ _ c2, hoff c3, hoff c4⟩, h.kd, by rw [h3]; exact h.vg, h.ne, h.few⟩
theorem Pk.fr {P : En} {w w' : World} {k k' : Nat} (h : Pk P w k) (hf : Fr (· = P.pb) w w') (hp : ProvAt w' P.pb P.pv k') : Pk P w' k' :=
 ⟨hp, h.ba.fr hf (fun j hj hm => by have := h.pbB; omega), h.pbB, h.parts, h.len, h.xb⟩
def TrPost (P : En) (wsr : List Mu.B) (kf : Nat) (er : Bool) (w : World) (e : Ending) (w' : World) : Prop :=
 (∃ (s : ByteArray) (y : Value), e = .returned (.tuple #[.string s, y]) ∧ if er = true then ∃ T v, y = .iface T v else y = .nilIface ∧ L s = wsr.flatten) ∧ Hid (Pk P w' kf ∧ Fr (· = P.pb) w w')
theorem fr_own {P : En} {w w1 w2 : World} {own : Nat → Prop} (hf : F0 w w1) (hg : Fr (fun j => own j ∨ j = P.pb) w1 w2) (ho : ∀ k, own k → w.heap.size ≤ k) : Fr (· = P.pb) w w2 :=
 (Fr.of0 hf).trans' hg (fun i hi hm => by
   rcases hm with hm | hm
   · have := ho i hm; omega
   · exact hm)
theorem trender_any (P : En) (n tb : Nat) (x : Tm) (es : List Mu.Elem) (cv : Value) (cs : List Mu.Val) (wsr : List Mu.B) (k kf : Nat) (er : Bool) (w : World) (D : Nat)
 (hpk : Pk P w k) (hrd : Rd P w No1 tb x es cv cs D) (hD : D + 400 * n ≤ 402000) (hn : n ≤ 80000) (hr : Mu.rrender (pL P.ps) P.am n es (cs.map some) k = some (wsr, kf, er)) (hft : Fits wsr) (hkf : kf ≤ 100) :
 Calls Tryz.prog 63 #[.pointer (some ⟨tb, 0, none⟩), cv] w (TrPost P wsr kf er w) := by
 have hHC : Calls Tryz.prog 62 #[.pointer (some ⟨tb, 0, none⟩), .iface 127 (.pointer (some ⟨w.heap.size, 0, none⟩)), cv] (w.alloc (.cells #[.slice none 0 0, .int .i64 0, .int .i8 0] 125))
  (fun e w' => (if er = true then ∃ T v, e = .returned (.iface T v) else e = .returned .nilIface) ∧ Hid (Pk P w' kf ∧ Fr (· = P.pb) w w' ∧ Lib.IsBuffer 125 5 0 w.heap.size (Lib.byteCells wsr.flatten) w')) := by
  have hpl := blk_lt hpk.prov;have hBs := hpk.ba.size
  have hst : St (enB P w.heap.size) (w.alloc (.cells #[.slice none 0 0, .int .i64 0, .int .i8 0] 125)) (· = w.heap.size) [] k :=
   ⟨.inl ⟨rfl, fun k => Iff.rfl, 0, blk_new _ _⟩, blk_alloc _ hpk.prov, hpk.ba.fr0 (Fr.alloc _ _ _), fun j hj => by
    show P.B ≤ j
    omega, hpk.pbB, fun h => by
    have h : P.pb = w.heap.size := h
    omega⟩
  have hrd1 : Rd (enB P w.heap.size) (w.alloc (.cells #[.slice none 0 0, .int .i64 0, .int .i8 0] 125)) (· = w.heap.size) tb x es cv cs D := hrd.go (Fr.alloc _ _ _) rfl rfl rfl (fun k hk => by omega);refine (frender_any (enB P w.heap.size) (enB_ok hpk _) n tb x es cv cs _ [] wsr k kf er _ D hst hrd1 hD hn hr hft hkf).mono ?_;rintro e w1 ⟨he, own', h2, h3, h4⟩
  have hown : ∀ j, own' j → w.heap.size ≤ j := fun j hj => by
   rcases h3 j hj with h | h
   · omega
   · have := h.1
     simp at this; omega
  have hfr : Fr (· = P.pb) w w1 := fr_own (Fr.alloc _ _ _) (h4.mono (fun i hi hm => hm) : Fr (fun j => j = w.heap.size ∨ j = P.pb) _ w1) (fun k hk => by omega);exact ⟨he, hid ⟨hpk.fr hfr h2.prov, hfr, BufAt.is (ws := wsr) (own := own') (by have := h2.wat; rw [List.nil_append] at this; exact this)⟩⟩
 have HC := hid hHC
 clear hHC hpk hrd hr hft
 go_enter Tryz.func63, Tryz.ntmps63
 go_wp2_with fail
 refine HC.out.mono ?_
 rintro e w1 ⟨he, HP⟩
 cases er with
 | true =>
  rw [if_pos rfl] at he;obtain ⟨T9, v9, rfl⟩ := he;go_wp2_with fail;refine (Tryz.Buffer_String 0 w.heap.size wsr.flatten w1 HP.out.2.2).mono ?_;rintro e w2 ⟨rfl, q, rfl⟩;go_wp2_with fail
  go_ret2
  exact ⟨⟨_, _, rfl, by rw [if_pos rfl]; exact ⟨_, _, rfl⟩⟩, hid ⟨HP.out.1.fr (Fr.drewN _ _ _) HP.out.1.prov, HP.out.2.1.trans (Fr.drewN _ _ _)⟩⟩
 | false =>
  rw [if_neg Bool.false_ne_true] at he;subst he;go_wp2_with fail;refine (Tryz.Buffer_String 0 w.heap.size wsr.flatten w1 HP.out.2.2).mono ?_;rintro e w2 ⟨rfl, q, rfl⟩;go_wp2_with fail
  go_ret2
  exact ⟨⟨_, _, rfl, by rw [if_neg Bool.false_ne_true]; exact ⟨rfl, rfl⟩⟩, hid ⟨HP.out.1.fr (Fr.drewN _ _ _) HP.out.1.prov, HP.out.2.1.trans (Fr.drewN _ _ _)⟩⟩
def RdPost (P : En) (wsr : List Mu.B) (er : Bool) (w : World) (e : Ending) (w' : World) : Prop :=
 (∃ (s : ByteArray), e = .returned (.tuple #[.string s, .bool (!er)]) ∧ (er = false → L s = wsr.flatten)) ∧ Hid (∃ k', Pk P w' k' ∧ Fr (· = P.pb) w w')
theorem Pk.reset {P : En} {w : World} {k : Nat} (h : Pk P w k) : Pk P (w.setCell ⟨P.pb, 1, none⟩ (.int .i64 0)) 0 ∧ Fr (· = P.pb) w (w.setCell ⟨P.pb, 1, none⟩ (.int .i64 0)) := by
 have hf : Fr (· = P.pb) w (w.setCell ⟨P.pb, 1, none⟩ (.int .i64 0)) := (Fr.refl (· = P.pb) w).setA ⟨P.pb, 1, none⟩ _ (.inl rfl)
 exact ⟨h.fr hf (blk_set _ h.prov), hf⟩
theorem rendered_any (P : En) (n tb : Nat) (x : Tm) (es : List Mu.Elem) (cv : Value) (cs : List Mu.Val) (wsr : List Mu.B) (k0 kf : Nat) (er : Bool) (w : World) (D : Nat)
 (hpk : Pk P w k0) (hrd : Rd P w No1 tb x es cv cs D) (hD : D + 400 * n ≤ 402000) (hn : n ≤ 80000) (hr : Mu.rrender (pL P.ps) P.am n es (cs.map some) 0 = some (wsr, kf, er)) (hft : Fits wsr) (hkf : kf ≤ 100) :
 Calls Tryz.prog 35 #[.pointer (some ⟨tb, 0, none⟩), .pointer (some ⟨P.pb, 0, none⟩), cv] w (RdPost P wsr er w) := by
 have c1 := blk_cell hpk.prov 1
 have f1 := blk_free hpk.prov 1
 have lp := blk_lt hpk.prov
 simp only [List.getElem?_toArray, List.getElem?_cons_zero, List.getElem?_cons_succ] at c1
 obtain ⟨wA, hwA⟩ : ∃ wA, wA = w.setCell ⟨P.pb, 1, none⟩ (.int .i64 0) := ⟨_, rfl⟩
 obtain ⟨hpA, hfA⟩ := hpk.reset
 rw [← hwA] at hpA hfA
 have hrA : Rd P wA No1 tb x es cv cs D := hrd.go hfA rfl rfl rfl (fun _ h => h.elim)
 have hsA := hfA.size
 have hHC : Calls Tryz.prog 62 #[.pointer (some ⟨tb, 0, none⟩), .iface 105 (.pointer (some ⟨wA.heap.size, 0, none⟩)), cv] (wA.alloc (.cells #[.int .i64 0, .int .i64 0] 107))
  (fun e w' => (if er = true then ∃ T v, e = .returned (.iface T v) else e = .returned .nilIface) ∧ Hid (∃ k', Pk P w' k' ∧ Fr (· = P.pb) wA w')) := by
  have hpl := blk_lt hpA.prov;have hBs := hpA.ba.size
  have hst : St (enC P wA.heap.size) (wA.alloc (.cells #[.int .i64 0, .int .i64 0] 107)) (· = wA.heap.size) [] 0 :=
   ⟨⟨fun k => Iff.rfl, blk_new _ _⟩, blk_alloc _ hpA.prov, hpA.ba.fr0 (Fr.alloc _ _ _), fun j hj => by
    show P.B ≤ j
    omega, hpA.pbB, fun h => by
    have h : P.pb = wA.heap.size := h
    omega⟩
  have hrd1 : Rd (enC P wA.heap.size) (wA.alloc (.cells #[.int .i64 0, .int .i64 0] 107)) (· = wA.heap.size) tb x es cv cs D := hrA.go (Fr.alloc _ _ _) rfl rfl rfl (fun k hk => by omega);refine (frender_any (enC P wA.heap.size) (enC_ok hpA _) n tb x es cv cs _ [] wsr 0 kf er _ D hst hrd1 hD hn hr hft hkf).mono ?_;rintro e w1 ⟨he, own', h2, h3, h4⟩
  have hfr : Fr (· = P.pb) wA w1 := fr_own (Fr.alloc _ _ _) (h4.mono (fun i hi hm => hm) : Fr (fun j => j = wA.heap.size ∨ j = P.pb) _ w1) (fun k hk => by omega);exact ⟨he, hid ⟨kf, hpA.fr hfr h2.prov, hfr⟩⟩
 have hsz : wA.heap.size = w.heap.size := by rw [hwA]; simp [World.setCell]
 rw [hsz] at hHC
 have HC := hid hHC
 have HB : Hid (∀ (w1 : World) (k' : Nat), Pk P w1 k' → Fr (· = P.pb) wA w1 → Calls Tryz.prog 63 #[.pointer (some ⟨tb, 0, none⟩), cv] (w1.setCell ⟨P.pb, 1, none⟩ (.int .i64 0)) (TrPost P wsr kf er (w1.setCell ⟨P.pb, 1, none⟩ (.int .i64 0)))) := hid (fun w1 k' hp1 hf1 => by
  obtain ⟨hp2, hf2⟩ := hp1.reset;exact trender_any P n tb x es cv cs wsr 0 kf er _ D hp2 (hrA.go (hf1.trans hf2) rfl rfl rfl (fun _ h => h.elim)) hD hn hr hft hkf)
 have HF := hid hfA
 have HWA := hid hwA
 clear hHC hpk hrd hr hft hpA hfA hrA
 go_enter Tryz.func35, Tryz.ntmps35
 go_wp2_with fail
 rw [← HWA.out]
 clear hwA hsz
 refine HC.out.mono ?_
 rintro e w1 ⟨he, HP⟩
 cases er with
 | true =>
  rw [if_pos rfl] at he;obtain ⟨T9, v9, rfl⟩ := he;go_wp2_with fail
  go_ret2
  obtain ⟨k', h1, h2⟩ := HP.out;exact ⟨⟨_, rfl, fun h => by cases h⟩, hid ⟨k', h1, HF.out.trans h2⟩⟩
 | false =>
  rw [if_neg Bool.false_ne_true] at he;subst he;obtain ⟨k', hp1, hf1⟩ := HP.out;have d1 := blk_cell hp1.prov 1;have g1 := blk_free hp1.prov 1;have l1 := blk_lt hp1.prov;simp only [List.getElem?_toArray, List.getElem?_cons_zero, List.getElem?_cons_succ] at d1;have HK := hid hf1;have HR := hid (HB.out w1 k' hp1 hf1);have HRS := hid hp1.reset;clear hp1 hf1;go_wp2_with fail;refine HR.out.mono ?_
  rintro e w2 ⟨⟨s, y, rfl, hy⟩, HQ⟩;rw [if_neg Bool.false_ne_true] at hy;obtain ⟨rfl, hs⟩ := hy;have HS := hid hs;clear hs;go_wp2_with fail
  go_quiet (fail)
  go_wp2_with fail
  go_ret2
  exact ⟨⟨s, rfl, fun _ => HS.out⟩, hid ⟨kf, HQ.out.1.fr (Fr.drewN _ _ _) HQ.out.1.prov, (HF.out.trans HK.out).trans (HRS.out.2.trans (HQ.out.2.trans (Fr.drewN _ _ _)))⟩⟩
end Go.Proofs.YtfakghnpkdoclaaGreatDoor
namespace Go.Proofs.YtfakghnpkdoclaaGreatDoor
open Go.RowKit
open Go.Lib (hid)
structure Ren (ps : List (ByteArray × ByteArray)) (raw am : Bool) (X : Nat) (s : ByteArray) (cs : List Mu.Val) (wsr : List Mu.B) (er : Bool) : Prop where
 size : s.size ≤ 4096
 signs : Mu.signs (L s)
 run : ∃ n es st D kf, Mu.iparse (L s) raw ((L s).length + 9) 0 ⟨0, Mu.OB, Mu.CB⟩ none = some (some (es, st)) ∧ Mu.EsOk D es ∧ D + 400 * n ≤ 402000 ∧ n ≤ 80000 ∧ Mu.rrender (pL ps) am n es (cs.map some) 0 = some (wsr, kf, er) ∧ kf ≤ 100
 fits : Fits wsr
 parts : ∀ p ∈ ps, p.1.size ≤ 4096 ∧ p.2.size ≤ 400 ∧ Mu.signs (L p.2)
 plen : ps.length ≤ 4
 xb : X ≤ 16777216
structure Cin (w : World) (B X d : Nat) (cs : List Mu.Val) (S : Nat → Prop) (cv : Value) (us : List Value) : Prop where
 vs : VsAt w S cv us
 ds : DsAt w S cs us
 lo : ∀ k, S k → k < w.heap.size
 one : 1 ≤ cs.length
 few : cs.length ≤ 8
 ok : ∀ x ∈ cs, Mu.VOk X d x
 deep : 1 ≤ d ∧ d ≤ 20
 sz : Mu.vszL cs ≤ 1000
 kd : ∀ v ∈ cs, v.kind ≠ 0
theorem Cin.f0 {w w' : World} {B X d : Nat} {cs : List Mu.Val} {S : Nat → Prop} {cv : Value} {us : List Value} (h : Cin w B X d cs S cv us) (hf : F0 w w') : Cin w' B X d cs S cv us :=
 ⟨h.vs.keep (fun k hk => hf.block k (h.lo k hk) id) (fun _ h => h), DsAt.keep (fun k hk => hf.block k (h.lo k hk) id) (fun _ h => h) _ _ h.ds, fun k hk => by have := h.lo k hk; have := hf.size; omega, h.one, h.few, h.ok, h.deep, h.sz, h.kd⟩
def RaPost (wsr : List Mu.B) (er : Bool) (w : World) (e : Ending) (w' : World) : Prop :=
 (∃ (o : ByteArray), e = .returned (.tuple #[.string o, .bool (!er)]) ∧ (er = false → L o = wsr.flatten)) ∧ F0 w w'
def enP (pb : Nat) (pv : Value) (ps : List (ByteArray × ByteArray)) (B : Nat) (eb : Addr) (am : Bool) (X : Nat) : En := ⟨0, 0, 0, fun _ _ _ => False, pb, pv, ps, B, eb, am, X⟩
theorem rendered_go {B X d : Nat} {eb : Addr} {pv : Value} {ps : List (ByteArray × ByteArray)} {raw am : Bool} {s : ByteArray} {cs : List Mu.Val} {wsr : List Mu.B} {er : Bool} (hren : Ren ps raw am X s cs wsr er) (pb : Nat) (w2 w3 w4 : World) (S : Nat → Prop) (cv : Value) (us : List Value) (hcin : Cin w4 B X d cs S cv us)
 (hprov : ProvAt w2 pb pv 0) (hba : Ba B eb pv ps w2) (hpb : B ≤ pb) (hf34 : F0 w2 w3) (hf4 : F0 w3 w4) (t : Nat) (x : Tm) (hx : TmAt w4 t x) (htm : x.am = am ∧ x.prov = .iface 57 (.pointer (some ⟨pb, 0, none⟩)) ∧ x.esc = .func (Fn.func 69) #[] #[])
 (n D kf : Nat) (es : List Mu.Elem) (st : Mu.ISt) (hp : Mu.iparse (L s) raw ((L s).length + 9) 0 ⟨0, Mu.OB, Mu.CB⟩ none = some (some (es, st))) (hok : Mu.EsOk D es) (hD : D + 400 * n ≤ 402000) (hn : n ≤ 80000) (hr : Mu.rrender (pL ps) am n es (cs.map some) 0 = some (wsr, kf, er)) (hkf : kf ≤ 100)
 (hel : ∃ SE vs, RowAt w4 SE x.el vs ∧ EsAt w4 SE (.iface 57 (.pointer (some ⟨pb, 0, none⟩))) es vs ∧ ∀ k, SE k → w2.heap.size ≤ k ∧ k < w4.heap.size) (htb : w2.heap.size ≤ t)
 (v : Value) (hv : ∃ R us2 S2, RowAt w4 R v us2 ∧ CsAt w4 S2 cs us2 ∧ (∀ k, R k → w2.heap.size ≤ k ∧ k < w4.heap.size) ∧ ∀ k, S2 k → w2.heap.size ≤ k ∧ k < w4.heap.size) :
 Calls Tryz.prog 35 #[.pointer (some ⟨t, 0, none⟩), .pointer (some ⟨pb, 0, none⟩), v] w4 (RdPost (enP pb pv ps B eb am X) wsr er w4) := by
 have hpl := blk_lt hprov
 have hf := hf34.trans hf4
 have hpk : Pk (enP pb pv ps B eb am X) w4 0 := ⟨hf.blk hprov id, hba.fr0 hf, hpb, hren.parts, by have := hren.plen; show ps.length ≤ 2147483647; omega, hren.xb⟩
 have hlen := Mu.iparse_len (N := 2147483647) _ _ _ _ _ (by have := hren.size; rw [← L_length] at this; omega) hp
 have hle : es.length ≤ 2147483647 := Nat.le_trans hlen.1 (by have := hren.size; rw [← L_length] at this; omega)
 have hoff : ∀ {Q : Nat → Prop}, (∀ k, Q k → w2.heap.size ≤ k ∧ k < w4.heap.size) → Off (enP pb pv ps B eb am X) w4 No1 Q := fun h k hk => ⟨(h k hk).2, id, by
  have := (h k hk).1;show k ≠ pb
  omega⟩
 obtain ⟨SE, vs, e1, e2, e3⟩ := hel
 obtain ⟨R, us2, S2, c1, c2, c3, c4⟩ := hv
 have hrd : Rd (enP pb pv ps B eb am X) w4 No1 t x es v cs D :=
  ⟨hx, ⟨htm.1, htm.2.1, htm.2.2⟩, hoff (fun k hk => ⟨by omega, by have := blk_lt hx; omega⟩), ⟨SE, vs, e1, e2, hoff e3⟩, hok, hle, ⟨R, us2, S2, c1, c2, hoff c3, hoff c4⟩, hcin.kd, fun v hv => ⟨d, hcin.ok v hv⟩, fun h => by
   have := hcin.one;rw [h] at this;simp at this, by have := hcin.few; omega⟩
 exact rendered_any (enP pb pv ps B eb am X) n t x es v cs wsr 0 kf er w4 D hpk hrd hD hn hr hren.fits hkf
theorem renderAll_any (B X d : Nat) (eb : Addr) (pv : Value) (ps : List (ByteArray × ByteArray)) (s : ByteArray) (cs : List Mu.Val) (wsr : List Mu.B) (er : Bool) (w : World) (S : Nat → Prop) (cv : Value) (us : List Value)
 (hren : Ren ps false true X s cs wsr er) (hba : Ba B eb pv ps w) (hcin : Cin w B X d cs S cv us) :
 Calls Tryz.prog 17 #[.string s, pv, cv] w (RaPost wsr er w) := by
 obtain ⟨n, es, st, D, kf, hp, hok, hD, hn, hr, hkf⟩ := hren.run
 have HREN := hid hren
 have HBA := hid hba
 have HCIN := hid hcin
 have HPR := hid hp
 have HK := hid hok
 have HR := hid hr
 have hsz := hren.size
 clear hren hba hcin hp hok hr
 go_enter Tryz.func17, Tryz.ntmps17
 go_wp2_with fail
 refine (taken_any [s] w.heap.size 1 pv ps cs X d (w.alloc (.cells #[.string s] 9)) S cv us ?_ (by simp) (by simp) (by simp) (by unfold maxLen; simp) (by intro x hx; simp at hx; subst hx; exact hsz) (HBA.out.ps.f0 (Fr.alloc _ _ _)) HREN.out.plen (fun p hp => ⟨(HREN.out.parts p hp).1, by have := (HREN.out.parts p hp).2.1; omega⟩) (HCIN.out.f0 (Fr.alloc _ _ _)).vs (HCIN.out.f0 (Fr.alloc _ _ _)).ds (HCIN.out.f0 (Fr.alloc _ _ _)).lo HCIN.out.one (by have := HCIN.out.few; omega) HCIN.out.ok HCIN.out.deep HCIN.out.sz).mono ?_
 · intro j hj
   have hj0 : j = 0 := by simpa using hj
   subst hj0;have := blk_cell (blk_new w (.cells #[.string s] 9)) 0;simp
 rintro e w1 ⟨rfl, hf1⟩
 have HF1 : Hid (F0 w w1) := hid ((Fr.alloc _ _ _).trans hf1)
 clear hf1
 have hba2 : Ba B eb pv ps (w1.alloc (.cells #[pv, .int .i64 0] 59)) := HBA.out.fr0 (HF1.out.allocA _)
 obtain ⟨w2, hw2⟩ : ∃ w2, w2 = w1.alloc (.cells #[pv, .int .i64 0] 59) := ⟨_, rfl⟩
 have hpr : ProvAt w2 w1.heap.size pv 0 := by rw [hw2]; exact blk_new _ _
 rw [← hw2] at hba2
 have HF2 : Hid (F0 w w2) := hid (by rw [hw2]; exact HF1.out.allocA _)
 have HPV := hid hpr
 have HBA2 := hid hba2
 obtain ⟨pa, pc, rfl, -⟩ := HBA.out.ps
 clear hpr hba2
 go_wp2_with fail
 rw [← hw2]
 have HW2 := hid hw2
 clear hw2
 have hso := signs_ok HREN.out.signs
 refine (psp_any B eb ((L s).length + 9) s 57 (.pointer (some ⟨w1.heap.size, 0, none⟩)) w2 es st (by omega) hso.1 hso.2 HBA2.out.gl HPR.out (by rw [L_length]; omega)).mono ?_
 rintro e w3 ⟨t, rfl, HT⟩
 go_wp2_with fail
 refine (values_any cs (fun x hx => value_all X d x (HCIN.out.ok x hx)) HCIN.out.few w3 S cv us (HCIN.out.f0 (HF2.out.trans HT.out.1)).vs (HCIN.out.f0 (HF2.out.trans HT.out.1)).ds (HCIN.out.f0 (HF2.out.trans HT.out.1)).lo).mono ?_
 rintro e w4 ⟨v, rfl, HV⟩
 have HCALL : Hid (Calls Tryz.prog 35 #[.pointer (some ⟨t, 0, none⟩), .pointer (some ⟨w1.heap.size, 0, none⟩), v] w4 (RdPost (enP w1.heap.size (.slice pa ps.length pc) ps B eb true X) wsr er w4)) := hid (by
  obtain ⟨x, SE, vs, h1, h2, h3, h4, h5, h6, h7, h8, h9⟩ := HT.out.2;obtain ⟨R, us2, S2, c1, c2, c3, c4, c5⟩ := HV.out;have hs3 := HT.out.1.size;have hs4 := c3.size;have hk3 : Keep SE w3 w4 := fun k hk => c3.block k (h8 k hk).1.2 id
  exact rendered_go HREN.out w1.heap.size w2 w3 w4 S cv us (HCIN.out.f0 ((HF2.out.trans HT.out.1).trans c3)) HPV.out HBA2.out (by have := HBA.out.size; have := HF1.out.size; omega) HT.out.1 c3 t x (c3.blk h1 id) ⟨h5, h3, h4⟩ n D kf es st HPR.out HK.out hD hn HR.out hkf ⟨SE, vs, h6.keep hk3 (fun _ h => h), EsAt.keep hk3 (fun _ h => h) _ _ h7, fun k hk => ⟨(h8 k hk).1.1, by have := (h8 k hk).1.2; omega⟩⟩ h9 v
   ⟨R, us2, S2, c1, c2, fun k hk => ⟨by have := (c4 k hk).1; omega, (c4 k hk).2⟩, fun k hk => ⟨by have := (c5 k hk).1; omega, (c5 k hk).2⟩⟩)
 go_wp2_with fail
 refine HCALL.out.mono ?_
 rintro e w5 ⟨⟨o, rfl, ho⟩, HE⟩
 have HO := hid ho
 clear ho
 go_wp2_with fail
 go_ret2
 refine ⟨⟨o, rfl, HO.out⟩, ?_⟩
 obtain ⟨k', -, hf5⟩ := HE.out
 obtain ⟨R, us2, S2, c1, c2, c3, c4, c5⟩ := HV.out
 refine ((HF2.out.trans HT.out.1).trans c3).trans' hf5 (fun i hi hm => ?_)
 have : i = w1.heap.size := hm
 have := HF1.out.size
 omega
end Go.Proofs.YtfakghnpkdoclaaGreatDoor
namespace Go.Proofs.YtfakghnpkdoclaaGreatDoor
open Go.RowKit
open Go.Lib (hid)
structure Oin (w : World) (X d : Nat) (v : Mu.Val) (S : Nat → Prop) (u : Value) : Prop where
 da : DAt w S v u
 lo : ∀ k, S k → k < w.heap.size
 ok : Mu.VOk X d v
 deep : 1 ≤ d ∧ d ≤ 20
 sz : Mu.vsz v ≤ 1000
 kd : v.kind ≠ 0
theorem Oin.f0 {w w' : World} {X d : Nat} {v : Mu.Val} {S : Nat → Prop} {u : Value} (h : Oin w X d v S u) (hf : F0 w w') : Oin w' X d v S u :=
 ⟨DAt.keep (fun k hk => hf.block k (h.lo k hk) id) (fun _ h => h) _ _ h.da, fun k hk => by have := h.lo k hk; have := hf.size; omega, h.ok, h.deep, h.sz, h.kd⟩
theorem Oin.row {w w' : World} {B X d : Nat} {v : Mu.Val} {S : Nat → Prop} {u : Value} (h : Oin w X d v S u) (hf : F0 w w') {cs : Array Value} (hu : u = .agg cs) (hcs : cs.size = 6) (b : Nat) (hb : w'.heap[b]? = some (.cells cs 25 (0, 0))) :
 Cin w' B X d [v] (fun k => S k ∨ k = b) (.slice (some ⟨b, 0, none⟩) 1 1) [u] := by
 have h' := h.f0 hf
 obtain ⟨k1, t1, n1, b1, a1, l1, c1, a2, l2, c2, hform⟩ := h.da.form
 have hcs' : cs = #[.int .i64 k1, .string t1, .int .i64 n1, .bool b1, .slice a1 l1 c1, .slice a2 l2 c2] := by
  rw [hform] at hu;injection hu with hu;exact hu.symm
 subst hcs'
 refine ⟨⟨_, _, rfl, Nat.le_refl _, fun _ => ⟨b, 0, rfl, .inr rfl, fun j hj => ?_⟩⟩, ?_, ?_, by simp, by simp, by simpa using h.ok, h.deep, ?_, by simpa using h.kd⟩
 · have hj0 : j = 0 := by simpa using hj
   subst hj0;have e := blk_cell hb;refine ⟨_, _, _, _, _, _, hu, ?_, ?_, ?_, ?_, ?_, ?_⟩
   · simpa using e 0
   · simpa using e 1
   · simpa using e 2
   · simpa using e 3
   · simpa using e 4
   · simpa using e 5
 · show DsAt w' _ [v] [u]
   unfold DsAt;exact ⟨u, [], rfl, DAt.keep (fun _ _ => rfl) (fun _ h => .inl h) _ _ h'.da, by unfold DsAt; rfl⟩
 · rintro k (hk | hk)
   · exact h'.lo k hk
   · rw [hk]; exact blk_lt hb
 · have := h.sz
   simpa [Mu.vszL] using this
theorem render_any (B X d : Nat) (eb : Addr) (pv : Value) (ps : List (ByteArray × ByteArray)) (s : ByteArray) (v : Mu.Val) (wsr : List Mu.B) (er : Bool) (w : World) (S : Nat → Prop) (u : Value)
 (hren : Ren ps false true X s [v] wsr er) (hba : Ba B eb pv ps w) (hin : Oin w X d v S u) :
 Calls Tryz.prog 20 #[.string s, pv, u] w (RaPost wsr er w) := by
 obtain ⟨k1, t1, n1, b1, a1, l1, c1, a2, l2, c2, rfl⟩ := hin.da.form
 have HC : Hid (Calls Tryz.prog 17 #[.string s, pv, .slice (some ⟨w.heap.size + 1, 0, none⟩) 1 1] ((w.alloc (.cells #[.int .i64 k1, .string t1, .int .i64 n1, .bool b1, .slice a1 l1 c1, .slice a2 l2 c2] 25)).alloc (.cells #[.int .i64 k1, .string t1, .int .i64 n1, .bool b1, .slice a1 l1 c1, .slice a2 l2 c2] 25)) (RaPost wsr er ((w.alloc (.cells #[.int .i64 k1, .string t1, .int .i64 n1, .bool b1, .slice a1 l1 c1, .slice a2 l2 c2] 25)).alloc (.cells #[.int .i64 k1, .string t1, .int .i64 n1, .bool b1, .slice a1 l1 c1, .slice a2 l2 c2] 25)))) := hid (by
  have hf : F0 w ((w.alloc (.cells #[.int .i64 k1, .string t1, .int .i64 n1, .bool b1, .slice a1 l1 c1, .slice a2 l2 c2] 25)).alloc (.cells #[.int .i64 k1, .string t1, .int .i64 n1, .bool b1, .slice a1 l1 c1, .slice a2 l2 c2] 25)) := (Fr.alloc _ _ _).allocA _
  have hb := blk_new (w.alloc (.cells #[.int .i64 k1, .string t1, .int .i64 n1, .bool b1, .slice a1 l1 c1, .slice a2 l2 c2] 25)) (.cells #[.int .i64 k1, .string t1, .int .i64 n1, .bool b1, .slice a1 l1 c1, .slice a2 l2 c2] 25);simp only [World.size_alloc] at hb;exact renderAll_any B X d eb pv ps s [v] wsr er _ _ _ _ hren (hba.fr0 hf) (hin.row hf rfl rfl _ hb))
 clear hren hba hin
 go_enter Tryz.func20, Tryz.ntmps20
 go_wp2_with fail
 refine HC.out.mono ?_
 rintro e w1 ⟨⟨o, rfl, ho⟩, hf⟩
 have HO := hid ho
 clear ho
 go_wp2_with fail
 go_ret2
 exact ⟨⟨o, rfl, HO.out⟩, (((Fr.alloc _ _ _).allocA _).trans hf : F0 w w1)⟩
end Go.Proofs.YtfakghnpkdoclaaGreatDoor
namespace Go.Proofs.YtfakghnpkdoclaaGreatDoor
open Go.RowKit
open Go.Lib (hid)
theorem row_one {w : World} {b : Nat} {u : Value} (h : w.heap[b]? = some (.cells #[u] 20 (0, 0))) : RowAt w (· = b) (.slice (some ⟨b, 0, none⟩) 1 1) [u] :=
 ⟨_, _, rfl, fun _ => ⟨b, rfl, rfl, fun j v hj => by
  rw [blk_cell h j];simpa using hj⟩⟩
theorem cs_one {w : World} {S : Nat → Prop} {v : Mu.Val} {u : Value} (h : CAt w S v u) : CsAt w S [v] [u] := by
 unfold CsAt
 exact ⟨u, [], rfl, h, by unfold CsAt; rfl⟩
theorem raw_any (B X d : Nat) (eb : Addr) (pv : Value) (ps : List (ByteArray × ByteArray)) (s : ByteArray) (v : Mu.Val) (wsr : List Mu.B) (er : Bool) (w : World) (S : Nat → Prop) (u : Value)
 (hren : Ren ps true true X s [v] wsr er) (hba : Ba B eb pv ps w) (hin : Oin w X d v S u) :
 Calls Tryz.prog 23 #[.string s, pv, u] w (RaPost wsr er w) := by
 obtain ⟨k1, t1, n1, b1, a1, l1, c1, a2, l2, c2, rfl⟩ := hin.da.form
 obtain ⟨n, es, st, D, kf, hp, hok, hD, hn, hr, hkf⟩ := hren.run
 obtain ⟨wA, hwA⟩ : ∃ wA, wA = ((w.alloc (.cells #[.int .i64 k1, .string t1, .int .i64 n1, .bool b1, .slice a1 l1 c1, .slice a2 l2 c2] 25)).alloc (.cells #[.string s] 9)).alloc (.cells #[.int .i64 k1, .string t1, .int .i64 n1, .bool b1, .slice a1 l1 c1, .slice a2 l2 c2] 25) := ⟨_, rfl⟩
 have hfA : F0 w wA := by rw [hwA]; exact ((Fr.alloc _ _ _).allocA _).allocA _
 have hT : Calls Tryz.prog 33 #[.slice (some ⟨w.heap.size + 1, 0, none⟩) 1 1, pv, .slice (some ⟨w.heap.size + 1 + 1, 0, none⟩) 1 1] wA (fun e w' => e = .returned (.bool true) ∧ F0 wA w') := by
  have hb1 : wA.heap[w.heap.size + 1]? = some (.cells #[.string s] 9 (0, 0)) := by
   rw [hwA];have := blk_alloc (.cells #[.int .i64 k1, .string t1, .int .i64 n1, .bool b1, .slice a1 l1 c1, .slice a2 l2 c2] 25) (blk_new (w.alloc (.cells #[.int .i64 k1, .string t1, .int .i64 n1, .bool b1, .slice a1 l1 c1, .slice a2 l2 c2] 25)) (.cells #[.string s] 9));simpa using this
  have hb2 : wA.heap[w.heap.size + 1 + 1]? = some (.cells #[.int .i64 k1, .string t1, .int .i64 n1, .bool b1, .slice a1 l1 c1, .slice a2 l2 c2] 25 (0, 0)) := by
   rw [hwA];have := blk_new ((w.alloc (.cells #[.int .i64 k1, .string t1, .int .i64 n1, .bool b1, .slice a1 l1 c1, .slice a2 l2 c2] 25)).alloc (.cells #[.string s] 9)) (.cells #[.int .i64 k1, .string t1, .int .i64 n1, .bool b1, .slice a1 l1 c1, .slice a2 l2 c2] 25);simpa using this
  have hc := hin.row (B := B) hfA rfl rfl _ hb2;have hsz := hren.size
  have := taken_any [s] (w.heap.size + 1) 1 pv ps [v] X d wA _ _ _ (fun j hj => by
   have hj0 : j = 0 := by simpa using hj
   subst hj0;have := blk_cell hb1 0;simpa using this) (by simp) (by simp) (by simp) (by unfold maxLen; simp) (by intro x hx; simp at hx; subst hx; exact hsz) (hba.ps.f0 hfA) hren.plen (fun p hp => ⟨(hren.parts p hp).1, by have := (hren.parts p hp).2.1; omega⟩) hc.vs hc.ds hc.lo (by simp) (by simp) hc.ok hc.deep hc.sz
  exact this
 have HT0 := hid hT
 have HFA := hid hfA
 have HREN := hid hren
 have HBA := hid hba
 have HIN := hid hin
 have HPR := hid hp
 have HK := hid hok
 have HR := hid hr
 have hsz := hren.size
 have hbx : wA.heap[w.heap.size]? = some (.cells #[.int .i64 k1, .string t1, .int .i64 n1, .bool b1, .slice a1 l1 c1, .slice a2 l2 c2] 25 (0, 0)) := by
  rw [hwA]; exact blk_alloc _ (blk_alloc _ (blk_new _ _))
 have hsA : wA.heap.size = w.heap.size + 3 := by rw [hwA]; simp
 have HBX := hid hbx
 have HWA := hid hwA
 clear hren hba hin hp hok hr hT hfA hbx
 go_enter Tryz.func23, Tryz.ntmps23
 go_wp2_with fail
 rw [← hwA]
 clear hwA
 refine HT0.out.mono ?_
 rintro e w1 ⟨rfl, hf1⟩
 have HF1 : Hid (F0 w w1) := hid (HFA.out.trans hf1)
 have HA1 := hid hf1
 have hs1 := hf1.size
 clear hf1
 have hba2 : Ba B eb pv ps (w1.alloc (.cells #[pv, .int .i64 0] 59)) := HBA.out.fr0 (HF1.out.allocA _)
 obtain ⟨w2, hw2⟩ : ∃ w2, w2 = w1.alloc (.cells #[pv, .int .i64 0] 59) := ⟨_, rfl⟩
 have hpr : ProvAt w2 w1.heap.size pv 0 := by rw [hw2]; exact blk_new _ _
 rw [← hw2] at hba2
 have HA2 : Hid (F0 wA w2) := hid (by rw [hw2]; exact HA1.out.allocA _)
 have HF2 : Hid (F0 w w2) := hid (by rw [hw2]; exact HF1.out.allocA _)
 have HPV := hid hpr
 have HBA2 := hid hba2
 have hs2 : w2.heap.size = w1.heap.size + 1 := by rw [hw2]; simp
 obtain ⟨pa, pc, rfl, -⟩ := HBA.out.ps
 clear hpr hba2
 go_wp2_with fail
 rw [← hw2]
 clear hw2
 have hso := signs_ok HREN.out.signs
 refine (psr_any B eb ((L s).length + 9) s true 57 (.pointer (some ⟨w1.heap.size, 0, none⟩)) w2 _ (by omega) hso.1 hso.2 HBA2.out.gl HPR.out (by rw [L_length]; omega)).mono ?_
 rintro e w3 ⟨t, rfl, hq⟩
 have HT : Hid (F0 w2 w3 ∧ TplAt w3 w2.heap.size t true (.iface 57 (.pointer (some ⟨w1.heap.size, 0, none⟩))) es) := hid hq
 clear hq
 have HTX : Hid (F0 w2 w3 ∧ ∃ (x' : Tm) (SE : Nat → Prop) (vs : List Value), TmAt w3 t x' ∧ x'.am = true ∧ x'.prov = .iface 57 (.pointer (some ⟨w1.heap.size, 0, none⟩)) ∧ x'.esc = .func (Fn.func 69) #[] #[] ∧ RowAt w3 SE x'.el vs ∧ EsAt w3 SE (.iface 57 (.pointer (some ⟨w1.heap.size, 0, none⟩))) es vs ∧ (∀ k, SE k → w2.heap.size ≤ k ∧ k < w3.heap.size) ∧ w2.heap.size ≤ t) := hid (by
  obtain ⟨x, SE, vs, h1, h2, h3, h4, h5, h6, h7, h8, h9⟩ := HT.out.2;exact ⟨HT.out.1, x, SE, vs, h1, h5, h3, h4, h6, h7, fun k hk => (h8 k hk).1, h9⟩)
 obtain ⟨w3', hw3'⟩ : ∃ w3', w3' = w3 := ⟨_, rfl⟩
 subst hw3'
 have hbx3 := (HA2.out.trans HTX.out.1).blk HBX.out id
 have x0 := blk_cell hbx3 0
 have x1 := blk_cell hbx3 1
 have x2 := blk_cell hbx3 2
 have x3 := blk_cell hbx3 3
 have x4 := blk_cell hbx3 4
 have x5 := blk_cell hbx3 5
 simp only [List.getElem?_toArray, List.getElem?_cons_zero, List.getElem?_cons_succ] at x0 x1 x2 x3 x4 x5
 clear hbx3
 go_wp2_with fail
 refine (value_all X d v HIN.out.ok w3' S _ (HIN.out.f0 (HF2.out.trans HTX.out.1)).da (HIN.out.f0 (HF2.out.trans HTX.out.1)).lo).mono ?_
 rintro e w4 ⟨u2, S2, rfl, HV⟩
 obtain ⟨T9, z9, rfl⟩ := HV.out.1.iface HIN.out.kd
 have HCALL : Hid (Calls Tryz.prog 35 #[.pointer (some ⟨t, 0, none⟩), .pointer (some ⟨w1.heap.size, 0, none⟩), .slice (some ⟨w4.heap.size, 0, none⟩) 1 1] (w4.alloc (.cells #[.iface T9 z9] 20)) (RdPost (enP w1.heap.size (.slice pa ps.length pc) ps B eb true X) wsr er (w4.alloc (.cells #[.iface T9 z9] 20)))) := hid (by
  obtain ⟨hf23, x', SE, vs, h1, h5, h3, h4, h6, h7, h8, h9⟩ := HTX.out;obtain ⟨r1, r2, r3⟩ := HV.out;have hs3 := hf23.size;have hs4 := r2.size;have hfz : F0 w3' (w4.alloc (.cells #[.iface T9 z9] 20)) := r2.allocA _;have hk3 : Keep SE w3' (w4.alloc (.cells #[.iface T9 z9] 20)) := fun k hk => hfz.block k (h8 k hk).2 id
  have hb2 : w2.heap.size ≤ w4.heap.size := by omega
  have hcin : Cin (w4.alloc (.cells #[.iface T9 z9] 20)) B X d [v] (fun k => S k ∨ k = w.heap.size) (.slice (some ⟨w.heap.size, 0, none⟩) 1 1) [.agg #[.int .i64 k1, .string t1, .int .i64 n1, .bool b1, .slice a1 l1 c1, .slice a2 l2 c2]] :=
   HIN.out.row ((HF2.out.trans hf23).trans hfz) rfl rfl _ (((HA2.out.trans hf23).trans hfz).blk HBX.out id)
  exact rendered_go HREN.out w1.heap.size w2 w3' _ _ _ _ hcin HPV.out HBA2.out (by have := HBA.out.size; have := HF1.out.size; omega) hf23 hfz t x' (hfz.blk h1 id) ⟨h5, h3, h4⟩ n D kf es st HPR.out HK.out hD hn HR.out hkf ⟨SE, vs, h6.keep hk3 (fun _ h => h), EsAt.keep hk3 (fun _ h => h) _ _ h7, fun k hk => ⟨(h8 k hk).1, by have := (h8 k hk).2; simp; omega⟩⟩ h9 _
   ⟨(· = w4.heap.size), [.iface T9 z9], S2, row_one (blk_new _ _), cs_one (CAt.keep (w := w4) (S := S2) (fun k hk => Below.heap_alloc w4 _ k (r3 k hk).2) (fun _ h => h) _ _ r1), fun k hk => ⟨by rw [hk]; exact hb2, by rw [hk]; simp⟩, fun k hk => ⟨by have := (r3 k hk).1; omega, by have := (r3 k hk).2; simp; omega⟩⟩)
 go_wp2_with fail
 refine HCALL.out.mono ?_
 rintro e w5 ⟨⟨o, rfl, ho⟩, HE⟩
 have HO := hid ho
 clear ho
 go_wp2_with fail
 go_ret2
 refine ⟨⟨o, rfl, HO.out⟩, ?_⟩
 obtain ⟨k', -, hf5⟩ := HE.out
 refine (((HF2.out.trans HTX.out.1).trans HV.out.2.1).allocA _).trans' hf5 (fun i hi hm => ?_)
 have : i = w1.heap.size := hm
 have := HF1.out.size
 omega
end Go.Proofs.YtfakghnpkdoclaaGreatDoor
