/-
  The package's sections, rendered. (Joined by wip/pack.py.)
-/
import Derived.Test.YtfakghnpkdoclaaGreatDoorGW1
import Derived.Test.YtfakghnpkdoclaaGreatDoorGS1
import Derived.Laws.CopyRow
import Derived.Laws.CopyOwn
import Derived.Deep.OwnRows
set_option linter.unusedVariables false
set_option linter.unusedSimpArgs false
set_option maxRecDepth 100000
set_option maxHeartbeats 8000000
namespace Go.Proofs.YtfakghnpkdoclaaGreatDoor
open Go.RowKit
open Go.Lib (hid)
def SC (E : En) (n : Nat) : Prop := ∀ (tb sb : Nat) (x : Tm) (cv sv : Value) (nb : ByteArray) (inv : Bool) (line : Int) (nm : Mu.B) (es : List Mu.Elem) (vs : List Value) (S R S2 own : Nat → Prop) (ch : List (Option Mu.Val)) (ws wsr : List Mu.B) (k kf : Nat) (er : Bool) (w : World) (D : Nat),
 St E w own ws k → Cx E w own tb x R S2 cv ch → S sb → w.heap[sb]? = some (.cells #[.string nb, .bool inv, .int .i64 line, sv] 163 (0, 0)) → L nb = nm → RowAt w S sv vs → EsAt w S E.prov es vs → Off E w own S →
 Mu.nameOk nm = true → Mu.EsOk D es → D + 400 * n ≤ 402000 → ch.length + n ≤ 90000 → es.length ≤ 2147483647 →
 Mu.rElem (pL E.ps) E.am (Mu.rrender (pL E.ps) E.am n) ch (.sect nm inv es) k = some (wsr, kf, er) → Fits (ws ++ wsr) → kf ≤ 100 →
 Calls Tryz.prog 104 #[.pointer (some ⟨tb, 0, none⟩), .pointer (some ⟨sb, 0, none⟩), cv, .iface E.T (.pointer (some ⟨E.b, 0, none⟩))] w (RPost E own ws wsr kf er w)
theorem store_new {y : Value} (h : y = .nilIface ∨ ∃ T z, y = .iface T z) (w : World) (T : TypeId) : (store ⟨w.heap.size, 0, none⟩ y).run Tryz.prog (w.alloc (.cells #[.nilIface, .bool false] T)) = .ok () (w.alloc (.cells #[y, .bool false] T)) := by
 rcases h with rfl | ⟨T, z, rfl⟩ <;> go_simp
theorem store_new1 {y : Value} (h : y = .nilIface ∨ ∃ T z, y = .iface T z) (w : World) (A : Obj) (T : TypeId) : (store ⟨w.heap.size + 1, 0, none⟩ y).run Tryz.prog ((w.alloc A).alloc (.cells #[.nilIface, .bool false] T)) = .ok () ((w.alloc A).alloc (.cells #[y, .bool false] T)) := by
 have := store_new h (w.alloc A) T
 simpa using this
theorem ZAt.form {w : World} {S : Nat → Prop} {c : Option Mu.Val} {u : Value} (h : ZAt w S c u) : ∃ x b, u = .iface 143 (.agg #[x, .bool b]) ∧ (x = .nilIface ∨ ∃ T z, x = .iface T z) := by
 cases c with
 | none => exact ⟨.nilIface, false, h, .inl rfl⟩
 | some v =>
  obtain ⟨x, h1, h2⟩ := h;exact ⟨x, true, h1, h2.form⟩
def VY (w : World) (S : Nat → Prop) (o : Option Mu.Val) (y : Value) (b : Bool) : Prop := (o = none ∧ y = .nilIface ∧ b = false) ∨ ∃ v, o = some v ∧ b = true ∧ CAt w S v y
theorem VY.form {w : World} {S : Nat → Prop} {o : Option Mu.Val} {y : Value} {b : Bool} (h : VY w S o y b) : y = .nilIface ∨ ∃ T z, y = .iface T z := by
 rcases h with ⟨-, rfl, -⟩ | ⟨v, -, -, h⟩
 · exact .inl rfl
 · exact h.form
theorem lk_vy (E : En) {w : World} {own R S2 : Nat → Prop} {tb : Nat} {x : Tm} {cv : Value} {ch : List (Option Mu.Val)} {ws : List Mu.B} {k : Nat} (hst : St E w own ws k) (hcx : Cx E w own tb x R S2 cv ch) {nb : ByteArray} (hn : Mu.nameOk (L nb) = true) (hs : nb.size ≤ 65536) (w' : World) (hf : F0 w w') :
 Calls Tryz.prog 102 #[cv, .string nb, .bool true] w' (fun e w1 => ∃ y b, e = .returned (.tuple #[.agg #[y, .bool b], .nilIface]) ∧ Hid (F0 w w1 ∧ VY w S2 (Mu.lookP ch (L nb)) y b)) := by
 cases hl : Mu.lookP ch (L nb) with
 | none =>
  refine (lk_none E hst hcx hn hs true hl w' hf).mono ?_;rintro e w1 ⟨-, h2, h3⟩;rw [if_pos rfl] at h3;exact ⟨_, _, h3, hid ⟨h2, .inl ⟨rfl, rfl, rfl⟩⟩⟩
 | some v =>
  refine (lk_some E hst hcx hn hs true hl w' hf).mono ?_;rintro e w1 ⟨-, h2, y, h3, h4⟩;exact ⟨y, _, h3, hid ⟨h2, .inr ⟨v, rfl, rfl, h4⟩⟩⟩
theorem em_vy (E : En) (hE : E.Ok) {w : World} {own R S2 : Nat → Prop} {tb : Nat} {x : Tm} {cv : Value} {ch : List (Option Mu.Val)} {ws : List Mu.B} {k : Nat} (hst : St E w own ws k) (hcx : Cx E w own tb x R S2 cv ch) {n : Mu.B} {y : Value} {b : Bool} (hy : VY w S2 (Mu.lookP ch n) y b) (w' : World) (hf : F0 w w') :
 Calls Tryz.prog 115 #[.agg #[y, .bool b]] w' (fun e w1 => e = .returned (.bool (Mu.emptyP (Mu.lookP ch n))) ∧ F0 w w1 ∧ F0 w' w1) := by
 rcases hy with ⟨h1, rfl, rfl⟩ | ⟨v, h1, rfl, h2⟩
 · rw [h1]
   refine (isEmpty_none w').mono ?_;rintro e w1 ⟨he, h3⟩;exact ⟨he, hf.trans h3, h3⟩
 · rw [h1]
   refine (isEmpty_some E.X (by have := hE.xb; omega) v y S2 w' (Mu.VG.lookP hcx.vg h1) (h2.f0 hf (fun k hk => (hcx.oS k hk).1)) (hst.ba.gl.fr0 hf)).mono ?_;rintro e w1 ⟨he, h3⟩;exact ⟨he, hf.trans h3, h3⟩
theorem addr_add0 (b j : Nat) : (⟨b, 0, none⟩ : Addr).add j = ⟨b, j, none⟩ := by unfold Addr.add; split <;> simp_all
theorem anySize : (Tryz.prog.info? 20).map (·.size) = some 1 := by kernel_rfl
def PA (E : En) (w : World) (S2 : Nat → Prop) (fo : Option Mu.Val → Nat → Mu.RRes) (wsr : List Mu.B) (kf : Nat) (er : Bool) (k : Nat) (v : Value) (wr : World) : Prop :=
 ∃ (ctxs : List (Option Mu.Val)) (us : List Value) (Rx : Nat → Prop), RowAt wr Rx v us ∧ ZsAt w S2 ctxs us ∧ F0 w wr ∧ (∀ j, Rx j → w.heap.size ≤ j ∧ j < wr.heap.size) ∧ Mu.rAll fo ctxs k = some (wsr, kf, er) ∧ (∀ v, some v ∈ ctxs → Mu.VG E.X v) ∧ ctxs.length ≤ 1000000
theorem rAll_one {α : Type} (f : α → Nat → Mu.RRes) (y : α) (k : Nat) : Mu.rAll f [y] k = f y k := by
 simp only [Mu.rAll]
 cases hf : f y k with
 | none => rfl
 | some q =>
  obtain ⟨a, b, c⟩ := q
  cases c <;> simp [Mu.rThen]
theorem below_row {w : World} {g : Nat} {cs : Array Value} {T : TypeId} (O : Obj) (hg : w.heap.size = g) : F0 w ((w.alloc O).setRow g cs) := by
 subst hg
 exact Fr.ofBelow (below_setRow ((Below.refl _ _).alloc (Nat.le_refl _) _) (Nat.le_refl _) _)
theorem row_made {n : Nat} {us : List Value} (h : us.length = n) : ∃ q0, ((madeCells #[Value.nilIface] (n + 1)).toList.take 1 ++ us ++ (madeCells #[Value.nilIface] (n + 1)).toList.drop (1 + us.length)).toArray = (q0 :: us).toArray := by
 have hs : (madeCells #[Value.nilIface] (n + 1)).toList.length = n + 1 := by rw [Array.length_toList]; exact size_madeCells _ _
 cases hl : (madeCells #[Value.nilIface] (n + 1)).toList with
 | nil => rw [hl] at hs; simp at hs
 | cons q0 l =>
  rw [hl] at hs;refine ⟨q0, ?_⟩;have : (q0 :: l).drop (1 + us.length) = [] := List.drop_eq_nil_of_le (by rw [hs, h]; omega);rw [this];simp
def OSt (E : En) (own : Nat → Prop) (ws wsr : List Mu.B) (kf : Nat) (er : Bool) (fo : Option Mu.Val → Nat → Mu.RRes) (cb : Nat) (us0 : List Value) (Rx : Nat → Prop) (w wB : World) (ctxs : List (Option Mu.Val)) (wr : World) : Prop :=
 ∃ own' wi wq ki q0, St E wr own' (ws ++ wi) ki ∧ Grew own own' w wr ∧ Fr (Mt E own) w wr ∧ Mu.rAll fo ctxs ki = some (wq, kf, er) ∧ wsr = wi ++ wq ∧ Off E wr own' (fun k => k = cb ∨ Rx k) ∧ Keep Rx wB wr ∧ wr.heap[cb]? = some (.cells (q0 :: us0).toArray 20 (0, 0)) ∧ w.heap.size ≤ cb
theorem chain_two {w : World} {S : Nat → Prop} {cb : Nat} {u : Value} {us0 : List Value} {c : Option Mu.Val} {ch : List (Option Mu.Val)} (h : w.heap[cb]? = some (.cells (u :: us0).toArray 20 (0, 0))) (hu : ZAt w S c u) (hz : ZsAt w S ch us0) {n : Nat} (hn : n = ch.length + 1) : ChAt w (· = cb) S (.slice (some ⟨cb, 0, none⟩) n n) (c :: ch) := by
 subst hn
 refine ⟨u :: us0, ⟨_, _, by rw [List.length_cons, hz.1], fun _ => ⟨cb, rfl, rfl, fun j v hj => ?_⟩⟩, by simp [hz.1], fun j hj => ?_⟩
 · rw [blk_cell h j]
   simpa using hj
 · cases j with
   | zero => exact ⟨u, rfl, hu⟩
   | succ j =>
    obtain ⟨v, h1, h2⟩ := hz.2 j (by simpa using hj);exact ⟨v, by simpa using h1, by simpa using h2⟩
theorem rAll_map {α β : Type} (f : β → Nat → Mu.RRes) (g : α → β) : ∀ (l : List α) (k : Nat), Mu.rAll f (l.map g) k = Mu.rAll (fun x k => f (g x) k) l k
 | [], k => rfl
 | x :: l, k => by
  simp only [List.map_cons, Mu.rAll]
  congr 1
  funext k1
  exact rAll_map f g l k1
theorem PA.of (E : En) {w wr : World} {S2 : Nat → Prop} {fo : Option Mu.Val → Nat → Mu.RRes} {wsr : List Mu.B} {kf k : Nat} {er : Bool} {v : Value} {ctxs : List (Option Mu.Val)} {us : List Value} {T n : Nat} (ho : wr.ownsRow w.heap.size T 1 v n us) (hf : F0 w wr) (hz : ZsAt w S2 ctxs us)
 (hr : Mu.rAll fo ctxs k = some (wsr, kf, er)) (hv : ∀ v, some v ∈ ctxs → Mu.VG E.X v) (hl : ctxs.length ≤ 1000000) : PA E w S2 fo wsr kf er k v wr := by
 refine ⟨ctxs, us, fun k => v.ownBlock = some k, ?_, hz, hf, fun j hj => ho.lt j hj, hr, hv, hl⟩
 refine row_of_owns (n := n) (e := T) ⟨ho.1, ?_⟩
 rcases ho.2 with h | ⟨g, cap, cur, h1, h2, h3⟩
 · exact .inl h
 · exact .inr ⟨g, cap, cur, h1, Nat.zero_le _, h3⟩
theorem zs_one {w : World} {S : Nat → Prop} {c : Option Mu.Val} {u : Value} (h : ZAt w S c u) : ZsAt w S [c] [u] :=
 ⟨rfl, fun j hj => by
  have : j = 0 := by simpa using hj
  subst this;exact ⟨u, rfl, h⟩⟩
theorem zs_list {w : World} {S : Nat → Prop} {l : List Mu.Val} {us : List Value} (h : CsAt w S l us) : ZsAt w S (l.map some) (us.map (fun u => .iface 143 (.agg #[u, .bool true]))) :=
 ⟨by simp [h.length], fun j hj => by
  obtain ⟨u, h1, h2⟩ := h.at j (by simpa using hj);refine ⟨_, by rw [List.getElem?_map, h1]; rfl, ?_⟩;rw [List.getElem_map];exact ⟨u, rfl, h2⟩⟩
theorem sc_of (E : En) (hE : E.Ok) (n : Nat) (IH : ∀ m, n = m + 1 → EC E m) : SC E n := by
 intro tb sb x cv sv nb inv line nm es vs S R S2 own ch ws wsr k kf er w D hst hcx hsb hsec hnb hrow hes hS hnm hok hD hcl hel hr hft hkf
 obtain ⟨ca, cc, rfl⟩ := hcx.cha.form
 obtain ⟨c0, chs, rfl⟩ : ∃ c0 chs, ch = c0 :: chs := by
  cases ch with
  | nil => exact absurd rfl hcx.ne
  | cons c0 chs => exact ⟨c0, chs, rfl⟩
 obtain ⟨cg, cc', u0, hcv, hRg, hcg, hz0⟩ := hcx.cha.at (j := 0) (by simp)
 obtain ⟨rfl, rfl⟩ : ca = some ⟨cg, 0, none⟩ ∧ cc = cc' := by
  injection hcv with h1 h2 h3;exact ⟨h1, h3⟩
 simp only [List.getElem_cons_zero] at hz0
 obtain ⟨x0, b0, rfl, hx0⟩ := hz0.form
 subst hnb
 have hnsz : nb.size ≤ 65536 := by
  have := Mu.nameOk_len hnm;rw [L_length] at this; omega
 have lcg := (hcx.oR cg hRg).1
 have lsb := blk_lt hsec
 have s0 := blk_cell hsec 0
 have s1 := blk_cell hsec 1
 simp only [List.getElem?_toArray, List.getElem?_cons_zero, List.getElem?_cons_succ] at s0 s1
 have hzz := fun (v : Value) (w : World) => isZz w v
 have hs0 := fun (w : World) (A : Obj) (T : TypeId) => store_new1 hx0 w A T
 have HX0 := hid hx0
 have HIH := hid IH
 have HST := hid hst
 have HCX := hid hcx
 have HSEC := hid hsec
 have HROW := hid hrow
 have HES := hid hes
 have HS := hid hS
 have HSB := hid hsb
 have HNM := hid hnm
 have HOK := hid hok
 have HR := hid hr
 have HFT := hid hft
 have HZ0 := hid hz0
 have HRG := hid hRg
 have HLK : Hid (∀ w', F0 w w' → _) := hid (lk_vy E hst hcx hnm hnsz)
 clear hx0 IH hst hcx hsec hrow hes hS hsb hnm hok hr hft hz0 hRg hcv
 simp only [List.length_cons] at hcl
 obtain ⟨i0, hi, hz1, hz2, hz3⟩ := info_parts infoAny
 go_enter Tryz.func104, Tryz.ntmps104
 go_wp2_with fail
 refine (HLK.out w (Fr.refl _ _)).mono ?_
 rintro e w1 ⟨y, b, rfl, HY⟩
 have hsy := fun (w : World) (T : TypeId) => store_new HY.out.2.form w T
 have HEM : Hid (∀ w', F0 w w' → _) := hid (em_vy E hE HST.out HCX.out HY.out.2)
 have k1 := F0.cell HY.out.1 hcg
 have l1 : cg < w1.heap.size := by have := HY.out.1.size; omega
 go_wp2_with fail
 refine (HEM.out _ (((HY.out.1.allocA _).allocA _).allocA _)).mono ?_
 rintro e w2 ⟨rfl, hf2, hf3⟩
 have HF2 := hid hf2
 have k2 := F0.cell hf2 s1
 have hb0 : w2.heap[w1.heap.size]? = some (.cells #[y, .bool b] 143 (0, 0)) := hf3.blk (blk_alloc _ (blk_alloc _ (blk_new w1 _))) id
 have hb1 : w2.heap[w1.heap.size + 1]? = some (.cells #[x0, .bool b0] 143 (0, 0)) := hf3.blk (blk_alloc _ (by have := blk_new (w1.alloc (.cells #[y, .bool b] 143)) (.cells #[x0, .bool b0] 143); simpa using this)) id
 have hb2 : w2.heap[w1.heap.size + 1 + 1]? = some (.cells #[] 20 (0, 0)) := hf3.blk (by have := blk_new ((w1.alloc (.cells #[y, .bool b] 143)).alloc (.cells #[x0, .bool b0] 143)) (.cells #[] 20); simpa using this) id
 have e0 := blk_cell hb0 0
 have e1 := blk_cell hb0 1
 have e2 := blk_cell hb1 0
 have e3 := blk_cell hb1 1
 have e4 := blk_lt hb2
 simp only [List.getElem?_toArray, List.getElem?_cons_zero, List.getElem?_cons_succ] at e0 e1 e2 e3
 have HB2 : Hid (w2.ownsRow w.heap.size 20 1 (.slice (some ⟨w1.heap.size + 1 + 1, 0, none⟩) 0 0) 0 []) := hid ⟨by simp, .inr ⟨w1.heap.size + 1 + 1, 0, #[], rfl, by have := HY.out.1.size; omega, hb2, Nat.le_refl _, Nat.zero_le _, by simp, by simp⟩⟩
 obtain ⟨em, hem⟩ : ∃ em, em = Mu.emptyP (Mu.lookP (c0 :: chs) (L nb)) := ⟨_, rfl⟩
 rw [← hem]
 have HE := hid hem
 clear hf2 hf3 hem k1 hb0 hb1 hb2
 cases em with
 | true =>
  cases inv with
  | false =>
   have hr' := HR.out;simp only [Mu.rElem, ← HE.out, Bool.not_false, Bool.and_true, Bool.true_or, if_true, Option.some.injEq, Prod.mk.injEq] at hr';obtain ⟨rfl, rfl, rfl⟩ := hr';clear HR;go_wp2_with fail;go_ret;exact RPost.ok (RSt.none_ hE HST.out HF2.out)
  | true =>
   go_wp2_with (at_builtin; refine wpList_append_own_at _ rfl _ _ 66 rfl w.heap.size 20 i0 .nilIface 1 16 Tryz.underlying66 hi hz1 hz2 hz3 rfl (by decide) (.slice (some ⟨w1.heap.size + 1 + 1, 0, none⟩) 0 0) 0 [] rfl ?own ⟨_, 0, none⟩ 1 1 [.iface 143 (.agg #[x0, .bool b0])] rfl rfl ?c1 ?c2 ?c3 ?c4 ?c5 ?_)
   case own => exact HB2.out.alloc _
   case c1 => exact one_new0 _ _ _ rfl
   case c2 => intro v hv; rw [List.mem_singleton.1 hv]; rfl
   case c3 => unfold maxLen; omega
   case c4 => omega
   case c5 => have := HF2.out.size; simp; omega
   intro xv w3 hown hgrow _ _
   have hf3 : F0 w w3 := grown_f0 (HF2.out.allocA _) hgrow (fun k hk => by
    have := HY.out.1.size;have hk : w1.heap.size + 1 + 1 = k := by simpa [Value.ownBlock] using hk
    omega)
   have HPA : PA E w S2 (fun c k => Mu.rrender (pL E.ps) E.am n es (c :: c0 :: chs) k) wsr kf er k xv w3 := by
    refine PA.of E hown hf3 (zs_one HZ0.out) ?_ (fun v hv => HCX.out.vg v ?_) (by simp)
    · rw [rAll_one]
      have hr' := HR.out;simp only [Mu.rElem, ← HE.out, Bool.not_true, Bool.and_false, Bool.not_true, Bool.false_and, Bool.or_false, Bool.or_self, Bool.false_eq_true, if_false, if_true] at hr';exact hr'
    · have := List.mem_singleton.1 hv
      rw [this]; simp
   clear hown hgrow hf3;obtain ⟨ctxs, us, Rx, hrx, hzx, hf3, hRx, hrun, hvx, hcxl⟩ := HPA;have k3 := F0.cell hf3 s1;obtain ⟨xa, xc, rfl, hxcells⟩ := hrx;obtain ⟨us0, hrow0, hz00⟩ := HCX.out.cha;have hl0 := hz00.1;simp only [List.length_cons] at hl0
   have hcells0 : ∀ j v, us0[j]? = some v → w3.cell? ((⟨cg, 0, none⟩ : Addr).add j) = some v := by
    obtain ⟨a9, c9, h1, h2⟩ := hrow0;obtain ⟨g9, h3, h4, h5⟩ := h2 (by omega);intro j v hj;injection h1 with h6 h7 h8;rw [h3] at h6;injection h6 with h6;injection h6 with h6;rw [addr_add0, h6];exact F0.cell hf3 (h5 j v hj)
   have hone : ∀ v ∈ us0, v.oneCell' = true := by
    intro v hv;obtain ⟨j, hj, rfl⟩ := List.mem_iff_getElem.1 hv;obtain ⟨u9, h1, h2⟩ := hz00.2 j (by have := hz00.1; omega);rw [List.getElem?_eq_getElem hj] at h1;injection h1 with h1;subst h1;obtain ⟨x9, b9, h3, -⟩ := h2.form;rw [h3]; rfl
   have hmk := run_make_row' (P := Tryz.prog) 66 20 .nilIface 16 Tryz.underlying66 infoAny rfl .i64 .i64 (chs.length + 1 + 1) (by omega) (by omega)
   have hcp := run_copy_row (P := Tryz.prog) (w3.alloc (.cells (madeCells #[.nilIface] (chs.length + 1 + 1)) 20)) 66 66 3 20 w3.heap.size 1 (chs.length + 1) (chs.length + 1) ⟨cg, 0, none⟩ (chs.length + 1) cc (madeCells #[.nilIface] (chs.length + 1 + 1)) 20 us0 Tryz.underlying66 anySize (blk_new _ _) (by rw [hl0]; exact (Nat.min_self _).symm) (fun j v hj => F0.cell (Fr.alloc _ _ _) (hcells0 j v hj)) (by rw [size_madeCells]; omega) hone
   obtain ⟨q0, hq0⟩ := row_made hl0;rw [hq0, hl0] at hcp;obtain ⟨wB, hwB⟩ : ∃ wB, wB = (w3.alloc (.cells (madeCells #[.nilIface] (chs.length + 1 + 1)) 20)).setRow w3.heap.size (q0 :: us0).toArray := ⟨_, rfl⟩
   rw [← hwB] at hcp;have hF3B : F0 w3 wB := by rw [hwB]; exact below_row (T := 0) _ rfl
   have hcbB : wB.heap[w3.heap.size]? = some (.cells (q0 :: us0).toArray 20 (0, 0)) := by rw [hwB]; exact setRow_heap _ _ _ _ _ _ (blk_new _ _)
   have hl3 := hf3.size;have hlB := hF3B.size;have hcbl := blk_lt hcbB
   have HO0 : OSt E own ws wsr kf er (fun c k => Mu.rrender (pL E.ps) E.am n es (c :: c0 :: chs) k) w3.heap.size us0 Rx w wB (ctxs.drop 0) wB := by
    refine ⟨own, [], wsr, k, q0, by rw [List.append_nil]; exact HST.out.f0 hE (hf3.trans hF3B), Grew.refl _ _ _, Fr.of0 (hf3.trans hF3B), hrun, rfl, ?_, fun _ _ => rfl, hcbB, hl3⟩;intro j hj;have hpb := HST.out.ba.size;have hpl := blk_lt HST.out.prov;have hown := hE.wr.lt _ _ _ HST.out.wat
    rcases hj with rfl | hj
    · exact ⟨hcbl, fun h => by have := hown _ h; omega, by omega⟩
    · have := hRx j hj
      exact ⟨by omega, fun h => by have := hown _ h; omega, by omega⟩
   have HZ00 := hid hz00
   have HXC : Hid (∀ j u, us[j]? = some u → ∃ g, xa = some ⟨g, 0, none⟩ ∧ Rx g ∧ w3.cell? ⟨g, j, none⟩ = some u) := hid (fun j u hj => by
    obtain ⟨g, h1, h2, h3⟩ := hxcells (by have := (List.getElem?_eq_some_iff.1 hj).1; omega);exact ⟨g, h1, h2, h3 j u hj⟩)
   have HZX := hid hzx;have HVX := hid hvx;have HF3 := hid hf3;have HF3B := hid hF3B;have HWB : Hid (wB = wB) := hid rfl;have HRX := hid hRx;have ec : ((chs.length + 1 + 1 : Nat) : Int) = ((chs.length : Int) + 1) + 1 := by omega
   have hucl : us.length ≤ 1000000 := by have := hzx.1; omega
   have HUL := hid hzx.1;have hul : us.length = us.length := rfl;rw [ec] at hmk;clear hul hwB hcells0 hone hq0 hrow0 hz00 hxcells hzx hvx hrun hf3 hF3B hRx hcbB ec hl0 hcxl;go_wp2_with fail
   go_loopg [118] us.length (fun g v wr => ∃ i : Nat, v = .int .i64 i ∧ i ≤ us.length ∧ g = us.length - i ∧ OSt E own ws wsr kf er (fun c k => Mu.rrender (pL E.ps) E.am n es (c :: c0 :: chs) k) w3.heap.size us0 Rx w wB (ctxs.drop i) wr)
   case atStart => exact ⟨0, rfl, Nat.zero_le _, rfl, HO0⟩
   case round =>
    obtain ⟨i, rfl, hi0, rfl, hos⟩ := hrel
    by_cases hlt : i < us.length
    · have hic : i < ctxs.length := by have := HUL.out; omega
      rw [List.drop_eq_getElem_cons hic] at hos;obtain ⟨own1, wi, wq, ki, q1, h1, h2, h3, h4, h5, h6, h7, h8, h9⟩ := hos;obtain ⟨w1', k1', er1, hq1, hq2⟩ := rAll_step h4;obtain ⟨u, hu1, hu2⟩ := HZX.out.2 i hic;obtain ⟨g, rfl, hRg2, hcg2⟩ := HXC.out i u hu1;have hgB : wB.cell? ⟨g, i, none⟩ = some u := F0.cell HF3B.out hcg2
      have hcell : wr.cell? ⟨g, i, none⟩ = some u := (World.cell?_of_block (w := wB) (a := ⟨g, i, none⟩) (h7 g hRg2)).trans hgB;obtain ⟨x9, b9, rfl, hx9⟩ := hu2.form;have hcb0 := blk_cell h8 0;have hcbf := blk_free h8 0;have hcbl2 := blk_lt h8;simp only [List.getElem?_toArray, List.getElem?_cons_zero] at hcb0
      obtain ⟨wI, hwI⟩ : ∃ wI, wI = wr.setCell ⟨w3.heap.size, 0, none⟩ (.iface 143 (.agg #[x9, .bool b9])) := ⟨_, rfl⟩
      have hfI : Fr (· = w3.heap.size) wr wI := by rw [hwI]; exact (Fr.refl (· = w3.heap.size) wr).setA ⟨w3.heap.size, 0, none⟩ _ (.inl rfl)
      have hsI : wI.heap.size = wr.heap.size := by rw [hwI]; simp [World.setCell]
      have hbI : wI.heap[w3.heap.size]? = some (.cells (.iface 143 (.agg #[x9, .bool b9]) :: us0).toArray 20 (0, 0)) := by
       rw [hwI, blk_set _ h8]; simp
      have hoc := h6 w3.heap.size (.inl rfl);have hBb := HST.out.ba.size;have h1I : St E wI own1 (ws ++ wi) ki := h1.fr hE hfI (fun j hj => by rw [hj]; omega) (fun j ho hj => by rw [hj] at ho; exact hoc.2.1 ho) (fun hj => hoc.2.2 hj.symm);have h3I : Fr (Mt E own) w wI := h3.trans' hfI (fun j hj hm => by rw [hm] at hj; omega)
      have h2I : Grew own own1 w wI := fun j hj => (h2 j hj).imp_right (fun h => by rw [hsI]; exact h)
      have h6I : Off E wI own1 (fun k => k = w3.heap.size ∨ Rx k) := fun j hj => by rw [hsI]; exact h6 j hj
      have h7I : Keep Rx wB wI := fun j hj => (hfI.block j (h6 j (.inr hj)).1 (fun hm => by
       have := HRX.out j hj; omega)).trans (h7 j hj)
      have hcx1 := HCX.out.step h3I h2I;have hofS := HS.out.step h3I.size h2I;have hkpS := HS.out.keep h3I;have hkp2 := HCX.out.oS.keep h3I
      have hcxI : Cx E wI own1 tb x (· = w3.heap.size) S2 (.slice (some ⟨w3.heap.size, 0, none⟩) (chs.length + 1 + 1) (chs.length + 1 + 1)) (ctxs[i] :: c0 :: chs) :=
       ⟨hcx1.tm, hcx1.tmo, chain_two hbI (hu2.keep hkp2 (fun _ h => h)) (HZ00.out.keep hkp2 (fun _ h => h)) rfl, fun v hv => by
        rcases List.mem_cons.1 hv with hv | hv
        · exact HVX.out v (hv ▸ List.getElem_mem hic)
        · exact HCX.out.vg v hv, hcx1.ot, fun j hj => h6I j (.inl hj), hcx1.oS, by simp, by simp; omega⟩
      have hsecI := (hkpS sb HSB.out).trans HSEC.out;have hsecR := (HS.out.keep h3 sb HSB.out).trans HSEC.out;have hz3 := blk_cell hsecR 3;have hsbl := blk_lt hsecR;simp only [List.getElem?_toArray, List.getElem?_cons_zero, List.getElem?_cons_succ] at hz3;obtain ⟨ea, eq, rfl, hecells⟩ := HROW.out;have hvl := HES.out.length
      obtain ⟨m, rfl⟩ : ∃ m, n = m + 1 := by
       cases n with
       | zero => cases hq1
       | succ m => exact ⟨m, rfl⟩
      have hFT1 : Fits (ws ++ wi ++ w1') ∧ k1' ≤ 100 := by
       rcases hq2 with ⟨-, g8, g9, -⟩ | ⟨-, wx, g8, g9⟩
       · refine ⟨?_, by omega⟩
         rw [List.append_assoc, ← g8, ← h5]; exact HFT.out
       · refine ⟨?_, ?_⟩
         · have := HFT.out
           rw [h5, g9, ← List.append_assoc, ← List.append_assoc] at this;exact this.left
         · have := rAll_mono (fun y k w1 k1 e1 h => rrender_mono _ _ _ _ _ _ _ h) g8
           omega
      have HL0 : LSt E own1 (ws ++ wi) w1' k1' er1 (Mu.rElem (pL E.ps) E.am (Mu.rrender (pL E.ps) E.am m) (ctxs[i] :: c0 :: chs)) (es.drop 0) wI wI := ⟨own1, [], w1', ki, by rw [List.append_nil]; exact h1I, Grew.refl _ _ _, Fr.refl _ _, hq1, rfl⟩
      have HE1 := hid (HIH.out m rfl);have HCXI := hid hcxI;have HOFS := hid hofS;have HKPS := hid hkpS;have HEC := hid hecells;have HFT1 := hid hFT1;have HQ2 := hid hq2;have H2I := hid h2I;have H3I := hid h3I;have H5 := hid h5;have H6I := hid h6I;have H7I := hid h7I;have H9 := hid h9;have HBI := hid hbI;have HVL := hid hvl;have HWI := hid hwI;have hvl2 : vs.length ≤ 2147483647 := by omega
      clear h1 h2 h3 h4 h5 h6 h7 h8 h9 hq1 hq2 hu1 hu2 hRg2 hcg2 hgB hx9 hfI hsI hbI hoc h1I h3I h2I h6I h7I hcx1 hofS hkpS hkp2 hcxI hsecI hsecR hecells hFT1 hvl;go_wp2_with fail;rw [← HWI.out];clear hwI
      go_loopg [130] vs.length (fun g v wx => ∃ j : Nat, v = .int .i64 j ∧ j ≤ vs.length ∧ g = vs.length - j ∧ LSt E own1 (ws ++ wi) w1' k1' er1 (Mu.rElem (pL E.ps) E.am (Mu.rrender (pL E.ps) E.am m) (ctxs[i] :: c0 :: chs)) (es.drop j) wI wx)
      case atStart => exact ⟨0, rfl, Nat.zero_le _, rfl, HL0⟩
      case round =>
       obtain ⟨j, rfl, hj0, rfl, hls⟩ := hrel
       by_cases hjl : j < vs.length
       · have hje : j < es.length := by have := HVL.out; omega
         rw [List.drop_eq_getElem_cons hje] at hls;obtain ⟨own2, wi2, wq2, ki2, a1, a2, a3, a4, a5⟩ := hls;obtain ⟨w1b, k1b, er2, a6, a7⟩ := rAll_step a4
         have hkey : Fits (ws ++ wi ++ wi2 ++ w1b) ∧ k1b ≤ 100 := by
          rcases a7 with ⟨-, g8, g9, -⟩ | ⟨-, wx2, g8, g9⟩
          · refine ⟨?_, by have := HFT1.out.2; omega⟩
            rw [List.append_assoc (ws ++ wi), ← g8, ← a5]; exact HFT1.out.1
          · refine ⟨?_, ?_⟩
            · have := HFT1.out.1
              rw [a5, g9, ← List.append_assoc, ← List.append_assoc] at this;exact this.left
            · have := rAll_mono (fun y k w1 k1 e1 h => rElem_mono (rrender_mono m) _ y k w1 k1 e1 h) g8
              have := HFT1.out.2;omega
         have hcx2 := HCXI.out.step a3 a2;have hof := HOFS.out.step a3.size a2;have hkp := HOFS.out.keep a3;obtain ⟨u9, hu1, hu2⟩ := HES.out.at j hje;have hu3 := EAt.keep (fun k hk => (hkp k hk).trans (HKPS.out k hk)) (fun _ h => h) _ _ hu2;obtain ⟨g9, rfl, hSg, hcg9⟩ := HEC.out (by omega)
         have hcell9 : wr.cell? ⟨g9, j, none⟩ = some u9 := (World.cell?_of_block (w := w) (a := ⟨g9, j, none⟩) ((hkp g9 hSg).trans (HKPS.out g9 hSg))).trans (hcg9 j u9 hu1)
         have HC : Hid (Calls Tryz.prog 93 #[.pointer (some ⟨tb, 0, none⟩), u9, .slice (some ⟨w3.heap.size, 0, none⟩) (chs.length + 1 + 1) (chs.length + 1 + 1), .iface E.T (.pointer (some ⟨E.b, 0, none⟩))] wr (RPost E own2 (ws ++ wi ++ wi2) w1b k1b er2 wr)) := hid
          (HE1.out tb x u9 _ es[j] S _ S2 own2 _ (ws ++ wi ++ wi2) w1b ki2 k1b er2 wr D a1 hcx2 hu3 hof (HOK.out.get j hje) (by omega) (by simp; omega) a6 hkey.1 hkey.2)
         have A2 := hid a2;have A3 := hid a3;have A5 := hid a5;have A7 := hid a7;clear a1 a2 a3 a4 a5 a6 a7 hkey hcx2 hof hkp hu1 hu2 hu3 hcg9 hSg;go_wp2_with fail;refine HC.out.mono ?_;rintro e w5 ⟨he, hrs⟩;have HRS := hid hrs;clear hrs
         cases er2 with
         | true =>
          rw [if_pos rfl] at he;obtain ⟨T9, v9, rfl⟩ := he
          have HEE : Hid (er = true ∧ RSt E own ws wsr kf w w5) := hid (by
           rcases A7.out with ⟨-, g8, g9, g10⟩ | ⟨g8, -⟩
           · have hrs : RSt E own1 (ws ++ wi) w1' k1' wI w5 := by rw [g9]; exact LSt.stop (α := Unit) (ki := ki2) A2.out A3.out A5.out g8 HRS.out
             rcases HQ2.out with ⟨-, g11, g12, g13⟩ | ⟨g11, -⟩
             · exact ⟨g13, by rw [g12]; exact LSt.stop (α := Unit) (ki := ki) H2I.out H3I.out H5.out g11 hrs⟩
             · rw [g10] at g11; cases g11
           · cases g8)
          go_wp2_with fail;go_ret
          obtain ⟨rfl, h⟩ := HEE.out;exact RPost.err h
         | false =>
          rw [if_neg Bool.false_ne_true] at he;subst he
          have HN : LSt E own1 (ws ++ wi) w1' k1' er1 (Mu.rElem (pL E.ps) E.am (Mu.rrender (pL E.ps) E.am m) (ctxs[i] :: c0 :: chs)) (es.drop (j + 1)) wI w5 := by
           rcases A7.out with ⟨g8, -⟩ | ⟨-, wx3, g8, g9⟩
           · cases g8
           · exact LSt.next (ki := ki2) A2.out A3.out A5.out g9 g8 HRS.out
          go_wp2_with fail
          go_roundg (vs.length - (j + 1))
          case rel => exact ⟨j + 1, by go_num, by omega, rfl, HN⟩
          case measure => omega
       · have HD : OSt E own ws wsr kf er (fun c k => Mu.rrender (pL E.ps) E.am (m + 1) es (c :: c0 :: chs) k) w3.heap.size us0 Rx w wB (ctxs.drop (i + 1)) wr := by
          have hnil : es.drop j = [] := List.drop_eq_nil_of_le (by have := HVL.out; omega);rw [hnil] at hls;obtain ⟨rfl, o2, g1, g2, g3⟩ := hls.done
          rcases HQ2.out with ⟨g8, -⟩ | ⟨-, wx3, g8, g9⟩
          · cases g8
          · refine ⟨o2, wi ++ w1', wx3, k1', _, by rw [← List.append_assoc]; exact g1, H2I.out.trans g2 H3I.out.size g3.size, H3I.out.mt H2I.out g3, g8, by rw [H5.out, g9, List.append_assoc], H6I.out.step g3.size g2, fun j hj => (H6I.out.keep g3 j (.inr hj)).trans (H7I.out j hj), (H6I.out.keep g3 _ (.inl rfl)).trans HBI.out, H9.out⟩
         clear hls;go_wp2_with fail
         go_roundg (us.length - (i + 1))
         case rel => exact ⟨i + 1, by go_num, by omega, rfl, HD⟩
         case measure => omega
    · have HEE : Hid (er = false ∧ RSt E own ws wsr kf w wr) := hid (by
       have hnil : ctxs.drop i = [] := List.drop_eq_nil_of_le (by have := HUL.out; omega);rw [hnil] at hos;obtain ⟨own1, wi, wq, ki, q1, h1, h2, h3, h4, h5, -⟩ := hos;exact LSt.done (f := fun c k => Mu.rrender (pL E.ps) E.am n es (c :: c0 :: chs) k) ⟨own1, wi, wq, ki, h1, h2, h3, h4, h5⟩)
      clear hos;go_wp2_with fail;go_ret;obtain ⟨rfl, h⟩ := HEE.out;exact RPost.ok h
 | false =>
  cases inv with
  | true =>
   have hr' := HR.out;simp only [Mu.rElem, ← HE.out, Bool.not_false, Bool.and_true, Bool.or_true, if_true, Option.some.injEq, Prod.mk.injEq] at hr';obtain ⟨rfl, rfl, rfl⟩ := hr';clear HR;go_wp2_with fail;go_ret;exact RPost.ok (RSt.none_ hE HST.out HF2.out)
  | false =>
   obtain ⟨v, hlv, rfl, hcv⟩ : ∃ v, Mu.lookP (c0 :: chs) (L nb) = some v ∧ b = true ∧ CAt w S2 v y := by
    rcases HY.out.2 with ⟨h1, -, -⟩ | h
    · have := HE.out
      rw [h1] at this;cases this
    · exact h
   have hfew := (Mu.VG.lookP HCX.out.vg hlv).few;have hvg := Mu.VG.lookP HCX.out.vg hlv;have hr1 := HR.out;have hemp : Mu.emptyP (some v) = false := by rw [← hlv]; exact HE.out.symm
   simp only [Mu.rElem, ← HE.out, hlv, hemp, Bool.not_false, Bool.and_true, Bool.and_false, Bool.false_and, Bool.not_false, Bool.or_self, Bool.not_true, Bool.false_eq_true, if_false] at hr1;clear hemp;have hcv0 := hcv;obtain ⟨vk, vt, vn, vb, vks, vl⟩ := v;simp only [Mu.Val.list] at hfew
   have hkd : (vk = 4 ∧ ∃ sv vs, y = .iface 66 sv ∧ RowAt w S2 sv vs ∧ CsAt w S2 vl vs) ∨ (¬ vk = 4 ∧ ∃ r, y = .iface 78 (.map (some r))) ∨ (¬ vk = 4 ∧ ∃ T z, y = .iface T z ∧ T ≠ 66 ∧ T ≠ 78) := by
    unfold CAt at hcv
    rcases hcv with ⟨h0, -⟩ | ⟨h0, tb, h1, -⟩ | ⟨h0, h1⟩ | ⟨h0, h1⟩ | ⟨h0, sv, vs, h1⟩ | ⟨h0, r, es, clock, vs, h1, -⟩
    · exfalso
      have := HE.out;rw [hlv] at this;subst h0;simp [Mu.emptyP, Mu.Val.kind] at this
    · exact .inr (.inr ⟨by omega, _, _, h1, by decide, by decide⟩)
    · exact .inr (.inr ⟨by omega, _, _, h1, by decide, by decide⟩)
    · exact .inr (.inr ⟨by omega, _, _, h1, by decide, by decide⟩)
    · exact .inl ⟨h0, sv, vs, h1⟩
    · exact .inr (.inl ⟨by omega, r, h1⟩)
   clear hcv HR;have HC0 := hid hcv0;have HVG := hid hvg;have HHB : Hid (HB2 = HB2) := hid rfl;have hRone : ¬ vk = 4 → Mu.rAll (fun c k => Mu.rrender (pL E.ps) E.am n es (c :: c0 :: chs) k) [some (.mk vk vt vn vb vks vl)] k = some (wsr, kf, er) := fun h => by rw [if_neg (show ¬ (Mu.Val.mk vk vt vn vb vks vl).kind = 4 from h)] at hr1; rw [rAll_one]; exact hr1
   have hRlist : vk = 4 → Mu.rAll (fun c k => Mu.rrender (pL E.ps) E.am n es (c :: c0 :: chs) k) (vl.map some) k = some (wsr, kf, er) := fun h => by rw [if_pos (show (Mu.Val.mk vk vt vn vb vks vl).kind = 4 from h)] at hr1; rw [rAll_map]; exact hr1
   have HR1 := hid hRone;have HR4 := hid hRlist;have HFEW := hid hfew;clear hcv0 hvg hr1 hRone hRlist hlv HHB hfew
   rcases hkd with ⟨hk4, sv, vs4, hy, hrow4, hcs4⟩ | ⟨hnk, r, hy⟩ | ⟨hnk, T, z, hy, hT1, hT2⟩
   · obtain ⟨sa, sc, rfl, hcell4⟩ := hrow4
     have hl4 := hcs4.length;have hfew := HFEW.out;have hin : ∀ W, (Instr.typeAssert y 20 66 true).run Tryz.prog W = .ok (.tuple #[.slice sa vs4.length sc, .bool true]) W := fun W => by rw [hy]; exact isList W _
     have H4 : Hid (∀ j u, vs4[j]? = some u → ∃ g, sa = some ⟨g, 0, none⟩ ∧ w.cell? ⟨g, j, none⟩ = some u) := hid (fun j u hj => by
      obtain ⟨g, h1, h2, h3⟩ := hcell4 (by have := (List.getElem?_eq_some_iff.1 hj).1; omega);exact ⟨g, h1, h3 j u hj⟩)
     have HCS := hid hcs4;have hv4 : vs4.length ≤ 8 := by omega
     have HK4 := hid hk4;have HO4 : Hid (w2.ownsRow w.heap.size 20 1 (.slice (some ⟨w1.heap.size + 1 + 1, 0, none⟩) 0 0) 0 ((vs4.map (fun u => .iface 143 (.agg #[u, .bool true]))).take 0) ∧ F0 w w2) := hid ⟨HB2.out, HF2.out⟩;clear hk4 hy hcs4 hcell4 hfew hl4;go_wp2_with fail
     go_loopg [12, 15] vs4.length (fun g v12 v15 wr => ∃ i : Nat, v15 = .int .i64 i ∧ i ≤ vs4.length ∧ g = vs4.length - i ∧ Hid (wr.ownsRow w.heap.size 20 1 v12 i ((vs4.map (fun u => .iface 143 (.agg #[u, .bool true]))).take i) ∧ F0 w wr))
     case atStart => exact ⟨0, rfl, Nat.zero_le _, rfl, HO4⟩
     case round =>
      obtain ⟨i, rfl, hi0, rfl, HO⟩ := hrel
      by_cases hlt : i < vs4.length
      · obtain ⟨g, rfl, hcw⟩ := H4.out i vs4[i] (List.getElem?_eq_getElem hlt)
        have hcell := F0.cell HO.out.2 hcw;obtain ⟨u4, hu4⟩ : ∃ u4, u4 = vs4[i] := ⟨_, rfl⟩
        rw [← hu4] at hcell
        have hfm : u4 = .nilIface ∨ ∃ T z, u4 = .iface T z := by
         obtain ⟨u5, h1, h2⟩ := HCS.out.at i (by rw [← HCS.out.length]; exact hlt);rw [List.getElem?_eq_getElem hlt] at h1;injection h1 with h1;rw [hu4, h1]; exact h2.form
        have HU4 := hid hu4;have hsz := HO.out.2.size;clear hcw hu4
        rcases hfm with rfl | ⟨T9, z9, rfl⟩
        · go_wp2_with (at_builtin; refine wpList_append_own_at _ rfl _ _ 66 rfl w.heap.size 20 i0 .nilIface 1 16 Tryz.underlying66 hi hz1 hz2 hz3 rfl (by decide) u12 i ((vs4.map (fun u => .iface 143 (.agg #[u, .bool true]))).take i) rfl ?own ⟨_, 0, none⟩ 1 1 [.iface 143 (.agg #[.nilIface, .bool true])] rfl rfl ?c1 ?c2 ?c3 ?c4 ?c5 ?_)
          case own => exact HO.out.1.alloc _
          case c1 => exact one_new0 _ _ _ rfl
          case c2 => intro v hv; rw [List.mem_singleton.1 hv]; rfl
          case c3 => unfold maxLen; omega
          case c4 => omega
          case c5 => simp; omega
          intro xv w3 hown hgrow _ _
          have HN : Hid (w3.ownsRow w.heap.size 20 1 xv (i + 1) ((vs4.map (fun u => .iface 143 (.agg #[u, .bool true]))).take (i + 1)) ∧ F0 w w3) := hid (by
           refine ⟨?_, grown_f0 (HO.out.2.allocA _) hgrow (own_base HO.out.1)⟩;rw [List.take_add_one, List.getElem?_map, List.getElem?_eq_getElem hlt, Option.map_some, Option.toList_some, ← HU4.out];exact hown)
          clear hown hgrow;go_wp2_with fail
          go_roundg (vs4.length - (i + 1))
          case rel => exact ⟨i + 1, by go_num, by omega, rfl, HN⟩
          case measure => omega
        · go_wp2_with (at_builtin; refine wpList_append_own_at _ rfl _ _ 66 rfl w.heap.size 20 i0 .nilIface 1 16 Tryz.underlying66 hi hz1 hz2 hz3 rfl (by decide) u12 i ((vs4.map (fun u => .iface 143 (.agg #[u, .bool true]))).take i) rfl ?own ⟨_, 0, none⟩ 1 1 [.iface 143 (.agg #[.iface T9 z9, .bool true])] rfl rfl ?c1 ?c2 ?c3 ?c4 ?c5 ?_)
          case own => exact HO.out.1.alloc _
          case c1 => exact one_new0 _ _ _ rfl
          case c2 => intro v hv; rw [List.mem_singleton.1 hv]; rfl
          case c3 => unfold maxLen; omega
          case c4 => omega
          case c5 => simp; omega
          intro xv w3 hown hgrow _ _
          have HN : Hid (w3.ownsRow w.heap.size 20 1 xv (i + 1) ((vs4.map (fun u => .iface 143 (.agg #[u, .bool true]))).take (i + 1)) ∧ F0 w w3) := hid (by
           refine ⟨?_, grown_f0 (HO.out.2.allocA _) hgrow (own_base HO.out.1)⟩;rw [List.take_add_one, List.getElem?_map, List.getElem?_eq_getElem hlt, Option.map_some, Option.toList_some, ← HU4.out];exact hown)
          clear hown hgrow;go_wp2_with fail
          go_roundg (vs4.length - (i + 1))
          case rel => exact ⟨i + 1, by go_num, by omega, rfl, HN⟩
          case measure => omega
      · obtain ⟨w3, hw3⟩ : ∃ w3, w3 = wr := ⟨_, rfl⟩
        subst hw3
        have HPA : PA E w S2 (fun c k => Mu.rrender (pL E.ps) E.am n es (c :: c0 :: chs) k) wsr kf er k u12 w3 := by
         have hie : i = vs4.length := by omega
         have ho := HO.out.1;subst hie;rw [List.take_of_length_le (by simp)] at ho;refine PA.of E ho HO.out.2 (zs_list HCS.out) (HR4.out HK4.out) (fun v hv => ?_) (by simp; have := HFEW.out; omega);obtain ⟨v', hv', he⟩ := List.mem_map.1 hv;injection he with he;subst he;exact Mu.VG.list HVG.out hv'
        clear HO;obtain ⟨ctxs, us, Rx, hrx, hzx, hf3, hRx, hrun, hvx, hcxl⟩ := HPA;have k3 := F0.cell hf3 s1;obtain ⟨xa, xc, rfl, hxcells⟩ := hrx;obtain ⟨us0, hrow0, hz00⟩ := HCX.out.cha;have hl0 := hz00.1;simp only [List.length_cons] at hl0
        have hcells0 : ∀ j v, us0[j]? = some v → w3.cell? ((⟨cg, 0, none⟩ : Addr).add j) = some v := by
         obtain ⟨a9, c9, h1, h2⟩ := hrow0;obtain ⟨g9, h3, h4, h5⟩ := h2 (by omega);intro j v hj;injection h1 with h6 h7 h8;rw [h3] at h6;injection h6 with h6;injection h6 with h6;rw [addr_add0, h6];exact F0.cell hf3 (h5 j v hj)
        have hone : ∀ v ∈ us0, v.oneCell' = true := by
         intro v hv;obtain ⟨j, hj, rfl⟩ := List.mem_iff_getElem.1 hv;obtain ⟨u9, h1, h2⟩ := hz00.2 j (by have := hz00.1; omega);rw [List.getElem?_eq_getElem hj] at h1;injection h1 with h1;subst h1;obtain ⟨x9, b9, h3, -⟩ := h2.form;rw [h3]; rfl
        have hmk := run_make_row' (P := Tryz.prog) 66 20 .nilIface 16 Tryz.underlying66 infoAny rfl .i64 .i64 (chs.length + 1 + 1) (by omega) (by omega)
        have hcp := run_copy_row (P := Tryz.prog) (w3.alloc (.cells (madeCells #[.nilIface] (chs.length + 1 + 1)) 20)) 66 66 3 20 w3.heap.size 1 (chs.length + 1) (chs.length + 1) ⟨cg, 0, none⟩ (chs.length + 1) cc (madeCells #[.nilIface] (chs.length + 1 + 1)) 20 us0 Tryz.underlying66 anySize (blk_new _ _) (by rw [hl0]; exact (Nat.min_self _).symm) (fun j v hj => F0.cell (Fr.alloc _ _ _) (hcells0 j v hj)) (by rw [size_madeCells]; omega) hone
        obtain ⟨q0, hq0⟩ := row_made hl0;rw [hq0, hl0] at hcp;obtain ⟨wB, hwB⟩ : ∃ wB, wB = (w3.alloc (.cells (madeCells #[.nilIface] (chs.length + 1 + 1)) 20)).setRow w3.heap.size (q0 :: us0).toArray := ⟨_, rfl⟩
        rw [← hwB] at hcp;have hF3B : F0 w3 wB := by rw [hwB]; exact below_row (T := 0) _ rfl
        have hcbB : wB.heap[w3.heap.size]? = some (.cells (q0 :: us0).toArray 20 (0, 0)) := by rw [hwB]; exact setRow_heap _ _ _ _ _ _ (blk_new _ _)
        have hl3 := hf3.size;have hlB := hF3B.size;have hcbl := blk_lt hcbB
        have HO0 : OSt E own ws wsr kf er (fun c k => Mu.rrender (pL E.ps) E.am n es (c :: c0 :: chs) k) w3.heap.size us0 Rx w wB (ctxs.drop 0) wB := by
         refine ⟨own, [], wsr, k, q0, by rw [List.append_nil]; exact HST.out.f0 hE (hf3.trans hF3B), Grew.refl _ _ _, Fr.of0 (hf3.trans hF3B), hrun, rfl, ?_, fun _ _ => rfl, hcbB, hl3⟩;intro j hj;have hpb := HST.out.ba.size;have hpl := blk_lt HST.out.prov;have hown := hE.wr.lt _ _ _ HST.out.wat
         rcases hj with rfl | hj
         · exact ⟨hcbl, fun h => by have := hown _ h; omega, by omega⟩
         · have := hRx j hj
           exact ⟨by omega, fun h => by have := hown _ h; omega, by omega⟩
        have HZ00 := hid hz00
        have HXC : Hid (∀ j u, us[j]? = some u → ∃ g, xa = some ⟨g, 0, none⟩ ∧ Rx g ∧ w3.cell? ⟨g, j, none⟩ = some u) := hid (fun j u hj => by
         obtain ⟨g, h1, h2, h3⟩ := hxcells (by have := (List.getElem?_eq_some_iff.1 hj).1; omega);exact ⟨g, h1, h2, h3 j u hj⟩)
        have HZX := hid hzx;have HVX := hid hvx;have HF3 := hid hf3;have HF3B := hid hF3B;have HWB : Hid (wB = wB) := hid rfl;have HRX := hid hRx;have ec : ((chs.length + 1 + 1 : Nat) : Int) = ((chs.length : Int) + 1) + 1 := by omega
        have hucl : us.length ≤ 1000000 := by have := hzx.1; omega
        have HUL := hid hzx.1;have hul : us.length = us.length := rfl;rw [ec] at hmk;clear hul hwB hcells0 hone hq0 hrow0 hz00 hxcells hzx hvx hrun hf3 hF3B hRx hcbB ec hl0 hcxl;go_wp2_with fail
        go_loopg [118] us.length (fun g v wr => ∃ i : Nat, v = .int .i64 i ∧ i ≤ us.length ∧ g = us.length - i ∧ OSt E own ws wsr kf er (fun c k => Mu.rrender (pL E.ps) E.am n es (c :: c0 :: chs) k) w3.heap.size us0 Rx w wB (ctxs.drop i) wr)
        case atStart => exact ⟨0, rfl, Nat.zero_le _, rfl, HO0⟩
        case round =>
         obtain ⟨i, rfl, hi0, rfl, hos⟩ := hrel
         by_cases hlt : i < us.length
         · have hic : i < ctxs.length := by have := HUL.out; omega
           rw [List.drop_eq_getElem_cons hic] at hos;obtain ⟨own1, wi, wq, ki, q1, h1, h2, h3, h4, h5, h6, h7, h8, h9⟩ := hos;obtain ⟨w1', k1', er1, hq1, hq2⟩ := rAll_step h4;obtain ⟨u, hu1, hu2⟩ := HZX.out.2 i hic;obtain ⟨g, rfl, hRg2, hcg2⟩ := HXC.out i u hu1;have hgB : wB.cell? ⟨g, i, none⟩ = some u := F0.cell HF3B.out hcg2
           have hcell : wr.cell? ⟨g, i, none⟩ = some u := (World.cell?_of_block (w := wB) (a := ⟨g, i, none⟩) (h7 g hRg2)).trans hgB;obtain ⟨x9, b9, rfl, hx9⟩ := hu2.form;have hcb0 := blk_cell h8 0;have hcbf := blk_free h8 0;have hcbl2 := blk_lt h8;simp only [List.getElem?_toArray, List.getElem?_cons_zero] at hcb0
           obtain ⟨wI, hwI⟩ : ∃ wI, wI = wr.setCell ⟨w3.heap.size, 0, none⟩ (.iface 143 (.agg #[x9, .bool b9])) := ⟨_, rfl⟩
           have hfI : Fr (· = w3.heap.size) wr wI := by rw [hwI]; exact (Fr.refl (· = w3.heap.size) wr).setA ⟨w3.heap.size, 0, none⟩ _ (.inl rfl)
           have hsI : wI.heap.size = wr.heap.size := by rw [hwI]; simp [World.setCell]
           have hbI : wI.heap[w3.heap.size]? = some (.cells (.iface 143 (.agg #[x9, .bool b9]) :: us0).toArray 20 (0, 0)) := by
            rw [hwI, blk_set _ h8]; simp
           have hoc := h6 w3.heap.size (.inl rfl);have hBb := HST.out.ba.size;have h1I : St E wI own1 (ws ++ wi) ki := h1.fr hE hfI (fun j hj => by rw [hj]; omega) (fun j ho hj => by rw [hj] at ho; exact hoc.2.1 ho) (fun hj => hoc.2.2 hj.symm);have h3I : Fr (Mt E own) w wI := h3.trans' hfI (fun j hj hm => by rw [hm] at hj; omega)
           have h2I : Grew own own1 w wI := fun j hj => (h2 j hj).imp_right (fun h => by rw [hsI]; exact h)
           have h6I : Off E wI own1 (fun k => k = w3.heap.size ∨ Rx k) := fun j hj => by rw [hsI]; exact h6 j hj
           have h7I : Keep Rx wB wI := fun j hj => (hfI.block j (h6 j (.inr hj)).1 (fun hm => by
            have := HRX.out j hj; omega)).trans (h7 j hj)
           have hcx1 := HCX.out.step h3I h2I;have hofS := HS.out.step h3I.size h2I;have hkpS := HS.out.keep h3I;have hkp2 := HCX.out.oS.keep h3I
           have hcxI : Cx E wI own1 tb x (· = w3.heap.size) S2 (.slice (some ⟨w3.heap.size, 0, none⟩) (chs.length + 1 + 1) (chs.length + 1 + 1)) (ctxs[i] :: c0 :: chs) :=
            ⟨hcx1.tm, hcx1.tmo, chain_two hbI (hu2.keep hkp2 (fun _ h => h)) (HZ00.out.keep hkp2 (fun _ h => h)) rfl, fun v hv => by
             rcases List.mem_cons.1 hv with hv | hv
             · exact HVX.out v (hv ▸ List.getElem_mem hic)
             · exact HCX.out.vg v hv, hcx1.ot, fun j hj => h6I j (.inl hj), hcx1.oS, by simp, by simp; omega⟩
           have hsecI := (hkpS sb HSB.out).trans HSEC.out;have hsecR := (HS.out.keep h3 sb HSB.out).trans HSEC.out;have hz3 := blk_cell hsecR 3;have hsbl := blk_lt hsecR;simp only [List.getElem?_toArray, List.getElem?_cons_zero, List.getElem?_cons_succ] at hz3;obtain ⟨ea, eq, rfl, hecells⟩ := HROW.out;have hvl := HES.out.length
           obtain ⟨m, rfl⟩ : ∃ m, n = m + 1 := by
            cases n with
            | zero => cases hq1
            | succ m => exact ⟨m, rfl⟩
           have hFT1 : Fits (ws ++ wi ++ w1') ∧ k1' ≤ 100 := by
            rcases hq2 with ⟨-, g8, g9, -⟩ | ⟨-, wx, g8, g9⟩
            · refine ⟨?_, by omega⟩
              rw [List.append_assoc, ← g8, ← h5]; exact HFT.out
            · refine ⟨?_, ?_⟩
              · have := HFT.out
                rw [h5, g9, ← List.append_assoc, ← List.append_assoc] at this;exact this.left
              · have := rAll_mono (fun y k w1 k1 e1 h => rrender_mono _ _ _ _ _ _ _ h) g8
                omega
           have HL0 : LSt E own1 (ws ++ wi) w1' k1' er1 (Mu.rElem (pL E.ps) E.am (Mu.rrender (pL E.ps) E.am m) (ctxs[i] :: c0 :: chs)) (es.drop 0) wI wI := ⟨own1, [], w1', ki, by rw [List.append_nil]; exact h1I, Grew.refl _ _ _, Fr.refl _ _, hq1, rfl⟩
           have HE1 := hid (HIH.out m rfl);have HCXI := hid hcxI;have HOFS := hid hofS;have HKPS := hid hkpS;have HEC := hid hecells;have HFT1 := hid hFT1;have HQ2 := hid hq2;have H2I := hid h2I;have H3I := hid h3I;have H5 := hid h5;have H6I := hid h6I;have H7I := hid h7I;have H9 := hid h9;have HBI := hid hbI;have HVL := hid hvl;have HWI := hid hwI
           have hvl2 : vs.length ≤ 2147483647 := by omega
           clear h1 h2 h3 h4 h5 h6 h7 h8 h9 hq1 hq2 hu1 hu2 hRg2 hcg2 hgB hx9 hfI hsI hbI hoc h1I h3I h2I h6I h7I hcx1 hofS hkpS hkp2 hcxI hsecI hsecR hecells hFT1 hvl;go_wp2_with fail;rw [← HWI.out];clear hwI
           go_loopg [130] vs.length (fun g v wx => ∃ j : Nat, v = .int .i64 j ∧ j ≤ vs.length ∧ g = vs.length - j ∧ LSt E own1 (ws ++ wi) w1' k1' er1 (Mu.rElem (pL E.ps) E.am (Mu.rrender (pL E.ps) E.am m) (ctxs[i] :: c0 :: chs)) (es.drop j) wI wx)
           case atStart => exact ⟨0, rfl, Nat.zero_le _, rfl, HL0⟩
           case round =>
            obtain ⟨j, rfl, hj0, rfl, hls⟩ := hrel
            by_cases hjl : j < vs.length
            · have hje : j < es.length := by have := HVL.out; omega
              rw [List.drop_eq_getElem_cons hje] at hls;obtain ⟨own2, wi2, wq2, ki2, a1, a2, a3, a4, a5⟩ := hls;obtain ⟨w1b, k1b, er2, a6, a7⟩ := rAll_step a4
              have hkey : Fits (ws ++ wi ++ wi2 ++ w1b) ∧ k1b ≤ 100 := by
               rcases a7 with ⟨-, g8, g9, -⟩ | ⟨-, wx2, g8, g9⟩
               · refine ⟨?_, by have := HFT1.out.2; omega⟩
                 rw [List.append_assoc (ws ++ wi), ← g8, ← a5]; exact HFT1.out.1
               · refine ⟨?_, ?_⟩
                 · have := HFT1.out.1
                   rw [a5, g9, ← List.append_assoc, ← List.append_assoc] at this;exact this.left
                 · have := rAll_mono (fun y k w1 k1 e1 h => rElem_mono (rrender_mono m) _ y k w1 k1 e1 h) g8
                   have := HFT1.out.2;omega
              have hcx2 := HCXI.out.step a3 a2;have hof := HOFS.out.step a3.size a2;have hkp := HOFS.out.keep a3;obtain ⟨u9, hu1, hu2⟩ := HES.out.at j hje;have hu3 := EAt.keep (fun k hk => (hkp k hk).trans (HKPS.out k hk)) (fun _ h => h) _ _ hu2;obtain ⟨g9, rfl, hSg, hcg9⟩ := HEC.out (by omega)
              have hcell9 : wr.cell? ⟨g9, j, none⟩ = some u9 := (World.cell?_of_block (w := w) (a := ⟨g9, j, none⟩) ((hkp g9 hSg).trans (HKPS.out g9 hSg))).trans (hcg9 j u9 hu1)
              have HC : Hid (Calls Tryz.prog 93 #[.pointer (some ⟨tb, 0, none⟩), u9, .slice (some ⟨w3.heap.size, 0, none⟩) (chs.length + 1 + 1) (chs.length + 1 + 1), .iface E.T (.pointer (some ⟨E.b, 0, none⟩))] wr (RPost E own2 (ws ++ wi ++ wi2) w1b k1b er2 wr)) := hid
               (HE1.out tb x u9 _ es[j] S _ S2 own2 _ (ws ++ wi ++ wi2) w1b ki2 k1b er2 wr D a1 hcx2 hu3 hof (HOK.out.get j hje) (by omega) (by simp; omega) a6 hkey.1 hkey.2)
              have A2 := hid a2;have A3 := hid a3;have A5 := hid a5;have A7 := hid a7;clear a1 a2 a3 a4 a5 a6 a7 hkey hcx2 hof hkp hu1 hu2 hu3 hcg9 hSg;go_wp2_with fail;refine HC.out.mono ?_;rintro e w5 ⟨he, hrs⟩;have HRS := hid hrs;clear hrs
              cases er2 with
              | true =>
               rw [if_pos rfl] at he;obtain ⟨T9, v9, rfl⟩ := he
               have HEE : Hid (er = true ∧ RSt E own ws wsr kf w w5) := hid (by
                rcases A7.out with ⟨-, g8, g9, g10⟩ | ⟨g8, -⟩
                · have hrs : RSt E own1 (ws ++ wi) w1' k1' wI w5 := by rw [g9]; exact LSt.stop (α := Unit) (ki := ki2) A2.out A3.out A5.out g8 HRS.out
                  rcases HQ2.out with ⟨-, g11, g12, g13⟩ | ⟨g11, -⟩
                  · exact ⟨g13, by rw [g12]; exact LSt.stop (α := Unit) (ki := ki) H2I.out H3I.out H5.out g11 hrs⟩
                  · rw [g10] at g11; cases g11
                · cases g8)
               go_wp2_with fail;go_ret
               obtain ⟨rfl, h⟩ := HEE.out;exact RPost.err h
              | false =>
               rw [if_neg Bool.false_ne_true] at he;subst he
               have HN : LSt E own1 (ws ++ wi) w1' k1' er1 (Mu.rElem (pL E.ps) E.am (Mu.rrender (pL E.ps) E.am m) (ctxs[i] :: c0 :: chs)) (es.drop (j + 1)) wI w5 := by
                rcases A7.out with ⟨g8, -⟩ | ⟨-, wx3, g8, g9⟩
                · cases g8
                · exact LSt.next (ki := ki2) A2.out A3.out A5.out g9 g8 HRS.out
               go_wp2_with fail
               go_roundg (vs.length - (j + 1))
               case rel => exact ⟨j + 1, by go_num, by omega, rfl, HN⟩
               case measure => omega
            · have HD : OSt E own ws wsr kf er (fun c k => Mu.rrender (pL E.ps) E.am (m + 1) es (c :: c0 :: chs) k) w3.heap.size us0 Rx w wB (ctxs.drop (i + 1)) wr := by
               have hnil : es.drop j = [] := List.drop_eq_nil_of_le (by have := HVL.out; omega);rw [hnil] at hls;obtain ⟨rfl, o2, g1, g2, g3⟩ := hls.done
               rcases HQ2.out with ⟨g8, -⟩ | ⟨-, wx3, g8, g9⟩
               · cases g8
               · refine ⟨o2, wi ++ w1', wx3, k1', _, by rw [← List.append_assoc]; exact g1, H2I.out.trans g2 H3I.out.size g3.size, H3I.out.mt H2I.out g3, g8, by rw [H5.out, g9, List.append_assoc], H6I.out.step g3.size g2, fun j hj => (H6I.out.keep g3 j (.inr hj)).trans (H7I.out j hj), (H6I.out.keep g3 _ (.inl rfl)).trans HBI.out, H9.out⟩
              clear hls;go_wp2_with fail
              go_roundg (us.length - (i + 1))
              case rel => exact ⟨i + 1, by go_num, by omega, rfl, HD⟩
              case measure => omega
         · have HEE : Hid (er = false ∧ RSt E own ws wsr kf w wr) := hid (by
            have hnil : ctxs.drop i = [] := List.drop_eq_nil_of_le (by have := HUL.out; omega);rw [hnil] at hos;obtain ⟨own1, wi, wq, ki, q1, h1, h2, h3, h4, h5, -⟩ := hos;exact LSt.done (f := fun c k => Mu.rrender (pL E.ps) E.am n es (c :: c0 :: chs) k) ⟨own1, wi, wq, ki, h1, h2, h3, h4, h5⟩)
           clear hos;go_wp2_with fail;go_ret;obtain ⟨rfl, h⟩ := HEE.out;exact RPost.ok h
   · have hin : ∀ W, (Instr.typeAssert y 20 66 true).run Tryz.prog W = .ok (.tuple #[.slice none 0 0, .bool false]) W := fun W => by rw [hy]; exact notList W _ _ (by decide)
     have hin2 : ∀ W, (Instr.typeAssert y 20 78 true).run Tryz.prog W = .ok (.tuple #[.map (some r), .bool true]) W := fun W => by rw [hy]; exact isMap W _
     clear hy
     go_wp2_with (at_builtin; refine wpList_append_own_at _ rfl _ _ 66 rfl w.heap.size 20 i0 .nilIface 1 16 Tryz.underlying66 hi hz1 hz2 hz3 rfl (by decide) (.slice (some ⟨w1.heap.size + 1 + 1, 0, none⟩) 0 0) 0 [] rfl ?own ⟨_, 0, none⟩ 1 1 [.iface 143 (.agg #[y, .bool true])] rfl rfl ?c1 ?c2 ?c3 ?c4 ?c5 ?_)
     case own => exact HB2.out.alloc _
     case c1 => exact one_new0 _ _ _ rfl
     case c2 => intro v hv; rw [List.mem_singleton.1 hv]; rfl
     case c3 => unfold maxLen; omega
     case c4 => omega
     case c5 => have := HF2.out.size; simp; omega
     intro xv w3 hown hgrow _ _
     have hf3 : F0 w w3 := grown_f0 (HF2.out.allocA _) hgrow (fun k hk => by
      have := HY.out.1.size;have hk : w1.heap.size + 1 + 1 = k := by simpa [Value.ownBlock] using hk
      omega)
     have HPA : PA E w S2 (fun c k => Mu.rrender (pL E.ps) E.am n es (c :: c0 :: chs) k) wsr kf er k xv w3 := by
      refine PA.of E hown hf3 (zs_one (c := some (.mk vk vt vn vb vks vl)) ⟨y, rfl, HC0.out⟩) (HR1.out hnk) (fun v hv => ?_) (by simp);have := List.mem_singleton.1 hv;injection this with this;rw [this]; exact HVG.out
     clear hown hgrow hf3;obtain ⟨ctxs, us, Rx, hrx, hzx, hf3, hRx, hrun, hvx, hcxl⟩ := HPA;have k3 := F0.cell hf3 s1;obtain ⟨xa, xc, rfl, hxcells⟩ := hrx;obtain ⟨us0, hrow0, hz00⟩ := HCX.out.cha;have hl0 := hz00.1;simp only [List.length_cons] at hl0
     have hcells0 : ∀ j v, us0[j]? = some v → w3.cell? ((⟨cg, 0, none⟩ : Addr).add j) = some v := by
      obtain ⟨a9, c9, h1, h2⟩ := hrow0;obtain ⟨g9, h3, h4, h5⟩ := h2 (by omega);intro j v hj;injection h1 with h6 h7 h8;rw [h3] at h6;injection h6 with h6;injection h6 with h6;rw [addr_add0, h6];exact F0.cell hf3 (h5 j v hj)
     have hone : ∀ v ∈ us0, v.oneCell' = true := by
      intro v hv;obtain ⟨j, hj, rfl⟩ := List.mem_iff_getElem.1 hv;obtain ⟨u9, h1, h2⟩ := hz00.2 j (by have := hz00.1; omega);rw [List.getElem?_eq_getElem hj] at h1;injection h1 with h1;subst h1;obtain ⟨x9, b9, h3, -⟩ := h2.form;rw [h3]; rfl
     have hmk := run_make_row' (P := Tryz.prog) 66 20 .nilIface 16 Tryz.underlying66 infoAny rfl .i64 .i64 (chs.length + 1 + 1) (by omega) (by omega)
     have hcp := run_copy_row (P := Tryz.prog) (w3.alloc (.cells (madeCells #[.nilIface] (chs.length + 1 + 1)) 20)) 66 66 3 20 w3.heap.size 1 (chs.length + 1) (chs.length + 1) ⟨cg, 0, none⟩ (chs.length + 1) cc (madeCells #[.nilIface] (chs.length + 1 + 1)) 20 us0 Tryz.underlying66 anySize (blk_new _ _) (by rw [hl0]; exact (Nat.min_self _).symm) (fun j v hj => F0.cell (Fr.alloc _ _ _) (hcells0 j v hj)) (by rw [size_madeCells]; omega) hone
     obtain ⟨q0, hq0⟩ := row_made hl0;rw [hq0, hl0] at hcp;obtain ⟨wB, hwB⟩ : ∃ wB, wB = (w3.alloc (.cells (madeCells #[.nilIface] (chs.length + 1 + 1)) 20)).setRow w3.heap.size (q0 :: us0).toArray := ⟨_, rfl⟩
     rw [← hwB] at hcp;have hF3B : F0 w3 wB := by rw [hwB]; exact below_row (T := 0) _ rfl
     have hcbB : wB.heap[w3.heap.size]? = some (.cells (q0 :: us0).toArray 20 (0, 0)) := by rw [hwB]; exact setRow_heap _ _ _ _ _ _ (blk_new _ _)
     have hl3 := hf3.size;have hlB := hF3B.size;have hcbl := blk_lt hcbB
     have HO0 : OSt E own ws wsr kf er (fun c k => Mu.rrender (pL E.ps) E.am n es (c :: c0 :: chs) k) w3.heap.size us0 Rx w wB (ctxs.drop 0) wB := by
      refine ⟨own, [], wsr, k, q0, by rw [List.append_nil]; exact HST.out.f0 hE (hf3.trans hF3B), Grew.refl _ _ _, Fr.of0 (hf3.trans hF3B), hrun, rfl, ?_, fun _ _ => rfl, hcbB, hl3⟩;intro j hj;have hpb := HST.out.ba.size;have hpl := blk_lt HST.out.prov;have hown := hE.wr.lt _ _ _ HST.out.wat
      rcases hj with rfl | hj
      · exact ⟨hcbl, fun h => by have := hown _ h; omega, by omega⟩
      · have := hRx j hj
        exact ⟨by omega, fun h => by have := hown _ h; omega, by omega⟩
     have HZ00 := hid hz00
     have HXC : Hid (∀ j u, us[j]? = some u → ∃ g, xa = some ⟨g, 0, none⟩ ∧ Rx g ∧ w3.cell? ⟨g, j, none⟩ = some u) := hid (fun j u hj => by
      obtain ⟨g, h1, h2, h3⟩ := hxcells (by have := (List.getElem?_eq_some_iff.1 hj).1; omega);exact ⟨g, h1, h2, h3 j u hj⟩)
     have HZX := hid hzx;have HVX := hid hvx;have HF3 := hid hf3;have HF3B := hid hF3B;have HWB : Hid (wB = wB) := hid rfl;have HRX := hid hRx;have ec : ((chs.length + 1 + 1 : Nat) : Int) = ((chs.length : Int) + 1) + 1 := by omega
     have hucl : us.length ≤ 1000000 := by have := hzx.1; omega
     have HUL := hid hzx.1;have hul : us.length = us.length := rfl;rw [ec] at hmk;clear hul hwB hcells0 hone hq0 hrow0 hz00 hxcells hzx hvx hrun hf3 hF3B hRx hcbB ec hl0 hcxl;go_wp2_with fail
     go_loopg [118] us.length (fun g v wr => ∃ i : Nat, v = .int .i64 i ∧ i ≤ us.length ∧ g = us.length - i ∧ OSt E own ws wsr kf er (fun c k => Mu.rrender (pL E.ps) E.am n es (c :: c0 :: chs) k) w3.heap.size us0 Rx w wB (ctxs.drop i) wr)
     case atStart => exact ⟨0, rfl, Nat.zero_le _, rfl, HO0⟩
     case round =>
      obtain ⟨i, rfl, hi0, rfl, hos⟩ := hrel
      by_cases hlt : i < us.length
      · have hic : i < ctxs.length := by have := HUL.out; omega
        rw [List.drop_eq_getElem_cons hic] at hos;obtain ⟨own1, wi, wq, ki, q1, h1, h2, h3, h4, h5, h6, h7, h8, h9⟩ := hos;obtain ⟨w1', k1', er1, hq1, hq2⟩ := rAll_step h4;obtain ⟨u, hu1, hu2⟩ := HZX.out.2 i hic;obtain ⟨g, rfl, hRg2, hcg2⟩ := HXC.out i u hu1;have hgB : wB.cell? ⟨g, i, none⟩ = some u := F0.cell HF3B.out hcg2
        have hcell : wr.cell? ⟨g, i, none⟩ = some u := (World.cell?_of_block (w := wB) (a := ⟨g, i, none⟩) (h7 g hRg2)).trans hgB;obtain ⟨x9, b9, rfl, hx9⟩ := hu2.form;have hcb0 := blk_cell h8 0;have hcbf := blk_free h8 0;have hcbl2 := blk_lt h8;simp only [List.getElem?_toArray, List.getElem?_cons_zero] at hcb0
        obtain ⟨wI, hwI⟩ : ∃ wI, wI = wr.setCell ⟨w3.heap.size, 0, none⟩ (.iface 143 (.agg #[x9, .bool b9])) := ⟨_, rfl⟩
        have hfI : Fr (· = w3.heap.size) wr wI := by rw [hwI]; exact (Fr.refl (· = w3.heap.size) wr).setA ⟨w3.heap.size, 0, none⟩ _ (.inl rfl)
        have hsI : wI.heap.size = wr.heap.size := by rw [hwI]; simp [World.setCell]
        have hbI : wI.heap[w3.heap.size]? = some (.cells (.iface 143 (.agg #[x9, .bool b9]) :: us0).toArray 20 (0, 0)) := by
         rw [hwI, blk_set _ h8]; simp
        have hoc := h6 w3.heap.size (.inl rfl);have hBb := HST.out.ba.size;have h1I : St E wI own1 (ws ++ wi) ki := h1.fr hE hfI (fun j hj => by rw [hj]; omega) (fun j ho hj => by rw [hj] at ho; exact hoc.2.1 ho) (fun hj => hoc.2.2 hj.symm);have h3I : Fr (Mt E own) w wI := h3.trans' hfI (fun j hj hm => by rw [hm] at hj; omega)
        have h2I : Grew own own1 w wI := fun j hj => (h2 j hj).imp_right (fun h => by rw [hsI]; exact h)
        have h6I : Off E wI own1 (fun k => k = w3.heap.size ∨ Rx k) := fun j hj => by rw [hsI]; exact h6 j hj
        have h7I : Keep Rx wB wI := fun j hj => (hfI.block j (h6 j (.inr hj)).1 (fun hm => by
         have := HRX.out j hj; omega)).trans (h7 j hj)
        have hcx1 := HCX.out.step h3I h2I;have hofS := HS.out.step h3I.size h2I;have hkpS := HS.out.keep h3I;have hkp2 := HCX.out.oS.keep h3I
        have hcxI : Cx E wI own1 tb x (· = w3.heap.size) S2 (.slice (some ⟨w3.heap.size, 0, none⟩) (chs.length + 1 + 1) (chs.length + 1 + 1)) (ctxs[i] :: c0 :: chs) :=
         ⟨hcx1.tm, hcx1.tmo, chain_two hbI (hu2.keep hkp2 (fun _ h => h)) (HZ00.out.keep hkp2 (fun _ h => h)) rfl, fun v hv => by
          rcases List.mem_cons.1 hv with hv | hv
          · exact HVX.out v (hv ▸ List.getElem_mem hic)
          · exact HCX.out.vg v hv, hcx1.ot, fun j hj => h6I j (.inl hj), hcx1.oS, by simp, by simp; omega⟩
        have hsecI := (hkpS sb HSB.out).trans HSEC.out;have hsecR := (HS.out.keep h3 sb HSB.out).trans HSEC.out;have hz3 := blk_cell hsecR 3;have hsbl := blk_lt hsecR;simp only [List.getElem?_toArray, List.getElem?_cons_zero, List.getElem?_cons_succ] at hz3;obtain ⟨ea, eq, rfl, hecells⟩ := HROW.out;have hvl := HES.out.length
        obtain ⟨m, rfl⟩ : ∃ m, n = m + 1 := by
         cases n with
         | zero => cases hq1
         | succ m => exact ⟨m, rfl⟩
        have hFT1 : Fits (ws ++ wi ++ w1') ∧ k1' ≤ 100 := by
         rcases hq2 with ⟨-, g8, g9, -⟩ | ⟨-, wx, g8, g9⟩
         · refine ⟨?_, by omega⟩
           rw [List.append_assoc, ← g8, ← h5]; exact HFT.out
         · refine ⟨?_, ?_⟩
           · have := HFT.out
             rw [h5, g9, ← List.append_assoc, ← List.append_assoc] at this;exact this.left
           · have := rAll_mono (fun y k w1 k1 e1 h => rrender_mono _ _ _ _ _ _ _ h) g8
             omega
        have HL0 : LSt E own1 (ws ++ wi) w1' k1' er1 (Mu.rElem (pL E.ps) E.am (Mu.rrender (pL E.ps) E.am m) (ctxs[i] :: c0 :: chs)) (es.drop 0) wI wI := ⟨own1, [], w1', ki, by rw [List.append_nil]; exact h1I, Grew.refl _ _ _, Fr.refl _ _, hq1, rfl⟩
        have HE1 := hid (HIH.out m rfl);have HCXI := hid hcxI;have HOFS := hid hofS;have HKPS := hid hkpS;have HEC := hid hecells;have HFT1 := hid hFT1;have HQ2 := hid hq2;have H2I := hid h2I;have H3I := hid h3I;have H5 := hid h5;have H6I := hid h6I;have H7I := hid h7I;have H9 := hid h9;have HBI := hid hbI;have HVL := hid hvl;have HWI := hid hwI
        have hvl2 : vs.length ≤ 2147483647 := by omega
        clear h1 h2 h3 h4 h5 h6 h7 h8 h9 hq1 hq2 hu1 hu2 hRg2 hcg2 hgB hx9 hfI hsI hbI hoc h1I h3I h2I h6I h7I hcx1 hofS hkpS hkp2 hcxI hsecI hsecR hecells hFT1 hvl;go_wp2_with fail;rw [← HWI.out];clear hwI
        go_loopg [130] vs.length (fun g v wx => ∃ j : Nat, v = .int .i64 j ∧ j ≤ vs.length ∧ g = vs.length - j ∧ LSt E own1 (ws ++ wi) w1' k1' er1 (Mu.rElem (pL E.ps) E.am (Mu.rrender (pL E.ps) E.am m) (ctxs[i] :: c0 :: chs)) (es.drop j) wI wx)
        case atStart => exact ⟨0, rfl, Nat.zero_le _, rfl, HL0⟩
        case round =>
         obtain ⟨j, rfl, hj0, rfl, hls⟩ := hrel
         by_cases hjl : j < vs.length
         · have hje : j < es.length := by have := HVL.out; omega
           rw [List.drop_eq_getElem_cons hje] at hls;obtain ⟨own2, wi2, wq2, ki2, a1, a2, a3, a4, a5⟩ := hls;obtain ⟨w1b, k1b, er2, a6, a7⟩ := rAll_step a4
           have hkey : Fits (ws ++ wi ++ wi2 ++ w1b) ∧ k1b ≤ 100 := by
            rcases a7 with ⟨-, g8, g9, -⟩ | ⟨-, wx2, g8, g9⟩
            · refine ⟨?_, by have := HFT1.out.2; omega⟩
              rw [List.append_assoc (ws ++ wi), ← g8, ← a5]; exact HFT1.out.1
            · refine ⟨?_, ?_⟩
              · have := HFT1.out.1
                rw [a5, g9, ← List.append_assoc, ← List.append_assoc] at this;exact this.left
              · have := rAll_mono (fun y k w1 k1 e1 h => rElem_mono (rrender_mono m) _ y k w1 k1 e1 h) g8
                have := HFT1.out.2;omega
           have hcx2 := HCXI.out.step a3 a2;have hof := HOFS.out.step a3.size a2;have hkp := HOFS.out.keep a3;obtain ⟨u9, hu1, hu2⟩ := HES.out.at j hje;have hu3 := EAt.keep (fun k hk => (hkp k hk).trans (HKPS.out k hk)) (fun _ h => h) _ _ hu2;obtain ⟨g9, rfl, hSg, hcg9⟩ := HEC.out (by omega)
           have hcell9 : wr.cell? ⟨g9, j, none⟩ = some u9 := (World.cell?_of_block (w := w) (a := ⟨g9, j, none⟩) ((hkp g9 hSg).trans (HKPS.out g9 hSg))).trans (hcg9 j u9 hu1)
           have HC : Hid (Calls Tryz.prog 93 #[.pointer (some ⟨tb, 0, none⟩), u9, .slice (some ⟨w3.heap.size, 0, none⟩) (chs.length + 1 + 1) (chs.length + 1 + 1), .iface E.T (.pointer (some ⟨E.b, 0, none⟩))] wr (RPost E own2 (ws ++ wi ++ wi2) w1b k1b er2 wr)) := hid
            (HE1.out tb x u9 _ es[j] S _ S2 own2 _ (ws ++ wi ++ wi2) w1b ki2 k1b er2 wr D a1 hcx2 hu3 hof (HOK.out.get j hje) (by omega) (by simp; omega) a6 hkey.1 hkey.2)
           have A2 := hid a2;have A3 := hid a3;have A5 := hid a5;have A7 := hid a7;clear a1 a2 a3 a4 a5 a6 a7 hkey hcx2 hof hkp hu1 hu2 hu3 hcg9 hSg;go_wp2_with fail;refine HC.out.mono ?_;rintro e w5 ⟨he, hrs⟩;have HRS := hid hrs;clear hrs
           cases er2 with
           | true =>
            rw [if_pos rfl] at he;obtain ⟨T9, v9, rfl⟩ := he
            have HEE : Hid (er = true ∧ RSt E own ws wsr kf w w5) := hid (by
             rcases A7.out with ⟨-, g8, g9, g10⟩ | ⟨g8, -⟩
             · have hrs : RSt E own1 (ws ++ wi) w1' k1' wI w5 := by rw [g9]; exact LSt.stop (α := Unit) (ki := ki2) A2.out A3.out A5.out g8 HRS.out
               rcases HQ2.out with ⟨-, g11, g12, g13⟩ | ⟨g11, -⟩
               · exact ⟨g13, by rw [g12]; exact LSt.stop (α := Unit) (ki := ki) H2I.out H3I.out H5.out g11 hrs⟩
               · rw [g10] at g11; cases g11
             · cases g8)
            go_wp2_with fail;go_ret
            obtain ⟨rfl, h⟩ := HEE.out;exact RPost.err h
           | false =>
            rw [if_neg Bool.false_ne_true] at he;subst he
            have HN : LSt E own1 (ws ++ wi) w1' k1' er1 (Mu.rElem (pL E.ps) E.am (Mu.rrender (pL E.ps) E.am m) (ctxs[i] :: c0 :: chs)) (es.drop (j + 1)) wI w5 := by
             rcases A7.out with ⟨g8, -⟩ | ⟨-, wx3, g8, g9⟩
             · cases g8
             · exact LSt.next (ki := ki2) A2.out A3.out A5.out g9 g8 HRS.out
            go_wp2_with fail
            go_roundg (vs.length - (j + 1))
            case rel => exact ⟨j + 1, by go_num, by omega, rfl, HN⟩
            case measure => omega
         · have HD : OSt E own ws wsr kf er (fun c k => Mu.rrender (pL E.ps) E.am (m + 1) es (c :: c0 :: chs) k) w3.heap.size us0 Rx w wB (ctxs.drop (i + 1)) wr := by
            have hnil : es.drop j = [] := List.drop_eq_nil_of_le (by have := HVL.out; omega);rw [hnil] at hls;obtain ⟨rfl, o2, g1, g2, g3⟩ := hls.done
            rcases HQ2.out with ⟨g8, -⟩ | ⟨-, wx3, g8, g9⟩
            · cases g8
            · refine ⟨o2, wi ++ w1', wx3, k1', _, by rw [← List.append_assoc]; exact g1, H2I.out.trans g2 H3I.out.size g3.size, H3I.out.mt H2I.out g3, g8, by rw [H5.out, g9, List.append_assoc], H6I.out.step g3.size g2, fun j hj => (H6I.out.keep g3 j (.inr hj)).trans (H7I.out j hj), (H6I.out.keep g3 _ (.inl rfl)).trans HBI.out, H9.out⟩
           clear hls;go_wp2_with fail
           go_roundg (us.length - (i + 1))
           case rel => exact ⟨i + 1, by go_num, by omega, rfl, HD⟩
           case measure => omega
      · have HEE : Hid (er = false ∧ RSt E own ws wsr kf w wr) := hid (by
         have hnil : ctxs.drop i = [] := List.drop_eq_nil_of_le (by have := HUL.out; omega);rw [hnil] at hos;obtain ⟨own1, wi, wq, ki, q1, h1, h2, h3, h4, h5, -⟩ := hos;exact LSt.done (f := fun c k => Mu.rrender (pL E.ps) E.am n es (c :: c0 :: chs) k) ⟨own1, wi, wq, ki, h1, h2, h3, h4, h5⟩)
        clear hos;go_wp2_with fail;go_ret;obtain ⟨rfl, h⟩ := HEE.out;exact RPost.ok h
   · have hin : ∀ W, (Instr.typeAssert y 20 66 true).run Tryz.prog W = .ok (.tuple #[.slice none 0 0, .bool false]) W := fun W => by rw [hy]; exact notList W _ _ hT1
     have hin2 : ∀ W, (Instr.typeAssert y 20 78 true).run Tryz.prog W = .ok (.tuple #[.map none, .bool false]) W := fun W => by rw [hy]; exact notMap W _ _ hT2
     clear hy hT1 hT2
     go_wp2_with (at_builtin; refine wpList_append_own_at _ rfl _ _ 66 rfl w.heap.size 20 i0 .nilIface 1 16 Tryz.underlying66 hi hz1 hz2 hz3 rfl (by decide) (.slice (some ⟨w1.heap.size + 1 + 1, 0, none⟩) 0 0) 0 [] rfl ?own ⟨_, 0, none⟩ 1 1 [.iface 143 (.agg #[y, .bool true])] rfl rfl ?c1 ?c2 ?c3 ?c4 ?c5 ?_)
     case own => exact HB2.out.alloc _
     case c1 => exact one_new0 _ _ _ rfl
     case c2 => intro v hv; rw [List.mem_singleton.1 hv]; rfl
     case c3 => unfold maxLen; omega
     case c4 => omega
     case c5 => have := HF2.out.size; simp; omega
     intro xv w3 hown hgrow _ _
     have hf3 : F0 w w3 := grown_f0 (HF2.out.allocA _) hgrow (fun k hk => by
      have := HY.out.1.size;have hk : w1.heap.size + 1 + 1 = k := by simpa [Value.ownBlock] using hk
      omega)
     have HPA : PA E w S2 (fun c k => Mu.rrender (pL E.ps) E.am n es (c :: c0 :: chs) k) wsr kf er k xv w3 := by
      refine PA.of E hown hf3 (zs_one (c := some (.mk vk vt vn vb vks vl)) ⟨y, rfl, HC0.out⟩) (HR1.out hnk) (fun v hv => ?_) (by simp);have := List.mem_singleton.1 hv;injection this with this;rw [this]; exact HVG.out
     clear hown hgrow hf3;obtain ⟨ctxs, us, Rx, hrx, hzx, hf3, hRx, hrun, hvx, hcxl⟩ := HPA;have k3 := F0.cell hf3 s1;obtain ⟨xa, xc, rfl, hxcells⟩ := hrx;obtain ⟨us0, hrow0, hz00⟩ := HCX.out.cha;have hl0 := hz00.1;simp only [List.length_cons] at hl0
     have hcells0 : ∀ j v, us0[j]? = some v → w3.cell? ((⟨cg, 0, none⟩ : Addr).add j) = some v := by
      obtain ⟨a9, c9, h1, h2⟩ := hrow0;obtain ⟨g9, h3, h4, h5⟩ := h2 (by omega);intro j v hj;injection h1 with h6 h7 h8;rw [h3] at h6;injection h6 with h6;injection h6 with h6;rw [addr_add0, h6];exact F0.cell hf3 (h5 j v hj)
     have hone : ∀ v ∈ us0, v.oneCell' = true := by
      intro v hv;obtain ⟨j, hj, rfl⟩ := List.mem_iff_getElem.1 hv;obtain ⟨u9, h1, h2⟩ := hz00.2 j (by have := hz00.1; omega);rw [List.getElem?_eq_getElem hj] at h1;injection h1 with h1;subst h1;obtain ⟨x9, b9, h3, -⟩ := h2.form;rw [h3]; rfl
     have hmk := run_make_row' (P := Tryz.prog) 66 20 .nilIface 16 Tryz.underlying66 infoAny rfl .i64 .i64 (chs.length + 1 + 1) (by omega) (by omega)
     have hcp := run_copy_row (P := Tryz.prog) (w3.alloc (.cells (madeCells #[.nilIface] (chs.length + 1 + 1)) 20)) 66 66 3 20 w3.heap.size 1 (chs.length + 1) (chs.length + 1) ⟨cg, 0, none⟩ (chs.length + 1) cc (madeCells #[.nilIface] (chs.length + 1 + 1)) 20 us0 Tryz.underlying66 anySize (blk_new _ _) (by rw [hl0]; exact (Nat.min_self _).symm) (fun j v hj => F0.cell (Fr.alloc _ _ _) (hcells0 j v hj)) (by rw [size_madeCells]; omega) hone
     obtain ⟨q0, hq0⟩ := row_made hl0;rw [hq0, hl0] at hcp;obtain ⟨wB, hwB⟩ : ∃ wB, wB = (w3.alloc (.cells (madeCells #[.nilIface] (chs.length + 1 + 1)) 20)).setRow w3.heap.size (q0 :: us0).toArray := ⟨_, rfl⟩
     rw [← hwB] at hcp;have hF3B : F0 w3 wB := by rw [hwB]; exact below_row (T := 0) _ rfl
     have hcbB : wB.heap[w3.heap.size]? = some (.cells (q0 :: us0).toArray 20 (0, 0)) := by rw [hwB]; exact setRow_heap _ _ _ _ _ _ (blk_new _ _)
     have hl3 := hf3.size;have hlB := hF3B.size;have hcbl := blk_lt hcbB
     have HO0 : OSt E own ws wsr kf er (fun c k => Mu.rrender (pL E.ps) E.am n es (c :: c0 :: chs) k) w3.heap.size us0 Rx w wB (ctxs.drop 0) wB := by
      refine ⟨own, [], wsr, k, q0, by rw [List.append_nil]; exact HST.out.f0 hE (hf3.trans hF3B), Grew.refl _ _ _, Fr.of0 (hf3.trans hF3B), hrun, rfl, ?_, fun _ _ => rfl, hcbB, hl3⟩;intro j hj;have hpb := HST.out.ba.size;have hpl := blk_lt HST.out.prov;have hown := hE.wr.lt _ _ _ HST.out.wat
      rcases hj with rfl | hj
      · exact ⟨hcbl, fun h => by have := hown _ h; omega, by omega⟩
      · have := hRx j hj
        exact ⟨by omega, fun h => by have := hown _ h; omega, by omega⟩
     have HZ00 := hid hz00
     have HXC : Hid (∀ j u, us[j]? = some u → ∃ g, xa = some ⟨g, 0, none⟩ ∧ Rx g ∧ w3.cell? ⟨g, j, none⟩ = some u) := hid (fun j u hj => by
      obtain ⟨g, h1, h2, h3⟩ := hxcells (by have := (List.getElem?_eq_some_iff.1 hj).1; omega);exact ⟨g, h1, h2, h3 j u hj⟩)
     have HZX := hid hzx;have HVX := hid hvx;have HF3 := hid hf3;have HF3B := hid hF3B;have HWB : Hid (wB = wB) := hid rfl;have HRX := hid hRx;have ec : ((chs.length + 1 + 1 : Nat) : Int) = ((chs.length : Int) + 1) + 1 := by omega
     have hucl : us.length ≤ 1000000 := by have := hzx.1; omega
     have HUL := hid hzx.1;have hul : us.length = us.length := rfl;rw [ec] at hmk;clear hul hwB hcells0 hone hq0 hrow0 hz00 hxcells hzx hvx hrun hf3 hF3B hRx hcbB ec hl0 hcxl;go_wp2_with fail
     go_loopg [118] us.length (fun g v wr => ∃ i : Nat, v = .int .i64 i ∧ i ≤ us.length ∧ g = us.length - i ∧ OSt E own ws wsr kf er (fun c k => Mu.rrender (pL E.ps) E.am n es (c :: c0 :: chs) k) w3.heap.size us0 Rx w wB (ctxs.drop i) wr)
     case atStart => exact ⟨0, rfl, Nat.zero_le _, rfl, HO0⟩
     case round =>
      obtain ⟨i, rfl, hi0, rfl, hos⟩ := hrel
      by_cases hlt : i < us.length
      · have hic : i < ctxs.length := by have := HUL.out; omega
        rw [List.drop_eq_getElem_cons hic] at hos;obtain ⟨own1, wi, wq, ki, q1, h1, h2, h3, h4, h5, h6, h7, h8, h9⟩ := hos;obtain ⟨w1', k1', er1, hq1, hq2⟩ := rAll_step h4;obtain ⟨u, hu1, hu2⟩ := HZX.out.2 i hic;obtain ⟨g, rfl, hRg2, hcg2⟩ := HXC.out i u hu1;have hgB : wB.cell? ⟨g, i, none⟩ = some u := F0.cell HF3B.out hcg2
        have hcell : wr.cell? ⟨g, i, none⟩ = some u := (World.cell?_of_block (w := wB) (a := ⟨g, i, none⟩) (h7 g hRg2)).trans hgB;obtain ⟨x9, b9, rfl, hx9⟩ := hu2.form;have hcb0 := blk_cell h8 0;have hcbf := blk_free h8 0;have hcbl2 := blk_lt h8;simp only [List.getElem?_toArray, List.getElem?_cons_zero] at hcb0
        obtain ⟨wI, hwI⟩ : ∃ wI, wI = wr.setCell ⟨w3.heap.size, 0, none⟩ (.iface 143 (.agg #[x9, .bool b9])) := ⟨_, rfl⟩
        have hfI : Fr (· = w3.heap.size) wr wI := by rw [hwI]; exact (Fr.refl (· = w3.heap.size) wr).setA ⟨w3.heap.size, 0, none⟩ _ (.inl rfl)
        have hsI : wI.heap.size = wr.heap.size := by rw [hwI]; simp [World.setCell]
        have hbI : wI.heap[w3.heap.size]? = some (.cells (.iface 143 (.agg #[x9, .bool b9]) :: us0).toArray 20 (0, 0)) := by
         rw [hwI, blk_set _ h8]; simp
        have hoc := h6 w3.heap.size (.inl rfl);have hBb := HST.out.ba.size;have h1I : St E wI own1 (ws ++ wi) ki := h1.fr hE hfI (fun j hj => by rw [hj]; omega) (fun j ho hj => by rw [hj] at ho; exact hoc.2.1 ho) (fun hj => hoc.2.2 hj.symm);have h3I : Fr (Mt E own) w wI := h3.trans' hfI (fun j hj hm => by rw [hm] at hj; omega)
        have h2I : Grew own own1 w wI := fun j hj => (h2 j hj).imp_right (fun h => by rw [hsI]; exact h)
        have h6I : Off E wI own1 (fun k => k = w3.heap.size ∨ Rx k) := fun j hj => by rw [hsI]; exact h6 j hj
        have h7I : Keep Rx wB wI := fun j hj => (hfI.block j (h6 j (.inr hj)).1 (fun hm => by
         have := HRX.out j hj; omega)).trans (h7 j hj)
        have hcx1 := HCX.out.step h3I h2I;have hofS := HS.out.step h3I.size h2I;have hkpS := HS.out.keep h3I;have hkp2 := HCX.out.oS.keep h3I
        have hcxI : Cx E wI own1 tb x (· = w3.heap.size) S2 (.slice (some ⟨w3.heap.size, 0, none⟩) (chs.length + 1 + 1) (chs.length + 1 + 1)) (ctxs[i] :: c0 :: chs) :=
         ⟨hcx1.tm, hcx1.tmo, chain_two hbI (hu2.keep hkp2 (fun _ h => h)) (HZ00.out.keep hkp2 (fun _ h => h)) rfl, fun v hv => by
          rcases List.mem_cons.1 hv with hv | hv
          · exact HVX.out v (hv ▸ List.getElem_mem hic)
          · exact HCX.out.vg v hv, hcx1.ot, fun j hj => h6I j (.inl hj), hcx1.oS, by simp, by simp; omega⟩
        have hsecI := (hkpS sb HSB.out).trans HSEC.out;have hsecR := (HS.out.keep h3 sb HSB.out).trans HSEC.out;have hz3 := blk_cell hsecR 3;have hsbl := blk_lt hsecR;simp only [List.getElem?_toArray, List.getElem?_cons_zero, List.getElem?_cons_succ] at hz3;obtain ⟨ea, eq, rfl, hecells⟩ := HROW.out;have hvl := HES.out.length
        obtain ⟨m, rfl⟩ : ∃ m, n = m + 1 := by
         cases n with
         | zero => cases hq1
         | succ m => exact ⟨m, rfl⟩
        have hFT1 : Fits (ws ++ wi ++ w1') ∧ k1' ≤ 100 := by
         rcases hq2 with ⟨-, g8, g9, -⟩ | ⟨-, wx, g8, g9⟩
         · refine ⟨?_, by omega⟩
           rw [List.append_assoc, ← g8, ← h5]; exact HFT.out
         · refine ⟨?_, ?_⟩
           · have := HFT.out
             rw [h5, g9, ← List.append_assoc, ← List.append_assoc] at this;exact this.left
           · have := rAll_mono (fun y k w1 k1 e1 h => rrender_mono _ _ _ _ _ _ _ h) g8
             omega
        have HL0 : LSt E own1 (ws ++ wi) w1' k1' er1 (Mu.rElem (pL E.ps) E.am (Mu.rrender (pL E.ps) E.am m) (ctxs[i] :: c0 :: chs)) (es.drop 0) wI wI := ⟨own1, [], w1', ki, by rw [List.append_nil]; exact h1I, Grew.refl _ _ _, Fr.refl _ _, hq1, rfl⟩
        have HE1 := hid (HIH.out m rfl);have HCXI := hid hcxI;have HOFS := hid hofS;have HKPS := hid hkpS;have HEC := hid hecells;have HFT1 := hid hFT1;have HQ2 := hid hq2;have H2I := hid h2I;have H3I := hid h3I;have H5 := hid h5;have H6I := hid h6I;have H7I := hid h7I;have H9 := hid h9;have HBI := hid hbI;have HVL := hid hvl;have HWI := hid hwI
        have hvl2 : vs.length ≤ 2147483647 := by omega
        clear h1 h2 h3 h4 h5 h6 h7 h8 h9 hq1 hq2 hu1 hu2 hRg2 hcg2 hgB hx9 hfI hsI hbI hoc h1I h3I h2I h6I h7I hcx1 hofS hkpS hkp2 hcxI hsecI hsecR hecells hFT1 hvl;go_wp2_with fail;rw [← HWI.out];clear hwI
        go_loopg [130] vs.length (fun g v wx => ∃ j : Nat, v = .int .i64 j ∧ j ≤ vs.length ∧ g = vs.length - j ∧ LSt E own1 (ws ++ wi) w1' k1' er1 (Mu.rElem (pL E.ps) E.am (Mu.rrender (pL E.ps) E.am m) (ctxs[i] :: c0 :: chs)) (es.drop j) wI wx)
        case atStart => exact ⟨0, rfl, Nat.zero_le _, rfl, HL0⟩
        case round =>
         obtain ⟨j, rfl, hj0, rfl, hls⟩ := hrel
         by_cases hjl : j < vs.length
         · have hje : j < es.length := by have := HVL.out; omega
           rw [List.drop_eq_getElem_cons hje] at hls;obtain ⟨own2, wi2, wq2, ki2, a1, a2, a3, a4, a5⟩ := hls;obtain ⟨w1b, k1b, er2, a6, a7⟩ := rAll_step a4
           have hkey : Fits (ws ++ wi ++ wi2 ++ w1b) ∧ k1b ≤ 100 := by
            rcases a7 with ⟨-, g8, g9, -⟩ | ⟨-, wx2, g8, g9⟩
            · refine ⟨?_, by have := HFT1.out.2; omega⟩
              rw [List.append_assoc (ws ++ wi), ← g8, ← a5]; exact HFT1.out.1
            · refine ⟨?_, ?_⟩
              · have := HFT1.out.1
                rw [a5, g9, ← List.append_assoc, ← List.append_assoc] at this;exact this.left
              · have := rAll_mono (fun y k w1 k1 e1 h => rElem_mono (rrender_mono m) _ y k w1 k1 e1 h) g8
                have := HFT1.out.2;omega
           have hcx2 := HCXI.out.step a3 a2;have hof := HOFS.out.step a3.size a2;have hkp := HOFS.out.keep a3;obtain ⟨u9, hu1, hu2⟩ := HES.out.at j hje;have hu3 := EAt.keep (fun k hk => (hkp k hk).trans (HKPS.out k hk)) (fun _ h => h) _ _ hu2;obtain ⟨g9, rfl, hSg, hcg9⟩ := HEC.out (by omega)
           have hcell9 : wr.cell? ⟨g9, j, none⟩ = some u9 := (World.cell?_of_block (w := w) (a := ⟨g9, j, none⟩) ((hkp g9 hSg).trans (HKPS.out g9 hSg))).trans (hcg9 j u9 hu1)
           have HC : Hid (Calls Tryz.prog 93 #[.pointer (some ⟨tb, 0, none⟩), u9, .slice (some ⟨w3.heap.size, 0, none⟩) (chs.length + 1 + 1) (chs.length + 1 + 1), .iface E.T (.pointer (some ⟨E.b, 0, none⟩))] wr (RPost E own2 (ws ++ wi ++ wi2) w1b k1b er2 wr)) := hid
            (HE1.out tb x u9 _ es[j] S _ S2 own2 _ (ws ++ wi ++ wi2) w1b ki2 k1b er2 wr D a1 hcx2 hu3 hof (HOK.out.get j hje) (by omega) (by simp; omega) a6 hkey.1 hkey.2)
           have A2 := hid a2;have A3 := hid a3;have A5 := hid a5;have A7 := hid a7;clear a1 a2 a3 a4 a5 a6 a7 hkey hcx2 hof hkp hu1 hu2 hu3 hcg9 hSg;go_wp2_with fail;refine HC.out.mono ?_;rintro e w5 ⟨he, hrs⟩;have HRS := hid hrs;clear hrs
           cases er2 with
           | true =>
            rw [if_pos rfl] at he;obtain ⟨T9, v9, rfl⟩ := he
            have HEE : Hid (er = true ∧ RSt E own ws wsr kf w w5) := hid (by
             rcases A7.out with ⟨-, g8, g9, g10⟩ | ⟨g8, -⟩
             · have hrs : RSt E own1 (ws ++ wi) w1' k1' wI w5 := by rw [g9]; exact LSt.stop (α := Unit) (ki := ki2) A2.out A3.out A5.out g8 HRS.out
               rcases HQ2.out with ⟨-, g11, g12, g13⟩ | ⟨g11, -⟩
               · exact ⟨g13, by rw [g12]; exact LSt.stop (α := Unit) (ki := ki) H2I.out H3I.out H5.out g11 hrs⟩
               · rw [g10] at g11; cases g11
             · cases g8)
            go_wp2_with fail;go_ret
            obtain ⟨rfl, h⟩ := HEE.out;exact RPost.err h
           | false =>
            rw [if_neg Bool.false_ne_true] at he;subst he
            have HN : LSt E own1 (ws ++ wi) w1' k1' er1 (Mu.rElem (pL E.ps) E.am (Mu.rrender (pL E.ps) E.am m) (ctxs[i] :: c0 :: chs)) (es.drop (j + 1)) wI w5 := by
             rcases A7.out with ⟨g8, -⟩ | ⟨-, wx3, g8, g9⟩
             · cases g8
             · exact LSt.next (ki := ki2) A2.out A3.out A5.out g9 g8 HRS.out
            go_wp2_with fail
            go_roundg (vs.length - (j + 1))
            case rel => exact ⟨j + 1, by go_num, by omega, rfl, HN⟩
            case measure => omega
         · have HD : OSt E own ws wsr kf er (fun c k => Mu.rrender (pL E.ps) E.am (m + 1) es (c :: c0 :: chs) k) w3.heap.size us0 Rx w wB (ctxs.drop (i + 1)) wr := by
            have hnil : es.drop j = [] := List.drop_eq_nil_of_le (by have := HVL.out; omega);rw [hnil] at hls;obtain ⟨rfl, o2, g1, g2, g3⟩ := hls.done
            rcases HQ2.out with ⟨g8, -⟩ | ⟨-, wx3, g8, g9⟩
            · cases g8
            · refine ⟨o2, wi ++ w1', wx3, k1', _, by rw [← List.append_assoc]; exact g1, H2I.out.trans g2 H3I.out.size g3.size, H3I.out.mt H2I.out g3, g8, by rw [H5.out, g9, List.append_assoc], H6I.out.step g3.size g2, fun j hj => (H6I.out.keep g3 j (.inr hj)).trans (H7I.out j hj), (H6I.out.keep g3 _ (.inl rfl)).trans HBI.out, H9.out⟩
           clear hls;go_wp2_with fail
           go_roundg (us.length - (i + 1))
           case rel => exact ⟨i + 1, by go_num, by omega, rfl, HD⟩
           case measure => omega
      · have HEE : Hid (er = false ∧ RSt E own ws wsr kf w wr) := hid (by
         have hnil : ctxs.drop i = [] := List.drop_eq_nil_of_le (by have := HUL.out; omega);rw [hnil] at hos;obtain ⟨own1, wi, wq, ki, q1, h1, h2, h3, h4, h5, -⟩ := hos;exact LSt.done (f := fun c k => Mu.rrender (pL E.ps) E.am n es (c :: c0 :: chs) k) ⟨own1, wi, wq, ki, h1, h2, h3, h4, h5⟩)
        clear hos;go_wp2_with fail;go_ret;obtain ⟨rfl, h⟩ := HEE.out;exact RPost.ok h
end Go.Proofs.YtfakghnpkdoclaaGreatDoor
