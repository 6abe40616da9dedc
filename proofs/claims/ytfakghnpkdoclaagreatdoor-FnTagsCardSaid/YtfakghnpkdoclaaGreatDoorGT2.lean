/-
  A template's tags, as the package gives them. (Joined by wip/pack.py.)
-/
import Derived.Test.YtfakghnpkdoclaaGreatDoorGP2
import Derived.Test.YtfakghnpkdoclaaGreatDoorGT1
import Derived.Test.YtfakghnpkdoclaaGreatDoorGD1
import Derived.Test.YtfakghnpkdoclaaGreatDoorGS2
set_option linter.unusedVariables false
set_option linter.unusedSimpArgs false
set_option maxRecDepth 100000
set_option maxHeartbeats 8000000
namespace Go.Proofs.YtfakghnpkdoclaaGreatDoor.Mu
inductive Tg where
 | mk (ty : Nat) (name : B) (tags : List Tg)
mutual
def tagE : Elem → List Tg
 | .text _ => []
 | .var n _ => [.mk 1 n []]
 | .sect n inv es => [.mk (if inv then 3 else 2) n (tagL es)]
 | .part n _ => [.mk 4 n []]
def tagL : List Elem → List Tg
 | [] => []
 | e :: es => tagE e ++ tagL es
end
def keepN : Node → Bool
 | .mk k _ _ _ _ => !(k == 1 || k == 6)
mutual
def MtN : Tg → Node → Prop
 | .mk _ n ts, .mk k t _ _ kids => n = t ∧ (k = 5 ∨ MtL ts (kids.filter keepN))
def MtL : List Tg → List Node → Prop
 | [], ns => ns = []
 | g :: gs, ns => ∃ n ns', ns = n :: ns' ∧ MtN g n ∧ MtL gs ns'
end
theorem MtL_append : ∀ {a c : List Tg} {b d : List Node}, MtL a b → MtL c d → MtL (a ++ c) (b ++ d)
 | [], c, b, d, h, k => by
  unfold MtL at h;subst h;exact k
 | g :: gs, c, b, d, h, k => by
  unfold MtL at h;obtain ⟨n, ns', rfl, h2, h3⟩ := h;show MtL (g :: (gs ++ c)) (n :: (ns' ++ d));unfold MtL;exact ⟨n, _, rfl, h2, MtL_append h3 k⟩
theorem tagL_append : ∀ (a b : List Elem), tagL (a ++ b) = tagL a ++ tagL b
 | [], b => by simp [tagL]
 | e :: a, b => by simp [tagL, tagL_append a b]
theorem filter_addT (t : B) : (addT t).filter keepN = [] := by
 unfold addT
 split <;> simp [keepN]
theorem tagL_txs (x : List B) : tagL (txs x) = [] := by
 unfold txs
 induction x with
 | nil => rfl
 | cons a l ih => simp only [List.map_cons, tagL, tagE, List.nil_append]; exact ih
theorem MtL_nil : MtL [] [] := by unfold MtL; rfl
theorem MtL_one {g : Tg} {n : Node} (h : MtN g n) : MtL [g] [n] := by
 unfold MtL
 exact ⟨n, [], rfl, h, MtL_nil⟩
theorem rel_mt {s : B} {raw : Bool} {ns : List Node} {es : List Elem} (h : Rel s raw ns es) : MtL (tagL es) (ns.filter keepN) := by
 induction h with
 | fin x hx => rw [filter_addT, tagL_txs]; exact MtL_nil
 | rem x hx hr ih =>
  rw [List.filter_append, List.filter_append, filter_addT, tagL_append, tagL_append, tagL_txs];exact ih
 | var x n r hx hn hr ih =>
  rw [List.filter_append, List.filter_append, filter_addT, tagL_append, tagL_append, tagL_txs];refine MtL_append (MtL_append MtL_nil ?_) ih;refine MtL_one ?_;unfold MtN;exact ⟨rfl, .inr MtL_nil⟩
 | sect x n inv hx hn hk hr ihk ih =>
  rw [List.filter_append, List.filter_append, filter_addT, tagL_append, tagL_append, tagL_txs];refine MtL_append (MtL_append MtL_nil ?_) ih;have h1 : ∀ ks, [Node.mk (if inv then 4 else 3) n false [] ks].filter keepN = [Node.mk (if inv then 4 else 3) n false [] ks] := fun ks => by cases inv <;> rfl
  rw [h1];refine MtL_one ?_;unfold MtN;exact ⟨rfl, .inr ihk⟩
 | part x n ind hx hn hi hr ih =>
  rw [List.filter_append, List.filter_append, filter_addT, tagL_append, tagL_append, tagL_txs];refine MtL_append (MtL_append MtL_nil ?_) ih;refine MtL_one ?_;unfold MtN;exact ⟨rfl, .inl rfl⟩
end Go.Proofs.YtfakghnpkdoclaaGreatDoor.Mu
namespace Go.Proofs.YtfakghnpkdoclaaGreatDoor
open Go.RowKit
open Go.Lib (hid)
end Go.Proofs.YtfakghnpkdoclaaGreatDoor
namespace Go.Proofs.YtfakghnpkdoclaaGreatDoor
open Go.RowKit
open Go.Lib (hid)
theorem RowN.f0 {w w' : World} {S : Nat → Prop} {v : Value} {ns : List Mu.Node} {vs : List Value} (h : RowN w S 5 v ns.length vs) (hn : NsAt w S ns vs) (hS : ∀ j, S j → j < w.heap.size) (hf : F0 w w') : RowN w' S 5 v ns.length vs ∧ NsAt w' S ns vs ∧ ∀ j, S j → j < w'.heap.size :=
 ⟨h.keep (fun k hk => hf.block k (hS k hk) id) (fun _ h => h), NsAt.keep (fun k hk => hf.block k (hS k hk) id) (fun _ h => h) _ _ hn, fun j hj => Nat.lt_of_lt_of_le (hS j hj) hf.size⟩
end Go.Proofs.YtfakghnpkdoclaaGreatDoor
namespace Go.Proofs.YtfakghnpkdoclaaGreatDoor
open Go.RowKit
open Go.Lib (hid)
def isTg : Mu.Elem → Bool
 | .text _ => false
 | _ => true
theorem filter_take {es : List Mu.Elem} {i : Nat} (h : i < es.length) : (es.take (i + 1)).filter isTg = (es.take i).filter isTg ++ (if isTg es[i] then [es[i]] else []) := by
 rw [List.take_succ_eq_append_getElem h, List.filter_append]
 congr 1
 simp only [List.filter_cons, List.filter_nil]
theorem tagL_filter : ∀ es : List Mu.Elem, Mu.tagL (es.filter isTg) = Mu.tagL es
 | [] => rfl
 | e :: es => by
  cases e <;> simp [List.filter_cons, isTg, Mu.tagL, Mu.tagE, tagL_filter es]
theorem infoTag : (Tryz.prog.info? 131).map (fun i => (i.zero, i.size, i.bytes)) = some (some .nilIface, 1, 16) := by kernel_rfl
theorem make_cap (n : Nat) (hn : n ≤ 2147483647) (w : World) : (Instr.makeSlice 84 (.int .i64 0) (.int .i64 n)).run Tryz.prog w = .ok (.slice (some ⟨w.heap.size, 0, none⟩) 0 n) (w.alloc (.cells (madeCells #[.nilIface] n) 131)) := by
 obtain ⟨i, hi, hzz⟩ := Option.map_eq_some_iff.1 infoTag
 simp only [Prod.mk.injEq] at hzz
 obtain ⟨hz, hs, hb⟩ := hzz
 have hr := run_make (P := Tryz.prog) w 84 131 i .nilIface Tryz.underlying84 hi hz .i64 .i64 0 n (by omega) (by omega) (by rw [hb]; omega) (by omega)
 simp only [Int.toNat_natCast, hs, Nat.mul_one] at hr
 exact hr
theorem owns_cap (w : World) (n : Nat) (hn : n ≤ 2147483647) : (w.alloc (.cells (madeCells #[.nilIface] n) 131)).ownsRow w.heap.size 131 1 (.slice (some ⟨w.heap.size, 0, none⟩) 0 n) 0 [] :=
 ⟨rfl, .inr ⟨w.heap.size, n, _, rfl, Nat.le_refl _, blk_new _ _, Nat.zero_le _, by unfold maxLen; omega, by rw [size_madeCells]; omega, rfl⟩⟩
theorem ta_tv (W : World) (b : Nat) : (Instr.typeAssert (.iface 154 (.pointer (some ⟨b, 0, none⟩))) 20 173 true).run Tryz.prog W = .ok (.tuple #[.pointer none, .bool false]) W := by kernel_rfl
theorem ta_ts (W : World) (b : Nat) : (Instr.typeAssert (.iface 154 (.pointer (some ⟨b, 0, none⟩))) 20 165 true).run Tryz.prog W = .ok (.tuple #[.pointer none, .bool false]) W := by kernel_rfl
theorem ta_tp (W : World) (b : Nat) : (Instr.typeAssert (.iface 154 (.pointer (some ⟨b, 0, none⟩))) 20 170 true).run Tryz.prog W = .ok (.tuple #[.pointer none, .bool false]) W := by kernel_rfl
theorem ta_vv (W : World) (b : Nat) : (Instr.typeAssert (.iface 173 (.pointer (some ⟨b, 0, none⟩))) 20 173 true).run Tryz.prog W = .ok (.tuple #[.pointer (some ⟨b, 0, none⟩), .bool true]) W := by kernel_rfl
theorem ta_sv (W : World) (b : Nat) : (Instr.typeAssert (.iface 165 (.pointer (some ⟨b, 0, none⟩))) 20 173 true).run Tryz.prog W = .ok (.tuple #[.pointer none, .bool false]) W := by kernel_rfl
theorem ta_ss (W : World) (b : Nat) : (Instr.typeAssert (.iface 165 (.pointer (some ⟨b, 0, none⟩))) 20 165 true).run Tryz.prog W = .ok (.tuple #[.pointer (some ⟨b, 0, none⟩), .bool true]) W := by kernel_rfl
theorem ta_pv (W : World) (b : Nat) : (Instr.typeAssert (.iface 170 (.pointer (some ⟨b, 0, none⟩))) 20 173 true).run Tryz.prog W = .ok (.tuple #[.pointer none, .bool false]) W := by kernel_rfl
theorem ta_ps (W : World) (b : Nat) : (Instr.typeAssert (.iface 170 (.pointer (some ⟨b, 0, none⟩))) 20 165 true).run Tryz.prog W = .ok (.tuple #[.pointer none, .bool false]) W := by kernel_rfl
theorem ta_pp (W : World) (b : Nat) : (Instr.typeAssert (.iface 170 (.pointer (some ⟨b, 0, none⟩))) 20 170 true).run Tryz.prog W = .ok (.tuple #[.pointer (some ⟨b, 0, none⟩), .bool true]) W := by kernel_rfl
def XtPost (es : List Mu.Elem) (S : Nat → Prop) (prov : Value) (w : World) (e : Ending) (w' : World) : Prop :=
 ∃ v us, e = .returned v ∧ Hid (w'.ownsRow w.heap.size 131 1 v us.length us ∧ EsAt w' S prov (es.filter isTg) us ∧ F0 w w')
theorem extract_any (es : List Mu.Elem) (cv : Value) (vs : List Value) (w : World) (S : Nat → Prop) (prov : Value) (hrow : RowAt w S cv vs) (hes : EsAt w S prov es vs) (hS : ∀ k, S k → k < w.heap.size) (hlen : es.length ≤ 2147483647) :
 Calls Tryz.prog 77 #[cv] w (XtPost es S prov w) := by
 obtain ⟨i0, hi, hz1, hz2, hz3⟩ := info_parts infoTag
 have hvl := hes.length
 obtain ⟨ca, cc, rfl, hcells⟩ := hrow
 have HC : Hid (∀ j (h : j < es.length), ∃ g u, ca = some ⟨g, 0, none⟩ ∧ w.cell? ⟨g, j, none⟩ = some u ∧ EAt w S prov es[j] u) := hid (fun j hj => by
  obtain ⟨g, h1, h2, h3⟩ := hcells (by omega);obtain ⟨u, h4, h5⟩ := hes.at j hj;exact ⟨g, u, h1, h3 j u h4, h5⟩)
 have hmk := make_cap vs.length (by omega)
 have HO0 := hid (owns_cap w vs.length (by omega))
 rw [hvl] at hmk HO0 ⊢
 have HSS := hid hS
 clear hes hcells hS hvl
 go_enter Tryz.func77, Tryz.ntmps77
 go_wp2_with fail
 go_loopg [3, 14] es.length (fun g v3 v14 wr => ∃ (i : Nat) (outs : List Value), v14 = .int .i64 i ∧ i ≤ es.length ∧ g = es.length - i ∧ outs.length ≤ i ∧ Hid (wr.ownsRow w.heap.size 131 1 v3 outs.length outs ∧ EsAt w S prov ((es.take i).filter isTg) outs ∧ F0 w wr))
 case atStart => exact ⟨0, [], rfl, Nat.zero_le _, rfl, Nat.le_refl _, hid ⟨HO0.out, by simp [EsAt], Fr.alloc _ _ _⟩⟩
 case round =>
  obtain ⟨i, outs, rfl, hi0, rfl, hol, HO⟩ := hrel
  by_cases hlt : i < es.length
  · obtain ⟨g, u, rfl, hcw, he⟩ := HC.out i hlt
    have hcell := F0.cell HO.out.2.2 hcw;have hsz := HO.out.2.2.size;have HE := hid he;have HTK := hid (filter_take hlt);clear hcw he;obtain ⟨e0, he0⟩ : ∃ e0, e0 = es[i] := ⟨_, rfl⟩
    rw [← he0] at HE HTK;clear he0
    cases e0 with
    | text t =>
     have h0 := HE.out;unfold EAt at h0;obtain ⟨b, sv, rfl, -⟩ := h0;simp only [pv] at hcell;have tav := fun (W : World) => ta_tv W b
     have tas := fun (W : World) => ta_ts W b
     have tap := fun (W : World) => ta_tp W b
     have HN : Hid (EsAt w S prov ((es.take (i + 1)).filter isTg) outs) := hid (by
      rw [HTK.out];simpa [isTg] using HO.out.2.1)
     go_wp2_with fail
     go_roundg (es.length - (i + 1))
     case rel => exact ⟨i + 1, outs, by go_num, by omega, rfl, by omega, hid ⟨HO.out.1, HN.out, HO.out.2.2⟩⟩
     case measure => omega
    | var n raw =>
     have h0 := HE.out;unfold EAt at h0;obtain ⟨b, nb, rfl, -⟩ := h0;simp only [pv] at hcell;have tav := fun (W : World) => ta_vv W b
     have HN : Hid (EsAt w S prov ((es.take (i + 1)).filter isTg) (outs ++ [.iface 173 (.pointer (some ⟨b, 0, none⟩))])) := hid (by
      rw [HTK.out];exact HO.out.2.1.append (EsAt.one HE.out))
     go_wp2_with (at_builtin; refine wpList_append_own_at _ rfl _ _ 84 rfl w.heap.size 131 i0 .nilIface 1 16 Tryz.underlying84 hi hz1 hz2 hz3 rfl (by decide) u3 outs.length outs rfl ?own ⟨_, 0, none⟩ 1 1 [.iface 173 (.pointer (some ⟨b, 0, none⟩))] rfl rfl ?c1 ?c2 ?c3 ?c4 ?c5 ?_)
     case own => exact HO.out.1.alloc _
     case c1 => exact one_new0 _ _ _ (by simp)
     case c2 => intro v hv; rw [List.mem_singleton.1 hv]; rfl
     case c3 => unfold maxLen; omega
     case c4 => omega
     case c5 => simp; omega
     intro xv w3 hown hgrow _ _
     have HX : Hid (w3.ownsRow w.heap.size 131 1 xv (outs ++ [Value.iface 173 (.pointer (some ⟨b, 0, none⟩))]).length (outs ++ [.iface 173 (.pointer (some ⟨b, 0, none⟩))]) ∧ F0 w w3) := hid (by
      refine ⟨?_, grown_f0 (HO.out.2.2.allocA _) hgrow (own_base HO.out.1)⟩;rw [List.length_append];exact hown)
     clear hown hgrow;go_wp2_with fail
     go_roundg (es.length - (i + 1))
     case rel => exact ⟨i + 1, _, by go_num, by omega, rfl, by rw [List.length_append]; show outs.length + 1 ≤ _; omega, hid ⟨HX.out.1, HN.out, HX.out.2⟩⟩
     case measure => omega
    | sect n inv fs =>
     have h0 := HE.out;unfold EAt at h0;obtain ⟨b, nb, line, sv, vs9, rfl, -⟩ := h0;simp only [pv] at hcell;have tav := fun (W : World) => ta_sv W b
     have tas := fun (W : World) => ta_ss W b
     have HN : Hid (EsAt w S prov ((es.take (i + 1)).filter isTg) (outs ++ [.iface 165 (.pointer (some ⟨b, 0, none⟩))])) := hid (by
      rw [HTK.out];exact HO.out.2.1.append (EsAt.one HE.out))
     go_wp2_with (at_builtin; refine wpList_append_own_at _ rfl _ _ 84 rfl w.heap.size 131 i0 .nilIface 1 16 Tryz.underlying84 hi hz1 hz2 hz3 rfl (by decide) u3 outs.length outs rfl ?own ⟨_, 0, none⟩ 1 1 [.iface 165 (.pointer (some ⟨b, 0, none⟩))] rfl rfl ?c1 ?c2 ?c3 ?c4 ?c5 ?_)
     case own => exact HO.out.1.alloc _
     case c1 => exact one_new0 _ _ _ (by simp)
     case c2 => intro v hv; rw [List.mem_singleton.1 hv]; rfl
     case c3 => unfold maxLen; omega
     case c4 => omega
     case c5 => simp; omega
     intro xv w3 hown hgrow _ _
     have HX : Hid (w3.ownsRow w.heap.size 131 1 xv (outs ++ [Value.iface 165 (.pointer (some ⟨b, 0, none⟩))]).length (outs ++ [.iface 165 (.pointer (some ⟨b, 0, none⟩))]) ∧ F0 w w3) := hid (by
      refine ⟨?_, grown_f0 (HO.out.2.2.allocA _) hgrow (own_base HO.out.1)⟩;rw [List.length_append];exact hown)
     clear hown hgrow;go_wp2_with fail
     go_roundg (es.length - (i + 1))
     case rel => exact ⟨i + 1, _, by go_num, by omega, rfl, by rw [List.length_append]; show outs.length + 1 ≤ _; omega, hid ⟨HX.out.1, HN.out, HX.out.2⟩⟩
     case measure => omega
    | part n ind =>
     have h0 := HE.out;unfold EAt at h0;obtain ⟨b, nb, ib, rfl, -⟩ := h0;simp only [pv] at hcell;have tav := fun (W : World) => ta_pv W b
     have tas := fun (W : World) => ta_ps W b
     have tap := fun (W : World) => ta_pp W b
     have HN : Hid (EsAt w S prov ((es.take (i + 1)).filter isTg) (outs ++ [.iface 170 (.pointer (some ⟨b, 0, none⟩))])) := hid (by
      rw [HTK.out];exact HO.out.2.1.append (EsAt.one HE.out))
     go_wp2_with (at_builtin; refine wpList_append_own_at _ rfl _ _ 84 rfl w.heap.size 131 i0 .nilIface 1 16 Tryz.underlying84 hi hz1 hz2 hz3 rfl (by decide) u3 outs.length outs rfl ?own ⟨_, 0, none⟩ 1 1 [.iface 170 (.pointer (some ⟨b, 0, none⟩))] rfl rfl ?c1 ?c2 ?c3 ?c4 ?c5 ?_)
     case own => exact HO.out.1.alloc _
     case c1 => exact one_new0 _ _ _ (by simp)
     case c2 => intro v hv; rw [List.mem_singleton.1 hv]; rfl
     case c3 => unfold maxLen; omega
     case c4 => omega
     case c5 => simp; omega
     intro xv w3 hown hgrow _ _
     have HX : Hid (w3.ownsRow w.heap.size 131 1 xv (outs ++ [Value.iface 170 (.pointer (some ⟨b, 0, none⟩))]).length (outs ++ [.iface 170 (.pointer (some ⟨b, 0, none⟩))]) ∧ F0 w w3) := hid (by
      refine ⟨?_, grown_f0 (HO.out.2.2.allocA _) hgrow (own_base HO.out.1)⟩;rw [List.length_append];exact hown)
     clear hown hgrow;go_wp2_with fail
     go_roundg (es.length - (i + 1))
     case rel => exact ⟨i + 1, _, by go_num, by omega, rfl, by rw [List.length_append]; show outs.length + 1 ≤ _; omega, hid ⟨HX.out.1, HN.out, HX.out.2⟩⟩
     case measure => omega
  · go_wp2_with fail
    go_ret;have ho := HO.out
    rw [List.take_of_length_le (by omega)] at ho;exact ⟨_, outs, rfl, hid ⟨ho.1, EsAt.keep (fun k hk => ho.2.2.block k (HSS.out k hk) id) (fun _ h => h) _ _ ho.2.1, ho.2.2⟩⟩
theorem ttags_any (t : Nat) (x : Tm) (es : List Mu.Elem) (vs : List Value) (w : World) (S : Nat → Prop) (prov : Value) (ht : TmAt w t x) (hrow : RowAt w S x.el vs) (hes : EsAt w S prov es vs) (hS : ∀ k, S k → k < w.heap.size) (hlen : es.length ≤ 2147483647) :
 Calls Tryz.prog 48 #[.pointer (some ⟨t, 0, none⟩)] w (XtPost es S prov w) := by
 have HX := hid (extract_any es x.el vs w S prov hrow hes hS hlen)
 have c5 := ht.cells.2.2.2.2.2.1
 have lt := blk_lt ht
 obtain ⟨ca, cc, hcv, -⟩ := hrow
 rw [hcv] at HX c5
 clear hes hS ht hcv
 go_enter Tryz.func48, Tryz.ntmps48
 go_wp2_with fail
 refine HX.out.mono ?_
 rintro e w1 ⟨v, us, rfl, HV⟩
 go_wp2_with fail
 go_ret
 exact ⟨v, us, rfl, HV⟩
end Go.Proofs.YtfakghnpkdoclaaGreatDoor
namespace Go.Proofs.YtfakghnpkdoclaaGreatDoor
open Go.RowKit
open Go.Lib (hid)
mutual
def GAt (w : World) (S : Nat → Prop) : Mu.Tg → List Value → Prop
 | .mk ty n ts, cs => ∃ (nb : ByteArray) (sv : Value) (vs : List Value), cs = [.int .i64 ty, .string nb, sv] ∧ L nb = n ∧ RowN w S 3 sv ts.length vs ∧ GsAt w S ts vs
def GsAt (w : World) (S : Nat → Prop) : List Mu.Tg → List Value → Prop
 | [], vs => vs = []
 | g :: gs, vs => ∃ c vs', vs = c ++ vs' ∧ GAt w S g c ∧ GsAt w S gs vs'
end
mutual
theorem GAt.keep {w w' : World} {S S' : Nat → Prop} (hk : Keep S w w') (hS : ∀ k, S k → S' k) : ∀ (n : Mu.Tg) (cs : List Value), GAt w S n cs → GAt w' S' n cs
 | .mk ty n ts, cs, h => by
  unfold GAt at h ⊢;obtain ⟨nb, sv, vs, h1, h2, h3, h4⟩ := h;exact ⟨nb, sv, vs, h1, h2, h3.keep hk hS, GsAt.keep hk hS ts vs h4⟩
theorem GsAt.keep {w w' : World} {S S' : Nat → Prop} (hk : Keep S w w') (hS : ∀ k, S k → S' k) : ∀ (ns : List Mu.Tg) (vs : List Value), GsAt w S ns vs → GsAt w' S' ns vs
 | [], vs, h => by unfold GsAt at h ⊢; exact h
 | n :: ns, vs, h => by
  unfold GsAt at h ⊢;obtain ⟨c, vs', h1, h2, h3⟩ := h;exact ⟨c, vs', h1, GAt.keep hk hS n c h2, GsAt.keep hk hS ns vs' h3⟩
end
theorem GsAt.snoc {w : World} {S : Nat → Prop} {g : Mu.Tg} {c : List Value} : ∀ {ns : List Mu.Tg} {vs : List Value}, GsAt w S ns vs → GAt w S g c → GsAt w S (ns ++ [g]) (vs ++ c)
 | [], vs, h, k => by
  unfold GsAt at h;subst h;show GsAt w S [g] c;unfold GsAt;exact ⟨c, [], by simp, k, by unfold GsAt; rfl⟩
 | n :: ns, vs, h, k => by
  unfold GsAt at h;obtain ⟨c', vs', rfl, h2, h3⟩ := h;show GsAt w S (n :: (ns ++ [g])) (c' ++ vs' ++ c);unfold GsAt;exact ⟨c', _, by rw [List.append_assoc], h2, GsAt.snoc h3 k⟩
structure GTag (w0 w : World) (v : Value) (l : List Mu.Tg) (vs : List Value) : Prop where
 own : w.ownsRow w0.heap.size 91 3 v l.length vs
 fr : F0 w0 w
 gs : ∃ S, GsAt w S l vs ∧ ∀ k, S k → (w0.heap.size ≤ k ∧ k < w.heap.size) ∧ v.ownBlock ≠ some k
theorem GTag.add {w0 w w2 w4 : World} {v v' : Value} {l : List Mu.Tg} {vs c : List Value} {g : Mu.Tg} {S2 : Nat → Prop} (h : GTag w0 w v l vs) (hf : F0 w w2) (hc : GAt w2 S2 g c) (h2 : ∀ k, S2 k → w.heap.size ≤ k ∧ k < w2.heap.size) {O : Obj}
 (ho : w4.ownsRow w0.heap.size 91 3 v' (l.length + 1) (vs ++ c)) (hg : (w2.alloc O).grownBy w4 v.ownBlock) {n : Nat} (hn : n = w2.heap.size + 1) (hb : v'.ownBlock = v.ownBlock ∨ v'.ownBlock = some n) : GTag w0 w4 v' (l ++ [g]) (vs ++ c) := by
 obtain ⟨S, c1, c2⟩ := h.gs
 have hs0 := h.fr.size
 have hs := hf.size
 have hg1 := hg.size
 simp at hg1
 have hkp : ∀ k, k < w2.heap.size → v.ownBlock ≠ some k → w4.heap[k]? = w2.heap[k]? := fun k hk hne => (hg.block k (by simp; omega) (fun e => hne e.symm)).trans (Below.heap_alloc w2 O k hk)
 have hv : ∀ k, v.ownBlock = some k → k < w.heap.size := fun k hk => (h.own.lt k hk).2
 refine ⟨by rw [List.length_append]; exact ho, grown_f0 ((h.fr.trans hf).allocA O) hg (own_base h.own), fun k => S k ∨ S2 k, ?_, ?_⟩
 · refine GsAt.snoc (GsAt.keep (w := w) (S := S) (fun k hk => ?_) (fun _ h => .inl h) _ _ c1) (GAt.keep (w := w2) (S := S2) (fun k hk => ?_) (fun _ h => .inr h) _ _ hc)
   · obtain ⟨a, b⟩ := c2 k hk
     exact (hkp k (by omega) b).trans (hf.block k a.2 id)
   · obtain ⟨a, b⟩ := h2 k hk
     exact hkp k b (fun e => by have := hv k e; omega)
 · rintro k (hk | hk)
   · obtain ⟨a, b⟩ := c2 k hk
     refine ⟨⟨a.1, by omega⟩, fun e => ?_⟩
     rcases hb with hb | hb
     · exact b (hb ▸ e)
     · rw [hb] at e; injection e with e; omega
   · obtain ⟨a, b⟩ := h2 k hk
     refine ⟨⟨by omega, by omega⟩, fun e => ?_⟩
     rcases hb with hb | hb
     · have := hv k (hb ▸ e); omega
     · rw [hb] at e; injection e with e; omega
theorem infoITag : (Tryz.prog.info? 91).map (fun i => (i.zero, i.size, i.bytes)) = some (some (.agg #[.int .i64 0, .string ⟨#[]⟩, .slice none 0 0]), 3, 48) := by kernel_rfl
theorem vType (b : Nat) (w : World) : Calls Tryz.prog 180 #[.pointer (some ⟨b, 0, none⟩)] w (fun e w' => e = .returned (.int .u64 1) ∧ w' = w) := by
 skip
 go_enter Tryz.func180, Tryz.ntmps180
 go_wp2_with fail
 go_ret
 exact ⟨rfl, rfl⟩
theorem pType (b : Nat) (w : World) : Calls Tryz.prog 177 #[.pointer (some ⟨b, 0, none⟩)] w (fun e w' => e = .returned (.int .u64 4) ∧ w' = w) := by
 skip
 go_enter Tryz.func177, Tryz.ntmps177
 go_wp2_with fail
 go_ret
 exact ⟨rfl, rfl⟩
theorem vName (b : Nat) (nb : ByteArray) (raw : Bool) (w : World) (hb : w.heap[b]? = some (.cells #[.string nb, .bool raw] 175 (0, 0))) : Calls Tryz.prog 178 #[.pointer (some ⟨b, 0, none⟩)] w (fun e w' => e = .returned (.string nb) ∧ w' = w) := by
 have c0 := blk_cell hb 0
 have hl := blk_lt hb
 simp only [List.getElem?_toArray, List.getElem?_cons_zero, List.getElem?_cons_succ] at c0
 clear hb
 go_enter Tryz.func178, Tryz.ntmps178
 go_wp2_with fail
 go_ret
 exact ⟨rfl, rfl⟩
theorem sName (b : Nat) (nb : ByteArray) (inv : Bool) (line : Int) (sv : Value) (w : World) (hb : w.heap[b]? = some (.cells #[.string nb, .bool inv, .int .i64 line, sv] 163 (0, 0))) : Calls Tryz.prog 171 #[.pointer (some ⟨b, 0, none⟩)] w (fun e w' => e = .returned (.string nb) ∧ w' = w) := by
 have c0 := blk_cell hb 0
 have hl := blk_lt hb
 simp only [List.getElem?_toArray, List.getElem?_cons_zero, List.getElem?_cons_succ] at c0
 clear hb
 go_enter Tryz.func171, Tryz.ntmps171
 go_wp2_with fail
 go_ret
 exact ⟨rfl, rfl⟩
theorem pName (b : Nat) (nb ib : ByteArray) (prov : Value) (w : World) (hb : w.heap[b]? = some (.cells #[.string nb, .string ib, prov] 185 (0, 0))) : Calls Tryz.prog 175 #[.pointer (some ⟨b, 0, none⟩)] w (fun e w' => e = .returned (.string nb) ∧ w' = w) := by
 have c0 := blk_cell hb 0
 have hl := blk_lt hb
 simp only [List.getElem?_toArray, List.getElem?_cons_zero, List.getElem?_cons_succ] at c0
 clear hb
 go_enter Tryz.func175, Tryz.ntmps175
 go_wp2_with fail
 go_ret
 exact ⟨rfl, rfl⟩
theorem sType (b : Nat) (nb : ByteArray) (inv : Bool) (line : Int) (sv : Value) (w : World) (hb : w.heap[b]? = some (.cells #[.string nb, .bool inv, .int .i64 line, sv] 163 (0, 0))) : Calls Tryz.prog 173 #[.pointer (some ⟨b, 0, none⟩)] w (fun e w' => e = .returned (.int .u64 (if inv then 3 else 2)) ∧ w' = w) := by
 have c1 := blk_cell hb 1
 have hl := blk_lt hb
 simp only [List.getElem?_toArray, List.getElem?_cons_zero, List.getElem?_cons_succ] at c1
 clear hb
 cases inv with
 | true =>
  go_enter Tryz.func173, Tryz.ntmps173;go_wp2_with fail;go_ret;exact ⟨rfl, rfl⟩
 | false =>
  go_enter Tryz.func173, Tryz.ntmps173;go_wp2_with fail;go_ret;exact ⟨rfl, rfl⟩
theorem sTags (b : Nat) (nb : ByteArray) (inv : Bool) (line : Int) (sv : Value) (es : List Mu.Elem) (vs : List Value) (S : Nat → Prop) (prov : Value) (w : World) (hb : w.heap[b]? = some (.cells #[.string nb, .bool inv, .int .i64 line, sv] 163 (0, 0))) (hrow : RowAt w S sv vs) (hes : EsAt w S prov es vs) (hS : ∀ k, S k → k < w.heap.size) (hlen : es.length ≤ 2147483647) :
 Calls Tryz.prog 172 #[.pointer (some ⟨b, 0, none⟩)] w (XtPost es S prov w) := by
 have HX := hid (extract_any es sv vs w S prov hrow hes hS hlen)
 obtain ⟨ca, cc, rfl, -⟩ := hrow
 clear hes hS
 have c3 := blk_cell hb 3
 have hl := blk_lt hb
 simp only [List.getElem?_toArray, List.getElem?_cons_zero, List.getElem?_cons_succ] at c3
 clear hb
 go_enter Tryz.func172, Tryz.ntmps172
 go_wp2_with fail
 refine HX.out.mono ?_
 rintro e w1 ⟨v, us, rfl, HV⟩
 go_wp2_with fail
 go_ret
 exact ⟨v, us, rfl, HV⟩
end Go.Proofs.YtfakghnpkdoclaaGreatDoor
namespace Go.Proofs.YtfakghnpkdoclaaGreatDoor
open Go.RowKit
open Go.Lib (hid)
theorem three_at {W : World} {b : Nat} {x0 x1 x2 : Value} {t : TypeId} (h : W.heap[b]? = some (.cells #[x0, x1, x2] t (0, 0))) : ∀ (j : Nat) (u : Value), [x0, x1, x2][j]? = some u → W.cell? ((⟨b, 0, none⟩ : Addr).add j) = some u := by
 intro j u hj
 rw [addr_add0, blk_cell h j]
 simpa using hj
mutual
def ezE : Mu.Elem → Nat
 | .sect _ _ es => 1 + ezL es
 | _ => 1
def ezL : List Mu.Elem → Nat
 | [] => 0
 | e :: es => ezE e + ezL es
end
theorem ezL_filter : ∀ es : List Mu.Elem, ezL (es.filter isTg) ≤ ezL es
 | [] => Nat.le_refl _
 | e :: es => by
  have := ezL_filter es;simp only [List.filter_cons]
  split <;> simp only [ezL] <;> omega
theorem ezL_mem {e : Mu.Elem} : ∀ {es : List Mu.Elem}, e ∈ es → ezE e ≤ ezL es
 | x :: es, h => by
  simp only [ezL]
  rcases List.mem_cons.1 h with rfl | h
  · omega
  · have := ezL_mem h; omega
theorem esLen_mem {N : Nat} {e : Mu.Elem} : ∀ {es : List Mu.Elem}, Mu.EsLen N es → e ∈ es → Mu.ELen N e
 | x :: es, h, hm => by
  simp only [Mu.EsLen] at h
  rcases List.mem_cons.1 hm with rfl | hm
  · exact h.1
  · exact esLen_mem h.2 hm
theorem esLen_filter {N : Nat} : ∀ {es : List Mu.Elem}, Mu.EsLen N es → Mu.EsLen N (es.filter isTg)
 | [], h => h
 | x :: es, h => by
  simp only [Mu.EsLen] at h;simp only [List.filter_cons];split
  · simp only [Mu.EsLen]; exact ⟨h.1, esLen_filter h.2⟩
  · exact esLen_filter h.2
theorem tagL_len : ∀ {es : List Mu.Elem}, (∀ e ∈ es, isTg e = true) → (Mu.tagL es).length = es.length
 | [], _ => rfl
 | e :: es, h => by
  have h1 := h e (by simp);have h2 := tagL_len (es := es) (fun x hx => h x (by simp [hx]))
  cases e <;> simp [isTg] at h1 <;> simp [Mu.tagL, Mu.tagE, h2]
theorem tagL_take {es : List Mu.Elem} {i : Nat} (h : i < es.length) : Mu.tagL (es.take (i + 1)) = Mu.tagL (es.take i) ++ Mu.tagE es[i] := by
 rw [List.take_succ_eq_append_getElem h, Mu.tagL_append]
 simp [Mu.tagL]
def TgsPost (ts : List Mu.Tg) (w : World) (e : Ending) (w' : World) : Prop := ∃ v vs S', e = .returned v ∧ Hid (RowN w' S' 3 v ts.length vs ∧ GsAt w' S' ts vs ∧ F0 w w' ∧ ∀ k, S' k → w.heap.size ≤ k ∧ k < w'.heap.size)
def TgC (es : List Mu.Elem) : Prop := ∀ (cv : Value) (us : List Value) (w : World) (S : Nat → Prop) (prov : Value), RowAt w S cv us → EsAt w S prov es us → (∀ k, S k → k < w.heap.size) → (∀ e ∈ es, isTg e = true) → es.length ≤ 2147483647 → Mu.EsLen 2147483647 es → Calls Tryz.prog 47 #[cv] w (TgsPost (Mu.tagL es) w)
theorem tags_one (es : List Mu.Elem) (IH : ∀ n inv fs, Mu.Elem.sect n inv fs ∈ es → TgC (fs.filter isTg)) : TgC es := by
 intro cv us w S prov hrow hes hS htg hlen hel
 obtain ⟨i0, hi, hz1, hz2, hz3⟩ := info_parts infoITag
 have hvl := hes.length
 obtain ⟨ca, cc, rfl, hcells⟩ := hrow
 have HC : Hid (∀ j (h : j < es.length), ∃ g u, ca = some ⟨g, 0, none⟩ ∧ w.cell? ⟨g, j, none⟩ = some u ∧ EAt w S prov es[j] u) := hid (fun j hj => by
  obtain ⟨g, h1, h2, h3⟩ := hcells (by omega);obtain ⟨u, h4, h5⟩ := hes.at j hj;exact ⟨g, u, h1, h3 j u h4, h5⟩)
 have HSC : Hid (∀ (j : Nat) (h : j < es.length) (n : Mu.B) (inv : Bool) (fs : List Mu.Elem), es[j] = .sect n inv fs → ∀ (w5 w6 : World) (v : Value) (vs : List Value), F0 w w5 → w6.ownsRow w5.heap.size 131 1 v vs.length vs → EsAt w6 (fun k => S k ∨ True) prov (fs.filter isTg) vs → True) := hid (fun _ _ _ _ _ _ _ _ _ _ _ _ _ => trivial)
 clear HSC
 have HSE : Hid (∀ (j : Nat) (h : j < es.length) (n : Mu.B) (inv : Bool) (fs : List Mu.Elem), es[j] = .sect n inv fs → ∀ (w5 : World) (b : Nat) (nb : ByteArray) (line : Int) (sv : Value) (vs : List Value), F0 w w5 → w.heap[b]? = some (.cells #[.string nb, .bool inv, .int .i64 line, sv] 163 (0, 0)) → RowAt w S sv vs → EsAt w S prov fs vs →
  Calls Tryz.prog 172 #[.pointer (some ⟨b, 0, none⟩)] w5 (fun e w6 => ∃ v, e = .returned v ∧ Hid (F0 w5 w6 ∧ Calls Tryz.prog 47 #[v] w6 (TgsPost (Mu.tagL fs) w6)))) := hid (fun j hj n inv fs he w5 b nb line sv vs hf hb hr hv => by
  have hm : Mu.Elem.sect n inv fs ∈ es := he ▸ List.getElem_mem hj;have hl := esLen_mem hel hm;simp only [Mu.ELen] at hl;have hk : Keep S w w5 := fun k hk => hf.block k (hS k hk) id
  refine (sTags b nb inv line sv fs vs S prov w5 (hf.blk hb id) (hr.keep hk (fun _ h => h)) (EsAt.keep hk (fun _ h => h) _ _ hv) (fun k hk => Nat.lt_of_lt_of_le (hS k hk) hf.size) hl.1).mono ?_;rintro e w6 ⟨v, us6, rfl, HV⟩;obtain ⟨ho, h2, h3⟩ := HV.out;refine ⟨v, rfl, hid ⟨h3, ?_⟩⟩
  have h4 : RowAt w6 (fun k => v.ownBlock = some k) v us6 := row_of_owns (n := us6.length) (e := 131) ⟨ho.1, by
   rcases ho.2 with h | ⟨g, cap, cur, g1, g2, g3⟩
   · exact .inl h
   · exact .inr ⟨g, cap, cur, g1, Nat.zero_le _, g3⟩⟩
  have := IH n inv fs hm v us6 w6 (fun k => S k ∨ v.ownBlock = some k) prov (h4.keep (fun _ _ => rfl) (fun _ h => .inr h)) (EsAt.keep (fun _ _ => rfl) (fun _ h => .inl h) _ _ h2) (fun k hk => by
   rcases hk with hk | hk
   · exact Nat.lt_of_lt_of_le (hS k hk) (Nat.le_trans hf.size h3.size)
   · exact (ho.lt k hk).2) (fun e he => (List.mem_filter.1 he).2) (Nat.le_trans (List.length_filter_le _ _) hl.1) (esLen_filter hl.2)
  rw [tagL_filter] at this;exact this)
 have HSS := hid hS
 have HTG := hid htg
 rw [hvl]
 clear hes hcells hS hvl htg hel IH
 go_enter Tryz.func47, Tryz.ntmps47
 go_wp2_with fail
 go_loopg [3, 9] es.length (fun g v3 v9 wr => ∃ (i N : Nat) (vs : List Value), v9 = .int .i64 i ∧ i ≤ es.length ∧ g = es.length - i ∧ N ≤ es.length ∧ Hid (GTag w wr v3 (Mu.tagL (es.take i)) vs ∧ (Mu.tagL (es.take i)).length = N))
 case atStart => exact ⟨0, 0, [], rfl, Nat.zero_le _, rfl, Nat.zero_le _, hid ⟨⟨World.ownsRow_nil _ _ _ _, Fr.refl _ _, fun _ => False, by simp [Mu.tagL, GsAt], fun _ h => h.elim⟩, rfl⟩⟩
 case round =>
  obtain ⟨i, N, vs, rfl, hi0, rfl, hN, HG⟩ := hrel
  by_cases hlt : i < es.length
  · obtain ⟨g, u, rfl, hcw, he⟩ := HC.out i hlt
    have hcell := F0.cell HG.out.1.fr hcw;have hsz := HG.out.1.fr.size;have HE := hid he;have HTK := hid (tagL_take hlt)
    have HLE : Hid ((Mu.tagL (es.take (i + 1))).length ≤ es.length) := hid (by
     rw [tagL_len (fun e he => HTG.out e (List.mem_of_mem_take he)), List.length_take]
     omega)
    have hT := HTG.out es[i] (List.getElem_mem hlt);clear hcw he;obtain ⟨e0, he0⟩ : ∃ e0, es[i] = e0 := ⟨_, rfl⟩
    have HE0 := hid he0;rw [he0] at HE HTK hT;clear he0
    cases e0 with
    | text t => cases hT
    | var n raw =>
     have h0 := HE.out;unfold EAt at h0;obtain ⟨b, nb, rfl, hSb, hb, hnb⟩ := h0;simp only [pv] at hcell;have hbr := HG.out.1.fr.blk hb id;have HBR := hid hbr;have HNB := hid hnb;clear hSb hb hbr hnb hT;go_wp2_with fail;refine (vType b _).mono ?_;rintro e wq ⟨rfl, hwz⟩;rw [hwz];clear hwz;go_wp2_with fail;refine (vName b nb raw _ HBR.out).mono ?_;rintro e wq ⟨rfl, hwz⟩;rw [hwz];clear hwz
     go_wp2_with fail;refine (vType b _).mono ?_
     rintro e wq ⟨rfl, hwz⟩;rw [hwz];clear hwz;go_wp2_with fail;refine (vType b _).mono ?_;rintro e wq ⟨rfl, hwz⟩;rw [hwz];clear hwz
     go_wp2_with (at_builtin; refine wpList_append_own_at _ rfl _ _ 47 rfl w.heap.size 91 i0 (.agg #[.int .i64 0, .string ⟨#[]⟩, .slice none 0 0]) 3 48 Tryz.underlying47 hi hz1 hz2 hz3 rfl (by decide) u3 N vs rfl ?own ⟨_, 0, none⟩ 1 1 [.int .i64 1, .string nb, .slice none 0 0] rfl rfl ?c1 ?c2 ?c3 ?c4 ?c5 ?_)
     case own =>
      rw [← HG.out.2];exact (HG.out.1.own.alloc _).alloc _
     case c1 => exact three_at (by simpa using blk_new (wr.alloc (.cells #[.int .i64 1, .string nb, .slice none 0 0] 91)) (.cells #[.int .i64 1, .string nb, .slice none 0 0] 91))
     case c2 =>
      intro v hv;simp only [List.mem_cons, List.not_mem_nil, or_false] at hv
      rcases hv with rfl | rfl | rfl <;> rfl
     case c3 => unfold maxLen; omega
     case c4 => omega
     case c5 => simp; omega
     intro xv w3 hown hgrow _ hat
     have HX : Hid (GTag w w3 xv (Mu.tagL (es.take (i + 1))) (vs ++ [.int .i64 1, .string nb, .slice none 0 0])) := hid (by
      rw [HTK.out];exact HG.out.1.add (S2 := fun _ => False) (Fr.alloc _ _ _) (by unfold GAt; exact ⟨nb, _, [], rfl, HNB.out, RowN.none_ _ _ _, by unfold GsAt; rfl⟩) (fun _ h => h.elim) (by rw [HG.out.2]; exact hown) hgrow (by simp) hat)
     clear hown hgrow hat;go_wp2_with fail
     go_roundg (es.length - (i + 1))
     case rel => exact ⟨i + 1, _, _, by go_num, by omega, rfl, HLE.out, hid ⟨HX.out, rfl⟩⟩
     case measure => omega
    | part n pin =>
     have h0 := HE.out;unfold EAt at h0;obtain ⟨b, nb, ib, rfl, hSb, hb, hnb, -⟩ := h0;simp only [pv] at hcell;have hbr := HG.out.1.fr.blk hb id;have HBR := hid hbr;have HNB := hid hnb;clear hSb hb hbr hnb hT;go_wp2_with fail;refine (pType b _).mono ?_;rintro e wq ⟨rfl, hwz⟩;rw [hwz];clear hwz;go_wp2_with fail;refine (pName b nb ib prov _ HBR.out).mono ?_;rintro e wq ⟨rfl, hwz⟩;rw [hwz]
     clear hwz;go_wp2_with fail;refine (pType b _).mono ?_;rintro e wq ⟨rfl, hwz⟩;rw [hwz];clear hwz;go_wp2_with fail;refine (pType b _).mono ?_;rintro e wq ⟨rfl, hwz⟩;rw [hwz];clear hwz
     go_wp2_with (at_builtin; refine wpList_append_own_at _ rfl _ _ 47 rfl w.heap.size 91 i0 (.agg #[.int .i64 0, .string ⟨#[]⟩, .slice none 0 0]) 3 48 Tryz.underlying47 hi hz1 hz2 hz3 rfl (by decide) u3 N vs rfl ?own ⟨_, 0, none⟩ 1 1 [.int .i64 4, .string nb, .slice none 0 0] rfl rfl ?c1 ?c2 ?c3 ?c4 ?c5 ?_)
     case own =>
      rw [← HG.out.2];exact (HG.out.1.own.alloc _).alloc _
     case c1 => exact three_at (by simpa using blk_new (wr.alloc (.cells #[.int .i64 4, .string nb, .slice none 0 0] 91)) (.cells #[.int .i64 4, .string nb, .slice none 0 0] 91))
     case c2 =>
      intro v hv;simp only [List.mem_cons, List.not_mem_nil, or_false] at hv
      rcases hv with rfl | rfl | rfl <;> rfl
     case c3 => unfold maxLen; omega
     case c4 => omega
     case c5 => simp; omega
     intro xv w3 hown hgrow _ hat
     have HX : Hid (GTag w w3 xv (Mu.tagL (es.take (i + 1))) (vs ++ [.int .i64 4, .string nb, .slice none 0 0])) := hid (by
      rw [HTK.out];exact HG.out.1.add (S2 := fun _ => False) (Fr.alloc _ _ _) (by unfold GAt; exact ⟨nb, _, [], rfl, HNB.out, RowN.none_ _ _ _, by unfold GsAt; rfl⟩) (fun _ h => h.elim) (by rw [HG.out.2]; exact hown) hgrow (by simp) hat)
     clear hown hgrow hat;go_wp2_with fail
     go_roundg (es.length - (i + 1))
     case rel => exact ⟨i + 1, _, _, by go_num, by omega, rfl, HLE.out, hid ⟨HX.out, rfl⟩⟩
     case measure => omega
    | sect n inv fs =>
     have h0 := HE.out;unfold EAt at h0;obtain ⟨b, nb, line, sv, vs9, rfl, hSb, hb, hnb, hrw, hes⟩ := h0;simp only [pv] at hcell;have HB0 := hid hb;have HBR := hid (HG.out.1.fr.blk hb id);have HNB := hid hnb;have HRW := hid hrw;have HES := hid hes;clear hSb hb hnb hrw hes hT;obtain ⟨wr0, hwr0⟩ : ∃ wr0, wr0 = wr := ⟨_, rfl⟩
     subst hwr0
     cases inv with
     | true =>
      go_wp2_with fail;refine (sType b nb true line sv _ HBR.out).mono ?_
      rintro e wq ⟨rfl, hwz⟩;rw [hwz];clear hwz;go_wp2_with fail;refine (sName b nb true line sv _ HBR.out).mono ?_;rintro e wq ⟨rfl, hwz⟩;rw [hwz];clear hwz;obtain ⟨wt, hwt⟩ : ∃ wt, wt = wr0.alloc (.cells #[.int .i64 3, .string nb, .slice none 0 0] 91) := ⟨_, rfl⟩
      have hft : F0 wr0 wt := by rw [hwt]; exact Fr.alloc _ _ _
      have htb : wt.heap[wr0.heap.size]? = some (.cells #[.int .i64 3, .string nb, .slice none 0 0] 91 (0, 0)) := by rw [hwt]; exact blk_new _ _
      have HFT := hid hft;have HTB := hid htb;have HBT := hid (hft.blk HBR.out id);clear hft htb;go_wp2_with fail;rw [← hwt];clear hwt;refine (sType b nb true line sv _ HBT.out).mono ?_;rintro e wy ⟨rfl, hwy⟩;rw [hwy];clear hwy;go_wp2_with fail;refine (sType b nb true line sv _ HBT.out).mono ?_;rintro e wx ⟨rfl, hwx⟩;rw [hwx];clear hwx;go_wp2_with fail
      refine (HSE.out i hlt n true fs HE0.out wt b nb line sv vs9 (HG.out.1.fr.trans HFT.out) HB0.out HRW.out HES.out).mono ?_;rintro e w5 ⟨v5, rfl, H5⟩;go_wp2_with fail;refine (H5.out.2).mono ?_;rintro e w6 ⟨v6, vs6, S6, rfl, H6⟩;have hf6 : F0 wt w6 := H5.out.1.trans H6.out.2.2.1;have htb6 := hf6.blk HTB.out id;have g0 := blk_cell htb6 0;have g1 := blk_cell htb6 1;have g2 := blk_cell htb6 2
      have gf := blk_free htb6 2;have gl := blk_lt htb6;simp only [List.getElem?_toArray, List.getElem?_cons_zero, List.getElem?_cons_succ] at g0 g1 g2;obtain ⟨-, a6, c6, rfl, -⟩ := id H6.out.1;obtain ⟨w7, hw7⟩ : ∃ w7, w7 = w6.setCell ⟨wr0.heap.size, 2, none⟩ (.slice a6 (Mu.tagL fs).length c6) := ⟨_, rfl⟩
      have htb7 : w7.heap[wr0.heap.size]? = some (.cells #[.int .i64 3, .string nb, .slice a6 (Mu.tagL fs).length c6] 91 (0, 0)) := by
       rw [hw7];have := blk_set (i := 2) (.slice a6 (Mu.tagL fs).length c6) htb6;simpa using this
      have k0 := blk_cell htb7 0;have k1 := blk_cell htb7 1;have k2 := blk_cell htb7 2;have kl := blk_lt htb7;simp only [List.getElem?_toArray, List.getElem?_cons_zero, List.getElem?_cons_succ] at k0 k1 k2
      have HF7 : Hid (F0 wr0 w7 ∧ GAt w7 S6 (.mk 3 n (Mu.tagL fs)) [.int .i64 3, .string nb, .slice a6 (Mu.tagL fs).length c6] ∧ ∀ k, S6 k → wr0.heap.size ≤ k ∧ k < w7.heap.size) := hid (by
       have hft' := HFT.out;have h67 : Fr (· = wr0.heap.size) w6 w7 := by rw [hw7]; exact (Fr.refl (· = wr0.heap.size) w6).setA ⟨wr0.heap.size, 2, none⟩ _ (.inl rfl)
       have hz6 := hf6.size;have hz5 := H5.out.1.size;have hzt := blk_lt HTB.out;have hs67 : w7.heap.size = w6.heap.size := by rw [hw7]; simp [World.setCell]
       have hkp : Keep S6 w6 w7 := fun k hk => by
        have := H6.out.2.2.2 k hk;exact h67.block k this.2 (fun h => by omega)
       refine ⟨(hft'.trans hf6).trans' h67 (fun i' hi' hm' => by omega), ?_, fun k hk => by have := H6.out.2.2.2 k hk; omega⟩;unfold GAt;exact ⟨nb, _, vs6, rfl, HNB.out, H6.out.1.keep hkp (fun _ h => h), GsAt.keep hkp (fun _ h => h) _ _ H6.out.2.1⟩)
      have hsz7 := HF7.out.1.size;have HSW : Hid (w7.heap.size = w6.heap.size) := hid (by rw [hw7]; simp [World.setCell]);have HW7 := hid hw7;clear hf6 htb6 htb7 hw7
      go_wp2_with (at_builtin; rw [← HW7.out]; refine wpList_append_own_at _ rfl _ _ 47 rfl w.heap.size 91 i0 (.agg #[.int .i64 0, .string ⟨#[]⟩, .slice none 0 0]) 3 48 Tryz.underlying47 hi hz1 hz2 hz3 rfl (by decide) u3 N vs rfl ?own ⟨_, 0, none⟩ 1 1 [.int .i64 3, .string nb, .slice a6 (Mu.tagL fs).length c6] rfl rfl ?c1 ?c2 ?c3 ?c4 ?c5 ?_)
      case own =>
       rw [← HG.out.2];exact (ownsRow_of_block HG.out.1.own (fun k hk => HF7.out.1.block k (HG.out.1.own.lt k hk).2 id)).alloc _
      case c1 => exact three_at (by have := blk_new w7 (.cells #[.int .i64 3, .string nb, .slice a6 (Mu.tagL fs).length c6] 91); rw [HSW.out] at this; exact this)
      case c2 =>
       intro v hv;simp only [List.mem_cons, List.not_mem_nil, or_false] at hv
       rcases hv with rfl | rfl | rfl <;> rfl
      case c3 => unfold maxLen; omega
      case c4 => omega
      case c5 => simp; omega
      intro xv w3 hown hgrow _ hat
      have HX : Hid (GTag w w3 xv (Mu.tagL (es.take (i + 1))) (vs ++ [.int .i64 3, .string nb, .slice a6 (Mu.tagL fs).length c6])) := hid (by
       rw [HTK.out];exact HG.out.1.add (S2 := S6) HF7.out.1 HF7.out.2.1 HF7.out.2.2 (by rw [HG.out.2]; exact hown) hgrow (by simp) hat)
      clear hown hgrow hat;go_wp2_with fail
      go_roundg (es.length - (i + 1))
      case rel => exact ⟨i + 1, _, _, by go_num, by omega, rfl, HLE.out, hid ⟨HX.out, rfl⟩⟩
      case measure => omega
     | false =>
      go_wp2_with fail;refine (sType b nb false line sv _ HBR.out).mono ?_
      rintro e wq ⟨rfl, hwz⟩;rw [hwz];clear hwz;go_wp2_with fail;refine (sName b nb false line sv _ HBR.out).mono ?_;rintro e wq ⟨rfl, hwz⟩;rw [hwz];clear hwz;obtain ⟨wt, hwt⟩ : ∃ wt, wt = wr0.alloc (.cells #[.int .i64 2, .string nb, .slice none 0 0] 91) := ⟨_, rfl⟩
      have hft : F0 wr0 wt := by rw [hwt]; exact Fr.alloc _ _ _
      have htb : wt.heap[wr0.heap.size]? = some (.cells #[.int .i64 2, .string nb, .slice none 0 0] 91 (0, 0)) := by rw [hwt]; exact blk_new _ _
      have HFT := hid hft;have HTB := hid htb;have HBT := hid (hft.blk HBR.out id);clear hft htb;go_wp2_with fail;rw [← hwt];clear hwt;refine (sType b nb false line sv _ HBT.out).mono ?_;rintro e wy ⟨rfl, hwy⟩;rw [hwy];clear hwy;go_wp2_with fail;refine (HSE.out i hlt n false fs HE0.out wt b nb line sv vs9 (HG.out.1.fr.trans HFT.out) HB0.out HRW.out HES.out).mono ?_;rintro e w5 ⟨v5, rfl, H5⟩
      go_wp2_with fail;refine (H5.out.2).mono ?_
      rintro e w6 ⟨v6, vs6, S6, rfl, H6⟩;have hf6 : F0 wt w6 := H5.out.1.trans H6.out.2.2.1;have htb6 := hf6.blk HTB.out id;have g0 := blk_cell htb6 0;have g1 := blk_cell htb6 1;have g2 := blk_cell htb6 2;have gf := blk_free htb6 2;have gl := blk_lt htb6;simp only [List.getElem?_toArray, List.getElem?_cons_zero, List.getElem?_cons_succ] at g0 g1 g2;obtain ⟨-, a6, c6, rfl, -⟩ := id H6.out.1
      obtain ⟨w7, hw7⟩ : ∃ w7, w7 = w6.setCell ⟨wr0.heap.size, 2, none⟩ (.slice a6 (Mu.tagL fs).length c6) := ⟨_, rfl⟩
      have htb7 : w7.heap[wr0.heap.size]? = some (.cells #[.int .i64 2, .string nb, .slice a6 (Mu.tagL fs).length c6] 91 (0, 0)) := by
       rw [hw7];have := blk_set (i := 2) (.slice a6 (Mu.tagL fs).length c6) htb6;simpa using this
      have k0 := blk_cell htb7 0;have k1 := blk_cell htb7 1;have k2 := blk_cell htb7 2;have kl := blk_lt htb7;simp only [List.getElem?_toArray, List.getElem?_cons_zero, List.getElem?_cons_succ] at k0 k1 k2
      have HF7 : Hid (F0 wr0 w7 ∧ GAt w7 S6 (.mk 2 n (Mu.tagL fs)) [.int .i64 2, .string nb, .slice a6 (Mu.tagL fs).length c6] ∧ ∀ k, S6 k → wr0.heap.size ≤ k ∧ k < w7.heap.size) := hid (by
       have hft' := HFT.out;have h67 : Fr (· = wr0.heap.size) w6 w7 := by rw [hw7]; exact (Fr.refl (· = wr0.heap.size) w6).setA ⟨wr0.heap.size, 2, none⟩ _ (.inl rfl)
       have hz6 := hf6.size;have hz5 := H5.out.1.size;have hzt := blk_lt HTB.out;have hs67 : w7.heap.size = w6.heap.size := by rw [hw7]; simp [World.setCell]
       have hkp : Keep S6 w6 w7 := fun k hk => by
        have := H6.out.2.2.2 k hk;exact h67.block k this.2 (fun h => by omega)
       refine ⟨(hft'.trans hf6).trans' h67 (fun i' hi' hm' => by omega), ?_, fun k hk => by have := H6.out.2.2.2 k hk; omega⟩;unfold GAt;exact ⟨nb, _, vs6, rfl, HNB.out, H6.out.1.keep hkp (fun _ h => h), GsAt.keep hkp (fun _ h => h) _ _ H6.out.2.1⟩)
      have hsz7 := HF7.out.1.size;have HSW : Hid (w7.heap.size = w6.heap.size) := hid (by rw [hw7]; simp [World.setCell]);have HW7 := hid hw7;clear hf6 htb6 htb7 hw7
      go_wp2_with (at_builtin; rw [← HW7.out]; refine wpList_append_own_at _ rfl _ _ 47 rfl w.heap.size 91 i0 (.agg #[.int .i64 0, .string ⟨#[]⟩, .slice none 0 0]) 3 48 Tryz.underlying47 hi hz1 hz2 hz3 rfl (by decide) u3 N vs rfl ?own ⟨_, 0, none⟩ 1 1 [.int .i64 2, .string nb, .slice a6 (Mu.tagL fs).length c6] rfl rfl ?c1 ?c2 ?c3 ?c4 ?c5 ?_)
      case own =>
       rw [← HG.out.2];exact (ownsRow_of_block HG.out.1.own (fun k hk => HF7.out.1.block k (HG.out.1.own.lt k hk).2 id)).alloc _
      case c1 => exact three_at (by have := blk_new w7 (.cells #[.int .i64 2, .string nb, .slice a6 (Mu.tagL fs).length c6] 91); rw [HSW.out] at this; exact this)
      case c2 =>
       intro v hv;simp only [List.mem_cons, List.not_mem_nil, or_false] at hv
       rcases hv with rfl | rfl | rfl <;> rfl
      case c3 => unfold maxLen; omega
      case c4 => omega
      case c5 => simp; omega
      intro xv w3 hown hgrow _ hat
      have HX : Hid (GTag w w3 xv (Mu.tagL (es.take (i + 1))) (vs ++ [.int .i64 2, .string nb, .slice a6 (Mu.tagL fs).length c6])) := hid (by
       rw [HTK.out];exact HG.out.1.add (S2 := S6) HF7.out.1 HF7.out.2.1 HF7.out.2.2 (by rw [HG.out.2]; exact hown) hgrow (by simp) hat)
      clear hown hgrow hat;go_wp2_with fail
      go_roundg (es.length - (i + 1))
      case rel => exact ⟨i + 1, _, _, by go_num, by omega, rfl, HLE.out, hid ⟨HX.out, rfl⟩⟩
      case measure => omega
  · go_wp2_with fail
    go_ret;have ho := HG.out.1
    rw [List.take_of_length_le (by omega)] at ho;obtain ⟨S', g1, g2⟩ := ho.gs;refine ⟨_, vs, fun k => S' k ∨ u3.ownBlock = some k, rfl, hid ⟨(row_of_own ho.own).keep (fun _ _ => rfl) (fun _ h => .inr h), GsAt.keep (fun _ _ => rfl) (fun _ h => .inl h) _ _ g1, ho.fr, ?_⟩⟩;rintro k (hk | hk)
    · exact (g2 k hk).1
    · exact ho.own.lt k hk
theorem tags_all : ∀ (n : Nat) (es : List Mu.Elem), ezL es ≤ n → TgC es
 | 0, es, h => tags_one es (fun nm inv fs hm => absurd (ezL_mem hm) (by simp only [ezE]; omega))
 | n + 1, es, h => tags_one es (fun nm inv fs hm => tags_all n _ (by
  have h1 := ezL_mem hm;simp only [ezE] at h1;have h2 := ezL_filter fs
  omega))
end Go.Proofs.YtfakghnpkdoclaaGreatDoor
