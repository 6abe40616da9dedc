/-
  The specification's section. (Joined by wip/pack.py.)
-/
import Derived.Test.YtfakghnpkdoclaaGreatDoorGU1
import Derived.Deep.RegionLawGrows
set_option linter.unusedVariables false
set_option linter.unusedSimpArgs false
set_option maxRecDepth 100000
set_option maxHeartbeats 8000000
namespace Go.Proofs.YtfakghnpkdoclaaGreatDoor
open Go.RowKit
open Go.Lib (hid)
theorem infoVal : (Tryz.prog.info? 25).map (fun i => (i.zero, i.size, i.bytes)) = some (some (.agg #[.int .i64 0, .string ⟨#[]⟩, .int .i64 0, .bool false, .slice none 0 0, .slice none 0 0]), 6, 88) := by kernel_rfl
theorem sNode_isSec {k : Nat} (h : isSec k) (parts : List (Mu.B × Mu.B)) (raw : Bool) (rec : List Mu.Node → List Mu.Val → Mu.RS → Mu.SRes) (stack : List Mu.Val) (t : Mu.B) (r : Bool) (ind : Mu.B) (kids : List Mu.Node) (st : Mu.RS) :
 Mu.sNode parts raw rec stack (.mk k t r ind kids) st = if Mu.secOpen (Mu.lookS stack t) then none else if k = 4 then (if (Mu.secList (Mu.lookS stack t)).isEmpty then rec kids stack st else some ([], st)) else Mu.sAll (fun x s => rec kids (x :: stack) s) (Mu.secList (Mu.lookS stack t)) st := by
 obtain ⟨h1, h6, h2, h5⟩ := h
 simp only [Mu.sNode, if_neg h1, if_neg h6, if_neg h2, if_neg h5]
def flatV (us : List Value) : List Value := us.flatMap fun u => u.cells.toList
theorem flat_cons (u : Value) (us : List Value) : flatV (u :: us) = u.cells.toList ++ flatV us := rfl
theorem agg_cells (x0 x1 x2 x3 x4 x5 : Value) : (Value.agg #[x0, x1, x2, x3, x4, x5]).cells.toList = [x0, x1, x2, x3, x4, x5] := rfl
def Six (u : Value) : Prop := ∃ x0 x1 x2 x3 x4 x5, u = .agg #[x0, x1, x2, x3, x4, x5]
theorem flat_len : ∀ {us : List Value}, (∀ u ∈ us, Six u) → (flatV us).length = us.length * 6
 | [], _ => rfl
 | u :: us, h => by
  obtain ⟨x0, x1, x2, x3, x4, x5, rfl⟩ := h u (by simp);rw [flat_cons, List.length_append, flat_len (fun u hu => h u (by simp [hu])), agg_cells]
  simp; omega
theorem flat_get : ∀ {us : List Value}, (∀ u ∈ us, Six u) → ∀ (j : Nat) (hj : j < us.length) (i : Nat), i < 6 → (flatV us)[j * 6 + i]? = (us[j].cells.toList)[i]?
 | u :: us, h, j, hj, i, hi => by
  obtain ⟨x0, x1, x2, x3, x4, x5, rfl⟩ := h u (by simp);rw [flat_cons, agg_cells]
  cases j with
  | zero =>
   rw [List.getElem?_append_left (by simp; omega)];simp [agg_cells]
  | succ j =>
   rw [List.getElem?_append_right (by simp; omega)];have := flat_get (us := us) (fun u hu => h u (by simp [hu])) j (by simpa using hj) i hi;simp only [List.getElem_cons_succ];rw [← this]
   congr 1
   simp; omega
theorem VsAt.six {w : World} {S : Nat → Prop} {v : Value} {us : List Value} (h : VsAt w S v us) : ∀ u ∈ us, Six u := fun u hu => by
 obtain ⟨a, c, h1, h2, h3⟩ := h
 obtain ⟨j, hj, rfl⟩ := List.getElem_of_mem hu
 obtain ⟨g, o, h4, h5, h6⟩ := h3 (by omega)
 obtain ⟨x0, x1, x2, x3, x4, x5, e, -⟩ := h6 j hj
 exact ⟨x0, x1, x2, x3, x4, x5, e⟩
theorem VsAt.flatC {w : World} {S : Nat → Prop} {a : Option Addr} {n c : Nat} {us : List Value} (h : VsAt w S (.slice a n c) us) (hp : 0 < us.length) : ∃ g o, a = some ⟨g, o, none⟩ ∧ S g ∧ ∀ j u, (flatV us)[j]? = some u → w.cell? ⟨g, o + j, none⟩ = some u := by
 have h6 := h.six
 obtain ⟨a', c', h1, h2, h3⟩ := h
 injection h1 with e1 e2 e3
 subst e1
 obtain ⟨g, o, h4, h5, h7⟩ := h3 hp
 refine ⟨g, o, h4, h5, fun j u hu => ?_⟩
 have hjl : j < us.length * 6 := by
  rw [← flat_len h6];exact (List.getElem?_eq_some_iff.1 hu).1
 obtain ⟨q, i, rfl, hi⟩ : ∃ q i, j = q * 6 + i ∧ i < 6 := ⟨j / 6, j % 6, by omega, by omega⟩
 have hq : q < us.length := by omega
 rw [flat_get h6 q hq i hi] at hu
 obtain ⟨x0, x1, x2, x3, x4, x5, e, c0, c1, c2, c3, c4, c5⟩ := h7 q hq
 rw [e, agg_cells] at hu
 have hi' : i = 0 ∨ i = 1 ∨ i = 2 ∨ i = 3 ∨ i = 4 ∨ i = 5 := by omega
 rcases hi' with rfl | rfl | rfl | rfl | rfl | rfl <;> (simp at hu; subst hu; first | (rw [← Nat.add_assoc]; assumption))
theorem VsAt.of_flat {w : World} {S : Nat → Prop} {g c : Nat} {us : List Value} (h6 : ∀ u ∈ us, Six u) (hc : us.length ≤ c) (hg : S g) (h : ∀ j u, (flatV us)[j]? = some u → w.cell? ⟨g, j, none⟩ = some u) : VsAt w S (.slice (some ⟨g, 0, none⟩) us.length c) us := by
 refine ⟨_, _, rfl, hc, fun hp => ⟨g, 0, rfl, hg, fun j hj => ?_⟩⟩
 obtain ⟨x0, x1, x2, x3, x4, x5, e⟩ := h6 us[j] (List.getElem_mem hj)
 have key : ∀ i (hi : i < 6) u, (us[j].cells.toList)[i]? = some u → w.cell? ⟨g, 0 + j * 6 + i, none⟩ = some u := fun i hi u hu => by
  have := h (j * 6 + i) u (by rw [flat_get h6 j hj i hi]; exact hu);rw [Nat.zero_add]; exact this
 rw [e] at key
 exact ⟨x0, x1, x2, x3, x4, x5, e, key 0 (by omega) _ rfl, key 1 (by omega) _ rfl, key 2 (by omega) _ rfl, key 3 (by omega) _ rfl, key 4 (by omega) _ rfl, key 5 (by omega) _ rfl⟩
theorem row_cons {w : World} {B n : Nat} {v : Value} {us : List Value} (h : w.ownsRow B 25 6 v n (flatV us)) (hn : n = us.length) (h6 : ∀ u ∈ us, Six u) (hp : 0 < us.length) : ∃ g c, v = .slice (some ⟨g, 0, none⟩) us.length c ∧ B ≤ g ∧ g < w.heap.size ∧ VsAt w (· = g) v us := by
 subst hn
 rcases h.2 with ⟨-, h0⟩ | ⟨g, cap, cur, h1, h2, h3, h4, -⟩
 · omega
 · refine ⟨g, cap, h1, h2, blk_lt h3, ?_⟩
   rw [h1];refine VsAt.of_flat h6 h4 rfl (fun j u hu => ?_);have := h.cells (g := g) (by rw [h1]; rfl) j u hu;rw [show (⟨g, 0, none⟩ : Addr).add j = ⟨g, j, none⟩ by simp [Addr.add]; omega] at this;exact this
theorem flat_one {w : World} {S : Nat → Prop} {a : Option Addr} {n c : Nat} {us : List Value} {l : List Mu.Val} (h : VsAt w S (.slice a n c) us) (hd : DsAt w S l us) : ∀ u ∈ flatV us, u.oneCell' = true := by
 intro u hu
 obtain ⟨v, hv, hu2⟩ := List.mem_flatMap.1 hu
 obtain ⟨j, hj, rfl⟩ := List.getElem_of_mem hv
 obtain ⟨k1, t1, n1, b1, a1, l1, c1, a2, l2, c2, f⟩ := (hd.at j (by have := hd.length; omega) hj).form
 rw [f, agg_cells] at hu2
 simp only [List.mem_cons, List.not_mem_nil, or_false] at hu2
 rcases hu2 with rfl | rfl | rfl | rfl | rfl | rfl <;> rfl
theorem six_hold3 {W : World} {b0 : Nat} {y0 y1 y2 y3 y4 y5 : Value} (h : W.heap[b0]? = some (.cells #[y0, y1, y2, y3, y4, y5] 25 (0, 0))) : ∀ b : Addr, some (⟨b0, 0, none⟩ : Addr) = some b → ∀ (j : Nat) (u : Value), [y0, y1, y2, y3, y4, y5][j]? = some u → W.cell? (b.add j) = some u := by
 intro b hb j u hu
 cases hb
 rw [show (⟨b0, 0, none⟩ : Addr).add j = ⟨b0, j, none⟩ by simp [Addr.add]; omega, blk_cell h j]
 simpa using hu
structure ScAt (w wq : World) (r nb T : Nat) (pv : Value) (raw : Bool) (s : Option Mu.RS) (node : Array Value) (lv : Value) (ll : List Mu.Val) : Prop where
 ru : RuAt wq r pv raw s
 nd : wq.heap[nb]? = some (.cells node 38 (0, 0))
 fr : Fr (· = r) w wq
 li : ∃ S us, VsAt wq S lv us ∧ DsAt wq S ll us ∧ ∀ k, S k → k < wq.heap.size ∧ k ≠ r
 vg : ∀ v ∈ ll, Mu.VW T v
theorem DAt.parts {w : World} {S : Nat → Prop} {x : Mu.Val} {k1 : Int} {t1 : ByteArray} {n1 : Int} {b1 : Bool} {kv lv : Value} (h : DAt w S x (.agg #[.int .i64 k1, .string t1, .int .i64 n1, .bool b1, kv, lv])) : x.kind = k1 ∧ x.text = L t1 ∧ x.num = n1 ∧ x.tru = b1 ∧ ∃ us, VsAt w S lv us ∧ DsAt w S x.list us := by
 obtain ⟨k, t, n, b, ks, l⟩ := x
 unfold DAt at h
 obtain ⟨tb, kv2, lv2, kbs, us, h1, h2, h3, h4, h5, h6⟩ := h
 simp only [Value.agg.injEq, Array.mk.injEq, List.cons.injEq, Value.int.injEq, Value.string.injEq, Value.bool.injEq, true_and, and_true] at h1
 obtain ⟨e1, e2, e3, e4, e5, e6⟩ := h1
 subst e1 e2 e3 e4 e5 e6
 exact ⟨rfl, h2.symm, rfl, rfl, us, h5, h6⟩
theorem secOpen_cells {w : World} {S : Nat → Prop} {o : Option Mu.Val} {k1 : Int} {t1 : ByteArray} {n1 : Int} {b1 : Bool} {kv lv : Value} (h : DAt w S (o.getD Mu.Val.zero) (.agg #[.int .i64 k1, .string t1, .int .i64 n1, .bool b1, kv, lv])) : Mu.secOpen o = ((k1 == 2 && n1 == 0) || (k1 == 1 && (Mu.trimBy Mu.wsB (L t1)).isEmpty)) := by
 obtain ⟨h1, h2, h3, -⟩ := h.parts
 cases o with
 | none =>
  have : k1 = 0 := h1.symm;subst this; rfl
 | some v =>
  have e1 : v.kind = k1 := h1;have e2 : v.text = L t1 := h2;have e3 : v.num = n1 := h3;simp only [Mu.secOpen, e1, e2, e3]
theorem secList_cells {w : World} {S : Nat → Prop} {o : Option Mu.Val} {k1 : Int} {t1 : ByteArray} {n1 : Int} {b1 : Bool} {kv lv : Value} (h : DAt w S (o.getD Mu.Val.zero) (.agg #[.int .i64 k1, .string t1, .int .i64 n1, .bool b1, kv, lv])) :
 Mu.secList o = (if !o.isSome || (k1 == 0) || ((k1 == 3) && !b1) then [] else if k1 = 4 then (o.getD Mu.Val.zero).list else [o.getD Mu.Val.zero]) := by
 obtain ⟨h1, -, -, h4, -⟩ := h.parts
 cases o with
 | none => rfl
 | some v =>
  have e1 : v.kind = k1 := h1;have e4 : v.tru = b1 := h4;simp only [Mu.secList, e1, e4, Option.isSome_some, Bool.not_true, Bool.false_or, Option.getD_some]
  by_cases h0 : k1 = 0
  · subst h0; simp
  by_cases h3 : k1 = 3
  · subst h3
    cases b1 <;> simp
  · have e0 : (k1 == 0) = false := by simpa using h0
    have e3 : (k1 == 3) = false := by simpa using h3
    simp [h0, h3, e0, e3]
theorem row_one6 {w : World} {S : Nat → Prop} {x : Mu.Val} {x0 x1 x2 x3 x4 x5 : Value} (hd : DAt w S x (.agg #[x0, x1, x2, x3, x4, x5])) (hS : ∀ k, S k → k < w.heap.size) : VsAt (w.alloc (.cells #[x0, x1, x2, x3, x4, x5] 25)) (fun k => S k ∨ k = w.heap.size) (.slice (some ⟨w.heap.size, 0, none⟩) 1 1) [.agg #[x0, x1, x2, x3, x4, x5]] ∧ DsAt (w.alloc (.cells #[x0, x1, x2, x3, x4, x5] 25)) (fun k => S k ∨ k = w.heap.size) [x] [.agg #[x0, x1, x2, x3, x4, x5]] := by
 have e := blk_cell (blk_new w (.cells #[x0, x1, x2, x3, x4, x5] 25))
 refine ⟨⟨_, _, rfl, Nat.le_refl _, fun _ => ⟨_, _, rfl, .inr rfl, fun j hj => ?_⟩⟩, ?_⟩
 · have hj0 : j = 0 := by simpa using hj
   subst hj0;exact ⟨x0, x1, x2, x3, x4, x5, rfl, e 0, e 1, e 2, e 3, e 4, e 5⟩
 · unfold DsAt
   exact ⟨_, [], rfl, DAt.keep (fun k hk => Below.heap_alloc _ _ _ (hS k hk)) (fun _ h => .inl h) _ _ hd, by unfold DsAt; rfl⟩
theorem section_any (K r T : Nat) (hK : K ≤ 3000000000000 ∧ 400000000 ≤ K ∧ 5 * (T + 24) ≤ K) (pv : Value) (ps : List (ByteArray × ByteArray)) (raw : Bool) (n : Nat) (HRC : RnC K r T pv ps raw n) : NdC 60 isSec K r T pv ps raw n := by
 intro D kd tb ib nraw kids ka kc stack sv st w hsec hD hno hkz hnk hst hsl hpv hru hfew hfu
 have HKK := hid hK
 clear hK
 have hb : w.heap[r]? = some (.cells #[pv, .bool raw, .bool false, .bool st.missing, .int .i64 (st.pieces : Nat), .int .i64 (st.asked : Nat)] 54 (0, 0)) := hru
 simp only [Mu.NOk] at hno
 have hts : tb.size ≤ 400000000 := by rw [← L_length]; exact hno.1
 have HNO := hid hno.2.2
 have HST := hid hst
 have HNK := hid hnk
 have HPV := hid hpv
 have HFW := hid hfew
 have HSEC := hid (sNode_isSec hsec (pL ps) raw (Mu.srender (pL ps) raw n) stack (L tb) nraw (L ib) kids st)
 have HLU : Hid (∀ w', Fr (· = r) w w' → Calls Tryz.prog 56 #[sv, .string tb] w' (LuPost r (Mu.lookS stack (L tb)) w')) := hid (fun w' hf => by
  obtain ⟨h1, h2, S, us, h3, h4, h5⟩ := HST.out.fr hf;exact (look_any T stack tb w' S sv us h3 h4 (fun k hk => (h5 k hk).1) h2 h1 (by omega) (by omega)).mono (fun e w'' h => ⟨S, h5, h⟩))
 obtain ⟨o, ho⟩ : ∃ o, o = Mu.lookS stack (L tb) := ⟨_, rfl⟩
 have HVG : Hid (∀ v, o = some v → Mu.VW T v) := hid (fun v hv => Mu.VW.lookS HST.out.2.1 (ho.symm.trans hv))
 rw [← ho] at HLU HSEC
 rw [HSEC.out]
 obtain ⟨R, hR⟩ : ∃ R, R = (if Mu.secOpen o then none else if kd = 4 then (if (Mu.secList o).isEmpty then Mu.srender (pL ps) raw n kids stack st else some ([], st)) else Mu.sAll (fun x s => Mu.srender (pL ps) raw n kids (x :: stack) s) (Mu.secList o) st) := ⟨_, rfl⟩
 rw [← hR]
 have HRR := hid hR
 clear hR
 obtain ⟨nb, hnb⟩ : ∃ nb, nb = w.heap.size := ⟨_, rfl⟩
 obtain ⟨w1, hw1⟩ : ∃ w1, w1 = w.alloc (.cells #[.int .i64 (kd : Nat), .string tb, .bool nraw, .string ib, .slice ka kids.length kc] 38) := ⟨_, rfl⟩
 have HN1 : Hid (w1.heap[nb]? = some (.cells #[.int .i64 (kd : Nat), .string tb, .bool nraw, .string ib, .slice ka kids.length kc] 38 (0, 0))) := hid (by rw [hw1, hnb]; exact blk_new _ _)
 have HF1 : Hid (Fr (· = r) w w1) := hid (by rw [hw1]; exact Fr.alloc _ _ _)
 have HB1 : Hid (w1.heap[r]? = some (.cells #[pv, .bool raw, .bool false, .bool st.missing, .int .i64 (st.pieces : Nat), .int .i64 (st.asked : Nat)] 54 (0, 0))) := hid (by rw [hw1]; exact blk_alloc _ hb)
 have HNR : Hid (nb ≠ r) := hid (by have := blk_lt hb; omega)
 have HE1 : Hid (w1 = w.alloc (.cells #[.int .i64 (kd : Nat), .string tb, .bool nraw, .string ib, .slice ka kids.length kc] 38) ∧ nb = w.heap.size) := hid ⟨hw1, hnb⟩
 clear ho hb hno hst hnk hpv hru hfew hw1 hnb
 go_enter Tryz.func60, Tryz.ntmps60
 go_wp2_with fail
 rw [← HE1.out.1, ← HE1.out.2]
 refine (HLU.out w1 HF1.out).mono ?_
 rintro e w2 ⟨S2, hS2, k3, t3, n3, b3, a3, l3, c3, a4, l4, c4, rfl, HX⟩
 obtain ⟨w4, hw4⟩ : ∃ w4, w4 = w2.alloc (.cells #[.int .i64 k3, .string t3, .int .i64 n3, .bool b3, .slice a3 l3 c3, .slice a4 l4 c4] 25) := ⟨_, rfl⟩
 obtain ⟨vb, hvb⟩ : ∃ vb, vb = w2.heap.size := ⟨_, rfl⟩
 have HVR : Hid (vb ≠ r) := hid (by have := HX.out.1.size; have := blk_lt HB1.out; omega)
 have HVA : Hid (VaAt w w4 r nb vb pv raw false st.missing st #[.int .i64 (kd : Nat), .string tb, .bool nraw, .string ib, .slice ka kids.length kc] #[.int .i64 k3, .string t3, .int .i64 n3, .bool b3, .slice a3 l3 c3, .slice a4 l4 c4] (o.getD Mu.Val.zero)) := hid (by
  rw [hw4, hvb];exact ⟨blk_alloc _ (HX.out.1.blk HB1.out id), blk_alloc _ (HX.out.1.blk HN1.out id), blk_new _ _, (HF1.out.trans0 HX.out.1).allocA _, S2, fun k hk => (hS2 k hk).2, DAt.keep (fun k hk => Below.heap_alloc _ _ _ (by have := (hS2 k hk).1; have := HX.out.1.size; omega)) (fun _ h => h) _ _ HX.out.2⟩)
 have HW4 : Hid (w4 = w2.alloc (.cells #[.int .i64 k3, .string t3, .int .i64 n3, .bool b3, .slice a3 l3 c3, .slice a4 l4 c4] 25) ∧ vb = w2.heap.size) := hid ⟨hw4, hvb⟩
 have HD4 : Hid (DAt w4 S2 (o.getD Mu.Val.zero) (.agg #[.int .i64 k3, .string t3, .int .i64 n3, .bool b3, .slice a3 l3 c3, .slice a4 l4 c4])) := hid (by
  rw [hw4];exact DAt.keep (fun k hk => Below.heap_alloc _ _ _ (by have := (hS2 k hk).1; have := HX.out.1.size; omega)) (fun _ h => h) _ _ HX.out.2)
 have HS4 : Hid (∀ k, S2 k → k < w4.heap.size ∧ k ≠ r) := hid (fun k hk => ⟨by have := (hS2 k hk).1; have := HX.out.1.size; rw [hw4]; simp; omega, (hS2 k hk).2⟩)
 have HSO := hid (secOpen_cells HX.out.2)
 have HSL := hid (secList_cells HX.out.2)
 clear hw4 hvb hS2
 obtain ⟨opv, hopv⟩ : ∃ opv, opv = Mu.secOpen o := ⟨_, rfl⟩
 have HOP := hid hopv
 clear hopv
 go_upto_region 2 with fail
 rw [← HW4.out.1, ← HW4.out.2]
 have hva := HVA.out.ru
 have e2 := blk_cell hva 2
 have g2 := blk_free hva 2
 have hl4 := blk_lt hva
 have v0 := blk_cell HVA.out.va 0
 have v1 := blk_cell HVA.out.va 1
 have v2 := blk_cell HVA.out.va 2
 have hl5 := blk_lt HVA.out.va
 simp only [List.getElem?_toArray, List.getElem?_cons_zero, List.getElem?_cons_succ] at e2 v0 v1 v2
 clear hva
 go_cut [] (fun wq => Hid (VaAt w wq r nb vb pv raw opv st.missing st #[.int .i64 (kd : Nat), .string tb, .bool nraw, .string ib, .slice ka kids.length kc] #[.int .i64 k3, .string t3, .int .i64 n3, .bool b3, .slice a3 l3 c3, .slice a4 l4 c4] (o.getD Mu.Val.zero) ∧ DAt wq S2 (o.getD Mu.Val.zero) (.agg #[.int .i64 k3, .string t3, .int .i64 n3, .bool b3, .slice a3 l3 c3, .slice a4 l4 c4]) ∧ w4.heap.size ≤ wq.heap.size))
 case first =>
  have HV0 : Hid (∀ b, b = opv → VaAt w (w4.setCell ⟨r, 2, none⟩ (.bool b)) r nb vb pv raw opv st.missing st #[.int .i64 (kd : Nat), .string tb, .bool nraw, .string ib, .slice ka kids.length kc] #[.int .i64 k3, .string t3, .int .i64 n3, .bool b3, .slice a3 l3 c3, .slice a4 l4 c4] (o.getD Mu.Val.zero) ∧ DAt (w4.setCell ⟨r, 2, none⟩ (.bool b)) S2 (o.getD Mu.Val.zero) (.agg #[.int .i64 k3, .string t3, .int .i64 n3, .bool b3, .slice a3 l3 c3, .slice a4 l4 c4]) ∧ w4.heap.size ≤ (w4.setCell ⟨r, 2, none⟩ (.bool b)).heap.size) := hid (fun b hb => ⟨by rw [hb]; exact HVA.out.set2 HNR.out HVR.out _, DAt.keep (fun k hk => Below.heap_setCell _ _ _ _ (HS4.out k hk).2) (fun _ h => h) _ _ HD4.out, by simp [World.setCell]⟩)
  have HOK := hid (HOP.out.trans HSO.out)
  cases q2 : (k3 == 2) with
  | true =>
   cases q0 : (n3 == 0) with
   | true =>
    go_wp2_with fail
    go_meet
    case rel => exact hid (HV0.out _ (by rw [HOK.out, q2, q0]; rfl))
   | false =>
    have q1 : (k3 == 1) = false := by
     have : k3 = 2 := by simpa using q2
     rw [this]; rfl
    go_wp2_with fail
    go_meet
    case rel => exact hid (HV0.out _ (by rw [HOK.out, q2, q0, q1]; rfl))
  | false =>
   cases q1 : (k3 == 1) with
   | true =>
    have HTL : Hid (t3.size ≤ T) := hid (by
     have h := HX.out.2.parts;have hk : k3 = 1 := by simpa using q1
     cases o with
     | none => exact absurd (h.1.symm.trans rfl) (by rw [hk]; decide)
     | some v =>
      have := (HVG.out v rfl).text.2.1;have e2 : v.text = L t3 := h.2.1;rw [e2, L_length] at this
      omega)
    have htl : t3.size ≤ 4000000000000 := by have := HTL.out; have := HKK.out; omega
    go_wp2_with fail;refine (trimmed_big t3 _ htl).mono ?_
    rintro e w9 ⟨tr, rfl, htr, rfl⟩
    cases qe : (tr.toList == []) with
    | true =>
     have qe2 : tr.toList = [] := by simpa using qe
     have HV1 := hid (HV0.out true (by
      rw [HOK.out, q2, q1, ← htr];rw [ByteArray.toList_eq] at qe2;show true = (L tr).isEmpty;unfold L;rw [qe2]; rfl))
     clear htr;go_wp2_with fail
     go_meet
     case rel => exact HV1
    | false =>
     have qe2 : tr.toList.isEmpty = false := by
      cases hh : tr.toList with
      | nil => rw [hh] at qe; cases qe
      | cons => rfl
     have HV1 := hid (HV0.out false (by
      rw [HOK.out, q2, q1, ← htr];rw [ByteArray.toList_eq] at qe2;show false = (L tr).isEmpty;exact qe2.symm))
     clear htr;go_wp2_with fail
     go_meet
     case rel => exact HV1
   | false =>
    go_wp2_with fail
    go_meet
    case rel => exact hid (HV0.out _ (by rw [HOK.out, q2, q1]; rfl))
 case rest =>
  clear e2 g2 hl4 v0 v1 v2 hl5;have HCX := hid hcut.out.1;have HDX := hid hcut.out.2.1;have HSX : Hid (∀ k, S2 k → k < wc.heap.size ∧ k ≠ r) := hid (fun k hk => ⟨Nat.lt_of_lt_of_le (HS4.out k hk).1 hcut.out.2.2, (HS4.out k hk).2⟩);have hva := hcut.out.1.va;have v0 := blk_cell hva 0;have v1 := blk_cell hva 1;have v2 := blk_cell hva 2;have v3 := blk_cell hva 3;have v4 := blk_cell hva 4
  have v5 := blk_cell hva 5;have hl5 := blk_lt hva;simp only [List.getElem?_toArray, List.getElem?_cons_zero, List.getElem?_cons_succ] at v0 v1 v2 v3 v4 v5;clear hcut hva;obtain ⟨ll, hll⟩ : ∃ ll, ll = Mu.secList o := ⟨_, rfl⟩
  obtain ⟨s, hs⟩ : ∃ s : Option Mu.RS, s = if opv then none else some st := ⟨_, rfl⟩
  have HLL := hid hll;have HS := hid hs;obtain ⟨w5, hw5⟩ : ∃ w5, w5 = wc.alloc (.cells #[.int .i64 k3, .string t3, .int .i64 n3, .bool b3, .slice a3 l3 c3, .slice a4 l4 c4] 25) := ⟨_, rfl⟩
  obtain ⟨lb, hlb⟩ : ∃ lb, lb = wc.heap.size := ⟨_, rfl⟩
  have hlr : r < wc.heap.size := blk_lt HCX.out.ru
  have HBASE : Hid (RuAt w5 r pv raw s ∧ w5.heap[nb]? = some (.cells #[.int .i64 (kd : Nat), .string tb, .bool nraw, .string ib, .slice ka kids.length kc] 38 (0, 0)) ∧ Fr (· = r) w w5 ∧ w5.heap[vb]? = some (.cells #[.int .i64 k3, .string t3, .int .i64 n3, .bool b3, .slice a3 l3 c3, .slice a4 l4 c4] 25 (0, 0)) ∧ DAt w5 S2 (o.getD Mu.Val.zero) (.agg #[.int .i64 k3, .string t3, .int .i64 n3, .bool b3, .slice a3 l3 c3, .slice a4 l4 c4]) ∧ ∀ k, S2 k → k < w5.heap.size ∧ k ≠ r) := hid (by
   rw [hw5];refine ⟨?_, blk_alloc _ HCX.out.nd, HCX.out.fr.allocA _, blk_alloc _ HCX.out.va, DAt.keep (fun k hk => Below.heap_alloc _ _ _ (HSX.out k hk).1) (fun _ h => h) _ _ HDX.out, fun k hk => ⟨by have := (HSX.out k hk).1; simp; omega, (HSX.out k hk).2⟩⟩;have := blk_alloc (.cells #[.int .i64 k3, .string t3, .int .i64 n3, .bool b3, .slice a3 l3 c3, .slice a4 l4 c4] 25) HCX.out.ru;rw [hs]
   cases opv with
   | true => exact ⟨_, _, _, this⟩
   | false => exact this)
  have HVL : Hid (∀ v ∈ ll, Mu.VW T v) := hid (fun v hv => by
   rw [hll] at hv
   cases o with
   | none => cases hv
   | some x =>
    have hx := HVG.out x rfl;simp only [Mu.secList] at hv
    split at hv
    · cases hv
    split at hv
    · exact hx.list hv
    · rw [List.mem_singleton.1 hv]; exact hx)
  have HL0 : Hid (ll = [] → ScAt w w5 r nb T pv raw s #[.int .i64 (kd : Nat), .string tb, .bool nraw, .string ib, .slice ka kids.length kc] (.slice none ll.length 0) ll) := hid (fun h => by
   obtain ⟨b1, b2, b3, -⟩ := HBASE.out;subst h;exact ⟨b1, b2, b3, ⟨fun _ => False, [], ⟨none, 0, rfl, Nat.le_refl _, fun h => absurd h (by simp)⟩, by unfold DsAt; rfl, fun _ h => h.elim⟩, fun v hv => by cases hv⟩)
  have HL1 : Hid (ll = [o.getD Mu.Val.zero] → ScAt w w5 r nb T pv raw s #[.int .i64 (kd : Nat), .string tb, .bool nraw, .string ib, .slice ka kids.length kc] (.slice (some ⟨lb, 0, none⟩) ll.length 1) ll) := hid (fun h => by
   obtain ⟨b1, b2, b3, -⟩ := HBASE.out;obtain ⟨r1, r2⟩ := row_one6 HDX.out (fun k hk => (HSX.out k hk).1);rw [← hw5, ← hlb] at r1;rw [← hw5, ← hlb] at r2;have hvl := HVL.out;subst h;refine ⟨b1, b2, b3, ⟨_, _, r1, r2, fun k hk => ?_⟩, hvl⟩
   rcases hk with hk | hk
   · exact HBASE.out.2.2.2.2.2 k hk
   · rw [hk, hw5, hlb]; exact ⟨by simp, by omega⟩)
  have HL4 : Hid (ll = (o.getD Mu.Val.zero).list → l4 = ll.length ∧ ScAt w w5 r nb T pv raw s #[.int .i64 (kd : Nat), .string tb, .bool nraw, .string ib, .slice ka kids.length kc] (.slice a4 l4 c4) ll) := hid (fun h => by
   obtain ⟨b1, b2, b3, b4, b5, b6⟩ := HBASE.out;obtain ⟨-, -, -, -, us, h5, h6⟩ := b5.parts;rw [← h] at h6;have hlen := h6.length;obtain ⟨a9, c9, e9, -⟩ := id h5;injection e9 with _ e9 _;exact ⟨by omega, b1, b2, b3, ⟨S2, us, h5, h6, b6⟩, HVL.out⟩)
  have HSC := hid (hll.trans HSL.out);have HW5 : Hid (w5 = wc.alloc (.cells #[.int .i64 k3, .string t3, .int .i64 n3, .bool b3, .slice a3 l3 c3, .slice a4 l4 c4] 25) ∧ lb = wc.heap.size) := hid ⟨hw5, hlb⟩;have x0 := blk_cell HBASE.out.2.2.2.1 0;have x3 := blk_cell HBASE.out.2.2.2.1 3;have x5 := blk_cell HBASE.out.2.2.2.1 5;have hl9 := blk_lt HBASE.out.2.2.2.1
  simp only [List.getElem?_toArray, List.getElem?_cons_zero, List.getElem?_cons_succ] at x0 x3 x5;clear hll hs hw5 hlb
  go_upto_block 0 with fail
  rw [← HW5.out.1, ← HW5.out.2];clear v0 v1 v2 v3 v4 v5
  go_cut [9] (fun v9 wq => ∃ la lc, v9 = .slice la ll.length lc ∧ Hid (ScAt w wq r nb T pv raw s #[.int .i64 (kd : Nat), .string tb, .bool nraw, .string ib, .slice ka kids.length kc] (.slice la ll.length lc) ll))
  case first =>
   cases o with
   | none =>
    have HA := hid (HL0.out (by rw [HSC.out]; rfl));have hz : ll.length = 0 := by have h := HSC.out; rw [h]; rfl
    go_wp2_with fail
    go_meet
    case rel => exact ⟨none, 0, by rw [hz], HA⟩
   | some vv =>
    by_cases h0 : k3 = 0
    · have q0 : (k3 == 0) = true := by simpa using h0
      have hnil : ll = [] := by rw [HSC.out, q0]; rfl
      have HA := hid (HL0.out hnil);have hz : ll.length = 0 := by rw [hnil]; rfl
      clear h0 hnil;go_wp2_with fail
      go_meet
      case rel => exact ⟨none, 0, by rw [hz], HA⟩
    have q0 : (k3 == 0) = false := by simpa using h0
    by_cases h3 : k3 = 3
    · have q3 : (k3 == 3) = true := by simpa using h3
      have q4 : (k3 == 4) = false := by rw [h3]; rfl
      cases hb3 : b3 with
      | false =>
       have hnil : ll = [] := by rw [HSC.out, q0, q3, hb3]; rfl
       have HA := hid (HL0.out hnil);have hz : ll.length = 0 := by rw [hnil]; rfl
       rw [hb3] at x3;clear h0 h3 hnil;go_wp2_with fail
       go_meet
       case rel => exact ⟨none, 0, by rw [hz], HA⟩
      | true =>
       have hone : ll = [(some vv).getD Mu.Val.zero] := by rw [HSC.out, q0, q3, hb3, if_neg (by simp), if_neg (by omega)]
       have HA := hid (HL1.out hone);have hz : ll.length = 1 := by rw [hone]; rfl
       rw [hb3] at x3;clear h0 h3 hone;go_wp2_with fail
       go_meet
       case rel => exact ⟨_, 1, by rw [hz], HA⟩
    have q3 : (k3 == 3) = false := by simpa using h3
    by_cases h4 : k3 = 4
    · have q4 : (k3 == 4) = true := by simpa using h4
      have HA := hid (HL4.out (by rw [HSC.out, q0, q3, if_neg (by simp), if_pos h4]));clear h0 h3 h4;go_wp2_with fail
      go_meet
      case rel => exact ⟨a4, c4, by rw [HA.out.1], by rw [← HA.out.1]; exact hid HA.out.2⟩
    · have q4 : (k3 == 4) = false := by simpa using h4
      have hone : ll = [(some vv).getD Mu.Val.zero] := by rw [HSC.out, q0, q3, if_neg (by simp), if_neg h4]
      have HA := hid (HL1.out hone);have hz : ll.length = 1 := by rw [hone]; rfl
      clear h0 h3 h4 hone;go_wp2_with fail
      go_meet
      case rel => exact ⟨_, 1, by rw [hz], HA⟩
  case rest =>
   obtain ⟨la, lc, rfl, HSE⟩ := hcut;clear x0 x3 x5 hl9;have hnd := HSE.out.nd;have z0 := blk_cell hnd 0;have z4 := blk_cell hnd 4;have hln := blk_lt hnd;have hlr9 := HSE.out.ru.lt;simp only [List.getElem?_toArray, List.getElem?_cons_zero, List.getElem?_cons_succ] at z0 z4;have HR1 : Hid (opv = true → R = none) := hid (fun h => by rw [HRR.out, ← HOP.out, h]; rfl)
   have HR4 : Hid (kd = 4 → opv = false → R = if ll.isEmpty then Mu.srender (pL ps) raw n kids stack st else some ([], st)) := hid (fun h h2 => by rw [HRR.out, ← HOP.out, h2, if_neg Bool.false_ne_true, if_pos h, HLL.out])
   have HRL : Hid (kd ≠ 4 → R = s.bind (Mu.sAll (fun x s => Mu.srender (pL ps) raw n kids (x :: stack) s) ll)) := hid (fun h => by
    rw [HRR.out, ← HOP.out, HS.out, HLL.out, if_neg h]
    cases opv <;> rfl)
   have HKN : Hid (NdAt wc r (.slice ka kids.length kc) kids) := hid (HNK.out.fr HSE.out.fr);have hst1 : st.pieces ≤ 1000 := HFW.out.1;clear hnd
   by_cases hk4 : kd = 4
   · have q8 : ((kd : Int) == 4) = true := by rw [beq_iff_eq]; omega
     by_cases hp : 0 < ll.length
     · have HZ : Hid (RnPost K r pv raw (some st) R w (.returned (.string ⟨#[]⟩)) wc) := hid (by
        have hru := HSE.out.ru;rw [HS.out] at hru
        cases hop : opv with
        | true =>
         rw [hop] at hru;rw [HR1.out hop];exact rn_empty (by show st.pieces ≤ 1001; omega) hru HSE.out.fr
        | false =>
         rw [hop] at hru
         have he : ll.isEmpty = false := by
          cases hll : ll with
          | nil => rw [hll] at hp; simp at hp
          | cons => rfl
         rw [HR4.out hk4 hop, he];exact ⟨_, rfl, hid ⟨hru, (fun x hx => by cases hx; rfl), by show 0 + K * st.pieces ≤ K * st.pieces; omega, HSE.out.fr⟩⟩)
       clear hk4;go_wp2_with fail;go_ret;exact HZ.out
     · have HCALL : Hid (Calls Tryz.prog 32 #[.pointer (some ⟨r, 0, none⟩), .slice ka kids.length kc, sv] wc (RnPost K r pv raw (some st) R w)) := hid (by
        have hru := HSE.out.ru;rw [HS.out] at hru
        cases hop : opv with
        | true =>
         rw [hop] at hru;rw [HR1.out hop];refine (render_open K r pv raw kids _ sv wc (by have := len_nsz kids; omega) HKN.out hru).mono ?_;rintro e w3 ⟨ob, rfl, HO⟩;refine ⟨ob, rfl, hid ⟨HO.out.1, (fun _ h => by cases h), ?_, HSE.out.fr.trans HO.out.2.2.2⟩⟩;have h2 : ob.size + K * 1001 ≤ K * 1001 := HO.out.2.2.1;have h4 : K * st.pieces ≤ K * 1001 := Nat.mul_le_mul_left _ (by omega)
         show ob.size + K * st.pieces ≤ K * 1001;omega
        | false =>
         rw [hop] at hru
         have he : ll.isEmpty = true := by
          cases hll : ll with
          | nil => rfl
          | cons => rw [hll] at hp; simp at hp
         rw [HR4.out hk4 hop, he, if_pos rfl];refine (HRC D kids stack _ sv st wc (by omega) HNO.out hkz HKN.out (HST.out.fr HSE.out.fr) (by omega) (HPV.out.fr HSE.out.fr) hru hst1 hfu (by have := HFW.out.2; omega)).mono ?_;rintro e w3 ⟨ob, rfl, HO⟩;exact ⟨ob, rfl, hid ⟨HO.out.1, HO.out.2.1, HO.out.2.2.1, HSE.out.fr.trans HO.out.2.2.2⟩⟩)
       clear hk4;go_wp2_with fail;refine HCALL.out.mono ?_;rintro e w3 ⟨ob, rfl, HO⟩;go_wp2_with fail;go_ret;exact ⟨ob, rfl, HO⟩
   · have q8 : ((kd : Int) == 4) = false := by rw [beq_eq_false_iff_ne]; omega
     obtain ⟨g, hg⟩ : ∃ g, g = (fun (x : Mu.Val) (s : Mu.RS) => Mu.srender (pL ps) raw n kids (x :: stack) s) := ⟨_, rfl⟩
     have HRA : Hid (R = s.bind (Mu.sAll g ll)) := hid (by rw [hg]; exact HRL.out hk4);have HGG := hid hg
     have HGM : Hid (∀ j x sj, s.bind (Mu.sAll g (ll.take j)) = some (x, sj) → st.pieces ≤ sj.pieces ∧ Mu.Few sj) := hid (fun j x sj h => by
      rw [HS.out] at h
      cases hop : opv with
      | true => rw [hop] at h; cases h
      | false =>
       rw [hop] at h;have h : Mu.sAll g (ll.take j) st = some (x, sj) := h;refine ⟨Mu.sAll_mono (fun y s1 o1 s2 h1 => by rw [hg] at h1; exact Mu.srender_mono _ _ n _ _ _ _ _ h1) _ _ _ _ h, Mu.sAll_few (fun y s1 o1 s2 h1 h2 => by rw [hg] at h2; exact Mu.srender_few _ _ n _ _ _ _ _ h2) _ _ _ _ HFW.out h⟩)
     have hll8 : ll.length ≤ 8 := by
      rw [HLL.out]
      cases o with
      | none => exact Nat.zero_le _
      | some x =>
       simp only [Mu.secList];split
       · exact Nat.zero_le _
       split
       · exact (HVG.out x rfl).few
       · show 1 ≤ 8; omega
     clear hg hk4;go_wp2_with fail
     go_loopg [10, 87] ll.length (fun g2 v10 v87 wr => ∃ (j : Nat) (ob : ByteArray), v87 = .int .i64 j ∧ v10 = .string ob ∧ j ≤ ll.length ∧ g2 = ll.length - j ∧ Hid (RuAt wr r pv raw ((s.bind (Mu.sAll g (ll.take j))).map (·.2)) ∧ (∀ x, s.bind (Mu.sAll g (ll.take j)) = some x → L ob = x.1) ∧ ob.size + K * st.pieces ≤ K * Mu.Pc ((s.bind (Mu.sAll g (ll.take j))).map (·.2)) ∧ Fr (· = r) wc wr))
     case atStart =>
      refine ⟨0, _, rfl, rfl, Nat.zero_le _, rfl, hid ⟨?_, fun x hx => ?_, ?_, Fr.refl _ _⟩⟩
      · have : (s.bind (Mu.sAll g (ll.take 0))).map (·.2) = s := by cases s <;> rfl
        rw [this]; exact HSE.out.ru
      · cases s with
        | none => cases hx
        | some s1 =>
         have hx : some (([] : Mu.B), s1) = some x := hx
         cases hx; rfl
      · have : (s.bind (Mu.sAll g (ll.take 0))).map (·.2) = s := by cases s <;> rfl
        rw [this, HS.out];show 0 + K * st.pieces ≤ _
        cases opv with
        | true =>
         show 0 + K * st.pieces ≤ K * 1001;rw [Nat.zero_add];exact Nat.mul_le_mul_left _ (by omega)
        | false => show 0 + K * st.pieces ≤ K * st.pieces; omega
     case round =>
      obtain ⟨j, ob, rfl, rfl, hj, rfl, HJ⟩ := hrel
      by_cases hlt : j < ll.length
      · obtain ⟨sa, sc, hsv⟩ : ∃ sa sc, sv = .slice sa stack.length sc := by
         obtain ⟨-, -, S, us, ⟨a, c, h1, -⟩, h2, -⟩ := HST.out;exact ⟨a, c, by rw [h1, h2.length]⟩
        subst hsv;have hw := HSE.out.fr.trans HJ.out.2.2.2
        have HONE : Hid (∃ gl ol k5 t5 n5 b5 a5 l5 c5 a6 l6 c6 SL, la = some ⟨gl, ol, none⟩ ∧ DAt wr SL ll[j] (.agg #[.int .i64 k5, .string t5, .int .i64 n5, .bool b5, .slice a5 l5 c5, .slice a6 l6 c6]) ∧ (∀ k, SL k → k < wr.heap.size ∧ k ≠ r) ∧ gl < wr.heap.size ∧
         wr.cell? ⟨gl, ol + j * 6, none⟩ = some (.int .i64 k5) ∧ wr.cell? ⟨gl, ol + j * 6 + 1, none⟩ = some (.string t5) ∧ wr.cell? ⟨gl, ol + j * 6 + 2, none⟩ = some (.int .i64 n5) ∧ wr.cell? ⟨gl, ol + j * 6 + 3, none⟩ = some (.bool b5) ∧ wr.cell? ⟨gl, ol + j * 6 + 4, none⟩ = some (.slice a5 l5 c5) ∧ wr.cell? ⟨gl, ol + j * 6 + 5, none⟩ = some (.slice a6 l6 c6)) := hid (by
         obtain ⟨SL, lus, hv1, hd1, hS1⟩ := HSE.out.li;have hlen := hd1.length;have hkp : Keep SL wc wr := fun k hk => HJ.out.2.2.2.block k (hS1 k hk).1 (hS1 k hk).2
         have hv2 := hv1.keep hkp (fun _ h => h);have hd2 := DsAt.keep hkp (fun _ h => h) _ _ hd1;rw [← hlen] at hv2;obtain ⟨gl, ol, k5, t5, n5, b5, a5, l5, c5, a6, l6, c6, hla, hSg, hu, e0, e1, e2, e3, e4, e5⟩ := hv2.one hd2 (j := j) (by omega);have hda := hd2.at j hlt (by omega);rw [hu] at hda;have hsz := HJ.out.2.2.2.size
         exact ⟨gl, ol, k5, t5, n5, b5, a5, l5, c5, a6, l6, c6, SL, hla, hda, fun k hk => ⟨Nat.lt_of_lt_of_le (hS1 k hk).1 hsz, (hS1 k hk).2⟩, Nat.lt_of_lt_of_le (hS1 gl hSg).1 hsz, e0, e1, e2, e3, e4, e5⟩)
        obtain ⟨gl, ol, k5, t5, n5, b5, a5, l5, c5, a6, l6, c6, SL, rfl, hda, hSL, hgl, e0, e1, e2, e3, e4, e5⟩ := HONE.out;have HDA := hid hda;have HSLL := hid hSL
        obtain ⟨gs, os, us, SS, hsa, hvs, hds, hSS, hnews⟩ : ∃ gs os us SS, sa = some ⟨gs, os, none⟩ ∧ VsAt wr SS (.slice sa stack.length sc) us ∧ DsAt wr SS stack us ∧ (∀ k, SS k → k < wr.heap.size ∧ k ≠ r) ∧ ∀ W, F0 wr W → ∀ j u, (flatV us)[j]? = some u → W.cell? ((⟨gs, os, none⟩ : Addr).add j) = some u := by
         obtain ⟨h1, h2, S, us, h3, h4, h5⟩ := HST.out.fr hw;have hlen := h4.length;obtain ⟨gs, os, e, hS, hc⟩ := h3.flatC (by rw [hlen]; exact List.length_pos_iff.2 h1);refine ⟨gs, os, us, S, e, h3, h4, h5, fun W hW j u hu => ?_⟩;rw [show (⟨gs, os, none⟩ : Addr).add j = ⟨gs, os + j, none⟩ by simp [Addr.add]];exact F0.cell hW (hc j u hu)
        subst hsa;have hul := hds.length;have HS6 : Hid ((∀ u ∈ us, Six u) ∧ (∀ u ∈ flatV us, u.oneCell' = true) ∧ (flatV us).length = stack.length * 6) := hid ⟨hvs.six, flat_one hvs hds, by rw [flat_len hvs.six, hul]⟩;have HNEW := hid hnews
        have hnb9 : wr.heap[nb]? = some (.cells #[.int .i64 (kd : Nat), .string tb, .bool nraw, .string ib, .slice ka kids.length kc] 38 (0, 0)) := (HJ.out.2.2.2.block nb (blk_lt HSE.out.nd) HNR.out).trans HSE.out.nd;have z4 := blk_cell hnb9 4;have hln9 := blk_lt hnb9;simp only [List.getElem?_toArray, List.getElem?_cons_zero, List.getElem?_cons_succ] at z4
        have hsp : 0 < stack.length := List.length_pos_iff.2 HST.out.1
        have HNX : Hid (s.bind (Mu.sAll g (ll.take (j + 1))) = (s.bind (Mu.sAll g (ll.take j))).bind fun q => (g ll[j] q.2).map fun p => (q.1 ++ p.1, p.2)) := hid (by
         cases s with
         | none => rfl
         | some s1 => exact Mu.sAll_take ll j hlt s1)
        have HGO : Hid (∀ (W w2 w3 : World) (v' : Value), F0 wr W → w2.ownsRow W.heap.size 25 6 v' (1 + stack.length) ([.int .i64 k5, .string t5, .int .i64 n5, .bool b5, .slice a5 l5 c5, .slice a6 l6 c6] ++ flatV us) → W.grownBy w2 none → Sm w2 w3 →
         Calls Tryz.prog 32 #[.pointer (some ⟨r, 0, none⟩), .slice ka kids.length kc, v'] w3 (fun e w' => ∃ o : ByteArray, e = .returned (.string o) ∧ Hid (¬ 9223372036854775807 < ob.size + o.size ∧ RuAt w' r pv raw ((s.bind (Mu.sAll g (ll.take (j + 1)))).map (·.2)) ∧ (∀ x, s.bind (Mu.sAll g (ll.take (j + 1))) = some x → L (ob ++ o) = x.1) ∧ (ob ++ o).size + K * st.pieces ≤ K * Mu.Pc ((s.bind (Mu.sAll g (ll.take (j + 1)))).map (·.2)) ∧ Fr (· = r) wc w'))) := hid (fun W w2 w3 v' hf hown hgrow hsm => by
         have hsix : ∀ u ∈ (Value.agg #[.int .i64 k5, .string t5, .int .i64 n5, .bool b5, .slice a5 l5 c5, .slice a6 l6 c6] :: us), Six u := fun u hu => by
          rcases List.mem_cons.1 hu with rfl | hu
          · exact ⟨_, _, _, _, _, _, rfl⟩
          · exact HS6.out.1 u hu
         obtain ⟨gv, cv, hv', hB, hlv, hvv⟩ := row_cons (us := .agg #[.int .i64 k5, .string t5, .int .i64 n5, .bool b5, .slice a5 l5 c5, .slice a6 l6 c6] :: us) hown (by rw [List.length_cons, hul]; omega) hsix (by simp);have hf2 : F0 wr w2 := grown_f0 hf hgrow (fun k hk => by cases hk);have hf3 : F0 wr w3 := hf2.trans (hsm.fr _);have hWs := hf.size;have hrw := HJ.out.1.lt
         have hst3 : StAt w3 r T v' (ll[j] :: stack) := by
          refine ⟨by simp, fun v hv => ?_, fun k => (SL k ∨ SS k) ∨ k = gv, _, (hvv.keep (fun k hk => by rw [hsm.heap]) (fun _ h => .inr h)), ?_, fun k hk => ?_⟩
          · rcases List.mem_cons.1 hv with rfl | hv
            · exact HSE.out.vg _ (List.getElem_mem hlt)
            · exact HST.out.2.1 v hv
          · unfold DsAt
            exact ⟨_, us, rfl, DAt.keep (fun k hk => hf3.block k (HSLL.out k hk).1 id) (fun _ h => .inl (.inl h)) _ _ HDA.out, DsAt.keep (fun k hk => hf3.block k (hSS k hk).1 id) (fun _ h => .inl (.inr h)) _ _ hds⟩
          · have hs3 := hf3.size
            have h32 : w3.heap.size = w2.heap.size := by rw [hsm.heap]
            rcases hk with (hk | hk) | hk
            · have := HSLL.out k hk; exact ⟨by omega, this.2⟩
            · have := hSS k hk; exact ⟨by omega, this.2⟩
            · rw [hk]; exact ⟨by omega, by omega⟩
         have hfr3 : Fr (· = r) wc w3 := HJ.out.2.2.2.trans0 hf3;have hkn := HKN.out.fr hfr3;have hJ := HJ.out;rw [HNX.out]
         cases hRj : s.bind (Mu.sAll g (ll.take j)) with
         | none =>
          rw [hRj] at hJ;have hru3 : RuAt w3 r pv raw none := hJ.1.f0 hf3;refine (render_open K r pv raw kids _ v' w3 (by have := len_nsz kids; omega) hkn hru3).mono ?_;rintro e w' ⟨o, rfl, HO⟩;have h2 : o.size + K * 1001 ≤ K * 1001 := HO.out.2.2.1;have h3 : ob.size + K * st.pieces ≤ K * 1001 := hJ.2.2.1
          refine ⟨o, rfl, hid ⟨by have := HKK.out.1; omega, HO.out.1, (fun _ h => by cases h), ?_, hfr3.trans HO.out.2.2.2⟩⟩;show (ob ++ o).size + K * st.pieces ≤ K * 1001;rw [ByteArray.size_append]; omega
         | some y =>
          obtain ⟨x, sj⟩ := y;rw [hRj] at hJ;have hgm := HGM.out j x sj hRj;have hru3 : RuAt w3 r pv raw (some sj) := hJ.1.f0 hf3;have hq : g ll[j] sj = Mu.srender (pL ps) raw n kids (ll[j] :: stack) sj := by rw [HGG.out]
          refine (HRC D kids (ll[j] :: stack) _ v' sj w3 (by omega) HNO.out hkz hkn hst3 (by rw [List.length_cons]; omega) (HPV.out.fr (HSE.out.fr.trans hfr3)) hru3 hgm.2.1 (by have := hgm.1; omega) (by have := hgm.2.2; omega)).mono ?_;rintro e w' ⟨o, rfl, HO⟩;rw [← hq] at HO
          have hpc : Mu.Pc ((g ll[j] sj).map (·.2)) ≤ 1001 := by
           cases hgq : g ll[j] sj with
           | none => exact Nat.le_refl _
           | some z =>
            have := Mu.srender_few _ _ n _ _ _ _ _ (hq.symm.trans hgq);show z.2.pieces ≤ 1001;have := this.1;omega
          have hmap : (((some (x, sj) : Option (Mu.B × Mu.RS)).bind fun q => (g ll[j] q.2).map fun p => (q.1 ++ p.1, p.2)).map (·.2)) = (g ll[j] sj).map (·.2) := by
           show ((g ll[j] sj).map fun p => (x ++ p.1, p.2)).map (·.2) = _
           cases g ll[j] sj <;> rfl
          have h2 : o.size + K * sj.pieces ≤ K * Mu.Pc ((g ll[j] sj).map (·.2)) := HO.out.2.2.1;have h3 : ob.size + K * st.pieces ≤ K * sj.pieces := hJ.2.2.1;have h7 : K * Mu.Pc ((g ll[j] sj).map (·.2)) ≤ 3000000000000 * 1001 := Nat.mul_le_mul HKK.out.1 hpc;refine ⟨o, rfl, hid ⟨by omega, by rw [hmap]; exact HO.out.1, fun z hz => ?_, ?_, hfr3.trans HO.out.2.2.2⟩⟩
          · have hz : (g ll[j] sj).map (fun p => (x ++ p.1, p.2)) = some z := hz
            cases hgq : g ll[j] sj with
            | none => rw [hgq] at hz; cases hz
            | some p =>
             rw [hgq] at hz;simp only [Option.map_some, Option.some.injEq] at hz;rw [← hz, L_add, HO.out.2.1 _ hgq, hJ.2.1 _ rfl]
          · rw [hmap, ByteArray.size_append]; omega)
        clear hw hda hSL hvs hds hSS hnews hnb9 hul
        go_upto_region 16 with fail
        obtain ⟨i0, hi, hz1, hz2, hz3⟩ := info_parts infoVal
        go_region_law (first
         | (refine step_append_grows (by rfl) _ _ 23 (by rfl) 25 i0 (.agg #[.int .i64 0, .string ⟨#[]⟩, .int .i64 0, .bool false, .slice none 0 0, .slice none 0 0]) 6 88 Tryz.underlying23 hi hz1 hz2 hz3 rfl (by decide) (some ⟨wr.heap.size + 1, 0, none⟩) 1 1 [.int .i64 k5, .string t5, .int .i64 n5, .bool b5, .slice a5 l5 c5, .slice a6 l6 c6] (by rfl) (fun h => by cases h) (by rfl) (six_hold3 (show ((wr.alloc (.cells #[.int .i64 k5, .string t5, .int .i64 n5, .bool b5, .slice a5 l5 c5, .slice a6 l6 c6] 25)).alloc (.cells #[.int .i64 k5, .string t5, .int .i64 n5, .bool b5, .slice a5 l5 c5, .slice a6 l6 c6] 25)).heap[wr.heap.size + 1]? = some (.cells #[.int .i64 k5, .string t5, .int .i64 n5, .bool b5, .slice a5 l5 c5, .slice a6 l6 c6] 25 (0, 0)) by simpa using blk_new (wr.alloc (.cells #[.int .i64 k5, .string t5, .int .i64 n5, .bool b5, .slice a5 l5 c5, .slice a6 l6 c6] 25)) (.cells #[.int .i64 k5, .string t5, .int .i64 n5, .bool b5, .slice a5 l5 c5, .slice a6 l6 c6] 25))) ⟨gs, os, none⟩ stack.length sc (flatV us) (by rfl) HS6.out.2.2 (HNEW.out _ (by repeat (first | exact Fr.refl _ _ | refine Fr.drewA ?_ | refine Fr.allocA ?_ _))) HS6.out.2.1 (by omega) (by unfold maxLen; omega) (by omega) ?_; intro v' w2 hown hgrow; have z4b := F0.cell (grown_f0 (by repeat (first | exact Fr.refl _ _ | refine Fr.drewA ?_ | refine Fr.allocA ?_ _) : F0 wr _) hgrow (fun k hk => by cases hk)) z4)
         | (rw [if_pos (by simp [Region.wanted])]; go_simp; go_at_call 32; refine (HGO.out _ w2 _ v' (by repeat (first | exact Fr.refl _ _ | refine Fr.drewA ?_ | refine Fr.allocA ?_ _)) hown hgrow (by repeat (first | exact Sm.refl _ | refine Sm.drew ?_))).mono ?_; rintro e w3 ⟨o, rfl, HO⟩; have hcat := HO.out.1))
        all_goals
         go_wp2_with fail
         go_roundg (ll.length - (j + 1))
         case rel => exact ⟨j + 1, _, by go_num, rfl, by omega, rfl, hid HO.out.2⟩
         case measure => omega
      · have HZ : Hid (RnPost K r pv raw (some st) R w (.returned (.string ob)) wr) := hid (by
         have h := HJ.out;rw [List.take_of_length_le (by omega), ← HRA.out] at h;exact ⟨_, rfl, hid ⟨h.1, h.2.1, h.2.2.1, HSE.out.fr.trans h.2.2.2⟩⟩)
        go_wp2_with fail;go_ret
        exact HZ.out
end Go.Proofs.YtfakghnpkdoclaaGreatDoor
