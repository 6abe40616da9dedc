/-
  The specification's look-up. (Joined by wip/pack.py.)
-/
import Derived.Test.YtfakghnpkdoclaaGreatDoorGC2
import Derived.Test.YtfakghnpkdoclaaGreatDoorGP3
import Derived.Deep.RegionWith
set_option linter.unusedVariables false
set_option linter.unusedSimpArgs false
set_option maxRecDepth 100000
set_option maxHeartbeats 8000000
namespace Go.Proofs.YtfakghnpkdoclaaGreatDoor
open Go.RowKit
open Go.Lib (hid)
theorem DAt.zero (w : World) (S : Nat → Prop) : DAt w S Mu.Val.zero (.agg #[.int .i64 0, .string ⟨#[]⟩, .int .i64 0, .bool false, .slice none 0 0, .slice none 0 0]) := by
 show DAt w S (.mk 0 [] 0 false [] []) _
 unfold DAt
 exact ⟨⟨#[]⟩, _, _, [], [], rfl, rfl, ⟨none, 0, rfl, Nat.le_refl _, fun h => absurd h (by simp)⟩, rfl, ⟨none, 0, rfl, Nat.le_refl _, fun h => absurd h (by simp)⟩, by unfold DsAt; rfl⟩
def FdPost (S : Nat → Prop) (o : Option Mu.Val) (w : World) (e : Ending) (w' : World) : Prop :=
 ∃ k1 t1 n1 b1 a1 l1 c1 a2 l2 c2, e = .returned (.tuple #[.agg #[.int .i64 k1, .string t1, .int .i64 n1, .bool b1, .slice a1 l1 c1, .slice a2 l2 c2], .bool o.isSome]) ∧
  Hid (F0 w w' ∧ DAt w' S (o.getD Mu.Val.zero) (.agg #[.int .i64 k1, .string t1, .int .i64 n1, .bool b1, .slice a1 l1 c1, .slice a2 l2 c2]))
theorem getKV_drop {key : Mu.B} {ks : List Mu.B} {l : List Mu.Val} {i : Nat} (hk : i < ks.length) (hl : i < l.length) : Mu.getKV (ks.drop i) (l.drop i) key = if ks[i] = key then some l[i] else Mu.getKV (ks.drop (i + 1)) (l.drop (i + 1)) key := by
 rw [List.drop_eq_getElem_cons hk, List.drop_eq_getElem_cons hl]; rfl
theorem field_any (x : Mu.Val) (kb : ByteArray) (w : World) (S : Nat → Prop) (u : Value) (hd : DAt w S x u) (hS : ∀ k, S k → k < w.heap.size) (hg : x.kind = 5 → x.keys.length = x.list.length) (hl : x.list.length ≤ 8) :
 Calls Tryz.prog 80 #[u, .string kb] w (FdPost S (Mu.fieldV x (L kb)) w) := by
 obtain ⟨k, t, n, b, ks, l⟩ := x
 unfold DAt at hd
 obtain ⟨tb, kv, lv, kbs, us, rfl, ht, ⟨ka, kc, rfl, hkc, hkk⟩, hks, hvs, hds⟩ := hd
 obtain ⟨la, lc, rfl, -⟩ := id hvs
 have hul := hds.length
 have hkb : kbs.length = ks.length := by rw [← hks]; simp
 simp only [Mu.Val.kind, Mu.Val.keys, Mu.Val.list] at hg hl
 by_cases h5 : k = 5
 · subst h5
   have hkl := hg rfl;have HFV : Hid (Mu.fieldV (.mk 5 t n b ks l) (L kb) = Mu.getKV (ks.drop 0) (l.drop 0) (L kb)) := hid rfl
   have HST : Hid (∀ (i : Nat) (hi : i < kbs.length) (hil : i < l.length), Mu.getKV (ks.drop i) (l.drop i) (L kb) = if L kbs[i] = L kb then some l[i] else Mu.getKV (ks.drop (i + 1)) (l.drop (i + 1)) (L kb)) := hid (fun i hi hil => by
    rw [getKV_drop (by omega) (by omega)];have : ks[i]'(by omega) = L kbs[i] := by simp only [← hks, List.getElem_map]
    rw [this])
   have HEN : Hid (∀ i, kbs.length ≤ i → Mu.getKV (ks.drop i) (l.drop i) (L kb) = none) := hid (fun i hi => by
    rw [List.drop_eq_nil_of_le (by omega)]; simp [Mu.getKV])
   have HC : Hid (∀ j (h : j < us.length), ∃ g o k1 t1 n1 b1 a1 l1 c1 a2 l2 c2, la = some ⟨g, o, none⟩ ∧ S g ∧ us[j] = .agg #[.int .i64 k1, .string t1, .int .i64 n1, .bool b1, .slice a1 l1 c1, .slice a2 l2 c2] ∧ w.cell? ⟨g, o + j * 6, none⟩ = some (.int .i64 k1) ∧ w.cell? ⟨g, o + j * 6 + 1, none⟩ = some (.string t1) ∧ w.cell? ⟨g, o + j * 6 + 2, none⟩ = some (.int .i64 n1) ∧ w.cell? ⟨g, o + j * 6 + 3, none⟩ = some (.bool b1) ∧ w.cell? ⟨g, o + j * 6 + 4, none⟩ = some (.slice a1 l1 c1) ∧ w.cell? ⟨g, o + j * 6 + 5, none⟩ = some (.slice a2 l2 c2)) := hid (fun j hj => hvs.one hds hj)
   have HD : Hid (∀ w', F0 w w' → ∀ j (h : j < us.length) (h' : j < l.length), DAt w' S l[j] us[j]) := hid (fun w' hf j h h' => DAt.keep (fun k hk => hf.block k (hS k hk) id) (fun _ h => h) _ _ (hds.at j h' h));have HKK := hid hkk;obtain ⟨N, hN1, hN2⟩ : ∃ N, us.length = N ∧ kbs.length = N := ⟨us.length, rfl, by omega⟩
   have hN8 : N ≤ 8 := by omega
   have HN1 := hid hN1;have HN2 := hid hN2;have HLL : Hid (l.length = N) := hid (by omega);simp only [hN1, hN2] at hkc ⊢;clear hS ht hkk hks hvs hds hg hl hul hkb hkl hN1 hN2;go_enter Tryz.func80, Tryz.ntmps80;go_wp2_with fail
   go_loopg [14] N (fun g v wr => ∃ i : Nat, v = .int .i64 i ∧ i ≤ N ∧ g = N - i ∧ wr = (w.alloc (.cells #[.int .i64 5, .string tb, .int .i64 n, .bool b, .slice ka N kc, .slice la N lc] 25)).alloc (.cells #[.int .i64 0, .string ⟨#[]⟩, .int .i64 0, .bool false, .slice none 0 0, .slice none 0 0] 25) ∧ Hid (Mu.fieldV (.mk 5 t n b ks l) (L kb) = Mu.getKV (ks.drop i) (l.drop i) (L kb)))
   case atStart => exact ⟨0, rfl, Nat.zero_le _, rfl, rfl, HFV⟩
   case round =>
    obtain ⟨i, rfl, hi0, rfl, rfl, HI⟩ := hrel
    by_cases hlt : i < N
    · obtain ⟨gk, ok, hka, hSk, hkc2⟩ := HKK.out (by have := HN2.out; omega)
      subst hka;have hik : i < kbs.length := by have := HN2.out; omega
      have hil : i < l.length := by have := HLL.out; omega
      obtain ⟨g, o, k1, t1, n1, b1, a1, l1, c1, a2, l2, c2, rfl, hSg, hu, e0, e1, e2, e3, e4, e5⟩ := HC.out i (by have := HN1.out; omega)
      have hf0 : F0 w ((w.alloc (.cells #[.int .i64 5, .string tb, .int .i64 n, .bool b, .slice (some ⟨gk, ok, none⟩) N kc, .slice (some ⟨g, o, none⟩) N lc] 25)).alloc (.cells #[.int .i64 0, .string ⟨#[]⟩, .int .i64 0, .bool false, .slice none 0 0, .slice none 0 0] 25)) := (Fr.alloc _ _ _).allocA _;have d0 := hkc2 i hik;obtain ⟨ki, hki⟩ : ∃ ki, ki = kbs[i] := ⟨_, rfl⟩
      rw [← hki] at d0;have lg := World.block_lt_of_cell? w _ e0;have lk := World.block_lt_of_cell? w _ d0;simp only at lg lk
      by_cases hq : L ki = L kb
      · have q2 : (ki.toList == kb.toList) = true := by rw [beq_iff_eq, ByteArray.toList_eq, ByteArray.toList_eq]; exact hq
        have HR : Hid (Mu.fieldV (.mk 5 t n b ks l) (L kb) = some l[i]) := hid (by rw [HI.out, HST.out i hik hil, ← hki, if_pos hq]);have HU : Hid (∀ w', F0 w w' → DAt w' S l[i] (.agg #[.int .i64 k1, .string t1, .int .i64 n1, .bool b1, .slice a1 l1 c1, .slice a2 l2 c2])) := hid (fun w' hf => by rw [← hu]; exact HD.out w' hf i _ hil);clear hq hki hkc2 hSk hSg hu hf0;go_wp2_with fail
        refine bodyPost_ret (v := .tuple #[.agg #[.int .i64 k1, .string t1, .int .i64 n1, .bool b1, .slice a1 l1 c1, .slice a2 l2 c2], .bool true]) (by simp [results, Tryz.results80, go_sem]) rfl ?_;rw [HR.out];exact ⟨_, _, _, _, _, _, _, _, _, _, rfl, hid ⟨(Fr.alloc _ _ _).allocA _, HU.out _ ((Fr.alloc _ _ _).allocA _)⟩⟩
      · have q2 : (ki.toList == kb.toList) = false := by rw [beq_eq_false_iff_ne, ByteArray.toList_eq, ByteArray.toList_eq]; exact hq
        have HI2 : Hid (Mu.fieldV (.mk 5 t n b ks l) (L kb) = Mu.getKV (ks.drop (i + 1)) (l.drop (i + 1)) (L kb)) := hid (by rw [HI.out, HST.out i hik hil, ← hki, if_neg hq]);clear hq hki hkc2 hSk hSg hu hf0;go_wp2_with fail
        go_roundg (N - (i + 1))
        case rel => exact ⟨i + 1, by go_num, by omega, rfl, rfl, HI2⟩
        case measure => omega
    · have HR : Hid (Mu.fieldV (.mk 5 t n b ks l) (L kb) = none) := hid (by rw [HI.out]; exact HEN.out i (by have := HN2.out; omega))
      go_wp2_with fail;refine bodyPost_ret (v := .tuple #[.agg #[.int .i64 0, .string ⟨#[]⟩, .int .i64 0, .bool false, .slice none 0 0, .slice none 0 0], .bool false]) (by simp [results, Tryz.results80, go_sem]) rfl ?_
      rw [HR.out];exact ⟨_, _, _, _, _, _, _, _, _, _, rfl, hid ⟨(Fr.alloc _ _ _).allocA _, DAt.zero _ _⟩⟩
 · have q5 : (k == 5) = false := by simpa using h5
   have HR : Hid (Mu.fieldV (.mk k t n b ks l) (L kb) = none) := hid (if_neg h5);clear hS ht hkk hks hvs hds hg hl hul hkb h5;go_enter Tryz.func80, Tryz.ntmps80;go_wp2_with fail;refine bodyPost_ret (v := .tuple #[.agg #[.int .i64 0, .string ⟨#[]⟩, .int .i64 0, .bool false, .slice none 0 0, .slice none 0 0], .bool false]) (by simp [results, Tryz.results80, go_sem]) rfl ?_;rw [HR.out]
   exact ⟨_, _, _, _, _, _, _, _, _, _, rfl, hid ⟨(Fr.alloc _ _ _).allocA _, DAt.zero _ _⟩⟩
theorem six_heap {w : World} {b : Nat} {x0 x1 x2 x3 x4 x5 : Value} {T : TypeId} (h : w.heap[b]? = some (.cells #[x0, x1, x2, x3, x4, x5] T (0, 0))) (y0 y1 y2 y3 y4 y5 : Value) :
 ((((((w.setCell ⟨b, 0, none⟩ y0).setCell ⟨b, 1, none⟩ y1).setCell ⟨b, 2, none⟩ y2).setCell ⟨b, 3, none⟩ y3).setCell ⟨b, 4, none⟩ y4).setCell ⟨b, 5, none⟩ y5).heap[b]? = some (.cells #[y0, y1, y2, y3, y4, y5] T (0, 0)) := by
 have := blk_set (i := 5) y5 (blk_set (i := 4) y4 (blk_set (i := 3) y3 (blk_set (i := 2) y2 (blk_set (i := 1) y1 (blk_set (i := 0) y0 h)))))
 simpa using this
theorem six_read {w : World} {b : Nat} {x0 x1 x2 x3 x4 x5 : Value} {T : TypeId} (h : w.heap[b]? = some (.cells #[x0, x1, x2, x3, x4, x5] T (0, 0))) (y0 y1 y2 y3 y4 y5 : Value) :
 ((((((w.setCell ⟨b, 0, none⟩ y0).setCell ⟨b, 1, none⟩ y1).setCell ⟨b, 2, none⟩ y2).setCell ⟨b, 3, none⟩ y3).setCell ⟨b, 4, none⟩ y4).setCell ⟨b, 5, none⟩ y5).cell? ⟨b, 0, none⟩ = some y0 ∧
 ((((((w.setCell ⟨b, 0, none⟩ y0).setCell ⟨b, 1, none⟩ y1).setCell ⟨b, 2, none⟩ y2).setCell ⟨b, 3, none⟩ y3).setCell ⟨b, 4, none⟩ y4).setCell ⟨b, 5, none⟩ y5).cell? ⟨b, 1, none⟩ = some y1 ∧
 ((((((w.setCell ⟨b, 0, none⟩ y0).setCell ⟨b, 1, none⟩ y1).setCell ⟨b, 2, none⟩ y2).setCell ⟨b, 3, none⟩ y3).setCell ⟨b, 4, none⟩ y4).setCell ⟨b, 5, none⟩ y5).cell? ⟨b, 2, none⟩ = some y2 ∧
 ((((((w.setCell ⟨b, 0, none⟩ y0).setCell ⟨b, 1, none⟩ y1).setCell ⟨b, 2, none⟩ y2).setCell ⟨b, 3, none⟩ y3).setCell ⟨b, 4, none⟩ y4).setCell ⟨b, 5, none⟩ y5).cell? ⟨b, 3, none⟩ = some y3 ∧
 ((((((w.setCell ⟨b, 0, none⟩ y0).setCell ⟨b, 1, none⟩ y1).setCell ⟨b, 2, none⟩ y2).setCell ⟨b, 3, none⟩ y3).setCell ⟨b, 4, none⟩ y4).setCell ⟨b, 5, none⟩ y5).cell? ⟨b, 4, none⟩ = some y4 ∧
 ((((((w.setCell ⟨b, 0, none⟩ y0).setCell ⟨b, 1, none⟩ y1).setCell ⟨b, 2, none⟩ y2).setCell ⟨b, 3, none⟩ y3).setCell ⟨b, 4, none⟩ y4).setCell ⟨b, 5, none⟩ y5).cell? ⟨b, 5, none⟩ = some y5 := by
 have e := blk_cell (six_heap h y0 y1 y2 y3 y4 y5)
 exact ⟨e 0, e 1, e 2, e 3, e 4, e 5⟩
theorem six_fr {w wr : World} {b : Nat} (h : F0 w wr) (hb : w.heap.size ≤ b) (y0 y1 y2 y3 y4 y5 : Value) :
 F0 w ((((((wr.setCell ⟨b, 0, none⟩ y0).setCell ⟨b, 1, none⟩ y1).setCell ⟨b, 2, none⟩ y2).setCell ⟨b, 3, none⟩ y3).setCell ⟨b, 4, none⟩ y4).setCell ⟨b, 5, none⟩ y5) :=
 (((((h.setA _ _ (.inr hb)).setA _ _ (.inr hb)).setA _ _ (.inr hb)).setA _ _ (.inr hb)).setA _ _ (.inr hb)).setA _ _ (.inr hb)
theorem six_keep {w wr : World} {S : Nat → Prop} {b : Nat} (hS : ∀ k, S k → k < w.heap.size) (hb : w.heap.size ≤ b) (y0 y1 y2 y3 y4 y5 : Value) :
 Keep S wr ((((((wr.setCell ⟨b, 0, none⟩ y0).setCell ⟨b, 1, none⟩ y1).setCell ⟨b, 2, none⟩ y2).setCell ⟨b, 3, none⟩ y3).setCell ⟨b, 4, none⟩ y4).setCell ⟨b, 5, none⟩ y5) := fun k hk => by
 have hne : k ≠ b := by have := hS k hk; omega
 rw [Below.heap_setCell _ _ _ _ hne, Below.heap_setCell _ _ _ _ hne, Below.heap_setCell _ _ _ _ hne, Below.heap_setCell _ _ _ _ hne, Below.heap_setCell _ _ _ _ hne, Below.heap_setCell _ _ _ _ hne]
def LkAt (w1 wq : World) (S : Nat → Prop) (vb : Nat) (x : Mu.Val) : Prop := F0 w1 wq ∧ w1.heap.size ≤ vb ∧ ∃ k3 t3 n3 b3 a3 l3 c3 a4 l4 c4, wq.heap[vb]? = some (.cells #[.int .i64 k3, .string t3, .int .i64 n3, .bool b3, .slice a3 l3 c3, .slice a4 l4 c4] 25 (0, 0)) ∧ DAt wq S x (.agg #[.int .i64 k3, .string t3, .int .i64 n3, .bool b3, .slice a3 l3 c3, .slice a4 l4 c4])
theorem lk_new {w1 w2 : World} {S : Nat → Prop} {x : Mu.Val} {k3 : Int} {t3 : ByteArray} {n3 : Int} {b3 : Bool} {a3 : Option Addr} {l3 c3 : Nat} {a4 : Option Addr} {l4 c4 : Nat} (hf : F0 w1 w2) (hS : ∀ k, S k → k < w1.heap.size) (hd : DAt w2 S x (.agg #[.int .i64 k3, .string t3, .int .i64 n3, .bool b3, .slice a3 l3 c3, .slice a4 l4 c4])) :
 LkAt w1 (w2.alloc (.cells #[.int .i64 k3, .string t3, .int .i64 n3, .bool b3, .slice a3 l3 c3, .slice a4 l4 c4] 25)) S w2.heap.size x :=
 ⟨hf.allocA _, hf.size, _, _, _, _, _, _, _, _, _, _, blk_new _ _, DAt.keep (fun k hk => Below.heap_alloc _ _ _ (by have := hS k hk; have := hf.size; omega)) (fun _ h => h) _ _ hd⟩
theorem lk_old {w1 w2 : World} {S : Nat → Prop} {x : Mu.Val} {b : Nat} {x0 x1 x2 x3 x4 x5 : Value} {k3 : Int} {t3 : ByteArray} {n3 : Int} {b3 : Bool} {a3 : Option Addr} {l3 c3 : Nat} {a4 : Option Addr} {l4 c4 : Nat} (hb : w2.heap[b]? = some (.cells #[x0, x1, x2, x3, x4, x5] 25 (0, 0))) (hl : w1.heap.size ≤ b) (hf : F0 w1 w2) (hS : ∀ k, S k → k < w1.heap.size) (hd : DAt w2 S x (.agg #[.int .i64 k3, .string t3, .int .i64 n3, .bool b3, .slice a3 l3 c3, .slice a4 l4 c4])) :
 LkAt w1 ((((((w2.setCell ⟨b, 0, none⟩ (.int .i64 k3)).setCell ⟨b, 1, none⟩ (.string t3)).setCell ⟨b, 2, none⟩ (.int .i64 n3)).setCell ⟨b, 3, none⟩ (.bool b3)).setCell ⟨b, 4, none⟩ (.slice a3 l3 c3)).setCell ⟨b, 5, none⟩ (.slice a4 l4 c4)) S b x :=
 ⟨six_fr hf hl _ _ _ _ _ _, hl, _, _, _, _, _, _, _, _, _, _, six_heap hb _ _ _ _ _ _, DAt.keep (six_keep hS hl _ _ _ _ _ _) (fun _ h => h) _ _ hd⟩
theorem six_ne {w : World} {b b2 : Nat} {o : Option Obj} (h : w.heap[b2]? = o) (hne : b2 ≠ b) (y0 y1 y2 y3 y4 y5 : Value) :
 ((((((w.setCell ⟨b, 0, none⟩ y0).setCell ⟨b, 1, none⟩ y1).setCell ⟨b, 2, none⟩ y2).setCell ⟨b, 3, none⟩ y3).setCell ⟨b, 4, none⟩ y4).setCell ⟨b, 5, none⟩ y5).heap[b2]? = o := by
 rw [Below.heap_setCell _ _ _ _ hne, Below.heap_setCell _ _ _ _ hne, Below.heap_setCell _ _ _ _ hne, Below.heap_setCell _ _ _ _ hne, Below.heap_setCell _ _ _ _ hne, Below.heap_setCell _ _ _ _ hne]; exact h
theorem downs_drop {ws : List Mu.B} {j : Nat} (h : j < ws.length) (z : Mu.Val) : Mu.downs (ws.drop j) z = (Mu.fieldV z ws[j]).bind (Mu.downs (ws.drop (j + 1))) := by
 rw [List.drop_eq_getElem_cons h]; rfl
theorem lookL_drop {w0 : Mu.B} {ws : List Mu.B} {st : List Mu.Val} {i : Nat} (h : i < st.length) : Mu.lookL w0 ws (st.drop i) = match Mu.fieldV st[i] w0 with
 | none => Mu.lookL w0 ws (st.drop (i + 1))
 | some v => Mu.downs ws v := by
 rw [List.drop_eq_getElem_cons h]; rfl
theorem look_any (T : Nat) (stack : List Mu.Val) (nm : ByteArray) (w : World) (S : Nat → Prop) (sv : Value) (us : List Value) (hvs : VsAt w S sv us) (hds : DsAt w S stack us) (hS : ∀ k, S k → k < w.heap.size) (hg : ∀ v ∈ stack, Mu.VW T v) (hne : stack ≠ []) (hns : nm.size ≤ 4294967296) (hsl : stack.length ≤ 4294967296) :
 Calls Tryz.prog 56 #[sv, .string nm] w (FdPost S (Mu.lookS stack (L nm)) w) := by
 obtain ⟨la, lc, rfl, -⟩ := id hvs
 have hul := hds.length
 have hpos : 0 < us.length := by rw [hul]; exact List.length_pos_iff.2 hne
 have HC : Hid (∀ j (h : j < us.length), ∃ g o k1 t1 n1 b1 a1 l1 c1 a2 l2 c2, la = some ⟨g, o, none⟩ ∧ S g ∧ us[j] = .agg #[.int .i64 k1, .string t1, .int .i64 n1, .bool b1, .slice a1 l1 c1, .slice a2 l2 c2] ∧ w.cell? ⟨g, o + j * 6, none⟩ = some (.int .i64 k1) ∧ w.cell? ⟨g, o + j * 6 + 1, none⟩ = some (.string t1) ∧ w.cell? ⟨g, o + j * 6 + 2, none⟩ = some (.int .i64 n1) ∧ w.cell? ⟨g, o + j * 6 + 3, none⟩ = some (.bool b1) ∧ w.cell? ⟨g, o + j * 6 + 4, none⟩ = some (.slice a1 l1 c1) ∧ w.cell? ⟨g, o + j * 6 + 5, none⟩ = some (.slice a2 l2 c2)) := hid (fun j hj => hvs.one hds hj)
 have HD : Hid (∀ w', F0 w w' → ∀ j (h : j < us.length) (h' : j < stack.length), DAt w' S stack[j] us[j]) := hid (fun w' hf j h h' => DAt.keep (fun k hk => hf.block k (hS k hk) id) (fun _ h => h) _ _ (hds.at j h' h))
 have HUL := hid hul
 have HSS := hid hS
 have HG := hid hg
 by_cases hp : L nm = [46]
 · have qb : (nm.toList == [46]) = true := by rw [beq_iff_eq, ByteArray.toList_eq]; exact hp
   have hpl : 0 < stack.length := by omega
   have HR : Hid (Mu.lookS stack (L nm) = some stack[0]) := hid (by unfold Mu.lookS; rw [if_pos hp, List.head?_eq_getElem?, List.getElem?_eq_getElem hpl]);obtain ⟨g, o, k1, t1, n1, b1, a1, l1, c1, a2, l2, c2, rfl, hSg, hu, e0, e1, e2, e3, e4, e5⟩ := HC.out 0 hpos;simp only [Nat.zero_mul, Nat.add_zero] at e0 e1 e2 e3 e4 e5;have lg := World.block_lt_of_cell? w _ e0;simp only at lg
   have HU : Hid (∀ w', F0 w w' → DAt w' S stack[0] (.agg #[.int .i64 k1, .string t1, .int .i64 n1, .bool b1, .slice a1 l1 c1, .slice a2 l2 c2])) := hid (fun w' hf => by rw [← hu]; exact HD.out w' hf 0 hpos hpl);clear hp hvs hds hS hg hu hSg hul;go_enter Tryz.func56, Tryz.ntmps56;go_wp2_with fail
   refine bodyPost_ret (v := .tuple #[.agg #[.int .i64 k1, .string t1, .int .i64 n1, .bool b1, .slice a1 l1 c1, .slice a2 l2 c2], .bool true]) (by simp [results, Tryz.results56, go_sem]) rfl ?_;rw [HR.out];exact ⟨_, _, _, _, _, _, _, _, _, _, rfl, hid ⟨Fr.alloc _ _ _, HU.out _ (Fr.alloc _ _ _)⟩⟩
 · have qb : (nm.toList == [46]) = false := by rw [beq_eq_false_iff_ne, ByteArray.toList_eq]; exact hp
   obtain ⟨w0, ws, hww⟩ : ∃ w0 ws, Mu.words (L nm) = w0 :: ws := by
    cases hw : Mu.words (L nm) with
    | nil => exact absurd hw (Mu.words_ne _)
    | cons a l => exact ⟨a, l, rfl⟩
   have HR : Hid (Mu.lookS stack (L nm) = Mu.lookL w0 ws (stack.drop 0)) := hid (by unfold Mu.lookS; rw [if_neg hp, hww]; rfl);have HWW := hid hww;clear hp hvs hds hS hg hul hww;go_enter Tryz.func56, Tryz.ntmps56;go_wp2_with fail;refine (words_any nm _ hns).mono ?_;rintro e w1 ⟨bs, v, rfl, hbs, hown, hf⟩
   have hlen : 0 < bs.length := by
    have := congrArg List.length hbs;rw [HWW.out] at this;simp at this; omega
   have hl2 : bs.length ≤ 4294967298 := by
    have h : ∀ acc l, (Mu.wordsL acc l).length ≤ l.length + 1 := by
     intro acc l
     induction l generalizing acc with
     | nil => simp [Mu.wordsL]
     | cons c l ih =>
      unfold Mu.wordsL;split
      · have := ih []; simp; omega
      · have := ih (acc ++ [c]); simp; omega
    have h := h [] (L nm);rw [show Mu.wordsL [] (L nm) = Mu.words (L nm) from rfl, ← hbs, List.length_map, L_length] at h;omega
   obtain ⟨gw, cp, rfl, hgw, hcp, hcell⟩ := own_read hown hlen;have HF1 : Hid (F0 w w1) := hid ((Fr.alloc _ _ _).trans hf);have hrb : w1.heap[w.heap.size]? = some (.cells #[.int .i64 0, .string ⟨#[]⟩, .int .i64 0, .bool false, .slice none 0 0, .slice none 0 0] 25 (0, 0)) := hf.blk (blk_new w _) id;have HRB := hid hrb;obtain ⟨M, hM⟩ : ∃ M, bs.length = M + 1 := ⟨bs.length - 1, by omega⟩
   have HC2 : Hid (∀ (j : Nat) (hj : j < bs.length), w1.cell? ⟨gw, j, none⟩ = some (.string bs[j])) := hid (fun j hj => by
    have := hcell j (by simpa using hj);rw [this, List.getElem_map])
   have HBW : Hid (∃ (h0 : 0 < bs.length), L bs[0] = w0 ∧ ∀ j (hj : j < ws.length), ∃ h : j + 1 < bs.length, L bs[j + 1] = ws[j]) := hid (by
    have hbs2 := hbs.trans HWW.out;refine ⟨hlen, ?_, fun j hj => ?_⟩
    · have := congrArg (·[0]?) hbs2
      simpa [List.getElem?_map, List.getElem?_eq_getElem hlen] using this
    · have hl := congrArg List.length hbs2
      simp at hl;refine ⟨by omega, ?_⟩;have := congrArg (·[j + 1]?) hbs2;simpa [List.getElem?_map, List.getElem?_eq_getElem (show j + 1 < bs.length by omega), List.getElem?_eq_getElem hj] using this)
   have HML : Hid (ws.length = M) := hid (by
    have hl := congrArg List.length (hbs.trans HWW.out);simp at hl; omega)
   have hgl : gw < w1.heap.size := by have := World.block_lt_of_cell? w1 _ (HC2.out 0 hlen); exact this
   have hrl := blk_lt hrb;rw [hM] at hcp ⊢;have HMM := hid hM;have hs1 : w.heap.size ≤ w1.heap.size := HF1.out.size;have hM2 : M ≤ 4294967297 := by omega
   clear hbs hown hf hcell hlen hl2 hgw hrb hM;go_wp2_with fail
   go_loopg [22] us.length (fun g v wr => ∃ i : Nat, v = .int .i64 i ∧ i ≤ us.length ∧ g = us.length - i ∧ Hid (F0 w1 wr ∧ Mu.lookS stack (L nm) = Mu.lookL w0 ws (stack.drop i)))
   case atStart => exact ⟨0, rfl, Nat.zero_le _, rfl, hid ⟨Fr.refl _ _, HR.out⟩⟩
   case round =>
    obtain ⟨i, rfl, hi0, rfl, HI⟩ := hrel
    by_cases hlt : i < us.length
    · obtain ⟨g, o, k1, t1, n1, b1, a1, l1, c1, a2, l2, c2, rfl, hSg, hu, e0, e1, e2, e3, e4, e5⟩ := HC.out i hlt
      have hil : i < stack.length := by have := HUL.out; omega
      have hf0 := HF1.out.trans HI.out.1;have d0 := F0.cell hf0 e0;have d1 := F0.cell hf0 e1;have d2 := F0.cell hf0 e2;have d3 := F0.cell hf0 e3;have d4 := F0.cell hf0 e4;have d5 := F0.cell hf0 e5;obtain ⟨h0b, hb0, -⟩ := HBW.out;have dw := F0.cell HI.out.1 (HC2.out 0 h0b);obtain ⟨kb, hkb⟩ : ∃ kb, kb = bs[0] := ⟨_, rfl⟩
      rw [← hkb] at dw hb0;have hwl : w1.heap.size ≤ wr.heap.size := HI.out.1.size;have hgl2 : gw < wr.heap.size := by omega
      obtain ⟨of, hof⟩ : ∃ of, of = Mu.fieldV stack[i] w0 := ⟨_, rfl⟩
      have hvg := HG.out _ (List.getElem_mem hil)
      have HFD : Hid (∀ w', F0 w1 w' → Calls Tryz.prog 80 #[.agg #[.int .i64 k1, .string t1, .int .i64 n1, .bool b1, .slice a1 l1 c1, .slice a2 l2 c2], .string kb] w' (FdPost S of w')) := hid (fun w' hf => by
       have h1 := HF1.out.trans hf;rw [hof, ← hb0]
       exact field_any stack[i] kb w' S _ (by rw [← hu]; exact HD.out w' h1 i hlt hil) (fun k hk => by have := HSS.out k hk; have := h1.size; omega) (by
        obtain ⟨d, hd⟩ := hvg
        cases d with
        | zero => exact hd.elim
        | succ d => exact fun h5 => (hd.2.2.2.1.1 h5).1) hvg.few)
      have HOF := hid hof;clear hu e0 e1 e2 e3 e4 e5 hSg hf0 hb0 hkb hof hvg;have hle1 : w1.heap.size ≤ wr.heap.size + 1 := by omega
      have HS1 : Hid (∀ k, S k → k < w1.heap.size) := hid (fun k hk => by have := HSS.out k hk; omega)
      go_upto_region 7 with fail
      go_cut [9, 10] (fun v9 v10 wq => ∃ vb, v9 = .pointer (some ⟨vb, 0, none⟩) ∧ v10 = .bool of.isSome ∧ Hid (LkAt w1 wq S vb (of.getD Mu.Val.zero)))
      case first =>
       go_region_with (go_at_call 80; refine (HFD.out _ (by repeat (first | exact HI.out.1 | refine Fr.drewA ?_ | refine Fr.allocA ?_ _))).mono ?_; rintro e w2 ⟨k3, t3, n3, b3, a3, l3, c3, a4, l4, c4, rfl, HX⟩; have HFW : Hid (F0 w1 w2) := hid (Fr.trans (by repeat (first | exact HI.out.1 | refine Fr.drewA ?_ | refine Fr.allocA ?_ _)) HX.out.1); try (have hb1 : w2.heap[wr.heap.size + 1]? = some (.cells #[.int .i64 0, .string ⟨#[]⟩, .int .i64 0, .bool false, .slice none 0 0, .slice none 0 0] 25 (0, 0)) := HX.out.1.blk (show ((wr.alloc (.cells #[.int .i64 k1, .string t1, .int .i64 n1, .bool b1, .slice a1 l1 c1, .slice a2 l2 c2] 25)).alloc (.cells #[.int .i64 0, .string ⟨#[]⟩, .int .i64 0, .bool false, .slice none 0 0, .slice none 0 0] 25)).heap[wr.heap.size + 1]? = some (.cells #[.int .i64 0, .string ⟨#[]⟩, .int .i64 0, .bool false, .slice none 0 0, .slice none 0 0] 25 (0, 0)) by simpa using blk_new (wr.alloc (.cells #[.int .i64 k1, .string t1, .int .i64 n1, .bool b1, .slice a1 l1 c1, .slice a2 l2 c2] 25)) (.cells #[.int .i64 0, .string ⟨#[]⟩, .int .i64 0, .bool false, .slice none 0 0, .slice none 0 0] 25)) id; have HB1 := hid hb1; have x0 := blk_cell hb1 0; have x1 := blk_cell hb1 1; have x2 := blk_cell hb1 2; have x3 := blk_cell hb1 3; have x4 := blk_cell hb1 4; have x5 := blk_cell hb1 5; have y0 := blk_free hb1 0; have y1 := blk_free hb1 1; have y2 := blk_free hb1 2; have y3 := blk_free hb1 3; have y4 := blk_free hb1 4; have y5 := blk_free hb1 5; have hbl := blk_lt hb1; simp only [List.getElem?_toArray, List.getElem?_cons_zero, List.getElem?_cons_succ] at x0 x1 x2 x3 x4 x5; clear hb1))
       all_goals
        go_wp2_with fail
        go_meet
        case rel =>
         first
          | with_reducible exact ⟨_, rfl, rfl, hid (lk_new HFW.out HS1.out HX.out.2)⟩
          | with_reducible exact ⟨_, rfl, rfl, hid (lk_old HB1.out hle1 HFW.out HS1.out HX.out.2)⟩
      case rest =>
       obtain ⟨vb, rfl, rfl, HLK⟩ := hcut;clear d0 d1 d2 d3 d4 d5 dw hle1
       cases of with
       | none =>
        have HNX : Hid (Mu.lookS stack (L nm) = Mu.lookL w0 ws (stack.drop (i + 1))) := hid (by rw [HI.out.2, lookL_drop hil, ← HOF.out]);go_wp2_with fail
        go_roundg (us.length - (i + 1))
        case rel => exact ⟨i + 1, by go_num, by omega, rfl, hid ⟨HLK.out.1, HNX.out⟩⟩
        case measure => omega
       | some y =>
        have HYG : Hid (Mu.VW T y) := hid ((HG.out _ (List.getElem_mem hil)).field HOF.out.symm)
        by_cases hc1 : cp = 1
        · have hM0 : M = 0 := by omega
          clear hM2;go_wp2_with fail
          go_loopg [39] M (fun g v w5 => ∃ (j : Nat) (z : Mu.Val), v = .int .i64 j ∧ j ≤ M ∧ g = M - j ∧ Hid (LkAt w1 w5 S vb z ∧ Mu.downs ws y = Mu.downs (ws.drop j) z ∧ Mu.VW T z))
          case atStart => exact ⟨0, y, rfl, Nat.zero_le _, rfl, hid ⟨HLK.out, rfl, HYG.out⟩⟩
          case round =>
           obtain ⟨j, z, rfl, hj0, rfl, HJ⟩ := hrel;obtain ⟨hfj, hvb, k3, t3, n3, b3, a3, l3, c3, a4, l4, c4, hvh, hvd⟩ := HJ.out.1;have HVH := hid hvh;have HVD := hid hvd;have HFJ := hid hfj;have x0 := blk_cell hvh 0;have x1 := blk_cell hvh 1;have x2 := blk_cell hvh 2;have x3 := blk_cell hvh 3;have x4 := blk_cell hvh 4;have x5 := blk_cell hvh 5;have hlv := blk_lt hvh
           simp only [List.getElem?_toArray, List.getElem?_cons_zero, List.getElem?_cons_succ] at x0 x1 x2 x3 x4 x5;have hrb0 := hfj.blk HRB.out id;have HRB0 := hid hrb0;have r0 := blk_cell hrb0 0;have r1 := blk_cell hrb0 1;have r2 := blk_cell hrb0 2;have r3 := blk_cell hrb0 3;have r4 := blk_cell hrb0 4;have r5 := blk_cell hrb0 5;have s0 := blk_free hrb0 0;have s1 := blk_free hrb0 1
           have s2 := blk_free hrb0 2;have s3 := blk_free hrb0 3;have s4 := blk_free hrb0 4;have s5 := blk_free hrb0 5;have hlr := blk_lt hrb0;simp only [List.getElem?_toArray, List.getElem?_cons_zero, List.getElem?_cons_succ] at r0 r1 r2 r3 r4 r5;have hgl5 : gw < wr.heap.size := by have := hfj.size; omega
           have hne5 : vb ≠ w.heap.size := by omega
           have hne6 : w.heap.size ≠ vb := by omega
           clear hvh hvd hrb0 hfj
           by_cases hlj : j < M
           · exact absurd hlj (by omega)
           · have HEND : Hid (Mu.lookS stack (L nm) = some z) := hid (by
              rw [HI.out.2, lookL_drop hil, ← HOF.out];show Mu.downs ws y = some z;rw [HJ.out.2.1, List.drop_eq_nil_of_le (by have := HML.out; omega)]; rfl)
             go_wp2_with fail;refine bodyPost_ret (v := .tuple #[.agg #[.int .i64 k3, .string t3, .int .i64 n3, .bool b3, .slice a3 l3 c3, .slice a4 l4 c4], .bool true]) (by simp [results, Tryz.results56, go_sem, six_read HRB0.out]) rfl ?_
             rw [HEND.out];exact ⟨_, _, _, _, _, _, _, _, _, _, rfl, hid ⟨(six_fr (HF1.out.trans HFJ.out) (Nat.le_refl _) _ _ _ _ _ _), DAt.keep (six_keep HSS.out (Nat.le_refl _) _ _ _ _ _ _) (fun _ h => h) _ _ HVD.out⟩⟩
        · go_wp2_with fail
          go_loopg [39] M (fun g v w5 => ∃ (j : Nat) (z : Mu.Val), v = .int .i64 j ∧ j ≤ M ∧ g = M - j ∧ Hid (LkAt w1 w5 S vb z ∧ Mu.downs ws y = Mu.downs (ws.drop j) z ∧ Mu.VW T z))
          case atStart => exact ⟨0, y, rfl, Nat.zero_le _, rfl, hid ⟨HLK.out, rfl, HYG.out⟩⟩
          case round =>
           obtain ⟨j, z, rfl, hj0, rfl, HJ⟩ := hrel;obtain ⟨hfj, hvb, k3, t3, n3, b3, a3, l3, c3, a4, l4, c4, hvh, hvd⟩ := HJ.out.1;have HVH := hid hvh;have HVD := hid hvd;have HFJ := hid hfj;have x0 := blk_cell hvh 0;have x1 := blk_cell hvh 1;have x2 := blk_cell hvh 2;have x3 := blk_cell hvh 3;have x4 := blk_cell hvh 4;have x5 := blk_cell hvh 5;have hlv := blk_lt hvh
           simp only [List.getElem?_toArray, List.getElem?_cons_zero, List.getElem?_cons_succ] at x0 x1 x2 x3 x4 x5;have hrb0 := hfj.blk HRB.out id;have HRB0 := hid hrb0;have r0 := blk_cell hrb0 0;have r1 := blk_cell hrb0 1;have r2 := blk_cell hrb0 2;have r3 := blk_cell hrb0 3;have r4 := blk_cell hrb0 4;have r5 := blk_cell hrb0 5;have s0 := blk_free hrb0 0;have s1 := blk_free hrb0 1
           have s2 := blk_free hrb0 2;have s3 := blk_free hrb0 3;have s4 := blk_free hrb0 4;have s5 := blk_free hrb0 5;have hlr := blk_lt hrb0;simp only [List.getElem?_toArray, List.getElem?_cons_zero, List.getElem?_cons_succ] at r0 r1 r2 r3 r4 r5;have hgl5 : gw < wr.heap.size := by have := hfj.size; omega
           have hne5 : vb ≠ w.heap.size := by omega
           have hne6 : w.heap.size ≠ vb := by omega
           clear hvh hvd hrb0 hfj
           by_cases hlj : j < M
           · obtain ⟨hj2, hjw⟩ := HBW.out.2.2 j (by have := HML.out; omega)
             have hjl : j < ws.length := by have := HML.out; omega
             have dj := F0.cell HFJ.out (HC2.out (j + 1) hj2);obtain ⟨kj, hkj⟩ : ∃ kj, kj = bs[j + 1] := ⟨_, rfl⟩
             rw [← hkj] at dj hjw;rw [Nat.add_comm j 1] at dj;obtain ⟨oz, hoz⟩ : ∃ oz, oz = Mu.fieldV z (L kj) := ⟨_, rfl⟩
             have HDW : Hid (Mu.downs (ws.drop j) z = oz.bind (Mu.downs (ws.drop (j + 1)))) := hid (by rw [downs_drop hjl, hoz, hjw]);have HZG := hid HJ.out.2.2;have HOZ := hid hoz
             have HFD2 : Hid (Calls Tryz.prog 80 #[.agg #[.int .i64 k3, .string t3, .int .i64 n3, .bool b3, .slice a3 l3 c3, .slice a4 l4 c4], .string kj] wr (FdPost S oz wr)) := hid (by
              rw [hoz]
              exact field_any z kj wr S _ HVD.out (fun k hk => by have := HSS.out k hk; have := HFJ.out.size; omega) (by
               obtain ⟨d, hd⟩ := HZG.out
               cases d with
               | zero => exact hd.elim
               | succ d => exact fun h5 => (hd.2.2.2.1.1 h5).1) HZG.out.few)
             clear hkj hjw hoz;go_wp2_with fail;refine HFD2.out.mono ?_;rintro e w6 ⟨k5, t5, n5, b5, a5, l5, c5, a6, l6, c6, rfl, HX⟩;have hv6 := HX.out.1.blk HVH.out id;have hr6 := HX.out.1.blk HRB0.out id;have HV6 := hid hv6;have HR6 := hid hr6;have x0 := blk_cell hv6 0;have x1 := blk_cell hv6 1;have x2 := blk_cell hv6 2;have x3 := blk_cell hv6 3;have x4 := blk_cell hv6 4
             have x5 := blk_cell hv6 5;have y0 := blk_free hv6 0;have y1 := blk_free hv6 1;have y2 := blk_free hv6 2;have y3 := blk_free hv6 3;have y4 := blk_free hv6 4;have y5 := blk_free hv6 5;have hlv6 := blk_lt hv6;have r0 := blk_cell hr6 0;have r1 := blk_cell hr6 1;have r2 := blk_cell hr6 2;have r3 := blk_cell hr6 3;have r4 := blk_cell hr6 4;have r5 := blk_cell hr6 5
             have s0 := blk_free hr6 0;have s1 := blk_free hr6 1;have s2 := blk_free hr6 2;have s3 := blk_free hr6 3;have s4 := blk_free hr6 4;have s5 := blk_free hr6 5;have hlr6 := blk_lt hr6;simp only [List.getElem?_toArray, List.getElem?_cons_zero, List.getElem?_cons_succ] at x0 x1 x2 x3 x4 x5 r0 r1 r2 r3 r4 r5;clear hv6 hr6
             cases oz with
             | none =>
              have HEND : Hid (Mu.lookS stack (L nm) = none) := hid (by
               rw [HI.out.2, lookL_drop hil, ← HOF.out];show Mu.downs ws y = none;rw [HJ.out.2.1, HDW.out]; rfl)
              have HF6 : Hid (F0 w w6) := hid ((HF1.out.trans HFJ.out).trans HX.out.1);go_wp2_with fail
              refine bodyPost_ret (v := .tuple #[.agg #[.int .i64 0, .string ⟨#[]⟩, .int .i64 0, .bool false, .slice none 0 0, .slice none 0 0], .bool false]) (by simp [results, Tryz.results56, go_sem, six_read (six_ne HR6.out hne6 (.int .i64 k5) (.string t5) (.int .i64 n5) (.bool b5) (.slice a5 l5 c5) (.slice a6 l6 c6))]) rfl ?_;rw [HEND.out]
              exact ⟨_, _, _, _, _, _, _, _, _, _, rfl, hid ⟨six_fr (six_fr HF6.out (by omega) _ _ _ _ _ _) (Nat.le_refl _) _ _ _ _ _ _, DAt.zero _ _⟩⟩
             | some z2 =>
              have HZ2 : Hid (Mu.VW T z2) := hid (HZG.out.field HOZ.out.symm);have HND : Hid (Mu.downs ws y = Mu.downs (ws.drop (j + 1)) z2) := hid (by rw [HJ.out.2.1, HDW.out]; rfl);have HL2 : Hid (∀ wq, LkAt w1 wq S vb z2 → LkAt w1 wq S vb z2) := hid (fun _ h => h);go_wp2_with fail
              go_roundg (M - (j + 1))
              case rel => exact ⟨j + 1, z2, by go_num, by omega, rfl, hid ⟨lk_old HV6.out hvb (HFJ.out.trans HX.out.1) HS1.out HX.out.2, HND.out, HZ2.out⟩⟩
              case measure => omega
           · have HEND : Hid (Mu.lookS stack (L nm) = some z) := hid (by
              rw [HI.out.2, lookL_drop hil, ← HOF.out];show Mu.downs ws y = some z;rw [HJ.out.2.1, List.drop_eq_nil_of_le (by have := HML.out; omega)]; rfl)
             go_wp2_with fail;refine bodyPost_ret (v := .tuple #[.agg #[.int .i64 k3, .string t3, .int .i64 n3, .bool b3, .slice a3 l3 c3, .slice a4 l4 c4], .bool true]) (by simp [results, Tryz.results56, go_sem, six_read HRB0.out]) rfl ?_
             rw [HEND.out];exact ⟨_, _, _, _, _, _, _, _, _, _, rfl, hid ⟨(six_fr (HF1.out.trans HFJ.out) (Nat.le_refl _) _ _ _ _ _ _), DAt.keep (six_keep HSS.out (Nat.le_refl _) _ _ _ _ _ _) (fun _ h => h) _ _ HVD.out⟩⟩
    · have HNN : Hid (Mu.lookS stack (L nm) = none) := hid (by
       rw [HI.out.2, List.drop_eq_nil_of_le (by have := HUL.out; omega)]; rfl)
      have HF0 := hid HI.out.1;have hrb0 := HI.out.1.blk HRB.out id;have HRB0 := hid hrb0;have r0 := blk_cell hrb0 0;have r1 := blk_cell hrb0 1;have r2 := blk_cell hrb0 2;have r3 := blk_cell hrb0 3;have r4 := blk_cell hrb0 4;have r5 := blk_cell hrb0 5;have s0 := blk_free hrb0 0;have s1 := blk_free hrb0 1;have s2 := blk_free hrb0 2;have s3 := blk_free hrb0 3;have s4 := blk_free hrb0 4
      have s5 := blk_free hrb0 5;have hlr := blk_lt hrb0;simp only [List.getElem?_toArray, List.getElem?_cons_zero, List.getElem?_cons_succ] at r0 r1 r2 r3 r4 r5;clear hrb0;go_wp2_with fail
      refine bodyPost_ret (v := .tuple #[.agg #[.int .i64 0, .string ⟨#[]⟩, .int .i64 0, .bool false, .slice none 0 0, .slice none 0 0], .bool false]) (by simp [results, Tryz.results56, go_sem, six_read HRB0.out]) rfl ?_;rw [HNN.out];exact ⟨_, _, _, _, _, _, _, _, _, _, rfl, hid ⟨six_fr (HF1.out.trans HF0.out) (Nat.le_refl _) _ _ _ _ _ _, DAt.zero _ _⟩⟩
end Go.Proofs.YtfakghnpkdoclaaGreatDoor
