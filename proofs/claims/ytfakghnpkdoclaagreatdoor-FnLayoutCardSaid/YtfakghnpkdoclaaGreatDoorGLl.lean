/-
  The law FnLayout, walked.
-/
import Derived.Test.YtfakghnpkdoclaaGreatDoorGL1
import Derived.Test.YtfakghnpkdoclaaGreatDoorGY1
set_option linter.unusedVariables false
set_option linter.unusedSimpArgs false
set_option maxRecDepth 1000000
set_option maxHeartbeats 8000000
namespace Go.Proofs.YtfakghnpkdoclaaGreatDoor
open Go.RowKit
theorem two_row {w : World} {S S' : Nat → Prop} {x y : Mu.Val} {b : Nat} {x0 x1 x2 x3 x4 x5 y0 y1 y2 y3 y4 y5 : Value} (hb : w.heap[b]? = some (.cells #[x0, x1, x2, x3, x4, x5, y0, y1, y2, y3, y4, y5] 25 (0, 0))) (hx : DAt w S x (.agg #[x0, x1, x2, x3, x4, x5])) (hy : DAt w S' y (.agg #[y0, y1, y2, y3, y4, y5])) :
 VsAt w (fun k => (S k ∨ S' k) ∨ k = b) (.slice (some ⟨b, 0, none⟩) 2 2) [.agg #[x0, x1, x2, x3, x4, x5], .agg #[y0, y1, y2, y3, y4, y5]] ∧ DsAt w (fun k => (S k ∨ S' k) ∨ k = b) [x, y] [.agg #[x0, x1, x2, x3, x4, x5], .agg #[y0, y1, y2, y3, y4, y5]] := by
 have e := blk_cell hb
 refine ⟨⟨_, _, rfl, Nat.le_refl _, fun _ => ⟨b, 0, rfl, .inr rfl, fun j hj => ?_⟩⟩, ?_⟩
 · have hj' : j = 0 ∨ j = 1 := by
    have : j < 2 := hj;omega
   rcases hj' with rfl | rfl
   · exact ⟨_, _, _, _, _, _, rfl, by simpa using e 0, by simpa using e 1, by simpa using e 2, by simpa using e 3, by simpa using e 4, by simpa using e 5⟩
   · exact ⟨_, _, _, _, _, _, rfl, by simpa using e 6, by simpa using e 7, by simpa using e 8, by simpa using e 9, by simpa using e 10, by simpa using e 11⟩
 · unfold DsAt
   refine ⟨_, _, rfl, DAt.keep (fun _ _ => rfl) (fun _ h => .inl (.inl h)) _ _ hx, ?_⟩;unfold DsAt;refine ⟨_, _, rfl, DAt.keep (fun _ _ => rfl) (fun _ h => .inl (.inr h)) _ _ hy, ?_⟩;unfold DsAt;rfl
theorem cont_at {w : World} {o : ByteArray} {b1 b2 : Nat} (h1 : w.heap[b1]? = some (.cells #[.string ⟨#[99, 111, 110, 116, 101, 110, 116]⟩] 9 (0, 0))) (h2 : w.heap[b2]? = some (.cells #[.int .i64 1, .string o, .int .i64 0, .bool false, .slice none 0 0, .slice none 0 0] 25 (0, 0))) :
 DAt w (fun k => k = b1 ∨ k = b2) (contV (L o)) (.agg #[.int .i64 5, .string ⟨#[]⟩, .int .i64 0, .bool false, .slice (some ⟨b1, 0, none⟩) 1 1, .slice (some ⟨b2, 0, none⟩) 1 1]) := by
 unfold contV DAt
 refine ⟨⟨#[]⟩, _, _, [⟨#[99, 111, 110, 116, 101, 110, 116]⟩], [.agg #[.int .i64 1, .string o, .int .i64 0, .bool false, .slice none 0 0, .slice none 0 0]], rfl, rfl, ⟨_, _, rfl, Nat.le_refl _, fun _ => ⟨b1, 0, rfl, .inl rfl, fun j hj => ?_⟩⟩, rfl, ⟨_, _, rfl, Nat.le_refl _, fun _ => ⟨b2, 0, rfl, .inr rfl, fun j hj => ?_⟩⟩, ?_⟩
 · have : j = 0 := by simpa using hj
   subst this;simpa using blk_cell h1 0
 · have : j = 0 := by simpa using hj
   subst this;have e := blk_cell h2;exact ⟨_, _, _, _, _, _, rfl, by simpa using e 0, by simpa using e 1, by simpa using e 2, by simpa using e 3, by simpa using e 4, by simpa using e 5⟩
 · unfold DsAt
   refine ⟨_, [], rfl, ?_, by unfold DsAt; rfl⟩;unfold DAt;exact ⟨o, _, _, [], [], rfl, rfl, ⟨none, 0, rfl, Nat.le_refl _, fun h => absurd h (by simp)⟩, rfl, ⟨none, 0, rfl, Nat.le_refl _, fun h => absurd h (by simp)⟩, by unfold DsAt; rfl⟩
theorem cont_w {o : ByteArray} (h : o.size ≤ 400000000 * 1001) : Mu.VW 400400000000 (contV (L o)) := by
 refine ⟨2, ?_⟩
 simp only [Mu.VWk, contV, Mu.Val.kind, Mu.Val.text, Mu.Val.keys, Mu.Val.list, Mu.Val.num]
 refine ⟨by omega, trivial, by simp, ⟨fun _ => ⟨rfl, by simp⟩, by simp⟩, by omega, fun x hx => ?_⟩
 rw [List.mem_singleton.1 hx]
 refine ⟨by simp [Mu.Val.kind], trivial, ?_, ⟨fun h => by simp [Mu.Val.kind] at h, by simp [Mu.Val.list]⟩, by simp [Mu.Val.num], by simp [Mu.Val.list]⟩
 show (L o).length ≤ _
 rw [L_length]; omega
theorem cont_ok {o : Mu.B} (hs : Mu.signs o) (h : o.length ≤ 16384) : Mu.VOk 16384 2 (contV o) := by
 simp only [Mu.VOk, contV, Mu.Val.kind, Mu.Val.text, Mu.Val.keys, Mu.Val.list, Mu.Val.num]
 refine ⟨by omega, (fun _ h => by cases h), by simp, ⟨fun _ => ⟨rfl, by simp⟩, by simp⟩, by omega, fun x hx => ?_⟩
 rw [List.mem_singleton.1 hx]
 exact ⟨by simp [Mu.Val.kind], hs, h, ⟨fun h => by simp [Mu.Val.kind] at h, by simp [Mu.Val.list]⟩, by simp [Mu.Val.num], by simp [Mu.Val.list]⟩
theorem rn_of {s : ByteArray} (ht : TplOk s []) {cs : List Mu.Val} (hne : cs ≠ []) (hvg : ∀ v ∈ cs, Mu.VG 16384 v) {out : Mu.B} {st' : Mu.RS}
 (h : Mu.srender (pL []) false 1002 (Mu.parse (L s)).1 cs ⟨false, 0, 0⟩ = some (out, st')) (hout : out.length ≤ 16384) : ∃ ws kf es st, Rn [] s cs ws 1002 400 kf es st ∧ ws.flatten = out := by
 have hs := ht.2.1.self
 obtain ⟨es, st, ws, kf, h1, h2, h3, h4, h5, h6, h7⟩ := Mu.ren_pure (pL []) (partOf_ok2 [] (fun p hp => (by cases hp))) false true 16384 hs.2.1 (by rw [L_length]; exact hs.1) hs.2.2 (fun hr => (by cases hr)) hne hvg h
 exact ⟨ws, kf, es, st, ⟨hs.1, hs.2.1, h1, h2, by omega, by omega, h3, h4, ⟨by omega, by omega⟩⟩, h7 rfl⟩
theorem CxOk.vg16 {x : Mu.Val} (h : CxOk x) : Mu.VOk 16384 5 x := VOk.mono (by omega) 5 x h.1
theorem law_FnLayout {B : Nat} {eb : Addr} {s l : ByteArray} {x : Mu.Val} {u : Value} {w : World} (h : Lw B eb s (.slice none 0 0) [] x u w) (h' : Lw B eb l (.slice none 0 0) [] x u w) :
 Calls Tryz.prog 12 #[.string s, .string l, u] w (TruePost w) := by
 obtain ⟨S0, hd0, -⟩ := h.da
 obtain ⟨k1, t1, n1, b1, a1, l1, c1, a2, l2, c2, rfl⟩ := hd0.form
 have HL : Hid (∀ w', F0 w w' → Lw B eb s (.slice none 0 0) [] x (.agg #[.int .i64 k1, .string t1, .int .i64 n1, .bool b1, .slice a1 l1 c1, .slice a2 l2 c2]) w' ∧ Lw B eb l (.slice none 0 0) [] x (.agg #[.int .i64 k1, .string t1, .int .i64 n1, .bool b1, .slice a1 l1 c1, .slice a2 l2 c2]) w') := Lib.hid (fun w' hf => ⟨h.f0 hf, h'.f0 hf⟩)
 clear h h' hd0
 go_enter Tryz.func12, Tryz.ntmps12
 by_cases hs : s.size ≤ 2147483647
 · have hs' : decide ((2147483647 : Int) < (s.size : Int)) = false := by simp; omega
   by_cases hl : l.size ≤ 2147483647
   · have hl' : decide ((2147483647 : Int) < (l.size : Int)) = false := by simp; omega
     go_wp2_with fail;refine ((HL.out _ (Fr.alloc _ _ _)).1.fit).mono ?_
     rintro e w1 ⟨z, rfl, HZ⟩;have HF1 : Hid (F0 w w1) := Lib.hid ((Fr.alloc _ _ _).trans HZ.out);have HBX1 := Lib.hid (HZ.out.blk (blk_new w (.cells #[.int .i64 k1, .string t1, .int .i64 n1, .bool b1, .slice a1 l1 c1, .slice a2 l2 c2] 25)) id);have hnb := HBX1.out;have p0 := blk_cell hnb 0;have p1 := blk_cell hnb 1;have p2 := blk_cell hnb 2;have p3 := blk_cell hnb 3;have p4 := blk_cell hnb 4
     have p5 := blk_cell hnb 5;simp only [List.getElem?_toArray, List.getElem?_cons_zero, List.getElem?_cons_succ] at p0 p1 p2 p3 p4 p5;clear hnb
     cases z with
     | false =>
      go_wp2_with fail;go_ret
      exact ⟨rfl, HF1.out⟩
     | true =>
      go_wp2_with fail;refine ((HL.out w1 HF1.out).1.right hs ⟨by simp, by simp⟩).mono ?_
      rintro e w2 ⟨b, rfl, HB⟩;have HF2 : Hid (F0 w w2) := Lib.hid (HF1.out.trans HB.out.1);have HBX2 := Lib.hid (HB.out.1.blk HBX1.out id);clear p0 p1 p2 p3 p4 p5;have hnb := HBX2.out;have p0 := blk_cell hnb 0;have p1 := blk_cell hnb 1;have p2 := blk_cell hnb 2;have p3 := blk_cell hnb 3;have p4 := blk_cell hnb 4;have p5 := blk_cell hnb 5
      simp only [List.getElem?_toArray, List.getElem?_cons_zero, List.getElem?_cons_succ] at p0 p1 p2 p3 p4 p5;clear hnb
      cases b with
      | false =>
       go_wp2_with fail;go_ret
       exact ⟨rfl, HF2.out⟩
      | true =>
       have HOK := Lib.hid (HB.out.2 (by first | rfl | trivial));go_wp2_with fail;refine ((HL.out w2 HF2.out).2.right hl ⟨by simp, by simp⟩).mono ?_;rintro e w3 ⟨b, rfl, HC⟩;have HF3 : Hid (F0 w w3) := Lib.hid (HF2.out.trans HC.out.1);have HBX3 := Lib.hid (HC.out.1.blk HBX2.out id);clear p0 p1 p2 p3 p4 p5;have hnb := HBX3.out;have p0 := blk_cell hnb 0;have p1 := blk_cell hnb 1
       have p2 := blk_cell hnb 2;have p3 := blk_cell hnb 3;have p4 := blk_cell hnb 4;have p5 := blk_cell hnb 5;simp only [List.getElem?_toArray, List.getElem?_cons_zero, List.getElem?_cons_succ] at p0 p1 p2 p3 p4 p5;clear hnb
       cases b with
       | false =>
        go_wp2_with fail;go_ret
        exact ⟨rfl, HF3.out⟩
       | true =>
        have HOK2 := Lib.hid (HC.out.2 (by first | rfl | trivial));obtain ⟨w4, hw4⟩ : ∃ w4, w4 = w3.alloc (.cells #[.int .i64 k1, .string t1, .int .i64 n1, .bool b1, .slice a1 l1 c1, .slice a2 l2 c2] 25) := ⟨_, rfl⟩
        have HF4 : Hid (F0 w w4) := Lib.hid (by rw [hw4]; exact HF3.out.allocA _);have HBX4 : Hid (w4.heap[w.heap.size]? = some (.cells #[.int .i64 k1, .string t1, .int .i64 n1, .bool b1, .slice a1 l1 c1, .slice a2 l2 c2] 25 (0, 0))) := Lib.hid (by rw [hw4]; exact blk_alloc _ HBX3.out)
        have HS1 := Lib.hid (by
         obtain ⟨S1, hin⟩ := (HL.out w4 HF4.out).1.oin HOK.out.2;have hc := hin.row (B := B) (Fr.refl (fun _ => False) w4) rfl rfl w3.heap.size (by rw [hw4]; exact blk_new _ _);have hs' := HOK.out.1.2.1.self
         exact specRender_z 400000000 40 (by omega) s (.slice none 0 0) [] false [x] _ _ w4 _ hs'.1 hs'.2.1 (by simp) (fun p hp => (by cases hp)) (HL.out w4 HF4.out).1.ba.ps (by simp) (by simp) (fun v hv => by rw [List.mem_singleton.1 hv]; exact HOK.out.2.vg.w) hc.vs hc.ds hc.lo : Calls Tryz.prog 16 #[.string s, .slice none 0 0, .slice (some ⟨w3.heap.size, 0, none⟩) 1 1, .bool false] w4 (RePostZ 400000000 [] false s [x] w4))
        go_wp2_with fail;rw [← hw4]
        clear hw4;refine (HS1.out).mono ?_;rintro e w5 ⟨o, m1', told1, rfl, HO⟩;have HF5 : Hid (F0 w w5) := Lib.hid (HF4.out.trans HO.out.1.1);have HBX5 := Lib.hid (HO.out.1.1.blk HBX4.out id);clear p0 p1 p2 p3 p4 p5;have hnb := HBX5.out;have p0 := blk_cell hnb 0;have p1 := blk_cell hnb 1;have p2 := blk_cell hnb 2;have p3 := blk_cell hnb 3;have p4 := blk_cell hnb 4
        have p5 := blk_cell hnb 5;simp only [List.getElem?_toArray, List.getElem?_cons_zero, List.getElem?_cons_succ] at p0 p1 p2 p3 p4 p5;clear hnb
        obtain ⟨w6, hw6⟩ : ∃ w6, w6 = (((w5.alloc (.cells #[.string ⟨#[99, 111, 110, 116, 101, 110, 116]⟩] 9)).alloc (.cells #[.int .i64 1, .string o, .int .i64 0, .bool false, .slice none 0 0, .slice none 0 0] 25)).alloc (.cells #[.int .i64 5, .string ⟨#[]⟩, .int .i64 0, .bool false, .slice (some ⟨w5.heap.size, 0, none⟩) 1 1, .slice (some ⟨w5.heap.size + 1, 0, none⟩) 1 1] 25)) := ⟨_, rfl⟩
        have HF56 : Hid (F0 w5 w6) := Lib.hid (by rw [hw6]; exact ((Fr.alloc _ _ _).allocA _).allocA _);have HF6 : Hid (F0 w w6) := Lib.hid (HF5.out.trans HF56.out);have HBX6 := Lib.hid (HF56.out.blk HBX5.out id)
        have HK1 : Hid (w6.heap[w5.heap.size]? = some (.cells #[.string ⟨#[99, 111, 110, 116, 101, 110, 116]⟩] 9 (0, 0))) := Lib.hid (by rw [hw6]; exact blk_alloc _ (blk_alloc _ (blk_new _ _)))
        have HK2 : Hid (w6.heap[w5.heap.size + 1]? = some (.cells #[.int .i64 1, .string o, .int .i64 0, .bool false, .slice none 0 0, .slice none 0 0] 25 (0, 0))) := Lib.hid (by
         rw [hw6];have := blk_alloc (.cells #[.int .i64 5, .string ⟨#[]⟩, .int .i64 0, .bool false, .slice (some ⟨w5.heap.size, 0, none⟩) 1 1, .slice (some ⟨w5.heap.size + 1, 0, none⟩) 1 1] 25) (blk_new (w5.alloc (.cells #[.string ⟨#[99, 111, 110, 116, 101, 110, 116]⟩] 9)) (.cells #[.int .i64 1, .string o, .int .i64 0, .bool false, .slice none 0 0, .slice none 0 0] 25));simpa using this)
        have HK3 : Hid (w6.heap[w5.heap.size + 1 + 1]? = some (.cells #[.int .i64 5, .string ⟨#[]⟩, .int .i64 0, .bool false, .slice (some ⟨w5.heap.size, 0, none⟩) 1 1, .slice (some ⟨w5.heap.size + 1, 0, none⟩) 1 1] 25 (0, 0))) := Lib.hid (by
         rw [hw6];have := blk_new ((w5.alloc (.cells #[.string ⟨#[99, 111, 110, 116, 101, 110, 116]⟩] 9)).alloc (.cells #[.int .i64 1, .string o, .int .i64 0, .bool false, .slice none 0 0, .slice none 0 0] 25)) (.cells #[.int .i64 5, .string ⟨#[]⟩, .int .i64 0, .bool false, .slice (some ⟨w5.heap.size, 0, none⟩) 1 1, .slice (some ⟨w5.heap.size + 1, 0, none⟩) 1 1] 25);simpa using this)
        go_upto_region 7 with fail
        rw [← hw6];clear hw6;clear p0 p1 p2 p3 p4 p5;have hnb := HBX6.out;have p0 := blk_cell hnb 0;have p1 := blk_cell hnb 1;have p2 := blk_cell hnb 2;have p3 := blk_cell hnb 3;have p4 := blk_cell hnb 4;have p5 := blk_cell hnb 5;simp only [List.getElem?_toArray, List.getElem?_cons_zero, List.getElem?_cons_succ] at p0 p1 p2 p3 p4 p5;clear hnb;have hnb := HK3.out;have r0 := blk_cell hnb 0
        have r1 := blk_cell hnb 1;have r2 := blk_cell hnb 2;have r3 := blk_cell hnb 3;have r4 := blk_cell hnb 4;have r5 := blk_cell hnb 5;simp only [List.getElem?_toArray, List.getElem?_cons_zero, List.getElem?_cons_succ] at r0 r1 r2 r3 r4 r5;clear hnb
        obtain ⟨w7, hw7⟩ : ∃ w7, w7 = w6.alloc (.cells #[.int .i64 5, .string ⟨#[]⟩, .int .i64 0, .bool false, .slice (some ⟨w5.heap.size, 0, none⟩) 1 1, .slice (some ⟨w5.heap.size + 1, 0, none⟩) 1 1, .int .i64 k1, .string t1, .int .i64 n1, .bool b1, .slice a1 l1 c1, .slice a2 l2 c2] 25) := ⟨_, rfl⟩
        have HF67 : Hid (F0 w6 w7) := Lib.hid (by rw [hw7]; exact Fr.alloc _ _ _);have HF7 : Hid (F0 w w7) := Lib.hid (HF6.out.trans HF67.out);have HBX7 := Lib.hid (HF67.out.blk HBX6.out id)
        have HS2 := Lib.hid (by
         obtain ⟨S1, hd1, hS1⟩ := (HL.out w7 HF7.out).1.da;have hc := cont_at (o := o) (HF67.out.blk HK1.out id) (HF67.out.blk HK2.out id)
         have hrow : w7.heap[w6.heap.size]? = some (.cells #[.int .i64 5, .string ⟨#[]⟩, .int .i64 0, .bool false, .slice (some ⟨w5.heap.size, 0, none⟩) 1 1, .slice (some ⟨w5.heap.size + 1, 0, none⟩) 1 1, .int .i64 k1, .string t1, .int .i64 n1, .bool b1, .slice a1 l1 c1, .slice a2 l2 c2] 25 (0, 0)) := by rw [hw7]; exact blk_new _ _
         obtain ⟨v1, v2⟩ := two_row hrow hc hd1;have hs' := HOK2.out.1.2.1.self;have hz5 := HF56.out.size;have hz7 := HF67.out.size;have hb1 := blk_lt (HF67.out.blk HK1.out id);have hb2 := blk_lt (HF67.out.blk HK2.out id)
         exact specRender_z 3000000000000 400400000000 (by omega) l (.slice none 0 0) [] false [contV (L o), x] _ _ w7 _ hs'.1 hs'.2.1 (by simp) (fun p hp => (by cases hp)) (HL.out w7 HF7.out).1.ba.ps (by simp) (by simp) (fun v hv => by
          rcases List.mem_cons.1 hv with rfl | hv
          · exact cont_w HO.out.2
          · rw [List.mem_singleton.1 hv]
            exact ⟨5, Mu.VOk.w (by omega) 5 x HOK.out.2.1⟩) v1 v2 (fun k hk => by
          rcases hk with (hk | hk) | hk
          · rcases hk with rfl | rfl
            · exact hb1
            · exact hb2
          · exact hS1 k hk
          · rw [hk]; exact blk_lt hrow) : Calls Tryz.prog 16 #[.string l, .slice none 0 0, .slice (some ⟨w6.heap.size, 0, none⟩) 2 2, .bool false] w7 (RePostZ 3000000000000 [] false l [contV (L o), x] w7))
        go_wp2_with fail;rw [← hw7]
        clear hw7 r0 r1 r2 r3 r4 r5;refine (HS2.out).mono ?_;rintro e w8 ⟨o2, m2, told2, rfl, HO2⟩;have HF8 : Hid (F0 w w8) := Lib.hid (HF7.out.trans HO2.out.1.1);have HBX8 := Lib.hid (HO2.out.1.1.blk HBX7.out id);clear p0 p1 p2 p3 p4 p5;have hnb := HBX8.out;have p0 := blk_cell hnb 0;have p1 := blk_cell hnb 1;have p2 := blk_cell hnb 2;have p3 := blk_cell hnb 3;have p4 := blk_cell hnb 4
        have p5 := blk_cell hnb 5;simp only [List.getElem?_toArray, List.getElem?_cons_zero, List.getElem?_cons_succ] at p0 p1 p2 p3 p4 p5;clear hnb
        cases told1 with
        | false =>
         go_wp2_with fail;go_ret
         exact ⟨rfl, HF8.out⟩
        | true =>
         cases told2 with
         | false =>
          go_wp2_with fail;go_ret
          exact ⟨rfl, HF8.out⟩
         | true =>
          have HR : Hid (Calls Tryz.prog 26 #[.string s, .string l, .slice none 0 0, .agg #[.int .i64 k1, .string t1, .int .i64 n1, .bool b1, .slice a1 l1 c1, .slice a2 l2 c2]] w8 (fun e w2 => e = .returned (.tuple #[.string o2, .bool true]) ∧ Hid (F0 w8 w2))) := Lib.hid (by
           obtain ⟨⟨st', g1, -⟩, g2⟩ := HO.out.1.2 (by first | rfl | trivial);obtain ⟨⟨st2', g3, -⟩, g4⟩ := HO2.out.1.2 (by first | rfl | trivial);obtain ⟨S1, hin⟩ := (HL.out w8 HF8.out).1.oin HOK.out.2
           have hsg : Mu.signs (L o) := Mu.srender_signs _ _ 40 _ _ _ _ _ _ (Mu.parse_sg HOK.out.1.2.1.self.2.1) HOK.out.1.2.1.2.2 (fun v hv => by rw [List.mem_singleton.1 hv]; exact HOK.out.2.vg) g1;obtain ⟨ws1, kf1, es1, st1, q1, q2⟩ := rn_of HOK.out.1 (cs := [x]) (by simp) (fun v hv => by rw [List.mem_singleton.1 hv]; exact ⟨5, HOK.out.2.vg16⟩) g1 g2;rw [← q2] at g3 hsg g2
           have hcv : Mu.VOk 16384 2 (contV ws1.flatten) := cont_ok hsg g2
           obtain ⟨ws2, kf2, es2, st2, q3, q4⟩ := rn_of HOK2.out.1 (cs := [contV ws1.flatten, x]) (by simp) (fun v hv => by
            rcases List.mem_cons.1 hv with rfl | hv
            · exact ⟨2, hcv⟩
            · rw [List.mem_singleton.1 hv]; exact ⟨5, HOK.out.2.vg16⟩) g3 g4
           refine (layout_any B 16384 5 eb (.slice none 0 0) [] s l x ws1 ws2 1002 400 kf1 1002 400 kf2 es1 es2 st1 st2 w8 S1 _ (by omega) q1 q3 (fun p hp => (by cases hp)) (by simp) ⟨2, hcv⟩ (HL.out w8 HF8.out).1.ba ⟨hin.da, hin.lo, HOK.out.2.vg16, hin.deep, hin.sz, hin.kd⟩).mono ?_;rintro e w2 ⟨o3, rfl, HE⟩;have h4 := HE.out.1;rw [q4] at h4;rw [L_inj h4];exact ⟨rfl, Lib.hid HE.out.2⟩)
          go_wp2_with fail;refine HR.out.mono ?_
          rintro e w9 ⟨rfl, hf⟩;have HF9 : Hid (F0 w w9) := Lib.hid (HF8.out.trans hf.out);clear hf;have q : (o2.toList == o2.toList) = true := by simp
          go_wp2_with fail;refine ((HL.out w9 HF9.out).1.empty).mono ?_
          rintro e w10 ⟨rfl, hf⟩;have HF10 : Hid (F0 w w10) := Lib.hid (HF9.out.trans hf);clear hf;go_wp2_with fail;go_ret;exact ⟨rfl, HF10.out⟩
   · have hl' : decide ((2147483647 : Int) < (l.size : Int)) = true := by simp; omega
     go_wp2_with fail;go_ret
     exact ⟨rfl, Fr.alloc _ _ _⟩
 · have hs' : decide ((2147483647 : Int) < (s.size : Int)) = true := by simp; omega
   go_wp2_with fail;go_ret
   exact ⟨rfl, Fr.alloc _ _ _⟩
end Go.Proofs.YtfakghnpkdoclaaGreatDoor
