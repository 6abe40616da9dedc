/-
  The laws FnRaw, FnStrict, walked.
-/
import Derived.Test.YtfakghnpkdoclaaGreatDoorGL1
set_option linter.unusedVariables false
set_option linter.unusedSimpArgs false
set_option maxRecDepth 1000000
set_option maxHeartbeats 8000000
namespace Go.Proofs.YtfakghnpkdoclaaGreatDoor
open Go.RowKit
theorem law_FnRaw {B : Nat} {eb : Addr} {s : ByteArray} {x : Mu.Val} {u : Value} {w : World} (h : Lw B eb s (.slice none 0 0) [] x u w) :
 Calls Tryz.prog 6 #[.string s, u] w (TruePost w) := by
 obtain ⟨S0, hd0, -⟩ := h.da
 obtain ⟨k1, t1, n1, b1, a1, l1, c1, a2, l2, c2, rfl⟩ := hd0.form
 have HL : Hid (∀ w', F0 w w' → Lw B eb s (.slice none 0 0) [] x (.agg #[.int .i64 k1, .string t1, .int .i64 n1, .bool b1, .slice a1 l1 c1, .slice a2 l2 c2]) w') := Lib.hid (fun w' hf => h.f0 hf)
 clear h hd0
 go_enter Tryz.func6, Tryz.ntmps6
 by_cases hs : s.size ≤ 2147483647
 · have hs' : decide ((2147483647 : Int) < (s.size : Int)) = false := by simp; omega
   go_wp2_with fail
   refine ((HL.out _ (Fr.alloc _ _ _)).fit).mono ?_
   rintro e w1 ⟨z, rfl, HZ⟩
   have HF1 : Hid (F0 w w1) := Lib.hid ((Fr.alloc _ _ _).trans HZ.out)
   have HBX1 := Lib.hid (HZ.out.blk (blk_new w (.cells #[.int .i64 k1, .string t1, .int .i64 n1, .bool b1, .slice a1 l1 c1, .slice a2 l2 c2] 25)) id)
   have hnb := HBX1.out
   have p0 := blk_cell hnb 0
   have p1 := blk_cell hnb 1
   have p2 := blk_cell hnb 2
   have p3 := blk_cell hnb 3
   have p4 := blk_cell hnb 4
   have p5 := blk_cell hnb 5
   simp only [List.getElem?_toArray, List.getElem?_cons_zero, List.getElem?_cons_succ] at p0 p1 p2 p3 p4 p5
   clear hnb
   cases z with
   | false =>
    go_wp2_with fail
    go_ret
    exact ⟨rfl, HF1.out⟩
   | true =>
    go_wp2_with fail
    refine ((HL.out w1 HF1.out).right hs ⟨by simp, by simp⟩).mono ?_
    rintro e w2 ⟨b, rfl, HB⟩
    have HF2 : Hid (F0 w w2) := Lib.hid (HF1.out.trans HB.out.1)
    have HBX2 := Lib.hid (HB.out.1.blk HBX1.out id)
    clear p0 p1 p2 p3 p4 p5
    have hnb := HBX2.out
    have p0 := blk_cell hnb 0
    have p1 := blk_cell hnb 1
    have p2 := blk_cell hnb 2
    have p3 := blk_cell hnb 3
    have p4 := blk_cell hnb 4
    have p5 := blk_cell hnb 5
    simp only [List.getElem?_toArray, List.getElem?_cons_zero, List.getElem?_cons_succ] at p0 p1 p2 p3 p4 p5
    clear hnb
    cases b with
    | false =>
     go_wp2_with fail
     go_ret
     exact ⟨rfl, HF2.out⟩
    | true =>
     have HOK := Lib.hid (HB.out.2 (by first | rfl | trivial))
     obtain ⟨w3, hw3⟩ : ∃ w3, w3 = w2.alloc (.cells #[.int .i64 k1, .string t1, .int .i64 n1, .bool b1, .slice a1 l1 c1, .slice a2 l2 c2] 25) := ⟨_, rfl⟩
     have HF3 : Hid (F0 w w3) := Lib.hid (by rw [hw3]; exact HF2.out.allocA _)
     have HBX3 : Hid (w3.heap[w.heap.size]? = some (.cells #[.int .i64 k1, .string t1, .int .i64 n1, .bool b1, .slice a1 l1 c1, .slice a2 l2 c2] 25 (0, 0))) := Lib.hid (by rw [hw3]; exact blk_alloc _ HBX2.out)
     have HS := Lib.hid ((HL.out w3 HF3.out).spec HOK.out.1 HOK.out.2 true rfl w2.heap.size (by rw [hw3]; exact blk_new _ _))
     go_wp2_with fail
     rw [← hw3]
     clear hw3
     refine (HS.out).mono ?_
     rintro e w4 ⟨o, m, told, rfl, HO⟩
     have HF4 : Hid (F0 w w4) := Lib.hid (HF3.out.trans HO.out.1)
     have HBX4 := Lib.hid (HO.out.1.blk HBX3.out id)
     clear p0 p1 p2 p3 p4 p5
     have hnb := HBX4.out
     have p0 := blk_cell hnb 0
     have p1 := blk_cell hnb 1
     have p2 := blk_cell hnb 2
     have p3 := blk_cell hnb 3
     have p4 := blk_cell hnb 4
     have p5 := blk_cell hnb 5
     simp only [List.getElem?_toArray, List.getElem?_cons_zero, List.getElem?_cons_succ] at p0 p1 p2 p3 p4 p5
     clear hnb
     cases told with
     | false =>
      go_wp2_with fail
      go_ret
      exact ⟨rfl, HF4.out⟩
     | true =>
      have HR : Hid (Calls Tryz.prog 23 #[.string s, .slice none 0 0, .agg #[.int .i64 k1, .string t1, .int .i64 n1, .bool b1, .slice a1 l1 c1, .slice a2 l2 c2]] w4 (fun e w2 => e = .returned (.tuple #[.string o, .bool true]) ∧ F0 w4 w2)) := Lib.hid (by
       obtain ⟨⟨st', h1, -⟩, h2⟩ := HO.out.2 (by first | rfl | trivial)
       exact (HL.out w4 HF4.out).raw rfl HOK.out.1 HOK.out.2 h1 h2)
      go_wp2_with fail
      refine HR.out.mono ?_
      rintro e w5 ⟨rfl, hf⟩
      have HF5 : Hid (F0 w w5) := Lib.hid (HF4.out.trans hf)
      clear hf
      have q : (o.toList == o.toList) = true := by simp
      go_wp2_with fail
      refine ((HL.out w5 HF5.out).empty).mono ?_
      rintro e w6 ⟨rfl, hf⟩
      have HF6 : Hid (F0 w w6) := Lib.hid (HF5.out.trans hf)
      clear hf
      go_wp2_with fail
      go_ret
      exact ⟨rfl, HF6.out⟩
 · have hs' : decide ((2147483647 : Int) < (s.size : Int)) = true := by simp; omega
   go_wp2_with fail
   go_ret
   exact ⟨rfl, Fr.alloc _ _ _⟩
theorem law_FnStrict {B : Nat} {eb : Addr} {s : ByteArray} {x : Mu.Val} {u : Value} {w : World} (h : Lw B eb s (.slice none 0 0) [] x u w) :
 Calls Tryz.prog 11 #[.string s, u] w (TruePost w) := by
 obtain ⟨S0, hd0, -⟩ := h.da
 obtain ⟨k1, t1, n1, b1, a1, l1, c1, a2, l2, c2, rfl⟩ := hd0.form
 have HL : Hid (∀ w', F0 w w' → Lw B eb s (.slice none 0 0) [] x (.agg #[.int .i64 k1, .string t1, .int .i64 n1, .bool b1, .slice a1 l1 c1, .slice a2 l2 c2]) w') := Lib.hid (fun w' hf => h.f0 hf)
 clear h hd0
 go_enter Tryz.func11, Tryz.ntmps11
 by_cases hs : s.size ≤ 2147483647
 · have hs' : decide ((2147483647 : Int) < (s.size : Int)) = false := by simp; omega
   go_wp2_with fail
   refine ((HL.out _ (Fr.alloc _ _ _)).fit).mono ?_
   rintro e w1 ⟨z, rfl, HZ⟩
   have HF1 : Hid (F0 w w1) := Lib.hid ((Fr.alloc _ _ _).trans HZ.out)
   have HBX1 := Lib.hid (HZ.out.blk (blk_new w (.cells #[.int .i64 k1, .string t1, .int .i64 n1, .bool b1, .slice a1 l1 c1, .slice a2 l2 c2] 25)) id)
   have hnb := HBX1.out
   have p0 := blk_cell hnb 0
   have p1 := blk_cell hnb 1
   have p2 := blk_cell hnb 2
   have p3 := blk_cell hnb 3
   have p4 := blk_cell hnb 4
   have p5 := blk_cell hnb 5
   simp only [List.getElem?_toArray, List.getElem?_cons_zero, List.getElem?_cons_succ] at p0 p1 p2 p3 p4 p5
   clear hnb
   cases z with
   | false =>
    go_wp2_with fail
    go_ret
    exact ⟨rfl, HF1.out⟩
   | true =>
    go_wp2_with fail
    refine ((HL.out w1 HF1.out).right hs ⟨by simp, by simp⟩).mono ?_
    rintro e w2 ⟨b, rfl, HB⟩
    have HF2 : Hid (F0 w w2) := Lib.hid (HF1.out.trans HB.out.1)
    have HBX2 := Lib.hid (HB.out.1.blk HBX1.out id)
    clear p0 p1 p2 p3 p4 p5
    have hnb := HBX2.out
    have p0 := blk_cell hnb 0
    have p1 := blk_cell hnb 1
    have p2 := blk_cell hnb 2
    have p3 := blk_cell hnb 3
    have p4 := blk_cell hnb 4
    have p5 := blk_cell hnb 5
    simp only [List.getElem?_toArray, List.getElem?_cons_zero, List.getElem?_cons_succ] at p0 p1 p2 p3 p4 p5
    clear hnb
    cases b with
    | false =>
     go_wp2_with fail
     go_ret
     exact ⟨rfl, HF2.out⟩
    | true =>
     have HOK := Lib.hid (HB.out.2 (by first | rfl | trivial))
     obtain ⟨w3, hw3⟩ : ∃ w3, w3 = w2.alloc (.cells #[.int .i64 k1, .string t1, .int .i64 n1, .bool b1, .slice a1 l1 c1, .slice a2 l2 c2] 25) := ⟨_, rfl⟩
     have HF3 : Hid (F0 w w3) := Lib.hid (by rw [hw3]; exact HF2.out.allocA _)
     have HBX3 : Hid (w3.heap[w.heap.size]? = some (.cells #[.int .i64 k1, .string t1, .int .i64 n1, .bool b1, .slice a1 l1 c1, .slice a2 l2 c2] 25 (0, 0))) := Lib.hid (by rw [hw3]; exact blk_alloc _ HBX2.out)
     have HS := Lib.hid ((HL.out w3 HF3.out).spec HOK.out.1 HOK.out.2 false rfl w2.heap.size (by rw [hw3]; exact blk_new _ _))
     go_wp2_with fail
     rw [← hw3]
     clear hw3
     refine (HS.out).mono ?_
     rintro e w4 ⟨o, m, told, rfl, HO⟩
     have HF4 : Hid (F0 w w4) := Lib.hid (HF3.out.trans HO.out.1)
     have HBX4 := Lib.hid (HO.out.1.blk HBX3.out id)
     clear p0 p1 p2 p3 p4 p5
     have hnb := HBX4.out
     have p0 := blk_cell hnb 0
     have p1 := blk_cell hnb 1
     have p2 := blk_cell hnb 2
     have p3 := blk_cell hnb 3
     have p4 := blk_cell hnb 4
     have p5 := blk_cell hnb 5
     simp only [List.getElem?_toArray, List.getElem?_cons_zero, List.getElem?_cons_succ] at p0 p1 p2 p3 p4 p5
     clear hnb
     cases told with
     | false =>
      go_wp2_with fail
      go_ret
      exact ⟨rfl, HF4.out⟩
     | true =>
      have HR : Hid (Calls Tryz.prog 25 #[.string s, .slice none 0 0, .agg #[.int .i64 k1, .string t1, .int .i64 n1, .bool b1, .slice a1 l1 c1, .slice a2 l2 c2]] w4 (fun e w2 => ∃ o2, e = .returned (.tuple #[.string o2, .bool (!m)]) ∧ Hid (F0 w4 w2) ∧ (m = false → o2 = o))) := Lib.hid (by
       obtain ⟨⟨st', h1, h3⟩, h2⟩ := HO.out.2 (by first | rfl | trivial)
       rw [h3]
       exact (HL.out w4 HF4.out).strict HOK.out.1 HOK.out.2 h1 h2)
      cases m with
      | true =>
       go_wp2_with fail
       refine HR.out.mono ?_
       rintro e w5 ⟨o2, rfl, HX, -⟩
       have HF5 : Hid (F0 w w5) := Lib.hid (HF4.out.trans HX.out)
       go_wp2_with fail
       refine ((HL.out w5 HF5.out).empty).mono ?_
       rintro e w6 ⟨rfl, hf⟩
       have HF6 : Hid (F0 w w6) := Lib.hid (HF5.out.trans hf)
       clear hf
       go_wp2_with fail
       go_ret
       exact ⟨rfl, HF6.out⟩
      | false =>
       go_wp2_with fail
       refine HR.out.mono ?_
       rintro e w5 ⟨o2, rfl, HX, hoo⟩
       obtain rfl := hoo (by first | rfl | trivial)
       have HF5 : Hid (F0 w w5) := Lib.hid (HF4.out.trans HX.out)
       have q : (o2.toList == o2.toList) = true := by simp
       go_wp2_with fail
       refine ((HL.out w5 HF5.out).empty).mono ?_
       rintro e w6 ⟨rfl, hf⟩
       have HF6 : Hid (F0 w w6) := Lib.hid (HF5.out.trans hf)
       clear hf
       go_wp2_with fail
       go_ret
       exact ⟨rfl, HF6.out⟩
 · have hs' : decide ((2147483647 : Int) < (s.size : Int)) = true := by simp; omega
   go_wp2_with fail
   go_ret
   exact ⟨rfl, Fr.alloc _ _ _⟩
end Go.Proofs.YtfakghnpkdoclaaGreatDoor
