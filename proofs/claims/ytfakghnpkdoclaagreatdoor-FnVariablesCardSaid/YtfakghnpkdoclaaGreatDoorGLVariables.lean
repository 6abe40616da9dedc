/-
  The law FnVariables, walked.
-/
import Derived.Test.YtfakghnpkdoclaaGreatDoorGL1
import Derived.Test.YtfakghnpkdoclaaGreatDoorGT1
set_option linter.unusedVariables false
set_option linter.unusedSimpArgs false
set_option maxRecDepth 1000000
set_option maxHeartbeats 8000000
namespace Go.Proofs.YtfakghnpkdoclaaGreatDoor
open Go.RowKit
theorem rendered_law {B : Nat} {eb : Addr} {s : ByteArray} {pv : Value} {ps : List (ByteArray × ByteArray)} {x : Mu.Val} {u : Value} {w : World} (h : Lw B eb s pv ps x u w) (hs : s.size ≤ 2147483647) (hp : ps.length ≤ 2147483647 ∧ ∀ p ∈ ps, p.1.size ≤ 2147483647 ∧ p.2.size ≤ 2147483647) :
 Calls Tryz.prog 22 #[.string s, pv, u] w (TruePost w) := by
 obtain ⟨S0, hd0, -⟩ := h.da
 obtain ⟨k1, t1, n1, b1, a1, l1, c1, a2, l2, c2, rfl⟩ := hd0.form
 have HL : Hid (∀ w', F0 w w' → Lw B eb s pv ps x (.agg #[.int .i64 k1, .string t1, .int .i64 n1, .bool b1, .slice a1 l1 c1, .slice a2 l2 c2]) w') := Lib.hid (fun w' hf => h.f0 hf)
 clear h hd0
 go_enter Tryz.func22, Tryz.ntmps22
 go_wp2_with fail
 refine ((HL.out _ (Fr.alloc _ _ _)).right hs hp).mono ?_
 rintro e w1 ⟨b, rfl, HB⟩
 have HF1 : Hid (F0 w w1) := Lib.hid ((Fr.alloc _ _ _).trans HB.out.1)
 have HBX1 := Lib.hid (HB.out.1.blk (blk_new w (.cells #[.int .i64 k1, .string t1, .int .i64 n1, .bool b1, .slice a1 l1 c1, .slice a2 l2 c2] 25)) id)
 have hnb := HBX1.out
 have p0 := blk_cell hnb 0
 have p1 := blk_cell hnb 1
 have p2 := blk_cell hnb 2
 have p3 := blk_cell hnb 3
 have p4 := blk_cell hnb 4
 have p5 := blk_cell hnb 5
 simp only [List.getElem?_toArray, List.getElem?_cons_zero, List.getElem?_cons_succ] at p0 p1 p2 p3 p4 p5
 clear hnb
 cases b with
 | false =>
  go_wp2_with fail
  go_ret
  exact ⟨rfl, HF1.out⟩
 | true =>
  have HOK := Lib.hid (HB.out.2 (by first | rfl | trivial))
  obtain ⟨w2, hw2⟩ : ∃ w2, w2 = w1.alloc (.cells #[.int .i64 k1, .string t1, .int .i64 n1, .bool b1, .slice a1 l1 c1, .slice a2 l2 c2] 25) := ⟨_, rfl⟩
  have HF2 : Hid (F0 w w2) := Lib.hid (by rw [hw2]; exact HF1.out.allocA _)
  have HBX2 : Hid (w2.heap[w.heap.size]? = some (.cells #[.int .i64 k1, .string t1, .int .i64 n1, .bool b1, .slice a1 l1 c1, .slice a2 l2 c2] 25 (0, 0))) := Lib.hid (by rw [hw2]; exact blk_alloc _ HBX1.out)
  have HS := Lib.hid ((HL.out w2 HF2.out).spec HOK.out.1 HOK.out.2 false rfl w1.heap.size (by rw [hw2]; exact blk_new _ _))
  go_wp2_with fail
  rw [← hw2]
  clear hw2
  refine (HS.out).mono ?_
  rintro e w3 ⟨o, m, told, rfl, HO⟩
  have HF3 : Hid (F0 w w3) := Lib.hid (HF2.out.trans HO.out.1)
  have HBX3 := Lib.hid (HO.out.1.blk HBX2.out id)
  clear p0 p1 p2 p3 p4 p5
  have hnb := HBX3.out
  have p0 := blk_cell hnb 0
  have p1 := blk_cell hnb 1
  have p2 := blk_cell hnb 2
  have p3 := blk_cell hnb 3
  have p4 := blk_cell hnb 4
  have p5 := blk_cell hnb 5
  simp only [List.getElem?_toArray, List.getElem?_cons_zero, List.getElem?_cons_succ] at p0 p1 p2 p3 p4 p5
  clear hnb
  cases told with
  | false =>
   go_wp2_with fail
   go_ret
   exact ⟨rfl, HF3.out⟩
  | true =>
   have HR : Hid (Calls Tryz.prog 20 #[.string s, pv, .agg #[.int .i64 k1, .string t1, .int .i64 n1, .bool b1, .slice a1 l1 c1, .slice a2 l2 c2]] w3 (fun e w2 => e = .returned (.tuple #[.string o, .bool true]) ∧ F0 w3 w2)) := Lib.hid (by
    obtain ⟨⟨st', h1, -⟩, h2⟩ := HO.out.2 (by first | rfl | trivial)
    exact (HL.out w3 HF3.out).ren HOK.out.1 HOK.out.2 h1 h2)
   go_wp2_with fail
   refine HR.out.mono ?_
   rintro e w4 ⟨rfl, hf⟩
   have HF4 : Hid (F0 w w4) := Lib.hid (HF3.out.trans hf)
   clear hf
   have q : (o.toList == o.toList) = true := by simp
   go_wp2_with fail
   refine ((HL.out w4 HF4.out).empty).mono ?_
   rintro e w5 ⟨rfl, hf⟩
   have HF5 : Hid (F0 w w5) := Lib.hid (HF4.out.trans hf)
   clear hf
   go_wp2_with fail
   go_ret
   exact ⟨rfl, HF5.out⟩
theorem law_FnVariables {B : Nat} {eb : Addr} {s : ByteArray} {x : Mu.Val} {u : Value} {w : World} (h : Lw B eb s (.slice none 0 0) [] x u w) :
 Calls Tryz.prog 10 #[.string s, u] w (TruePost w) := by
 obtain ⟨S0, hd0, -⟩ := h.da
 obtain ⟨k1, t1, n1, b1, a1, l1, c1, a2, l2, c2, rfl⟩ := hd0.form
 have HL : Hid (∀ w', F0 w w' → Lw B eb s (.slice none 0 0) [] x (.agg #[.int .i64 k1, .string t1, .int .i64 n1, .bool b1, .slice a1 l1 c1, .slice a2 l2 c2]) w') := Lib.hid (fun w' hf => h.f0 hf)
 clear h hd0
 go_enter Tryz.func10, Tryz.ntmps10
 by_cases hs : s.size ≤ 2147483647
 · have hs' : decide ((2147483647 : Int) < (s.size : Int)) = false := by simp; omega
   go_wp2_with fail
   refine ((HL.out _ (Fr.alloc _ _ _)).fit).mono ?_
   rintro e w1 ⟨z, rfl, HZ⟩
   have HF1 : Hid (F0 w w1) := Lib.hid ((Fr.alloc _ _ _).trans HZ.out)
   have HBX1 := Lib.hid (HZ.out.blk (blk_new w (.cells #[.int .i64 k1, .string t1, .int .i64 n1, .bool b1, .slice a1 l1 c1, .slice a2 l2 c2] 25)) id)
   have hnb := HBX1.out
   have p0 := blk_cell hnb 0
   have p1 := blk_cell hnb 1
   have p2 := blk_cell hnb 2
   have p3 := blk_cell hnb 3
   have p4 := blk_cell hnb 4
   have p5 := blk_cell hnb 5
   simp only [List.getElem?_toArray, List.getElem?_cons_zero, List.getElem?_cons_succ] at p0 p1 p2 p3 p4 p5
   clear hnb
   cases z with
   | false =>
    go_wp2_with fail
    go_ret
    exact ⟨rfl, HF1.out⟩
   | true =>
    go_wp2_with fail
    refine (with_any s 2 w1 hs).mono ?_
    rintro e w2 ⟨z, rfl, hf⟩
    have HF2 : Hid (F0 w w2) := Lib.hid (HF1.out.trans hf)
    have HBX2 := Lib.hid (hf.blk HBX1.out id)
    clear p0 p1 p2 p3 p4 p5
    have hnb := HBX2.out
    have p0 := blk_cell hnb 0
    have p1 := blk_cell hnb 1
    have p2 := blk_cell hnb 2
    have p3 := blk_cell hnb 3
    have p4 := blk_cell hnb 4
    have p5 := blk_cell hnb 5
    simp only [List.getElem?_toArray, List.getElem?_cons_zero, List.getElem?_cons_succ] at p0 p1 p2 p3 p4 p5
    clear hnb
    clear hf
    cases z with
    | false =>
     go_wp2_with fail
     go_ret
     exact ⟨rfl, HF2.out⟩
    | true =>
     go_wp2_with fail
     refine (rendered_law (HL.out w2 HF2.out) hs ⟨by simp, by simp⟩).mono ?_
     rintro e w3 ⟨rfl, hf⟩
     have HF3 : Hid (F0 w w3) := Lib.hid (HF2.out.trans hf)
     clear hf
     go_wp2_with fail
     go_ret
     exact ⟨rfl, HF3.out⟩
 · have hs' : decide ((2147483647 : Int) < (s.size : Int)) = true := by simp; omega
   go_wp2_with fail
   go_ret
   exact ⟨rfl, Fr.alloc _ _ _⟩
end Go.Proofs.YtfakghnpkdoclaaGreatDoor
