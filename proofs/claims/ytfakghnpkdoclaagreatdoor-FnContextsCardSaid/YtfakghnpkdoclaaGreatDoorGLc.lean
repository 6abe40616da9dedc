/-
  The law FnContexts, walked.
-/
import Derived.Test.YtfakghnpkdoclaaGreatDoorGL1
set_option linter.unusedVariables false
set_option linter.unusedSimpArgs false
set_option maxRecDepth 1000000
set_option maxHeartbeats 8000000
namespace Go.Proofs.YtfakghnpkdoclaaGreatDoor
open Go.RowKit
theorem Lw.cin2 {B : Nat} {eb : Addr} {s : ByteArray} {pv : Value} {ps : List (ByteArray × ByteArray)} {x y : Mu.Val} {w : World} {k1 k3 : Int} {t1 t3 : ByteArray} {n1 n3 : Int} {b1 b3 : Bool} {a1 a2 a3 a4 : Option Addr} {l1 c1 l2 c2 l3 c3 l4 c4 : Nat}
 (h : Lw B eb s pv ps x (.agg #[.int .i64 k1, .string t1, .int .i64 n1, .bool b1, .slice a1 l1 c1, .slice a2 l2 c2]) w) (h' : Lw B eb s pv ps y (.agg #[.int .i64 k3, .string t3, .int .i64 n3, .bool b3, .slice a3 l3 c3, .slice a4 l4 c4]) w) (hx : CxOk x) (hy : CxOk y) (b : Nat) (hb : w.heap[b]? = some (.cells #[.int .i64 k1, .string t1, .int .i64 n1, .bool b1, .slice a1 l1 c1, .slice a2 l2 c2, .int .i64 k3, .string t3, .int .i64 n3, .bool b3, .slice a3 l3 c3, .slice a4 l4 c4] 25 (0, 0))) :
 ∃ S, Cin w B 40 5 [x, y] S (.slice (some ⟨b, 0, none⟩) 2 2) [.agg #[.int .i64 k1, .string t1, .int .i64 n1, .bool b1, .slice a1 l1 c1, .slice a2 l2 c2], .agg #[.int .i64 k3, .string t3, .int .i64 n3, .bool b3, .slice a3 l3 c3, .slice a4 l4 c4]] := by
 obtain ⟨Sx, d1, e1⟩ := h.da
 obtain ⟨Sy, d2, e2⟩ := h'.da
 have e := blk_cell hb
 refine ⟨fun k => (Sx k ∨ Sy k) ∨ k = b, ⟨_, _, rfl, Nat.le_refl _, fun _ => ⟨b, 0, rfl, .inr rfl, fun j hj => ?_⟩⟩, ?_, ?_, by simp, by simp, ?_, by omega, ?_, ?_⟩
 · have hj' : j = 0 ∨ j = 1 := by
    have : j < 2 := hj
    omega
   rcases hj' with rfl | rfl
   · exact ⟨_, _, _, _, _, _, rfl, by simpa using e 0, by simpa using e 1, by simpa using e 2, by simpa using e 3, by simpa using e 4, by simpa using e 5⟩
   · exact ⟨_, _, _, _, _, _, rfl, by simpa using e 6, by simpa using e 7, by simpa using e 8, by simpa using e 9, by simpa using e 10, by simpa using e 11⟩
 · unfold DsAt
   refine ⟨_, _, rfl, DAt.keep (fun _ _ => rfl) (fun _ h => .inl (.inl h)) _ _ d1, ?_⟩
   unfold DsAt
   refine ⟨_, _, rfl, DAt.keep (fun _ _ => rfl) (fun _ h => .inl (.inr h)) _ _ d2, ?_⟩
   unfold DsAt
   rfl
 · rintro k ((hk | hk) | hk)
   · exact e1 k hk
   · exact e2 k hk
   · rw [hk]; exact blk_lt hb
 · intro v hv
   rcases List.mem_cons.1 hv with rfl | hv
   · exact hx.1
   · rw [List.mem_singleton.1 hv]; exact hy.1
 · have := hx.2.2
   have := hy.2.2
   simp only [Mu.vszL]
   omega
 · intro v hv
   rcases List.mem_cons.1 hv with rfl | hv
   · rw [hx.2.1]; decide
   · rw [List.mem_singleton.1 hv, hy.2.1]; decide
section
variable {B : Nat} {eb : Addr} {s : ByteArray} {pv : Value} {ps : List (ByteArray × ByteArray)} {cs : List Mu.Val} {S : Nat → Prop} {cv : Value} {us : List Value} {w : World} {T d : Nat}
theorem Cin.spec (h : Cin w B T d cs S cv us) (hT : T ≤ 16777216) (hba : Ba B eb pv ps w) (ht : TplOk s ps) (raw : Bool) : Calls Tryz.prog 16 #[.string s, pv, cv, .bool raw] w (RePost ps raw s cs w) := by
 have hs := ht.2.1.self
 exact specRender_any T hT s pv ps raw cs cv us w S hs.1 hs.2.1 (by have := ht.1; omega) (fun p hp => (ht.parts p hp).2) hba.ps (fun h0 => by
  have := h.one
  rw [h0] at this
  simp at this) h.few (fun v hv => ⟨d, h.ok v hv⟩) h.vs h.ds h.lo
theorem Cin.ren (h : Cin w B T d cs S cv us) (hT : T ≤ 16777216) (hba : Ba B eb pv ps w) (ht : TplOk s ps) {out : ByteArray} {st' : Mu.RS} (hr : Mu.srender (pL ps) false 1002 (Mu.parse (L s)).1 cs ⟨false, 0, 0⟩ = some (L out, st')) (hl : (L out).length ≤ 16384) :
 Calls Tryz.prog 17 #[.string s, pv, cv] w (fun e w2 => e = .returned (.tuple #[.string out, .bool true]) ∧ F0 w w2) := by
 obtain ⟨wsr, h1, h2⟩ := ren_of ht false true (fun h => (by cases h)) (cs := cs) (fun h0 => by
  have := h.one
  rw [h0] at this
  simp at this) T hT (fun v hv => ⟨d, h.ok v hv⟩) (by omega) hr hl
 refine (renderAll_any B T d eb pv ps s cs wsr _ w S cv us h1 hba h).mono ?_
 rintro e w2 ⟨⟨o, rfl, ho⟩, hf2⟩
 have h4 := ho rfl
 rw [h2 rfl] at h4
 rw [L_inj h4]
 exact ⟨rfl, hf2⟩
end
theorem law_FnContexts {B : Nat} {eb : Addr} {s : ByteArray} {x y : Mu.Val} {u u' : Value} {w : World} (h : Lw B eb s (.slice none 0 0) [] x u w) (h' : Lw B eb s (.slice none 0 0) [] y u' w) :
 Calls Tryz.prog 3 #[.string s, u, u'] w (TruePost w) := by
 obtain ⟨S0, hd0, -⟩ := h.da
 obtain ⟨k1, t1, n1, b1, a1, l1, c1, a2, l2, c2, rfl⟩ := hd0.form
 obtain ⟨S0', hd0', -⟩ := h'.da
 obtain ⟨k3, t3, n3, b3, a3, l3, c3, a4, l4, c4, rfl⟩ := hd0'.form
 have HL : Hid (∀ w', F0 w w' → Lw B eb s (.slice none 0 0) [] x (.agg #[.int .i64 k1, .string t1, .int .i64 n1, .bool b1, .slice a1 l1 c1, .slice a2 l2 c2]) w' ∧ Lw B eb s (.slice none 0 0) [] y (.agg #[.int .i64 k3, .string t3, .int .i64 n3, .bool b3, .slice a3 l3 c3, .slice a4 l4 c4]) w') := Lib.hid (fun w' hf => ⟨h.f0 hf, h'.f0 hf⟩)
 clear h h' hd0 hd0'
 obtain ⟨w1, hw1⟩ : ∃ w1, w1 = ((w.alloc (.cells #[.int .i64 k1, .string t1, .int .i64 n1, .bool b1, .slice a1 l1 c1, .slice a2 l2 c2] 25)).alloc (.cells #[.int .i64 k3, .string t3, .int .i64 n3, .bool b3, .slice a3 l3 c3, .slice a4 l4 c4] 25)) := ⟨_, rfl⟩
 have HF1 : Hid (F0 w w1) := Lib.hid (by rw [hw1]; exact (Fr.alloc _ _ _).allocA _)
 have HBX1 : Hid (w1.heap[w.heap.size]? = some (.cells #[.int .i64 k1, .string t1, .int .i64 n1, .bool b1, .slice a1 l1 c1, .slice a2 l2 c2] 25 (0, 0))) := Lib.hid (by rw [hw1]; exact blk_alloc _ (blk_new _ _))
 have HBY1 : Hid (w1.heap[w.heap.size + 1]? = some (.cells #[.int .i64 k3, .string t3, .int .i64 n3, .bool b3, .slice a3 l3 c3, .slice a4 l4 c4] 25 (0, 0))) := Lib.hid (by
  rw [hw1]
  have := blk_new (w.alloc (.cells #[.int .i64 k1, .string t1, .int .i64 n1, .bool b1, .slice a1 l1 c1, .slice a2 l2 c2] 25)) (.cells #[.int .i64 k3, .string t3, .int .i64 n3, .bool b3, .slice a3 l3 c3, .slice a4 l4 c4] 25)
  simpa using this)
 have hnb := HBX1.out
 have p0 := blk_cell hnb 0
 have p1 := blk_cell hnb 1
 have p2 := blk_cell hnb 2
 have p3 := blk_cell hnb 3
 have p4 := blk_cell hnb 4
 have p5 := blk_cell hnb 5
 simp only [List.getElem?_toArray, List.getElem?_cons_zero, List.getElem?_cons_succ] at p0 p1 p2 p3 p4 p5
 clear hnb
 have hnb := HBY1.out
 have r0 := blk_cell hnb 0
 have r1 := blk_cell hnb 1
 have r2 := blk_cell hnb 2
 have r3 := blk_cell hnb 3
 have r4 := blk_cell hnb 4
 have r5 := blk_cell hnb 5
 simp only [List.getElem?_toArray, List.getElem?_cons_zero, List.getElem?_cons_succ] at r0 r1 r2 r3 r4 r5
 clear hnb
 go_enter Tryz.func3, Tryz.ntmps3
 by_cases hs : s.size ≤ 2147483647
 · have hs' : decide ((2147483647 : Int) < (s.size : Int)) = false := by simp; omega
   go_wp2_with fail
   rw [← hw1]
   clear hw1
   refine ((HL.out w1 HF1.out).1.fit).mono ?_
   rintro e w2 ⟨z, rfl, HZ⟩
   have HF2 : Hid (F0 w w2) := Lib.hid (HF1.out.trans HZ.out)
   have HBX2 := Lib.hid (HZ.out.blk HBX1.out id)
   have HBY2 := Lib.hid (HZ.out.blk HBY1.out id)
   clear p0 p1 p2 p3 p4 p5 r0 r1 r2 r3 r4 r5
   have hnb := HBX2.out
   have p0 := blk_cell hnb 0
   have p1 := blk_cell hnb 1
   have p2 := blk_cell hnb 2
   have p3 := blk_cell hnb 3
   have p4 := blk_cell hnb 4
   have p5 := blk_cell hnb 5
   simp only [List.getElem?_toArray, List.getElem?_cons_zero, List.getElem?_cons_succ] at p0 p1 p2 p3 p4 p5
   clear hnb
   have hnb := HBY2.out
   have r0 := blk_cell hnb 0
   have r1 := blk_cell hnb 1
   have r2 := blk_cell hnb 2
   have r3 := blk_cell hnb 3
   have r4 := blk_cell hnb 4
   have r5 := blk_cell hnb 5
   simp only [List.getElem?_toArray, List.getElem?_cons_zero, List.getElem?_cons_succ] at r0 r1 r2 r3 r4 r5
   clear hnb
   cases z with
   | false =>
    go_wp2_with fail
    go_ret
    exact ⟨rfl, HF2.out⟩
   | true =>
    go_wp2_with fail
    refine ((HL.out w2 HF2.out).2.fit).mono ?_
    rintro e w3 ⟨z, rfl, HZ⟩
    have HF3 : Hid (F0 w w3) := Lib.hid (HF2.out.trans HZ.out)
    have HBX3 := Lib.hid (HZ.out.blk HBX2.out id)
    have HBY3 := Lib.hid (HZ.out.blk HBY2.out id)
    clear p0 p1 p2 p3 p4 p5 r0 r1 r2 r3 r4 r5
    have hnb := HBX3.out
    have p0 := blk_cell hnb 0
    have p1 := blk_cell hnb 1
    have p2 := blk_cell hnb 2
    have p3 := blk_cell hnb 3
    have p4 := blk_cell hnb 4
    have p5 := blk_cell hnb 5
    simp only [List.getElem?_toArray, List.getElem?_cons_zero, List.getElem?_cons_succ] at p0 p1 p2 p3 p4 p5
    clear hnb
    have hnb := HBY3.out
    have r0 := blk_cell hnb 0
    have r1 := blk_cell hnb 1
    have r2 := blk_cell hnb 2
    have r3 := blk_cell hnb 3
    have r4 := blk_cell hnb 4
    have r5 := blk_cell hnb 5
    simp only [List.getElem?_toArray, List.getElem?_cons_zero, List.getElem?_cons_succ] at r0 r1 r2 r3 r4 r5
    clear hnb
    cases z with
    | false =>
     go_wp2_with fail
     go_ret
     exact ⟨rfl, HF3.out⟩
    | true =>
     go_wp2_with fail
     refine ((HL.out w3 HF3.out).1.right hs ⟨by simp, by simp⟩).mono ?_
     rintro e w4 ⟨b, rfl, HB⟩
     have HF4 : Hid (F0 w w4) := Lib.hid (HF3.out.trans HB.out.1)
     have HBX4 := Lib.hid (HB.out.1.blk HBX3.out id)
     have HBY4 := Lib.hid (HB.out.1.blk HBY3.out id)
     clear p0 p1 p2 p3 p4 p5 r0 r1 r2 r3 r4 r5
     have hnb := HBX4.out
     have p0 := blk_cell hnb 0
     have p1 := blk_cell hnb 1
     have p2 := blk_cell hnb 2
     have p3 := blk_cell hnb 3
     have p4 := blk_cell hnb 4
     have p5 := blk_cell hnb 5
     simp only [List.getElem?_toArray, List.getElem?_cons_zero, List.getElem?_cons_succ] at p0 p1 p2 p3 p4 p5
     clear hnb
     have hnb := HBY4.out
     have r0 := blk_cell hnb 0
     have r1 := blk_cell hnb 1
     have r2 := blk_cell hnb 2
     have r3 := blk_cell hnb 3
     have r4 := blk_cell hnb 4
     have r5 := blk_cell hnb 5
     simp only [List.getElem?_toArray, List.getElem?_cons_zero, List.getElem?_cons_succ] at r0 r1 r2 r3 r4 r5
     clear hnb
     cases b with
     | false =>
      go_wp2_with fail
      go_ret
      exact ⟨rfl, HF4.out⟩
     | true =>
      have HOK := Lib.hid (HB.out.2 (by first | rfl | trivial))
      go_wp2_with fail
      refine ((HL.out w4 HF4.out).2.right hs ⟨by simp, by simp⟩).mono ?_
      rintro e w5 ⟨b, rfl, HC⟩
      have HF5 : Hid (F0 w w5) := Lib.hid (HF4.out.trans HC.out.1)
      have HBX5 := Lib.hid (HC.out.1.blk HBX4.out id)
      have HBY5 := Lib.hid (HC.out.1.blk HBY4.out id)
      clear p0 p1 p2 p3 p4 p5 r0 r1 r2 r3 r4 r5
      have hnb := HBX5.out
      have p0 := blk_cell hnb 0
      have p1 := blk_cell hnb 1
      have p2 := blk_cell hnb 2
      have p3 := blk_cell hnb 3
      have p4 := blk_cell hnb 4
      have p5 := blk_cell hnb 5
      simp only [List.getElem?_toArray, List.getElem?_cons_zero, List.getElem?_cons_succ] at p0 p1 p2 p3 p4 p5
      clear hnb
      have hnb := HBY5.out
      have r0 := blk_cell hnb 0
      have r1 := blk_cell hnb 1
      have r2 := blk_cell hnb 2
      have r3 := blk_cell hnb 3
      have r4 := blk_cell hnb 4
      have r5 := blk_cell hnb 5
      simp only [List.getElem?_toArray, List.getElem?_cons_zero, List.getElem?_cons_succ] at r0 r1 r2 r3 r4 r5
      clear hnb
      cases b with
      | false =>
       go_wp2_with fail
       go_ret
       exact ⟨rfl, HF5.out⟩
      | true =>
       have HOK2 := Lib.hid (HC.out.2 (by first | rfl | trivial))
       obtain ⟨w6, hw6⟩ : ∃ w6, w6 = w5.alloc (.cells #[.int .i64 k1, .string t1, .int .i64 n1, .bool b1, .slice a1 l1 c1, .slice a2 l2 c2, .int .i64 k3, .string t3, .int .i64 n3, .bool b3, .slice a3 l3 c3, .slice a4 l4 c4] 25) := ⟨_, rfl⟩
       have HF6 : Hid (F0 w w6) := Lib.hid (by rw [hw6]; exact HF5.out.allocA _)
       have HBX6 : Hid (w6.heap[w.heap.size]? = some (.cells #[.int .i64 k1, .string t1, .int .i64 n1, .bool b1, .slice a1 l1 c1, .slice a2 l2 c2] 25 (0, 0))) := Lib.hid (by rw [hw6]; exact blk_alloc _ HBX5.out)
       have HBY6 : Hid (w6.heap[w.heap.size + 1]? = some (.cells #[.int .i64 k3, .string t3, .int .i64 n3, .bool b3, .slice a3 l3 c3, .slice a4 l4 c4] 25 (0, 0))) := Lib.hid (by rw [hw6]; exact blk_alloc _ HBY5.out)
       have HB12 := Lib.hid (blk_new w5 (.cells #[.int .i64 k1, .string t1, .int .i64 n1, .bool b1, .slice a1 l1 c1, .slice a2 l2 c2, .int .i64 k3, .string t3, .int .i64 n3, .bool b3, .slice a3 l3 c3, .slice a4 l4 c4] 25))
       rw [← hw6] at HB12
       have HS := Lib.hid (by
        obtain ⟨S, hc⟩ := (HL.out w6 HF6.out).1.cin2 (HL.out w6 HF6.out).2 HOK.out.2 HOK2.out.2 _ HB12.out
        exact hc.spec (by omega) (HL.out w6 HF6.out).1.ba HOK.out.1 false : Calls Tryz.prog 16 #[.string s, .slice none 0 0, .slice (some ⟨w5.heap.size, 0, none⟩) 2 2, .bool false] w6 (RePost [] false s [x, y] w6))
       clear HB12
       go_wp2_with fail
       rw [← hw6]
       clear hw6
       refine (HS.out).mono ?_
       rintro e w7 ⟨o, m, told, rfl, HO⟩
       have HF7 : Hid (F0 w w7) := Lib.hid (HF6.out.trans HO.out.1)
       have HBX7 := Lib.hid (HO.out.1.blk HBX6.out id)
       have HBY7 := Lib.hid (HO.out.1.blk HBY6.out id)
       clear p0 p1 p2 p3 p4 p5 r0 r1 r2 r3 r4 r5
       have hnb := HBX7.out
       have p0 := blk_cell hnb 0
       have p1 := blk_cell hnb 1
       have p2 := blk_cell hnb 2
       have p3 := blk_cell hnb 3
       have p4 := blk_cell hnb 4
       have p5 := blk_cell hnb 5
       simp only [List.getElem?_toArray, List.getElem?_cons_zero, List.getElem?_cons_succ] at p0 p1 p2 p3 p4 p5
       clear hnb
       have hnb := HBY7.out
       have r0 := blk_cell hnb 0
       have r1 := blk_cell hnb 1
       have r2 := blk_cell hnb 2
       have r3 := blk_cell hnb 3
       have r4 := blk_cell hnb 4
       have r5 := blk_cell hnb 5
       simp only [List.getElem?_toArray, List.getElem?_cons_zero, List.getElem?_cons_succ] at r0 r1 r2 r3 r4 r5
       clear hnb
       cases told with
       | false =>
        go_wp2_with fail
        go_ret
        exact ⟨rfl, HF7.out⟩
       | true =>
        obtain ⟨w8, hw8⟩ : ∃ w8, w8 = w7.alloc (.cells #[.int .i64 k1, .string t1, .int .i64 n1, .bool b1, .slice a1 l1 c1, .slice a2 l2 c2, .int .i64 k3, .string t3, .int .i64 n3, .bool b3, .slice a3 l3 c3, .slice a4 l4 c4] 25) := ⟨_, rfl⟩
        have HF8 : Hid (F0 w w8) := Lib.hid (by rw [hw8]; exact HF7.out.allocA _)
        have HBX8 : Hid (w8.heap[w.heap.size]? = some (.cells #[.int .i64 k1, .string t1, .int .i64 n1, .bool b1, .slice a1 l1 c1, .slice a2 l2 c2] 25 (0, 0))) := Lib.hid (by rw [hw8]; exact blk_alloc _ HBX7.out)
        have HBY8 : Hid (w8.heap[w.heap.size + 1]? = some (.cells #[.int .i64 k3, .string t3, .int .i64 n3, .bool b3, .slice a3 l3 c3, .slice a4 l4 c4] 25 (0, 0))) := Lib.hid (by rw [hw8]; exact blk_alloc _ HBY7.out)
        have HB12 := Lib.hid (blk_new w7 (.cells #[.int .i64 k1, .string t1, .int .i64 n1, .bool b1, .slice a1 l1 c1, .slice a2 l2 c2, .int .i64 k3, .string t3, .int .i64 n3, .bool b3, .slice a3 l3 c3, .slice a4 l4 c4] 25))
        rw [← hw8] at HB12
        have HR : Hid (Calls Tryz.prog 17 #[.string s, .slice none 0 0, .slice (some ⟨w7.heap.size, 0, none⟩) 2 2] w8 (fun e w2 => e = .returned (.tuple #[.string o, .bool true]) ∧ F0 w8 w2)) := Lib.hid (by
         obtain ⟨⟨st', h1, -⟩, h2⟩ := HO.out.2 (by first | rfl | trivial)
         obtain ⟨S, hc⟩ := (HL.out w8 HF8.out).1.cin2 (HL.out w8 HF8.out).2 HOK.out.2 HOK2.out.2 _ HB12.out
         exact hc.ren (by omega) (HL.out w8 HF8.out).1.ba HOK.out.1 h1 h2)
        go_wp2_with fail
        rw [← hw8]
        clear hw8
        refine HR.out.mono ?_
        rintro e w9 ⟨rfl, hf⟩
        have HF9 : Hid (F0 w w9) := Lib.hid (HF8.out.trans hf)
        clear hf
        have q : (o.toList == o.toList) = true := by simp
        go_wp2_with fail
        refine ((HL.out w9 HF9.out).1.empty).mono ?_
        rintro e w10 ⟨rfl, hf⟩
        have HF10 : Hid (F0 w w10) := Lib.hid (HF9.out.trans hf)
        clear hf
        go_wp2_with fail
        go_ret
        exact ⟨rfl, HF10.out⟩
 · have hs' : decide ((2147483647 : Int) < (s.size : Int)) = true := by simp; omega
   go_wp2_with fail
   go_ret
   exact ⟨rfl, (Fr.alloc _ _ _).allocA _⟩
end Go.Proofs.YtfakghnpkdoclaaGreatDoor
