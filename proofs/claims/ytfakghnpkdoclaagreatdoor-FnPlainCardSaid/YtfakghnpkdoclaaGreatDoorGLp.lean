/-
  The law FnPlain, walked.
-/
import Derived.Test.YtfakghnpkdoclaaGreatDoorGL1
import Derived.Test.YtfakghnpkdoclaaGreatDoorGC0
set_option linter.unusedVariables false
set_option linter.unusedSimpArgs false
set_option maxRecDepth 1000000
set_option maxHeartbeats 8000000
namespace Go.Proofs.YtfakghnpkdoclaaGreatDoor
open Go.RowKit
theorem law_FnPlain (B : Nat) (eb : Addr) (s : ByteArray) (x : Mu.Val) (u : Value) (w : World) (S : Nat → Prop) (hd : DAt w S x u) (hS : ∀ k, S k → k < w.heap.size) (hrg : Mu.Rg x) (hba : Ba B eb (.slice none 0 0) [] w) :
 Calls Tryz.prog 4 #[.string s, u] w (TruePost w) := by
 obtain ⟨k1, t1, n1, b1, a1, l1, c1, a2, l2, c2, rfl⟩ := hd.form
 have HZ : Hid (∀ w', F0 w w' → Calls Tryz.prog 14 #[.agg #[.int .i64 k1, .string t1, .int .i64 n1, .bool b1, .slice a1 l1 c1, .slice a2 l2 c2]] w' (fun e w2 => ∃ r : Bool, e = .returned (.bool r) ∧ Hid (F0 w' w2))) := Lib.hid (fun w' hf => zzFits3_any x _ w' S (hd.f0 hS hf))
 have HR : Hid (∀ w', F0 w w' → s.size ≤ 2147483647 → Calls Tryz.prog 15 #[.string s, .slice none 0 0, .agg #[.int .i64 k1, .string t1, .int .i64 n1, .bool b1, .slice a1 l1 c1, .slice a2 l2 c2]] w' (RiPost s [] x w')) := Lib.hid (fun w' hf hs =>
  right_any s _ [] x _ w' S hs (by simp) (by simp) ⟨none, 0, rfl, Nat.le_refl _, fun h => absurd h (by simp)⟩ (hd.f0 hS hf) (fun k hk => Nat.lt_of_lt_of_le (hS k hk) hf.size) hrg)
 have HN : Hid (∀ w', F0 w w' → TplOk s [] ∧ CxOk x → (∃ r ind kids, (Mu.parse (L s)).1 = [.mk 1 (L s) r ind kids]) → Calls Tryz.prog 20 #[.string s, .slice none 0 0, .agg #[.int .i64 k1, .string t1, .int .i64 n1, .bool b1, .slice a1 l1 c1, .slice a2 l2 c2]] w' (fun e w2 => e = .returned (.tuple #[.string s, .bool true]) ∧ F0 w' w2)) := Lib.hid (fun w' hf hok hp => by
  obtain ⟨r, ind, kids, hp⟩ := hp
  obtain ⟨wsr, h1, h2⟩ := ren_text hok.1 hp (cs := [x]) (by simp) (fun v hv => by rw [List.mem_singleton.1 hv]; exact hok.2.vg)
  refine (render_any B 40 5 eb (.slice none 0 0) [] s x wsr false w' S _ h1 (hba.fr0 hf) ⟨hd.f0 hS hf, fun k hk => Nat.lt_of_lt_of_le (hS k hk) hf.size, hok.2.1, by omega, by have := hok.2.2.2; omega, by rw [hok.2.2.1]; decide⟩).mono ?_
  rintro e w2 ⟨⟨o, rfl, ho⟩, hf2⟩
  have h4 := ho rfl
  rw [h2] at h4
  rw [L_inj h4]
  exact ⟨rfl, hf2⟩)
 clear hd hS hrg hba
 go_enter Tryz.func4, Tryz.ntmps4
 by_cases hs : s.size ≤ 2147483647
 · have hs' : decide ((2147483647 : Int) < (s.size : Int)) = false := by simp; omega
   go_wp2_with fail
   refine (HZ.out _ (Fr.alloc _ _ _)).mono ?_
   rintro e w1 ⟨z, rfl, HZ1⟩
   have HF1 : Hid (F0 w w1) := Lib.hid ((Fr.alloc _ _ _).trans HZ1.out)
   have HBX1 := Lib.hid (HZ1.out.blk (blk_new w (.cells #[.int .i64 k1, .string t1, .int .i64 n1, .bool b1, .slice a1 l1 c1, .slice a2 l2 c2] 25)) id)
   cases z with
   | false =>
    go_wp2_with fail
    go_ret
    exact ⟨rfl, HF1.out⟩
   | true =>
    go_wp2_with fail
    refine (parse_spec s _ (by omega)).mono ?_
    rintro e w2 ⟨v, rfl, hf, ⟨S2, vs, hrow, hns, hS2⟩, ga, ca, rfl⟩
    obtain ⟨ns, hnn⟩ : ∃ ns, ns = (Mu.parse (L s)).1 := ⟨_, rfl⟩
    obtain ⟨ok, hok⟩ : ∃ ok, ok = (Mu.parse (L s)).2 := ⟨_, rfl⟩
    rw [← hnn] at hrow hns ⊢
    rw [← hok]
    have HNN := Lib.hid hnn
    have HF2 := Lib.hid (HF1.out.trans hf)
    have HBX2 := Lib.hid (hf.blk HBX1.out id)
    have hnb := HBX2.out
    have p0 := blk_cell hnb 0
    have p1 := blk_cell hnb 1
    have p2 := blk_cell hnb 2
    have p3 := blk_cell hnb 3
    have p4 := blk_cell hnb 4
    have p5 := blk_cell hnb 5
    simp only [List.getElem?_toArray, List.getElem?_cons_zero, List.getElem?_cons_succ] at p0 p1 p2 p3 p4 p5
    clear hnb
    have HR2 := Lib.hid hrow
    have HN2 := Lib.hid hns
    clear hf hrow hns hS2 hnn hok
    cases ok with
    | false =>
     go_wp2_with fail
     go_ret
     exact ⟨rfl, HF2.out⟩
    | true =>
     by_cases h1 : ns.length = 1
     · obtain ⟨ga', ca', kd, raw, tb, ib, sv, kids, us, hv, hSg, -, hnd, n0, n1, n2, n3, n4, hr2, hn2⟩ := HR2.out.node HN2.out 0 (by omega)
       obtain ⟨rfl, rfl⟩ : ga = ga' ∧ ca = ca' := by
        injection hv with h1 h2 h3
        injection h1 with h1
        injection h1 with h1
        exact ⟨h1, h3⟩
       simp only [Nat.zero_mul, Nat.zero_add] at n0 n1
       rw [h1]
       have HND : Hid (ns = [.mk kd (L tb) raw (L ib) kids]) := Lib.hid (by
        match ns, h1, hnd with
        | [a], _, hnd => rw [← hnd]; rfl)
       clear hv hSg hnd hr2 hn2 n2 n3 n4
       by_cases hk : kd = 1
       · subst hk
         by_cases hq : L tb = L s
         · have hq' : tb = s := L_inj hq
           subst hq'
           have q2 : (tb.toList == tb.toList) = true := by simp
           clear hq
           go_wp2_with fail
           refine (HR.out _ HF2.out hs).mono ?_
           rintro e w3 ⟨b, rfl, HB⟩
           have HF3 : Hid (F0 w w3) := Lib.hid (HF2.out.trans HB.out.1)
           have HBX3 := Lib.hid (HB.out.1.blk HBX2.out id)
           clear p0 p1 p2 p3 p4 p5
           have hnb := HBX3.out
           have p0 := blk_cell hnb 0
           have p1 := blk_cell hnb 1
           have p2 := blk_cell hnb 2
           have p3 := blk_cell hnb 3
           have p4 := blk_cell hnb 4
           have p5 := blk_cell hnb 5
           simp only [List.getElem?_toArray, List.getElem?_cons_zero, List.getElem?_cons_succ] at p0 p1 p2 p3 p4 p5
           clear hnb
           cases b with
           | false =>
            go_wp2_with fail
            go_ret
            exact ⟨rfl, HF3.out⟩
           | true =>
            go_wp2_with fail
            refine (HN.out _ HF3.out (HB.out.2 (by first | rfl | trivial)) ⟨raw, L ib, kids, by rw [← HNN.out]; exact HND.out⟩).mono ?_
            rintro e w4 ⟨rfl, hf4⟩
            have HF4 : Hid (F0 w w4) := Lib.hid (HF3.out.trans hf4)
            clear hf4
            go_wp2_with fail
            go_ret
            exact ⟨rfl, HF4.out⟩
         · have q2 : (tb.toList == s.toList) = false := by rw [beq_eq_false_iff_ne, ByteArray.toList_eq, ByteArray.toList_eq]; exact hq
           have q3 : (tb.toList != s.toList) = true := by rw [bne, q2]; rfl
           clear hq
           go_wp2_with fail
           go_ret
           exact ⟨rfl, HF2.out⟩
       · have q1 : ((kd : Int) == 1) = false := by rw [beq_eq_false_iff_ne]; omega
         have q1' : ((kd : Int) != 1) = true := by rw [bne, q1]; rfl
         clear hk
         go_wp2_with fail
         go_ret
         exact ⟨rfl, HF2.out⟩
     · have q1 : ((ns.length : Int) == 1) = false := by rw [beq_eq_false_iff_ne]; omega
       have q1' : ((ns.length : Int) != 1) = true := by rw [bne, q1]; rfl
       clear h1
       go_wp2_with fail
       go_ret
       exact ⟨rfl, HF2.out⟩
 · have hs' : decide ((2147483647 : Int) < (s.size : Int)) = true := by simp; omega
   go_wp2_with fail
   go_ret
   exact ⟨rfl, Fr.alloc _ _ _⟩
end Go.Proofs.YtfakghnpkdoclaaGreatDoor
