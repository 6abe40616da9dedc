/-
  The law FnTags, walked.
-/
import Derived.Test.YtfakghnpkdoclaaGreatDoorGT3
import Derived.Test.YtfakghnpkdoclaaGreatDoorGL2
import Derived.Test.YtfakghnpkdoclaaGreatDoorGC0
import Derived.Test.YtfakghnpkdoclaaGreatDoorGT1
set_option linter.unusedVariables false
set_option linter.unusedSimpArgs false
set_option maxRecDepth 1000000
set_option maxHeartbeats 8000000
namespace Go.Proofs.YtfakghnpkdoclaaGreatDoor
open Go.RowKit
theorem law_FnTags (B : Nat) (eb : Addr) (s : ByteArray) (pv : Value) (ps : List (ByteArray × ByteArray)) (w : World) (hba : Ba B eb pv ps w) :
 Calls Tryz.prog 13 #[.string s, pv] w (TruePost w) := by
 have HFI : Hid (∀ w', F0 w w' → Calls Tryz.prog 21 #[pv] w' (fun e w2 => ∃ r : Bool, e = .returned (.bool r) ∧ F0 w' w2 ∧ (r = true → ps.length ≤ 2147483647 ∧ ∀ p ∈ ps, p.1.size ≤ 2147483647 ∧ p.2.size ≤ 2147483647))) := Lib.hid (fun w' hf => zzFits1_any pv ps w' (hba.ps.f0 hf))
 have HTP : Hid (∀ w', F0 w w' → s.size ≤ 2147483647 → (ps.length ≤ 2147483647 ∧ ∀ p ∈ ps, p.1.size ≤ 2147483647 ∧ p.2.size ≤ 2147483647) → Calls Tryz.prog 27 #[.string s, pv] w' (TplPost s ps w')) := Lib.hid (fun w' hf hs hp => templateOk_any s pv ps w' hs hp.1 hp.2 (hba.ps.f0 hf))
 have HTG : Hid (∀ w', F0 w w' → TplOk s ps → Calls Tryz.prog 28 #[.string s, pv] w' (fun e w2 => ∃ v, e = .returned (.tuple #[v, .bool true]) ∧ Hid (∃ ts vs S', RowN w2 S' 3 v ts.length vs ∧ GsAt w2 S' ts vs ∧ F0 w' w2 ∧ (∀ k, S' k → k < w2.heap.size) ∧ Mu.MtL ts ((Mu.parse (L s)).1.filter Mu.keepN)))) := Lib.hid (fun w' hf ht => by
  have hs := ht.2.1.self;obtain ⟨es, st, h1, h2⟩ := Mu.parse_rel hs.2.1 hs.2.2 false;refine (implTags_any B eb pv ps s es st w' hs.1 hs.2.1 (fun p hp => ht.parts p hp) (by have := ht.1; omega) (hba.fr0 hf) h1).mono ?_;rintro e w2 ⟨v, vs, S', rfl, H⟩;exact ⟨v, rfl, Lib.hid ⟨_, vs, S', H.out.1, H.out.2.1, H.out.2.2.1, fun k hk => (H.out.2.2.2 k hk).2, Mu.rel_mt h2⟩⟩)
 have HEM : Hid (∀ w', F0 w w' → Calls Tryz.prog 18 #[] w' (fun e w2 => e = .returned (.bool false) ∧ F0 w' w2)) := Lib.hid (fun w' hf => empty_any B eb w' (hba.fr0 hf).nil)
 clear hba
 go_enter Tryz.func13, Tryz.ntmps13
 by_cases hs : s.size ≤ 2147483647
 · have hs' : decide ((2147483647 : Int) < (s.size : Int)) = false := by simp; omega
   have HSZ := Lib.hid hs;clear hs;go_wp2_with fail;refine (HFI.out _ (Fr.refl _ _)).mono ?_;rintro e w1 ⟨r, rfl, hf1, hr1⟩;have HF1 : Hid (F0 w w1 ∧ (r = true → ps.length ≤ 2147483647 ∧ ∀ p ∈ ps, p.1.size ≤ 2147483647 ∧ p.2.size ≤ 2147483647)) := Lib.hid ⟨hf1, hr1⟩;clear hf1 hr1
   cases r with
   | false =>
    go_wp2_with fail;go_ret
    exact ⟨rfl, HF1.out.1⟩
   | true =>
    go_wp2_with fail;refine (HTP.out _ HF1.out.1 HSZ.out (HF1.out.2 (by first | rfl | trivial))).mono ?_
    rintro e w2 ⟨b, rfl, hf2, hok⟩;have HF2 : Hid (F0 w w2 ∧ (b = true → TplOk s ps)) := Lib.hid ⟨HF1.out.1.trans hf2, hok⟩;clear hf2 hok
    cases b with
    | false =>
     go_wp2_with fail;go_ret
     exact ⟨rfl, HF2.out.1⟩
    | true =>
     go_wp2_with fail;refine (parse_spec s _ (by have := HSZ.out; omega)).mono ?_
     rintro e w3 ⟨v, rfl, hf3, ⟨S2, vs, hrow, hns, hS2⟩, ga, ca, rfl⟩;have HF3 : Hid (F0 w w3) := Lib.hid (HF2.out.1.trans hf3);have HN := Lib.hid (And.intro hrow (And.intro hns hS2));clear hf3 hrow hns hS2;go_wp2_with fail;refine (HTG.out _ HF3.out (HF2.out.2 (by first | rfl | trivial))).mono ?_;rintro e w4 ⟨v4, rfl, HG⟩
     have HF4 : Hid (F0 w w4) := Lib.hid (by
      obtain ⟨_, _, _, -, -, h, -⟩ := HG.out;exact HF3.out.trans h)
     have HTD : Hid (Calls Tryz.prog 29 #[v4, .slice (some ⟨ga, 0, none⟩) (Mu.parse (L s)).1.length ca] w4 (YesPost w4)) := Lib.hid (by
      obtain ⟨ts, us, S', g1, g2, g3, g4, g5⟩ := HG.out;obtain ⟨n1, n2, n3⟩ := HN.out;obtain ⟨m1, m2, m3⟩ := n1.f0 n2 (fun k hk => (n3 k hk).2) g3;exact tagged_all _ _ (Nat.le_refl _) (by have := parse_nsz (L s); have := HSZ.out; rw [L_length] at *; omega) ts _ _ _ _ w4 _ _ g5 g1 g2 g4 m1 m2 m3)
     go_wp2_with fail;refine HTD.out.mono ?_
     rintro e w5 ⟨rfl, hf5⟩;have HF5 : Hid (F0 w w5) := Lib.hid (HF4.out.trans hf5);clear hf5;go_wp2_with fail;refine (HEM.out _ HF5.out).mono ?_;rintro e w6 ⟨rfl, hf6⟩;have HF6 : Hid (F0 w w6) := Lib.hid (HF5.out.trans hf6);clear hf6;go_wp2_with fail;go_ret;exact ⟨rfl, HF6.out⟩
 · have hs' : decide ((2147483647 : Int) < (s.size : Int)) = true := by simp; omega
   go_wp2_with fail;go_ret
   exact ⟨rfl, Fr.refl _ _⟩
end Go.Proofs.YtfakghnpkdoclaaGreatDoor
