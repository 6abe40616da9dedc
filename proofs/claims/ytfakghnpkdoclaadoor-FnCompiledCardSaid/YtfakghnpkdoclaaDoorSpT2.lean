/-
  The specification's reader: plain and TemplateOk where there are no partials.
-/
import Derived.Test.YtfakghnpkdoclaaDoorSpT1
set_option linter.unusedVariables false
set_option linter.unusedSimpArgs false
namespace Go.Proofs.YtfakghnpkdoclaaDoor
open Go.RowKit

/-- yes means: read whole, of the signs, and no partial in it -/
def PlainPost (s : ByteArray) (w : World) (e : Ending) (w' : World) : Prop := ∃ b : Bool, e = .returned (.bool b) ∧ F0 w w' ∧ (b = true → (Mu.parse (L s)).2 = true ∧ signsB (L s) = true ∧ Mu.wiL [] (Mu.parse (L s)).1)
set_option maxRecDepth 100000 in
set_option maxHeartbeats 1000000 in
theorem plain_nil (s : ByteArray) (w : World) (hs : s.size ≤ 2147483647) : Calls Tryd.prog 7 #[.string s, .slice none 0 0] w (PlainPost s w) := by
  go_enter Tryd.func7, Tryd.ntmps7
  go_wp2_with fail
  refine (parse_spec s _ (by omega)).mono ?_
  rintro e w1 ⟨v, rfl, hf, ⟨S, vs, hrow, hns, hS⟩, -⟩
  have HF := Lib.hid hf
  have HR := Lib.hid hrow
  have HN := Lib.hid hns
  have HSS : Hid (∀ k, S k → k < w1.heap.size) := Lib.hid (fun k hk => (hS k hk).2)
  have HZ : Hid (nszL (Mu.parse (L s)).1 ≤ 85899346000) := Lib.hid (by have := parse_nsz (L s); rw [L_length] at this; omega)
  obtain ⟨ok, hok⟩ : ∃ ok, ok = (Mu.parse (L s)).2 := ⟨_, rfl⟩
  rw [← hok]
  have HOK := Lib.hid hok
  clear hf hrow hns hS hok
  cases ok with
  | false =>
    go_wp2_with fail
    go_ret
    exact ⟨false, rfl, HF.out, fun h => by cases h⟩
  | true =>
    go_wp2_with fail
    refine (signsOk_any s _ (by omega)).mono ?_
    rintro e w2 ⟨rfl, hf2⟩
    subst hf2
    have HF2 : Hid (F0 w1 w1) := Lib.hid (Fr.refl _ _)
    obtain ⟨sg, hsg⟩ : ∃ sg, sg = signsB (L s) := ⟨_, rfl⟩
    rw [← hsg]
    have HSG := Lib.hid hsg
    clear hsg
    cases sg with
    | false =>
      go_wp2_with fail
      go_ret
      exact ⟨false, rfl, HF.out.trans HF2.out, fun h => by cases h⟩
    | true =>
      go_wp2_with fail
      refine (within_nil _ _ v vs S w1 (Nat.le_refl _) HZ.out HR.out HN.out HSS.out).mono ?_
      rintro e w3 ⟨b, rfl, hb, hf3⟩
      have HF3 := Lib.hid hf3
      have HB := Lib.hid hb
      clear hf3 hb
      go_wp2_with fail
      go_ret
      exact ⟨b, rfl, (HF.out.trans HF2.out).trans HF3.out, fun h => ⟨HOK.out.symm, HSG.out.symm, HB.out h⟩⟩

set_option maxRecDepth 100000 in
set_option maxHeartbeats 1000000 in
theorem templateOk_nil (s : ByteArray) (w : World) (hs : s.size ≤ 2147483647) : Calls Tryd.prog 4 #[.string s, .slice none 0 0] w (PlainPost s w) := by
  go_enter Tryd.func4, Tryd.ntmps4
  go_wp2_with fail
  refine (plain_nil s _ hs).mono ?_
  rintro e w1 ⟨b, rfl, hf, hb⟩
  have HF := Lib.hid hf
  have HB := Lib.hid hb
  clear hf hb
  cases b with
  | false =>
    go_wp2_with fail
    go_ret
    exact ⟨false, rfl, HF.out, fun h => by cases h⟩
  | true =>
    go_wp2_with fail
    refine (parse_spec s _ (by omega)).mono ?_
    rintro e w2 ⟨v, rfl, hf, ⟨S, vs, hrow, hns, hS⟩, -⟩
    have HF2 := Lib.hid (HF.out.trans hf)
    have HR := Lib.hid hrow
    have HN := Lib.hid hns
    have HSS : Hid (∀ k, S k → k < w2.heap.size) := Lib.hid (fun k hk => (hS k hk).2)
    have HZ : Hid (nszL (Mu.parse (L s)).1 ≤ 85899346000) := Lib.hid (by have := parse_nsz (L s); rw [L_length] at this; omega)
    clear hf hrow hns hS
    go_wp2_with fail
    refine (asked_nil _ _ v vs S w2 (Nat.le_refl _) HZ.out HR.out HN.out HSS.out).mono ?_
    rintro e w3 ⟨n, rfl, hf3⟩
    have HF3 : Hid (F0 w w3) := Lib.hid (HF2.out.trans hf3)
    clear hf3
    cases h40 : decide ((40 : Int) < n) with
    | true =>
      go_wp2_with fail
      go_ret
      exact ⟨false, rfl, HF3.out, fun h => by cases h⟩
    | false =>
      go_wp2_with fail
      go_loopg [31] 0 (fun g v wr => v = .int .i64 0 ∧ g = 0 ∧ wr = w3)
      case atStart => exact ⟨rfl, rfl, rfl⟩
      case round =>
        obtain ⟨rfl, rfl, rfl⟩ := hrel
        go_wp2_with fail
        go_ret
        exact ⟨true, rfl, HF3.out, fun _ => HB.out trivial⟩
end Go.Proofs.YtfakghnpkdoclaaDoor
