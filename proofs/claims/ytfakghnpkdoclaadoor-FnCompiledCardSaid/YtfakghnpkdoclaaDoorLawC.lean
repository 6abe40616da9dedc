/-
  The law FnCompiled, walked.
-/
import Derived.Test.YtfakghnpkdoclaaDoorSpT2
import Derived.Test.YtfakghnpkdoclaaDoorImp1
import Derived.Test.YtfakghnpkdoclaaDoorPure6
set_option linter.unusedVariables false
set_option linter.unusedSimpArgs false
namespace Go.Proofs.YtfakghnpkdoclaaDoor
open Go.RowKit

def TruePost (w : World) (e : Ending) (w' : World) : Prop := e = .returned (.bool true) ∧ F0 w w'
theorem L_app (a b : ByteArray) : L (a ++ b) = L a ++ L b := by
  simp [L, ByteArray.data_append]
theorem signs_ok {l : Mu.B} (h : Mu.signs l) : ∀ c ∈ l, c.toNat < 128 ∧ c ≠ 13 := fun c hc => by
  refine ⟨?_, Mu.signB_blank (h c hc)⟩
  have := h c hc
  rw [signB_iff] at this
  simp at this
  omega

theorem bad_ok {s sb : ByteArray} {b : Mu.B} (h : L sb = L s ++ b) (hs : ∀ c ∈ L s, c.toNat < 128 ∧ c ≠ 13) (hz : s.size ≤ 400) (hi : Mu.iparse (L s ++ b) false (s.size + 9) 0 ⟨0, Mu.OB, Mu.CB⟩ none = some none) (hb : b.length ≤ 30 ∧ ∀ c ∈ b, c.toNat < 128 ∧ c ≠ 13) :
    sb.size ≤ 4096 ∧ (∀ c ∈ L sb, c.toNat < 128) ∧ (∀ c ∈ L sb, c ≠ 13) ∧ Mu.iparse (L sb) false (s.size + 9) 0 ⟨0, Mu.OB, Mu.CB⟩ none = some none := by
  have hall : ∀ c ∈ L sb, c.toNat < 128 ∧ c ≠ 13 := by
    intro c hc
    rw [h] at hc
    rcases List.mem_append.1 hc with hc | hc
    · exact hs c hc
    · exact hb.2 c hc
  refine ⟨?_, fun c hc => (hall c hc).1, fun c hc => (hall c hc).2, by rw [h]; exact hi⟩
  rw [← L_length, h, List.length_append, L_length]
  have := hb.1
  omega
set_option maxRecDepth 100000 in
set_option maxHeartbeats 4000000 in
theorem law_FnCompiled (B : Nat) (eb : Addr) (s : ByteArray) (k : Nat) (w : World) (hk : k < 256) (hg : Gl B eb w) : Calls Tryd.prog 3 #[.string s, .int .u8 k] w (TruePost w) := by
  have HG := Lib.hid hg
  clear hg
  go_enter Tryd.func3, Tryd.ntmps3
  by_cases hs : s.size ≤ 2147483647
  · have hs' : decide ((2147483647 : Int) < (s.size : Int)) = false := by simp; omega
    go_wp2_with fail
    refine (templateOk_nil s _ hs).mono ?_
    rintro e w1 ⟨b, rfl, hf, hb⟩
    have HF1 := Lib.hid hf
    have HB := Lib.hid hb
    clear hf hb
    cases b with
    | false =>
      go_wp2_with fail
      go_ret
      exact ⟨rfl, HF1.out⟩
    | true =>
      have HBB := Lib.hid (HB.out rfl)
      clear HB
      have hsz : s.size ≤ 400 := by
        have := (signsB_true HBB.out.2.1).2
        rwa [L_length] at this
      obtain ⟨sx, hsx⟩ : ∃ sx, s ++ ⟨#[123, 123, 120, 125, 125]⟩ = sx := ⟨_, rfl⟩
      have HLX : Hid (L sx = L s ++ Mu.xTag) := Lib.hid (by rw [← hsx, L_app]; rfl)
      have hsxs : sx.size ≤ 405 := by rw [← L_length, HLX.out, List.length_append, L_length]; show s.size + 5 ≤ _; omega
      go_wp2_with fail
      refine (parse_spec sx _ (by omega)).mono ?_
      rintro e w2 ⟨v, rfl, hf, ⟨S, vs, hrow, hns, hS⟩, ga, ca, rfl⟩
      obtain ⟨ns, hnn⟩ : ∃ ns, ns = (Mu.parse (L sx)).1 := ⟨_, rfl⟩
      rw [← hnn] at hrow hns ⊢
      have HNN := Lib.hid hnn
      have HF2 := Lib.hid (HF1.out.trans hf)
      have HR := Lib.hid hrow
      have HN := Lib.hid hns
      clear hf hrow hns hS hnn
      by_cases hnil : ns.length = 0
      · rw [hnil]
        go_wp2_with fail
        go_ret
        exact ⟨rfl, HF2.out⟩
      · obtain ⟨m, hm⟩ : ∃ m, ns.length = m + 1 := ⟨ns.length - 1, by omega⟩
        have hml : m < ns.length := by omega
        obtain ⟨ga', ca', kd, raw, tb, ib, sv, kids, us, hv, hSg, -, hnd, n0, n1, n2, n3, n4, hr2, hn2⟩ := HR.out.node HN.out m hml
        obtain ⟨rfl, rfl⟩ : ga = ga' ∧ ca = ca' := by
          injection hv with h1 h2 h3
          injection h1 with h1
          injection h1 with h1
          exact ⟨h1, h3⟩
        have hmax : m ≤ 4294967295 := by
          have h1 := len_nsz ns
          have h2 := parse_nsz (L sx)
          rw [← HNN.out, L_length] at h2
          omega
        have HND := Lib.hid hnd
        have hlz : (((m + 1 : Nat) : Int) == 0) = false := by simp; omega
        clear hv hSg hnd hr2 hn2 n3 n4
        rw [hm]
        by_cases hgo : kd = 2 ∧ raw = false ∧ L tb = [120]
        · obtain ⟨rfl, rfl, htb⟩ := hgo
          have q3 : (tb.toList == [120]) = true := by rw [beq_iff_eq, ByteArray.toList_eq]; exact htb
          have q4 : (tb.toList != [120]) = false := by rw [bne, q3]; rfl
          have HPURE : Hid ((∀ b ∈ Mu.bads, Mu.iparse (L s ++ b) false (s.size + 9) 0 ⟨0, Mu.OB, Mu.CB⟩ none = some none) ∧ ∃ x, Mu.iparse (L s) false (s.size + 9) 0 ⟨0, Mu.OB, Mu.CB⟩ none = some (some x)) := Lib.hid (by
            obtain ⟨c1, c2, c3⟩ := HBB.out
            have h := Mu.compiled_pure (s := L s) (signsB_true c2).1 (ns := (Mu.parse (L s)).1) (by rw [← c1]) c3 (nd := ns[m]) (by
              rw [← HLX.out, ← HNN.out, List.getLast?_eq_getElem?, hm]
              exact List.getElem?_eq_getElem hml) (fun t ht => by rw [HND.out] at ht; injection ht with h1; cases h1)
            rwa [L_length] at h)
          have HSG : Hid (∀ c ∈ L s, c.toNat < 128 ∧ c ≠ 13) := Lib.hid (signs_ok (signsB_true HBB.out.2.1).1)
          clear htb
          have hk7 : k % 7 = 0 ∨ k % 7 = 1 ∨ k % 7 = 2 ∨ k % 7 = 3 ∨ k % 7 = 4 ∨ k % 7 = 5 ∨ k % 7 = 6 := by omega
          go_upto_region 8 with fail
          rcases hk7 with h7 | h7 | h7 | h7 | h7 | h7 | h7
          · obtain ⟨sb, hsb⟩ : ∃ sb, s ++ ⟨#[123, 123, 35, 97, 125, 125, 98]⟩ = sb := ⟨_, rfl⟩
            have HSB : Hid (L sb = L s ++ [123, 123, 35, 97, 125, 125, 98]) := Lib.hid (by rw [← hsb, L_app]; rfl)
            have r7 : (k : Int).tmod 7 = 0 := by rw [Int.tmod_eq_emod_of_nonneg (by omega)]; omega
            have HBD := Lib.hid (bad_ok (b := [123, 123, 35, 97, 125, 125, 98]) HSB.out HSG.out hsz (HPURE.out.1 _ (by decide)) (by decide))
            go_wp2_with fail
            refine (compiled_any B eb (s.size + 9) sb _ none HBD.out.1 HBD.out.2.1 HBD.out.2.2.1 (HG.out.fr0 (HF2.out.allocA _)) HBD.out.2.2.2 (by omega)).mono ?_
            rintro e w3 ⟨rfl, hf3⟩
            have HF3 : Hid (F0 w w3) := Lib.hid ((HF2.out.allocA _).trans hf3)
            clear hf3
            obtain ⟨R, hR⟩ := HPURE.out.2
            have HR2 := Lib.hid hR
            clear hR
            go_wp2_with fail
            refine (compiled_any B eb (s.size + 9) s _ (some R) (by omega) (fun c hc => (HSG.out c hc).1) (fun c hc => (HSG.out c hc).2) (HG.out.fr0 HF3.out) HR2.out (by omega)).mono ?_
            rintro e w4 ⟨rfl, hf4⟩
            have HF4 : Hid (F0 w w4) := Lib.hid (HF3.out.trans hf4)
            clear hf4
            go_wp2_with fail
            go_ret
            exact ⟨rfl, HF4.out⟩
          · obtain ⟨sb, hsb⟩ : ∃ sb, s ++ ⟨#[123, 123, 35, 97, 125, 125, 98, 123, 123, 47, 99, 125, 125]⟩ = sb := ⟨_, rfl⟩
            have HSB : Hid (L sb = L s ++ [123, 123, 35, 97, 125, 125, 98, 123, 123, 47, 99, 125, 125]) := Lib.hid (by rw [← hsb, L_app]; rfl)
            have r7 : (k : Int).tmod 7 = 1 := by rw [Int.tmod_eq_emod_of_nonneg (by omega)]; omega
            have HBD := Lib.hid (bad_ok (b := [123, 123, 35, 97, 125, 125, 98, 123, 123, 47, 99, 125, 125]) HSB.out HSG.out hsz (HPURE.out.1 _ (by decide)) (by decide))
            go_wp2_with fail
            refine (compiled_any B eb (s.size + 9) sb _ none HBD.out.1 HBD.out.2.1 HBD.out.2.2.1 (HG.out.fr0 (HF2.out.allocA _)) HBD.out.2.2.2 (by omega)).mono ?_
            rintro e w3 ⟨rfl, hf3⟩
            have HF3 : Hid (F0 w w3) := Lib.hid ((HF2.out.allocA _).trans hf3)
            clear hf3
            obtain ⟨R, hR⟩ := HPURE.out.2
            have HR2 := Lib.hid hR
            clear hR
            go_wp2_with fail
            refine (compiled_any B eb (s.size + 9) s _ (some R) (by omega) (fun c hc => (HSG.out c hc).1) (fun c hc => (HSG.out c hc).2) (HG.out.fr0 HF3.out) HR2.out (by omega)).mono ?_
            rintro e w4 ⟨rfl, hf4⟩
            have HF4 : Hid (F0 w w4) := Lib.hid (HF3.out.trans hf4)
            clear hf4
            go_wp2_with fail
            go_ret
            exact ⟨rfl, HF4.out⟩
          · obtain ⟨sb, hsb⟩ : ∃ sb, s ++ ⟨#[123, 123, 47, 97, 125, 125]⟩ = sb := ⟨_, rfl⟩
            have HSB : Hid (L sb = L s ++ [123, 123, 47, 97, 125, 125]) := Lib.hid (by rw [← hsb, L_app]; rfl)
            have r7 : (k : Int).tmod 7 = 2 := by rw [Int.tmod_eq_emod_of_nonneg (by omega)]; omega
            have HBD := Lib.hid (bad_ok (b := [123, 123, 47, 97, 125, 125]) HSB.out HSG.out hsz (HPURE.out.1 _ (by decide)) (by decide))
            go_wp2_with fail
            refine (compiled_any B eb (s.size + 9) sb _ none HBD.out.1 HBD.out.2.1 HBD.out.2.2.1 (HG.out.fr0 (HF2.out.allocA _)) HBD.out.2.2.2 (by omega)).mono ?_
            rintro e w3 ⟨rfl, hf3⟩
            have HF3 : Hid (F0 w w3) := Lib.hid ((HF2.out.allocA _).trans hf3)
            clear hf3
            obtain ⟨R, hR⟩ := HPURE.out.2
            have HR2 := Lib.hid hR
            clear hR
            go_wp2_with fail
            refine (compiled_any B eb (s.size + 9) s _ (some R) (by omega) (fun c hc => (HSG.out c hc).1) (fun c hc => (HSG.out c hc).2) (HG.out.fr0 HF3.out) HR2.out (by omega)).mono ?_
            rintro e w4 ⟨rfl, hf4⟩
            have HF4 : Hid (F0 w w4) := Lib.hid (HF3.out.trans hf4)
            clear hf4
            go_wp2_with fail
            go_ret
            exact ⟨rfl, HF4.out⟩
          · obtain ⟨sb, hsb⟩ : ∃ sb, s ++ ⟨#[123, 123, 97]⟩ = sb := ⟨_, rfl⟩
            have HSB : Hid (L sb = L s ++ [123, 123, 97]) := Lib.hid (by rw [← hsb, L_app]; rfl)
            have r7 : (k : Int).tmod 7 = 3 := by rw [Int.tmod_eq_emod_of_nonneg (by omega)]; omega
            have HBD := Lib.hid (bad_ok (b := [123, 123, 97]) HSB.out HSG.out hsz (HPURE.out.1 _ (by decide)) (by decide))
            go_wp2_with fail
            refine (compiled_any B eb (s.size + 9) sb _ none HBD.out.1 HBD.out.2.1 HBD.out.2.2.1 (HG.out.fr0 (HF2.out.allocA _)) HBD.out.2.2.2 (by omega)).mono ?_
            rintro e w3 ⟨rfl, hf3⟩
            have HF3 : Hid (F0 w w3) := Lib.hid ((HF2.out.allocA _).trans hf3)
            clear hf3
            obtain ⟨R, hR⟩ := HPURE.out.2
            have HR2 := Lib.hid hR
            clear hR
            go_wp2_with fail
            refine (compiled_any B eb (s.size + 9) s _ (some R) (by omega) (fun c hc => (HSG.out c hc).1) (fun c hc => (HSG.out c hc).2) (HG.out.fr0 HF3.out) HR2.out (by omega)).mono ?_
            rintro e w4 ⟨rfl, hf4⟩
            have HF4 : Hid (F0 w w4) := Lib.hid (HF3.out.trans hf4)
            clear hf4
            go_wp2_with fail
            go_ret
            exact ⟨rfl, HF4.out⟩
          · obtain ⟨sb, hsb⟩ : ∃ sb, s ++ ⟨#[123, 123, 94, 97, 125, 125]⟩ = sb := ⟨_, rfl⟩
            have HSB : Hid (L sb = L s ++ [123, 123, 94, 97, 125, 125]) := Lib.hid (by rw [← hsb, L_app]; rfl)
            have r7 : (k : Int).tmod 7 = 4 := by rw [Int.tmod_eq_emod_of_nonneg (by omega)]; omega
            have HBD := Lib.hid (bad_ok (b := [123, 123, 94, 97, 125, 125]) HSB.out HSG.out hsz (HPURE.out.1 _ (by decide)) (by decide))
            go_wp2_with fail
            refine (compiled_any B eb (s.size + 9) sb _ none HBD.out.1 HBD.out.2.1 HBD.out.2.2.1 (HG.out.fr0 (HF2.out.allocA _)) HBD.out.2.2.2 (by omega)).mono ?_
            rintro e w3 ⟨rfl, hf3⟩
            have HF3 : Hid (F0 w w3) := Lib.hid ((HF2.out.allocA _).trans hf3)
            clear hf3
            obtain ⟨R, hR⟩ := HPURE.out.2
            have HR2 := Lib.hid hR
            clear hR
            go_wp2_with fail
            refine (compiled_any B eb (s.size + 9) s _ (some R) (by omega) (fun c hc => (HSG.out c hc).1) (fun c hc => (HSG.out c hc).2) (HG.out.fr0 HF3.out) HR2.out (by omega)).mono ?_
            rintro e w4 ⟨rfl, hf4⟩
            have HF4 : Hid (F0 w w4) := Lib.hid (HF3.out.trans hf4)
            clear hf4
            go_wp2_with fail
            go_ret
            exact ⟨rfl, HF4.out⟩
          · obtain ⟨sb, hsb⟩ : ∃ sb, s ++ ⟨#[123, 123, 35, 97, 125, 125, 123, 123, 35, 98, 125, 125, 123, 123, 47, 97, 125, 125, 123, 123, 47, 98, 125, 125]⟩ = sb := ⟨_, rfl⟩
            have HSB : Hid (L sb = L s ++ [123, 123, 35, 97, 125, 125, 123, 123, 35, 98, 125, 125, 123, 123, 47, 97, 125, 125, 123, 123, 47, 98, 125, 125]) := Lib.hid (by rw [← hsb, L_app]; rfl)
            have r7 : (k : Int).tmod 7 = 5 := by rw [Int.tmod_eq_emod_of_nonneg (by omega)]; omega
            have HBD := Lib.hid (bad_ok (b := [123, 123, 35, 97, 125, 125, 123, 123, 35, 98, 125, 125, 123, 123, 47, 97, 125, 125, 123, 123, 47, 98, 125, 125]) HSB.out HSG.out hsz (HPURE.out.1 _ (by decide)) (by decide))
            go_wp2_with fail
            refine (compiled_any B eb (s.size + 9) sb _ none HBD.out.1 HBD.out.2.1 HBD.out.2.2.1 (HG.out.fr0 (HF2.out.allocA _)) HBD.out.2.2.2 (by omega)).mono ?_
            rintro e w3 ⟨rfl, hf3⟩
            have HF3 : Hid (F0 w w3) := Lib.hid ((HF2.out.allocA _).trans hf3)
            clear hf3
            obtain ⟨R, hR⟩ := HPURE.out.2
            have HR2 := Lib.hid hR
            clear hR
            go_wp2_with fail
            refine (compiled_any B eb (s.size + 9) s _ (some R) (by omega) (fun c hc => (HSG.out c hc).1) (fun c hc => (HSG.out c hc).2) (HG.out.fr0 HF3.out) HR2.out (by omega)).mono ?_
            rintro e w4 ⟨rfl, hf4⟩
            have HF4 : Hid (F0 w w4) := Lib.hid (HF3.out.trans hf4)
            clear hf4
            go_wp2_with fail
            go_ret
            exact ⟨rfl, HF4.out⟩
          · obtain ⟨sb, hsb⟩ : ∃ sb, s ++ ⟨#[123, 123, 123, 97, 125, 125]⟩ = sb := ⟨_, rfl⟩
            have HSB : Hid (L sb = L s ++ [123, 123, 123, 97, 125, 125]) := Lib.hid (by rw [← hsb, L_app]; rfl)
            have r7 : (k : Int).tmod 7 = 6 := by rw [Int.tmod_eq_emod_of_nonneg (by omega)]; omega
            have HBD := Lib.hid (bad_ok (b := [123, 123, 123, 97, 125, 125]) HSB.out HSG.out hsz (HPURE.out.1 _ (by decide)) (by decide))
            go_wp2_with fail
            refine (compiled_any B eb (s.size + 9) sb _ none HBD.out.1 HBD.out.2.1 HBD.out.2.2.1 (HG.out.fr0 (HF2.out.allocA _)) HBD.out.2.2.2 (by omega)).mono ?_
            rintro e w3 ⟨rfl, hf3⟩
            have HF3 : Hid (F0 w w3) := Lib.hid ((HF2.out.allocA _).trans hf3)
            clear hf3
            obtain ⟨R, hR⟩ := HPURE.out.2
            have HR2 := Lib.hid hR
            clear hR
            go_wp2_with fail
            refine (compiled_any B eb (s.size + 9) s _ (some R) (by omega) (fun c hc => (HSG.out c hc).1) (fun c hc => (HSG.out c hc).2) (HG.out.fr0 HF3.out) HR2.out (by omega)).mono ?_
            rintro e w4 ⟨rfl, hf4⟩
            have HF4 : Hid (F0 w w4) := Lib.hid (HF3.out.trans hf4)
            clear hf4
            go_wp2_with fail
            go_ret
            exact ⟨rfl, HF4.out⟩
        · by_cases h2 : kd = 2
          · subst h2
            cases raw with
            | true =>
              go_wp2_with fail
              go_ret
              exact ⟨rfl, HF2.out⟩
            | false =>
              have q3 : (tb.toList == [120]) = false := by rw [beq_eq_false_iff_ne, ByteArray.toList_eq]; exact fun h => hgo ⟨rfl, rfl, h⟩
              have q4 : (tb.toList != [120]) = true := by rw [bne, q3]; rfl
              clear hgo
              go_wp2_with fail
              go_ret
              exact ⟨rfl, HF2.out⟩
          · have q2 : ((kd : Int) != 2) = true := by simp; omega
            clear hgo h2
            go_wp2_with fail
            go_ret
            exact ⟨rfl, HF2.out⟩
  · have hs' : decide ((2147483647 : Int) < (s.size : Int)) = true := by simp; omega
    go_wp2_with fail
    go_ret
    exact ⟨rfl, Fr.refl _ _⟩
end Go.Proofs.YtfakghnpkdoclaaDoor
