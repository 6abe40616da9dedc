/-
  The specification's reader: trimmed, wordOk, signsOk.
-/
import Derived.Test.YtfakghnpkdoclaaDoorSp0
import Derived.Test.YtfakghnpkdoclaaDoorPure3
set_option linter.unusedVariables false
set_option linter.unusedSimpArgs false
namespace Go.Proofs.YtfakghnpkdoclaaDoor
open Go.RowKit

theorem wsB_split (c : UInt8) : Mu.wsB c = (Mu.blankB c || c == 10) := rfl
theorem L_cons (t : ByteArray) (h : 0 < t.size) : L t = t[0] :: L (t.extract 1 t.size) := by
  rw [L_extract, ← L_length, Mu.sub_to_end]
  have hl : 0 < (L t).length := h
  have := List.drop_eq_getElem_cons hl
  rw [List.drop_zero] at this
  rw [this]
  rfl
theorem L_snoc (t : ByteArray) (h : 0 < t.size) : L t = L (t.extract 0 (t.size - 1)) ++ [t[t.size - 1]] := by
  rw [L_extract]
  have hl : t.size - 1 < (L t).length := by rw [L_length]; omega
  have h1 := Mu.sub_snoc (L t) 0 (t.size - 1) (Nat.zero_le _) hl
  rw [show t.size - 1 + 1 = (L t).length by rw [L_length]; omega, Mu.sub_to_end, List.drop_zero] at h1
  rw [L_get t (t.size - 1) (by omega)] at h1
  exact h1
def TrimmedPost (s : ByteArray) (w : World) (e : Ending) (w' : World) : Prop := ∃ r : ByteArray, e = .returned (.string r) ∧ L r = Mu.trimBy Mu.wsB (L s) ∧ w = w'
theorem dw_step {t : ByteArray} (h : 0 < t.size) (hc : Mu.wsB t[0] = true) : (L (t.extract 1 t.size)).dropWhile Mu.wsB = (L t).dropWhile Mu.wsB := by
  rw [L_cons t h, List.dropWhile_cons, if_pos hc]
theorem dw_stop {t : ByteArray} (h : 0 < t.size) (hc : Mu.wsB t[0] = false) : (L t).dropWhile Mu.wsB = L t := by
  have e := L_cons t h
  rw [e, List.dropWhile_cons, if_neg (by rw [hc]; decide)]
theorem dw_nil {t : ByteArray} (h : ¬ 0 < t.size) : L t = [] := List.eq_nil_of_length_eq_zero (by rw [L_length]; omega)
theorem tr_step {t : ByteArray} (h : 0 < t.size) (hc : Mu.wsB t[t.size - 1] = true) : Mu.trimR Mu.wsB (L (t.extract 0 (t.size - 1))) = Mu.trimR Mu.wsB (L t) := by
  rw [L_snoc t h]
  unfold Mu.trimR
  rw [List.reverse_append, List.reverse_singleton, List.singleton_append, List.dropWhile_cons, if_pos hc]
theorem tr_stop {t : ByteArray} (h : 0 < t.size) (hc : Mu.wsB t[t.size - 1] = false) : Mu.trimR Mu.wsB (L t) = L t := by
  have e := L_snoc t h
  rw [e, Mu.trimR_snoc hc]

set_option maxRecDepth 100000 in
set_option maxHeartbeats 2000000 in
theorem trimmed_any (s : ByteArray) (w : World) (hs : s.size ≤ 4294967296) :
    Calls Tryd.prog 23 #[.string s] w (TrimmedPost s w) := by
  go_enter Tryd.func23, Tryd.ntmps23
  go_wp2_with fail
  go_loopg [0] s.size (fun g v wr => ∃ t : ByteArray, v = .string t ∧ t.size ≤ s.size ∧ g = t.size ∧ wr = w ∧ Hid ((L t).dropWhile Mu.wsB = (L s).dropWhile Mu.wsB))
  case atStart => exact ⟨s, rfl, Nat.le_refl _, rfl, rfl, Lib.hid rfl⟩
  case round =>
    obtain ⟨t, rfl, hts, rfl, rfl, HT⟩ := hrel
    by_cases h0 : 0 < t.size
    · have hsz : (t.extract 1 t.size).size = t.size - 1 := by rw [ByteArray.size_extract]; omega
      have z1 : (1 : Int) ≤ (t.size : Int) := by omega
      have HSZ := Lib.hid hsz
      clear hsz
      cases hb : Mu.blankB t[0] with
      | true =>
        have HW := Lib.hid (dw_step h0 (by rw [wsB_split, hb]; rfl))
        go_wp2_with fail
        refine (blank_any _ _).mono ?_
        rintro e w' ⟨rfl, rfl⟩
        go_wp2_with fail
        go_roundg (t.extract 1 t.size).size
        case rel => exact ⟨_, rfl, by rw [HSZ.out]; omega, rfl, rfl, Lib.hid (by rw [HW.out, HT.out])⟩
        case measure => rw [HSZ.out]; omega
      | false =>
        by_cases h10 : t[0] = 10
        · have HW := Lib.hid (dw_step h0 (by rw [wsB_split, hb, h10]; rfl))
          have b10 : ((t[0].toNat : Int) == 10) = true := byte_is (b := 10) h10
          clear h10
          go_wp2_with fail
          refine (blank_any _ _).mono ?_
          rintro e w' ⟨rfl, rfl⟩
          go_wp2_with fail
          go_roundg (t.extract 1 t.size).size
          case rel => exact ⟨_, rfl, by rw [HSZ.out]; omega, rfl, rfl, Lib.hid (by rw [HW.out, HT.out])⟩
          case measure => rw [HSZ.out]; omega
        · have HW := Lib.hid (dw_stop h0 (by rw [wsB_split, hb]; simpa using h10))
          have b10 : ((t[0].toNat : Int) == 10) = false := byte_isnt (b := 10) h10
          have HQ : Hid (L t = (L s).dropWhile Mu.wsB) := Lib.hid (by rw [← HT.out, HW.out])
          clear h10 HW HT HSZ
          go_wp2_with fail
          refine (blank_any _ _).mono ?_
          rintro e w' ⟨rfl, rfl⟩
          go_wp2_with fail
          go_loopg [0] t.size (fun g v w2 => ∃ u : ByteArray, v = .string u ∧ u.size ≤ t.size ∧ g = u.size ∧ w2 = wr ∧ Hid (Mu.trimR Mu.wsB (L u) = Mu.trimR Mu.wsB (L t)))
          case atStart => exact ⟨t, rfl, Nat.le_refl _, rfl, rfl, Lib.hid rfl⟩
          case round =>
            obtain ⟨u, rfl, hus, rfl, rfl, HU⟩ := hrel
            by_cases h1 : 0 < u.size
            · obtain ⟨m, hm⟩ : ∃ m, u.size = m + 1 := ⟨u.size - 1, by omega⟩
              have hmm : ((u.size : Int) - 1) = (m : Int) := by omega
              have hm1 : m < u.size := by omega
              have hlast : u[u.size - 1]'(Nat.sub_lt h1 Nat.one_pos) = u[m] := by congr 1; omega
              have z2 : (m : Int) ≤ (u.size : Int) := by omega
              have hsz : (u.extract 0 m).size = m := by rw [ByteArray.size_extract]; omega
              have HSZ := Lib.hid hsz
              have HMM : Hid (u.size - 1 = m) := Lib.hid (by omega)
              have HLAST := Lib.hid hlast
              clear hsz hm hlast
              cases hb2 : Mu.blankB u[m] with
              | true =>
                have HW := Lib.hid (tr_step h1 (by rw [HLAST.out, wsB_split, hb2]; rfl))
                rw [HMM.out] at HW
                go_wp2_with fail
                refine (blank_any _ _).mono ?_
                rintro e w' ⟨rfl, rfl⟩
                go_wp2_with fail
                go_roundg m
                case rel => exact ⟨_, rfl, by rw [HSZ.out]; omega, HSZ.out.symm, rfl, Lib.hid (by rw [HW.out, HU.out])⟩
                case measure => omega
              | false =>
                by_cases h10 : u[m] = 10
                · have HW := Lib.hid (tr_step h1 (by rw [HLAST.out, wsB_split, hb2, h10]; rfl))
                  rw [HMM.out] at HW
                  have b10' : ((u[m].toNat : Int) == 10) = true := byte_is (b := 10) h10
                  clear h10
                  go_wp2_with fail
                  refine (blank_any _ _).mono ?_
                  rintro e w' ⟨rfl, rfl⟩
                  go_wp2_with fail
                  go_roundg m
                  case rel => exact ⟨_, rfl, by rw [HSZ.out]; omega, HSZ.out.symm, rfl, Lib.hid (by rw [HW.out, HU.out])⟩
                  case measure => omega
                · have HW := Lib.hid (tr_stop h1 (by rw [HLAST.out, wsB_split, hb2]; simpa using h10))
                  have b10' : ((u[m].toNat : Int) == 10) = false := byte_isnt (b := 10) h10
                  have HR : Hid (L u = Mu.trimBy Mu.wsB (L s)) := Lib.hid (by rw [← HW.out, HU.out, HQ.out]; rfl)
                  clear h10 HW HU HSZ
                  go_wp2_with fail
                  refine (blank_any _ _).mono ?_
                  rintro e w' ⟨rfl, rfl⟩
                  go_wp2_with fail
                  go_ret
                  exact ⟨u, rfl, HR.out, rfl⟩
            · have HR : Hid (L u = Mu.trimBy Mu.wsB (L s)) := Lib.hid (by
                have h2 := HU.out
                have h3 := dw_nil h1
                rw [h3, HQ.out] at h2
                rw [h3]; exact h2)
              go_wp2_with fail
              go_ret
              exact ⟨u, rfl, HR.out, rfl⟩
    · have HQ : Hid (L t = (L s).dropWhile Mu.wsB) := Lib.hid (by rw [← HT.out, dw_nil h0]; rfl)
      clear HT
      go_wp2_with fail
      go_loopg [0] t.size (fun g v w2 => ∃ u : ByteArray, v = .string u ∧ u.size ≤ t.size ∧ g = u.size ∧ w2 = wr ∧ Hid (Mu.trimR Mu.wsB (L u) = Mu.trimR Mu.wsB (L t)))
      case atStart => exact ⟨t, rfl, Nat.le_refl _, rfl, rfl, Lib.hid rfl⟩
      case round =>
        obtain ⟨u, rfl, hus, rfl, rfl, HU⟩ := hrel
        by_cases h1 : 0 < u.size
        · obtain ⟨m, hm⟩ : ∃ m, u.size = m + 1 := ⟨u.size - 1, by omega⟩
          have hmm : ((u.size : Int) - 1) = (m : Int) := by omega
          have hm1 : m < u.size := by omega
          have hlast : u[u.size - 1]'(Nat.sub_lt h1 Nat.one_pos) = u[m] := by congr 1; omega
          have z2 : (m : Int) ≤ (u.size : Int) := by omega
          have hsz : (u.extract 0 m).size = m := by rw [ByteArray.size_extract]; omega
          have HSZ := Lib.hid hsz
          have HMM : Hid (u.size - 1 = m) := Lib.hid (by omega)
          have HLAST := Lib.hid hlast
          clear hsz hm hlast
          cases hb2 : Mu.blankB u[m] with
          | true =>
            have HW := Lib.hid (tr_step h1 (by rw [HLAST.out, wsB_split, hb2]; rfl))
            rw [HMM.out] at HW
            go_wp2_with fail
            refine (blank_any _ _).mono ?_
            rintro e w' ⟨rfl, rfl⟩
            go_wp2_with fail
            go_roundg m
            case rel => exact ⟨_, rfl, by rw [HSZ.out]; omega, HSZ.out.symm, rfl, Lib.hid (by rw [HW.out, HU.out])⟩
            case measure => omega
          | false =>
            by_cases h10 : u[m] = 10
            · have HW := Lib.hid (tr_step h1 (by rw [HLAST.out, wsB_split, hb2, h10]; rfl))
              rw [HMM.out] at HW
              have b10' : ((u[m].toNat : Int) == 10) = true := byte_is (b := 10) h10
              clear h10
              go_wp2_with fail
              refine (blank_any _ _).mono ?_
              rintro e w' ⟨rfl, rfl⟩
              go_wp2_with fail
              go_roundg m
              case rel => exact ⟨_, rfl, by rw [HSZ.out]; omega, HSZ.out.symm, rfl, Lib.hid (by rw [HW.out, HU.out])⟩
              case measure => omega
            · have HW := Lib.hid (tr_stop h1 (by rw [HLAST.out, wsB_split, hb2]; simpa using h10))
              have b10' : ((u[m].toNat : Int) == 10) = false := byte_isnt (b := 10) h10
              have HR : Hid (L u = Mu.trimBy Mu.wsB (L s)) := Lib.hid (by rw [← HW.out, HU.out, HQ.out]; rfl)
              clear h10 HW HU HSZ
              go_wp2_with fail
              refine (blank_any _ _).mono ?_
              rintro e w' ⟨rfl, rfl⟩
              go_wp2_with fail
              go_ret
              exact ⟨u, rfl, HR.out, rfl⟩
        · have HR : Hid (L u = Mu.trimBy Mu.wsB (L s)) := Lib.hid (by
            have h2 := HU.out
            have h3 := dw_nil h1
            rw [h3, HQ.out] at h2
            rw [h3]; exact h2)
          go_wp2_with fail
          go_ret
          exact ⟨u, rfl, HR.out, rfl⟩
end Go.Proofs.YtfakghnpkdoclaaDoor
