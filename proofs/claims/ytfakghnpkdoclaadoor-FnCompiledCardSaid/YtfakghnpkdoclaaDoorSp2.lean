/-
  The specification's reader: wordOk, signsOk, words, NameOk.
-/
import Derived.Test.YtfakghnpkdoclaaDoorSp1
set_option linter.unusedVariables false
set_option linter.unusedSimpArgs false
namespace Go.Proofs.YtfakghnpkdoclaaDoor
open Go.RowKit

theorem all_of {s : ByteArray} {f : UInt8 → Bool} (h : ∀ j (hj : j < s.size), f s[j] = true) : (L s).all f = true := by
  rw [List.all_eq_true]
  intro x hx
  obtain ⟨j, hj, rfl⟩ := List.getElem_of_mem hx
  exact h j hj
theorem all_not {s : ByteArray} {f : UInt8 → Bool} {k : Nat} (hk : k < s.size) (h : f s[k] = false) : (L s).all f = false := by
  rw [List.all_eq_false]
  exact ⟨s[k], List.getElem_mem (l := L s) hk, by rw [h]; decide⟩
def BoolPost (b : Bool) (w : World) (e : Ending) (w' : World) : Prop := e = .returned (.bool b) ∧ w = w'
theorem lower_iff (c : UInt8) : Mu.lower c = (decide (97 ≤ (c.toNat : Int)) && decide ((c.toNat : Int) ≤ 122)) := by
  unfold Mu.lower
  rw [Bool.eq_iff_iff]
  simp [UInt8.le_iff_toNat_le]
  omega

set_option maxRecDepth 100000 in
set_option maxHeartbeats 1000000 in
theorem wordOk_any (s : ByteArray) (w : World) (hs : s.size ≤ 4294967296) :
    Calls Tryd.prog 9 #[.string s] w (BoolPost (Mu.wordOk (L s)) w) := by
  go_enter Tryd.func9, Tryd.ntmps9
  go_wp2_with fail
  go_loopg [3] s.size (fun g v wr => ∃ k : Nat, v = .int .i64 k ∧ k ≤ s.size ∧ g = s.size - k ∧ wr = w ∧ Hid (∀ j (hj : j < s.size), j < k → Mu.lower s[j] = true))
  case atStart => exact ⟨0, rfl, Nat.zero_le _, rfl, rfl, Lib.hid (fun j _ h => absurd h (by omega))⟩
  case round =>
    obtain ⟨k, rfl, hk, rfl, rfl, HK⟩ := hrel
    by_cases hlt : k < s.size
    · by_cases h1 : (s[k].toNat : Int) < 97
      · have HF : Hid (Mu.wordOk (L s) = false) := Lib.hid (by
          unfold Mu.wordOk
          rw [all_not hlt (f := Mu.lower) (by rw [lower_iff]; simp; omega)]; rfl)
        go_wp2_with fail
        go_ret
        unfold BoolPost
        rw [HF.out]
        exact ⟨rfl, rfl⟩
      · by_cases h2 : (s[k].toNat : Int) > 122
        · have HF : Hid (Mu.wordOk (L s) = false) := Lib.hid (by
            unfold Mu.wordOk
            rw [all_not hlt (f := Mu.lower) (by rw [lower_iff]; simp; omega)]; rfl)
          have e1 : decide ((s[k].toNat : Int) < 97) = false := by simpa using h1
          clear h1
          go_wp2_with fail
          go_ret
          unfold BoolPost
          rw [HF.out]
          exact ⟨rfl, rfl⟩
        · have HK' : Hid (∀ j (hj : j < s.size), j < k + 1 → Mu.lower s[j] = true) := Lib.hid (fun j hj hj2 => by
            rcases Nat.lt_or_ge j k with h | h
            · exact HK.out j hj h
            · obtain rfl : j = k := by omega
              rw [lower_iff]; simp; omega)
          have e1 : decide ((s[k].toNat : Int) < 97) = false := by simpa using h1
          have e2 : decide ((122 : Int) < (s[k].toNat : Int)) = false := by simpa using h2
          clear h1 h2
          go_wp2_with fail
          go_roundg (s.size - (k + 1))
          case rel => exact ⟨k + 1, by go_num, by omega, rfl, rfl, HK'⟩
          case measure => omega
    · have HA : Hid ((L s).all Mu.lower = true) := Lib.hid (all_of (fun j hj => HK.out j hj (by omega)))
      by_cases h0 : 0 < s.size
      · by_cases h8 : s.size ≤ 8
        · have HF : Hid (Mu.wordOk (L s) = true) := Lib.hid (by
            unfold Mu.wordOk
            rw [HA.out, L_length]; simp; omega)
          go_wp2_with fail
          go_ret
          unfold BoolPost
          rw [HF.out]
          exact ⟨by simp; omega, rfl⟩
        · have HF : Hid (Mu.wordOk (L s) = false) := Lib.hid (by
            unfold Mu.wordOk
            rw [HA.out, L_length]; simp; omega)
          go_wp2_with fail
          go_ret
          unfold BoolPost
          rw [HF.out]
          exact ⟨by simp; omega, rfl⟩
      · have HF : Hid (Mu.wordOk (L s) = false) := Lib.hid (by
          unfold Mu.wordOk
          rw [HA.out, L_length]; simp; omega)
        go_wp2_with fail
        go_ret
        unfold BoolPost
        rw [HF.out]
        exact ⟨by first | rfl | (simp; omega), rfl⟩

/-- signsOk, as a function -/
def signsB (l : Mu.B) : Bool := l.all Mu.signB && decide (l.length ≤ 400)
theorem signB_iff (c : UInt8) : Mu.signB c = ((decide (32 ≤ (c.toNat : Int)) && decide ((c.toNat : Int) ≤ 126)) || decide ((c.toNat : Int) = 10)) := by
  unfold Mu.signB
  rw [Bool.eq_iff_iff]
  simp [UInt8.le_iff_toNat_le, ← UInt8.toNat_inj]
  omega
theorem signsB_true {l : Mu.B} (h : signsB l = true) : Mu.signs l ∧ l.length ≤ 400 := by
  unfold signsB at h
  simp only [Bool.and_eq_true, decide_eq_true_eq, List.all_eq_true] at h
  exact h

set_option maxRecDepth 100000 in
set_option maxHeartbeats 1000000 in
theorem signsOk_any (s : ByteArray) (w : World) (hs : s.size ≤ 4294967296) :
    Calls Tryd.prog 13 #[.string s] w (BoolPost (signsB (L s)) w) := by
  go_enter Tryd.func13, Tryd.ntmps13
  go_wp2_with fail
  go_loopg [3] s.size (fun g v wr => ∃ k : Nat, v = .int .i64 k ∧ k ≤ s.size ∧ g = s.size - k ∧ wr = w ∧ Hid (∀ j (hj : j < s.size), j < k → Mu.signB s[j] = true))
  case atStart => exact ⟨0, rfl, Nat.zero_le _, rfl, rfl, Lib.hid (fun j _ h => absurd h (by omega))⟩
  case round =>
    obtain ⟨k, rfl, hk, rfl, rfl, HK⟩ := hrel
    by_cases hlt : k < s.size
    · have HK' : Mu.signB s[k] = true → Hid (∀ j (hj : j < s.size), j < k + 1 → Mu.signB s[j] = true) := fun hsk => Lib.hid (fun j hj hj2 => by
        rcases Nat.lt_or_ge j k with h | h
        · exact HK.out j hj h
        · obtain rfl : j = k := by omega
          exact hsk)
      have HKK := Lib.hid HK'
      clear HK'
      by_cases h10 : (s[k].toNat : Int) = 10
      · have HN := HKK.out (by rw [signB_iff, h10]; decide)
        have e0 : decide ((s[k].toNat : Int) < 32) = true := by rw [h10]; decide
        have e3 : ((s[k].toNat : Int) != 10) = false := by rw [h10]; decide
        clear HKK h10
        go_wp2_with fail
        go_roundg (s.size - (k + 1))
        case rel => exact ⟨k + 1, by go_num, by omega, rfl, rfl, HN⟩
        case measure => omega
      · have e3 : ((s[k].toNat : Int) != 10) = true := by simpa using h10
        by_cases h1 : (s[k].toNat : Int) < 32
        · have HF : Hid (signsB (L s) = false) := Lib.hid (by
            unfold signsB
            rw [all_not hlt (f := Mu.signB) (by rw [signB_iff]; simp; omega)]; rfl)
          clear HKK h10
          go_wp2_with fail
          go_ret
          unfold BoolPost
          rw [HF.out]
          exact ⟨rfl, rfl⟩
        · have e1 : decide ((s[k].toNat : Int) < 32) = false := by simpa using h1
          by_cases h2 : (s[k].toNat : Int) > 126
          · have HF : Hid (signsB (L s) = false) := Lib.hid (by
              unfold signsB
              rw [all_not hlt (f := Mu.signB) (by rw [signB_iff]; simp; omega)]; rfl)
            clear h1 HKK h10
            go_wp2_with fail
            go_ret
            unfold BoolPost
            rw [HF.out]
            exact ⟨rfl, rfl⟩
          · have HN := HKK.out (by rw [signB_iff]; simp; omega)
            have e2 : decide ((126 : Int) < (s[k].toNat : Int)) = false := by simpa using h2
            clear h1 h2 HKK h10
            go_wp2_with fail
            go_roundg (s.size - (k + 1))
            case rel => exact ⟨k + 1, by go_num, by omega, rfl, rfl, HN⟩
            case measure => omega
    · have HA : Hid ((L s).all Mu.signB = true) := Lib.hid (all_of (fun j hj => HK.out j hj (by omega)))
      have HF : Hid (signsB (L s) = decide ((s.size : Int) ≤ 400)) := Lib.hid (by
        unfold signsB
        rw [HA.out, L_length, Bool.true_and]
        simp; omega)
      go_wp2_with fail
      go_ret
      unfold BoolPost
      rw [HF.out]
      exact ⟨rfl, rfl⟩
end Go.Proofs.YtfakghnpkdoclaaDoor
