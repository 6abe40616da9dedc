/-
  The package's small functions on texts: zzIndex, zzCut; strings.TrimSpace on ASCII.
-/
import Derived.Test.YtfakghnpkdoclaaDoorBase
import Derived.Test.YtfakghnpkdoclaaDoorShelf
set_option linter.unusedVariables false
set_option linter.unusedSimpArgs false
namespace Go.Proofs.YtfakghnpkdoclaaDoor
open Go.RowKit

def idxVal (o : Option Nat) : Int := match o with | some k => k | none => -1
def IdxPost (s pat : ByteArray) (w : World) (e : Ending) (w' : World) : Prop := e = .returned (.int .i64 (idxVal (Mu.find (L s) (L pat) 0))) ∧ w = w'

theorem at_extract {s pat : ByteArray} {k : Nat} : (s.extract k (k + pat.size)).toList = pat.toList ↔ Mu.At (L s) (L pat) k := by
  have h1 : (s.extract k (k + pat.size)).toList = Mu.sub (L s) k (k + pat.size) := by rw [← L_extract]; exact ByteArray.toList_eq _
  have h2 : pat.toList = L pat := ByteArray.toList_eq _
  rw [h1, h2]
  unfold Mu.At
  rw [List.prefix_iff_eq_take, Mu.sub, List.drop_take, L_length, Nat.add_sub_cancel_left]
  exact eq_comm

set_option maxRecDepth 100000 in
set_option maxHeartbeats 1000000 in
theorem zzIndex_any (s pat : ByteArray) (w : World) (hs : s.size ≤ 2147483647) (hp : pat.size ≤ 2147483647) :
    Calls Tryd.prog 38 #[.string s, .string pat] w (IdxPost s pat w) := by
  have HP0 := Lib.hid (show ∀ j, 0 ≤ j → j < 0 → ¬ Mu.At (L s) (L pat) j from fun j a b => absurd a (by omega))
  go_enter Tryd.func38, Tryd.ntmps38
  go_wp2
  go_loopg [5] (s.size + 2) (fun g i wr => ∃ k : Nat, i = .int .i64 k ∧ k ≤ s.size + 1 ∧ g = s.size + 2 - k ∧ wr = w ∧ Hid (∀ j, 0 ≤ j → j < k → ¬ Mu.At (L s) (L pat) j))
  case atStart => exact ⟨0, rfl, by omega, by omega, rfl, HP0⟩
  case round =>
    obtain ⟨k, rfl, hk, rfl, rfl, HP⟩ := hrel
    by_cases hle : k + pat.size ≤ s.size
    · have z1 : (k : Int) ≤ (k : Int) + (pat.size : Int) := by omega
      by_cases ha : Mu.At (L s) (L pat) k
      · have hb : ((s.extract k (k + pat.size)).toList == pat.toList) = true := by rw [beq_iff_eq]; exact at_extract.2 ha
        have HF := Lib.hid (Mu.find_eq (Nat.zero_le k) ha HP.out)
        clear ha
        go_wp2
        go_ret
        exact ⟨by rw [HF.out]; rfl, rfl⟩
      · have hb : ((s.extract k (k + pat.size)).toList == pat.toList) = false := by rw [beq_eq_false_iff_ne]; exact fun h => ha (at_extract.1 h)
        have HP' : Hid (∀ j, 0 ≤ j → j < k + 1 → ¬ Mu.At (L s) (L pat) j) := Lib.hid (fun j h0 h1 h2 => by
          rcases Nat.lt_or_ge j k with h | h
          · exact HP.out j h0 h h2
          · obtain rfl : j = k := by omega
            exact ha h2)
        clear ha
        go_wp2
        go_roundg (s.size + 2 - (k + 1))
        case rel => exact ⟨k + 1, by go_num, by omega, by omega, rfl, HP'⟩
        case measure => omega
    · have HF : Hid (Mu.find (L s) (L pat) 0 = none) := Lib.hid (by
        refine Mu.find_eq_none fun j hj ha => ?_
        have h1 := ha.length_le
        rw [List.length_drop, L_length, L_length] at h1
        rcases Nat.lt_or_ge j k with h | h
        · exact HP.out j hj h ha
        · have hz : pat.size = 0 := by omega
          have h0 : L pat = [] := List.eq_nil_of_length_eq_zero hz
          exact HP.out 0 (Nat.le_refl _) (by omega) (by rw [h0]; exact List.nil_prefix))
      go_wp2
      go_ret
      exact ⟨by rw [HF.out]; rfl, rfl⟩

/-- strings.TrimSpace on ASCII -/
def TrimPost (s : ByteArray) (w : World) (e : Ending) (w' : World) : Prop := ∃ r : ByteArray, e = .returned (.string r) ∧ L r = Mu.trimBy Mu.spB (L s) ∧ F0 w w'
theorem spB_eq (b : UInt8) : Lib.isSp b = Mu.spB b := rfl
theorem fr_bytes (w : World) (E : TypeId) (s : ByteArray) : F0 w (Lib.bytesWorld w E s) := by
  refine ⟨?_, ?_, ?_, ?_, fun k hk _ => Lib.bytesWorld_at_old w E s k hk⟩
  · unfold Lib.bytesWorld World.freeze; split <;> rfl
  · unfold Lib.bytesWorld World.freeze; split <;> rfl
  · unfold Lib.bytesWorld World.freeze; split <;> rfl
  · rw [Lib.bytesWorld_size]; omega
theorem trimSpace_any (s : ByteArray) {B : Nat} {eb : Addr} (w : World) (hs : s.size ≤ 2147483647) (ha : ∀ b ∈ L s, b.toNat < 128) (hg : Gl B eb w) :
    Calls Tryd.prog 32 #[.string s] w (TrimPost s w) := by
  refine (Tryd.strings_TrimSpace s w (by omega) (fun j b h => ha b (List.mem_of_getElem? h)) hg.space).mono ?_
  rintro e w' ⟨rfl, rfl⟩
  refine ⟨_, rfl, ?_, ?_⟩
  · rw [L_mk]
    unfold Lib.trimSpace Mu.trimBy
    rw [funext spB_eq]
    rfl
  · exact fr_bytes _ _ _
end Go.Proofs.YtfakghnpkdoclaaDoor
