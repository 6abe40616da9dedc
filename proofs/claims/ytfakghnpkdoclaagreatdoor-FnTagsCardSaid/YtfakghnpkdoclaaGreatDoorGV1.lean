/-
  The specification's tests of a context; the arguments' readings. (Joined by wip/pack.py.)
-/
import Derived.Test.YtfakghnpkdoclaaGreatDoorGC2
import Derived.ChangeArms
import Derived.OpenShut
import Derived.Deep.Slices
set_option linter.unusedVariables false
set_option linter.unusedSimpArgs false
set_option maxRecDepth 100000
set_option maxHeartbeats 8000000
namespace Go.Proofs.YtfakghnpkdoclaaGreatDoor
open Go.RowKit
open Go.Lib (hid)
namespace Mu
mutual
def Rg : Val → Prop
 | .mk _ t n _ ks l => t.length ≤ 9223372036854775807 ∧ (-9223372036854775808 ≤ n ∧ n ≤ 9223372036854775807) ∧ (∀ k ∈ ks, k.length ≤ 9223372036854775807) ∧ RgL l
def RgL : List Val → Prop
 | [] => True
 | v :: l => Rg v ∧ RgL l
end
theorem RgL.get : ∀ {l : List Val}, RgL l → ∀ j (h : j < l.length), Rg l[j]
 | v :: l, h, j, hj => by
  simp only [RgL] at h
  cases j with
  | zero => exact h.1
  | succ j => exact RgL.get h.2 j (by simpa using hj)
end Mu
theorem wordOk_wide (s : ByteArray) (w : World) (hs : s.size ≤ 9223372036854775807) :
 Calls Tryz.prog 46 #[.string s] w (fun e w' => ∃ b : Bool, e = .returned (.bool b) ∧ w = w') := by
 go_enter Tryz.func46, Tryz.ntmps46
 go_wp2_with fail
 go_loopg [3] s.size (fun g v wr => ∃ k : Nat, v = .int .i64 k ∧ k ≤ s.size ∧ g = s.size - k ∧ wr = w)
 case atStart => exact ⟨0, rfl, Nat.zero_le _, rfl, rfl⟩
 case round =>
  obtain ⟨k, rfl, hk, rfl, rfl⟩ := hrel
  by_cases hlt : k < s.size
  · cases e1 : decide ((s[k].toNat : Int) < 97) with
    | true =>
     go_wp2_with fail;go_ret
     exact ⟨_, rfl, rfl⟩
    | false =>
     cases e2 : decide ((122 : Int) < (s[k].toNat : Int)) with
     | true =>
      go_wp2_with fail;go_ret
      exact ⟨_, rfl, rfl⟩
     | false =>
      go_wp2_with fail
      go_roundg (s.size - (k + 1))
      case rel => exact ⟨k + 1, by go_num, by omega, rfl, rfl⟩
      case measure => omega
  · by_cases h0 : 0 < s.size
    · cases h8 : decide ((s.size : Int) ≤ 8)
      all_goals
       go_wp2_with fail;go_ret
       exact ⟨_, rfl, rfl⟩
    · have h0b : decide ((0 : Int) < (s.size : Int)) = false := decide_eq_false (by omega)
      go_wp2_with fail;go_ret
      exact ⟨_, rfl, rfl⟩
def VoPost (d : Nat) (x : Mu.Val) (w : World) (e : Ending) (w' : World) : Prop := ∃ b : Bool, e = .returned (.bool b) ∧ Hid (F0 w w' ∧ (b = true → Mu.VOk 40 d x))
def VoC (d : Nat) (x : Mu.Val) : Prop := ∀ (w : World) (S : Nat → Prop) (u : Value), DAt w S x u → (∀ k, S k → k < w.heap.size) → Mu.Rg x → Calls Tryz.prog 54 #[u, .int .i64 ((d : Int) - 1)] w (VoPost d x w)
theorem VoPost.no {d : Nat} {x : Mu.Val} {w w' : World} (hf : F0 w w') : VoPost d x w (.returned (.bool false)) w' := ⟨false, rfl, hid ⟨hf, fun h => by cases h⟩⟩
theorem vo_no (d : Nat) (k : Int) (t : Mu.B) (n : Int) (b : Bool) (ks : List Mu.B) (l : List Mu.Val) (h : d = 0 ∨ 8 < l.length ∨ 8 < ks.length ∨ (k = 5 ∧ ks.length ≠ l.length)) : VoC d (.mk k t n b ks l) := by
 intro w S u hd hS hrg
 unfold DAt at hd
 obtain ⟨tb, kv, lv, kbs, us, rfl, ht, ⟨ka, kc, rfl, hkc, hkk⟩, hks, hvs, hds⟩ := hd
 obtain ⟨la, lc, rfl, -⟩ := id hvs
 have hul := hds.length
 have hkb : kbs.length = ks.length := by rw [← hks]; simp
 simp only [Mu.Rg] at hrg
 rw [← hul, ← hkb] at h
 clear hS hrg hvs hds hks hkb hul hkk ht
 by_cases h0 : d = 0
 · subst h0
   go_enter Tryz.func54, Tryz.ntmps54;go_wp2_with fail;go_ret;exact VoPost.no (Fr.alloc _ _ _)
 have q0 : decide ((d : Int) - 1 < 0) = false := by simp; omega
 by_cases h1 : 8 < us.length
 · have q1 : decide ((8 : Int) < (us.length : Int)) = true := by simp; omega
   go_enter Tryz.func54, Tryz.ntmps54;go_wp2_with fail;go_ret;exact VoPost.no (Fr.alloc _ _ _)
 have q1 : decide ((8 : Int) < (us.length : Int)) = false := by simp; omega
 by_cases h2 : 8 < kbs.length
 · have q2 : decide ((8 : Int) < (kbs.length : Int)) = true := by simp; omega
   go_enter Tryz.func54, Tryz.ntmps54;go_wp2_with fail;go_ret;exact VoPost.no (Fr.alloc _ _ _)
 have q2 : decide ((8 : Int) < (kbs.length : Int)) = false := by simp; omega
 obtain ⟨rfl, h3⟩ : k = 5 ∧ kbs.length ≠ us.length := by
  rcases h with h | h | h | h
  · exact absurd h h0
  · exact absurd h h1
  · exact absurd h h2
  · exact h
 have q3 : ((kbs.length : Int) == (us.length : Int)) = false := by rw [beq_eq_false_iff_ne]; omega
 have q3b : ¬ ((kbs.length : Int) = (us.length : Int)) := by omega
 clear h h0 h1 h2 h3
 go_enter Tryz.func54, Tryz.ntmps54
 go_wp2_with fail
 go_ret
 exact VoPost.no (Fr.alloc _ _ _)
theorem vo_0 (d : Nat) (t : Mu.B) (n : Int) (b : Bool) (ks : List Mu.B) (l : List Mu.Val) (hl : l.length ≤ 8) (hk : ks.length ≤ 8) : VoC (d + 1) (.mk 0 t n b ks l) := by
 intro w S u hd hS hrg
 unfold DAt at hd
 obtain ⟨tb, kv, lv, kbs, us, rfl, ht, ⟨ka, kc, rfl, hkc, hkk⟩, hks, hvs, hds⟩ := hd
 obtain ⟨la, lc, rfl, -⟩ := id hvs
 have hul := hds.length
 have hkb : kbs.length = ks.length := by rw [← hks]; simp
 simp only [Mu.Rg] at hrg
 have q0 : decide (((d + 1 : Nat) : Int) - 1 < 0) = false := decide_eq_false (by omega)
 have q1 : decide ((8 : Int) < (us.length : Int)) = false := by simp; omega
 have q2 : decide ((8 : Int) < (kbs.length : Int)) = false := by simp; omega
 have HOK : Hid (us.length = 0 → tb.size = 0 → Mu.VOk 40 (d + 1) (.mk 0 t n b ks l)) := hid (fun h1 h2 => by
  have hl0 : l = [] := List.length_eq_zero_iff.1 (by omega);have ht0 : t = [] := List.length_eq_zero_iff.1 (by rw [← ht, L_length]; omega);subst hl0 ht0;exact ⟨⟨by show (0 : Int) ≤ 0; omega, by show (0 : Int) ≤ 5; omega⟩, (fun _ h => by cases h), Nat.zero_le _, ⟨(fun h => by cases h), Nat.zero_le _⟩, hrg.2.1, (fun _ h => by cases h)⟩)
 clear hS hrg hvs hds hks hkb hul hkk ht
 cases q3 : ((kbs.length : Int) == (us.length : Int))
 all_goals
  by_cases h1 : us.length = 0
  · have p1 : ((us.length : Int) == 0) = true := by rw [beq_iff_eq]; omega
    by_cases h2 : kbs.length = 0
    · have p2 : ((kbs.length : Int) == 0) = true := by rw [beq_iff_eq]; omega
      by_cases h3 : tb.size = 0
      · have p3 : (tb.toList == []) = true := by rw [beq_iff_eq, ByteArray.toList_eq]; exact List.length_eq_zero_iff.1 h3
        have p4 : tb.toList = [] := by simpa using p3
        have HY := hid (HOK.out h1 h3);go_enter Tryz.func54, Tryz.ntmps54;go_wp2_with fail;go_ret;exact ⟨_, rfl, hid ⟨Fr.alloc _ _ _, fun _ => HY.out⟩⟩
      · have p3 : tb.toList.isEmpty = false := by
         rw [ByteArray.toList_eq]
         cases hh : tb.data.toList with
         | nil => exact absurd (show tb.size = 0 by have := congrArg List.length hh; simpa using this) h3
         | cons => rfl
        clear h1 h2 h3;go_enter Tryz.func54, Tryz.ntmps54;go_wp2_with fail;go_ret;exact VoPost.no (Fr.alloc _ _ _)
    · have p2 : ((kbs.length : Int) == 0) = false := by rw [beq_eq_false_iff_ne]; omega
      clear h1 h2;go_enter Tryz.func54, Tryz.ntmps54;go_wp2_with fail;go_ret;exact VoPost.no (Fr.alloc _ _ _)
  · have p1 : ((us.length : Int) == 0) = false := by rw [beq_eq_false_iff_ne]; omega
    clear h1;go_enter Tryz.func54, Tryz.ntmps54;go_wp2_with fail;go_ret;exact VoPost.no (Fr.alloc _ _ _)
theorem vo_2 (d : Nat) (t : Mu.B) (n : Int) (b : Bool) (ks : List Mu.B) (l : List Mu.Val) (hl : l.length ≤ 8) (hk : ks.length ≤ 8) : VoC (d + 1) (.mk 2 t n b ks l) := by
 intro w S u hd hS hrg
 unfold DAt at hd
 obtain ⟨tb, kv, lv, kbs, us, rfl, ht, ⟨ka, kc, rfl, hkc, hkk⟩, hks, hvs, hds⟩ := hd
 obtain ⟨la, lc, rfl, -⟩ := id hvs
 have hul := hds.length
 have hkb : kbs.length = ks.length := by rw [← hks]; simp
 simp only [Mu.Rg] at hrg
 have q0 : decide (((d + 1 : Nat) : Int) - 1 < 0) = false := decide_eq_false (by omega)
 have q1 : decide ((8 : Int) < (us.length : Int)) = false := by simp; omega
 have q2 : decide ((8 : Int) < (kbs.length : Int)) = false := by simp; omega
 have HOK : Hid (us.length = 0 → tb.size = 0 → Mu.VOk 40 (d + 1) (.mk 2 t n b ks l)) := hid (fun h1 h2 => by
  have hl0 : l = [] := List.length_eq_zero_iff.1 (by omega);have ht0 : t = [] := List.length_eq_zero_iff.1 (by rw [← ht, L_length]; omega);subst hl0 ht0;exact ⟨⟨by show (0 : Int) ≤ 2; omega, by show (2 : Int) ≤ 5; omega⟩, (fun _ h => by cases h), Nat.zero_le _, ⟨(fun h => by cases h), Nat.zero_le _⟩, hrg.2.1, (fun _ h => by cases h)⟩)
 clear hS hrg hvs hds hks hkb hul hkk ht
 cases q3 : ((kbs.length : Int) == (us.length : Int))
 all_goals
  by_cases h1 : us.length = 0
  · have p1 : ((us.length : Int) == 0) = true := by rw [beq_iff_eq]; omega
    by_cases h2 : kbs.length = 0
    · have p2 : ((kbs.length : Int) == 0) = true := by rw [beq_iff_eq]; omega
      by_cases h3 : tb.size = 0
      · have p3 : (tb.toList == []) = true := by rw [beq_iff_eq, ByteArray.toList_eq]; exact List.length_eq_zero_iff.1 h3
        have p4 : tb.toList = [] := by simpa using p3
        have HY := hid (HOK.out h1 h3);go_enter Tryz.func54, Tryz.ntmps54;go_wp2_with fail;go_ret;exact ⟨_, rfl, hid ⟨Fr.alloc _ _ _, fun _ => HY.out⟩⟩
      · have p3 : tb.toList.isEmpty = false := by
         rw [ByteArray.toList_eq]
         cases hh : tb.data.toList with
         | nil => exact absurd (show tb.size = 0 by have := congrArg List.length hh; simpa using this) h3
         | cons => rfl
        clear h1 h2 h3;go_enter Tryz.func54, Tryz.ntmps54;go_wp2_with fail;go_ret;exact VoPost.no (Fr.alloc _ _ _)
    · have p2 : ((kbs.length : Int) == 0) = false := by rw [beq_eq_false_iff_ne]; omega
      clear h1 h2;go_enter Tryz.func54, Tryz.ntmps54;go_wp2_with fail;go_ret;exact VoPost.no (Fr.alloc _ _ _)
  · have p1 : ((us.length : Int) == 0) = false := by rw [beq_eq_false_iff_ne]; omega
    clear h1;go_enter Tryz.func54, Tryz.ntmps54;go_wp2_with fail;go_ret;exact VoPost.no (Fr.alloc _ _ _)
theorem vo_3 (d : Nat) (t : Mu.B) (n : Int) (b : Bool) (ks : List Mu.B) (l : List Mu.Val) (hl : l.length ≤ 8) (hk : ks.length ≤ 8) : VoC (d + 1) (.mk 3 t n b ks l) := by
 intro w S u hd hS hrg
 unfold DAt at hd
 obtain ⟨tb, kv, lv, kbs, us, rfl, ht, ⟨ka, kc, rfl, hkc, hkk⟩, hks, hvs, hds⟩ := hd
 obtain ⟨la, lc, rfl, -⟩ := id hvs
 have hul := hds.length
 have hkb : kbs.length = ks.length := by rw [← hks]; simp
 simp only [Mu.Rg] at hrg
 have q0 : decide (((d + 1 : Nat) : Int) - 1 < 0) = false := decide_eq_false (by omega)
 have q1 : decide ((8 : Int) < (us.length : Int)) = false := by simp; omega
 have q2 : decide ((8 : Int) < (kbs.length : Int)) = false := by simp; omega
 have HOK : Hid (us.length = 0 → tb.size = 0 → Mu.VOk 40 (d + 1) (.mk 3 t n b ks l)) := hid (fun h1 h2 => by
  have hl0 : l = [] := List.length_eq_zero_iff.1 (by omega);have ht0 : t = [] := List.length_eq_zero_iff.1 (by rw [← ht, L_length]; omega);subst hl0 ht0;exact ⟨⟨by show (0 : Int) ≤ 3; omega, by show (3 : Int) ≤ 5; omega⟩, (fun _ h => by cases h), Nat.zero_le _, ⟨(fun h => by cases h), Nat.zero_le _⟩, hrg.2.1, (fun _ h => by cases h)⟩)
 clear hS hrg hvs hds hks hkb hul hkk ht
 cases q3 : ((kbs.length : Int) == (us.length : Int))
 all_goals
  by_cases h1 : us.length = 0
  · have p1 : ((us.length : Int) == 0) = true := by rw [beq_iff_eq]; omega
    by_cases h2 : kbs.length = 0
    · have p2 : ((kbs.length : Int) == 0) = true := by rw [beq_iff_eq]; omega
      by_cases h3 : tb.size = 0
      · have p3 : (tb.toList == []) = true := by rw [beq_iff_eq, ByteArray.toList_eq]; exact List.length_eq_zero_iff.1 h3
        have p4 : tb.toList = [] := by simpa using p3
        have HY := hid (HOK.out h1 h3);go_enter Tryz.func54, Tryz.ntmps54;go_wp2_with fail;go_ret;exact ⟨_, rfl, hid ⟨Fr.alloc _ _ _, fun _ => HY.out⟩⟩
      · have p3 : tb.toList.isEmpty = false := by
         rw [ByteArray.toList_eq]
         cases hh : tb.data.toList with
         | nil => exact absurd (show tb.size = 0 by have := congrArg List.length hh; simpa using this) h3
         | cons => rfl
        clear h1 h2 h3;go_enter Tryz.func54, Tryz.ntmps54;go_wp2_with fail;go_ret;exact VoPost.no (Fr.alloc _ _ _)
    · have p2 : ((kbs.length : Int) == 0) = false := by rw [beq_eq_false_iff_ne]; omega
      clear h1 h2;go_enter Tryz.func54, Tryz.ntmps54;go_wp2_with fail;go_ret;exact VoPost.no (Fr.alloc _ _ _)
  · have p1 : ((us.length : Int) == 0) = false := by rw [beq_eq_false_iff_ne]; omega
    clear h1;go_enter Tryz.func54, Tryz.ntmps54;go_wp2_with fail;go_ret;exact VoPost.no (Fr.alloc _ _ _)
theorem vo_1 (d : Nat) (t : Mu.B) (n : Int) (b : Bool) (ks : List Mu.B) (l : List Mu.Val) (hl : l.length ≤ 8) (hk : ks.length ≤ 8) : VoC (d + 1) (.mk 1 t n b ks l) := by
 intro w S u hd hS hrg
 unfold DAt at hd
 obtain ⟨tb, kv, lv, kbs, us, rfl, ht, ⟨ka, kc, rfl, hkc, hkk⟩, hks, hvs, hds⟩ := hd
 obtain ⟨la, lc, rfl, -⟩ := id hvs
 have hul := hds.length
 have hkb : kbs.length = ks.length := by rw [← hks]; simp
 simp only [Mu.Rg] at hrg
 have q0 : decide (((d + 1 : Nat) : Int) - 1 < 0) = false := decide_eq_false (by omega)
 have q1 : decide ((8 : Int) < (us.length : Int)) = false := by simp; omega
 have q2 : decide ((8 : Int) < (kbs.length : Int)) = false := by simp; omega
 have HOK : Hid (us.length = 0 → tb.size ≤ 40 → signsB (L tb) = true → Mu.VOk 40 (d + 1) (.mk 1 t n b ks l)) := hid (fun h1 h2 h3 => by
  have hl0 : l = [] := List.length_eq_zero_iff.1 (by omega);subst hl0 ht;exact ⟨⟨by show (0 : Int) ≤ 1; omega, by show (1 : Int) ≤ 5; omega⟩, (signsB_true h3).1, h2, ⟨(fun h => by cases h), Nat.zero_le _⟩, hrg.2.1, (fun _ h => by cases h)⟩)
 clear hS hrg hvs hds hks hkb hul hkk ht
 cases q3 : ((kbs.length : Int) == (us.length : Int))
 all_goals
  by_cases h1 : us.length = 0
  · have p1 : ((us.length : Int) == 0) = true := by rw [beq_iff_eq]; omega
    by_cases h2 : kbs.length = 0
    · have p2 : ((kbs.length : Int) == 0) = true := by rw [beq_iff_eq]; omega
      by_cases h3 : tb.size ≤ 40
      · have p3 : decide ((tb.size : Int) ≤ 40) = true := by simp; omega
        have HY := hid (HOK.out h1 h3);go_enter Tryz.func54, Tryz.ntmps54;go_wp2_with fail;refine (signsOk_any tb _ (by omega)).mono ?_;rintro e w2 ⟨rfl, hf2⟩;subst hf2;go_wp2_with fail;go_ret;exact ⟨_, rfl, hid ⟨Fr.alloc _ _ _, fun h => HY.out h⟩⟩
      · have p3 : decide ((tb.size : Int) ≤ 40) = false := by simp; omega
        clear h1 h2 h3;go_enter Tryz.func54, Tryz.ntmps54;go_wp2_with fail;go_ret;exact VoPost.no (Fr.alloc _ _ _)
    · have p2 : ((kbs.length : Int) == 0) = false := by rw [beq_eq_false_iff_ne]; omega
      clear h1 h2;go_enter Tryz.func54, Tryz.ntmps54;go_wp2_with fail;go_ret;exact VoPost.no (Fr.alloc _ _ _)
  · have p1 : ((us.length : Int) == 0) = false := by rw [beq_eq_false_iff_ne]; omega
    clear h1;go_enter Tryz.func54, Tryz.ntmps54;go_wp2_with fail;go_ret;exact VoPost.no (Fr.alloc _ _ _)
theorem vo_other (d : Nat) (k : Int) (t : Mu.B) (n : Int) (b : Bool) (ks : List Mu.B) (l : List Mu.Val) (hl : l.length ≤ 8) (hk : ks.length ≤ 8) (h0 : k ≠ 0) (h1 : k ≠ 1) (h2 : k ≠ 2) (h3 : k ≠ 3) (h4 : k ≠ 4) (h5 : k ≠ 5) : VoC (d + 1) (.mk k t n b ks l) := by
 intro w S u hd hS hrg
 unfold DAt at hd
 obtain ⟨tb, kv, lv, kbs, us, rfl, ht, ⟨ka, kc, rfl, hkc, hkk⟩, hks, hvs, hds⟩ := hd
 obtain ⟨la, lc, rfl, -⟩ := id hvs
 have hul := hds.length
 have hkb : kbs.length = ks.length := by rw [← hks]; simp
 simp only [Mu.Rg] at hrg
 have q0 : decide (((d + 1 : Nat) : Int) - 1 < 0) = false := decide_eq_false (by omega)
 have q1 : decide ((8 : Int) < (us.length : Int)) = false := by simp; omega
 have q2 : decide ((8 : Int) < (kbs.length : Int)) = false := by simp; omega
 have r0 : (k == 0) = false := by simpa using h0
 have r1 : (k == 1) = false := by simpa using h1
 have r2 : (k == 2) = false := by simpa using h2
 have r3 : (k == 3) = false := by simpa using h3
 have r4 : (k == 4) = false := by simpa using h4
 have r5 : (k == 5) = false := by simpa using h5
 clear hS hrg hvs hds hks hkb hul hkk ht
 cases q3 : ((kbs.length : Int) == (us.length : Int))
 all_goals
  go_enter Tryz.func54, Tryz.ntmps54;go_wp2_with fail;go_ret;exact VoPost.no (Fr.alloc _ _ _)
theorem vo_4 (d : Nat) (hd20 : d ≤ 20) (t : Mu.B) (n : Int) (b : Bool) (ks : List Mu.B) (l : List Mu.Val) (IH : ∀ x ∈ l, VoC d x) (hl : l.length ≤ 8) (hk : ks.length ≤ 8) : VoC (d + 1) (.mk 4 t n b ks l) := by
 intro w S u hd hS hrg
 unfold DAt at hd
 obtain ⟨tb, kv, lv, kbs, us, rfl, ht, ⟨ka, kc, rfl, hkc, hkk⟩, hks, hvs, hds⟩ := hd
 obtain ⟨la, lc, rfl, -⟩ := id hvs
 have hul := hds.length
 have hkb : kbs.length = ks.length := by rw [← hks]; simp
 simp only [Mu.Rg] at hrg
 have q0 : decide (((d + 1 : Nat) : Int) - 1 < 0) = false := decide_eq_false (by omega)
 have q1 : decide ((8 : Int) < (us.length : Int)) = false := by simp; omega
 have q2 : decide ((8 : Int) < (kbs.length : Int)) = false := by simp; omega
 have HC : Hid (∀ j (h : j < us.length), ∃ g o k1 t1 n1 b1 a1 l1 c1 a2 l2 c2, la = some ⟨g, o, none⟩ ∧ S g ∧ us[j] = .agg #[.int .i64 k1, .string t1, .int .i64 n1, .bool b1, .slice a1 l1 c1, .slice a2 l2 c2] ∧ w.cell? ⟨g, o + j * 6, none⟩ = some (.int .i64 k1) ∧ w.cell? ⟨g, o + j * 6 + 1, none⟩ = some (.string t1) ∧ w.cell? ⟨g, o + j * 6 + 2, none⟩ = some (.int .i64 n1) ∧ w.cell? ⟨g, o + j * 6 + 3, none⟩ = some (.bool b1) ∧ w.cell? ⟨g, o + j * 6 + 4, none⟩ = some (.slice a1 l1 c1) ∧ w.cell? ⟨g, o + j * 6 + 5, none⟩ = some (.slice a2 l2 c2)) := hid (fun j hj => hvs.one hds hj)
 have HD : Hid (∀ (w' : World), F0 w w' → ∀ j (h : j < us.length) (h' : j < l.length), Calls Tryz.prog 54 #[us[j], .int .i64 ((d : Int) - 1)] w' (VoPost d l[j] w')) := hid (fun w' hf j hj hj' =>
  IH l[j] (List.getElem_mem hj') w' S _ (DAt.keep (fun k hk => hf.block k (hS k hk) id) (fun _ h => h) _ _ (hds.at j hj' hj)) (fun k hk => by have := hS k hk; have := hf.size; omega) (hrg.2.2.2.get j hj'))
 have HUL := hid hul
 obtain ⟨wB, hwB⟩ : ∃ wB, wB = w.alloc (.cells #[.int .i64 4, .string tb, .int .i64 n, .bool b, .slice ka kbs.length kc, .slice la us.length lc] 25) := ⟨_, rfl⟩
 have HBX : Hid (wB.heap[w.heap.size]? = some (.cells #[.int .i64 4, .string tb, .int .i64 n, .bool b, .slice ka kbs.length kc, .slice la us.length lc] 25 (0, 0))) := hid (by rw [hwB]; exact blk_new _ _)
 have HFB : Hid (F0 w wB) := hid (by rw [hwB]; exact Fr.alloc _ _ _)
 have HWB := hid hwB
 have hul8 : us.length ≤ 8 := by omega
 have HOK : Hid (tb.size = 0 → True → (∀ x ∈ l, Mu.VOk 40 d x) → Mu.VOk 40 (d + 1) (.mk 4 t n b ks l)) := hid (fun h2 _ h3 => by
  have ht0 : t = [] := List.length_eq_zero_iff.1 (by rw [← ht, L_length]; omega);subst ht0;exact ⟨⟨by show (0 : Int) ≤ 4; omega, by show (4 : Int) ≤ 5; omega⟩, (fun _ h => by cases h), Nat.zero_le _, ⟨(fun h => by cases h), hl⟩, hrg.2.1, h3⟩)
 have HKK := hid hkk
 have HKZ : Hid (∀ j (h : j < kbs.length), kbs[j].size ≤ 9223372036854775807) := hid (fun j hj => by
  have := hrg.2.2.1 (L kbs[j]) (by rw [← hks]; exact List.mem_map_of_mem (List.getElem_mem hj))
  rwa [L_length] at this)
 have HSS := hid hS
 have hwd : IntKind.i64.wrap ((d : Int) - 1) = (d : Int) - 1 := by rw [IntKind.wrap_i64]; omega
 clear hS hrg hvs hds hks hkb hul hkk ht hl hk IH
 by_cases hk0 : kbs.length = 0
 · have q9 : ¬ 0 < kbs.length := by omega
   have HWB2 := hid hwB;clear hwB HWB HKK HKZ hk0
   cases q3 : ((kbs.length : Int) == (us.length : Int))
   all_goals
    go_enter Tryz.func54, Tryz.ntmps54;go_wp2_with fail;rw [← HWB2.out]
    go_loopg [93] 0 (fun g v wr => v = .int .i64 0 ∧ g = 0 ∧ wB = wr)
    case atStart => exact ⟨rfl, rfl, rfl⟩
    case round =>
     obtain ⟨rfl, rfl, rfl⟩ := hrel;have hbx0 := HBX.out;have p5 := blk_cell hbx0 5;simp only [List.getElem?_toArray, List.getElem?_cons_zero, List.getElem?_cons_succ] at p5;clear hbx0;go_wp2_with fail
     go_loopg [123] us.length (fun g v123 wr => ∃ i : Nat, v123 = .int .i64 i ∧ i ≤ us.length ∧ g = us.length - i ∧ Hid (F0 wB wr ∧ ∀ j (h : j < l.length), j < i → Mu.VOk 40 d l[j]))
     case atStart => exact ⟨0, rfl, Nat.zero_le _, rfl, hid ⟨Fr.refl _ _, fun j _ h => absurd h (by omega)⟩⟩
     case round =>
      obtain ⟨i, rfl, hi0, rfl, HG⟩ := hrel
      by_cases hlt : i < us.length
      · obtain ⟨g, o, k1, t1, n1, b1, a1, l1, c1, a2, l2, c2, rfl, hSg, hu, e0, e1, e2, e3, e4, e5⟩ := HC.out i hlt
        have hf0 := HG.out.1;have hfw := HFB.out.trans hf0;have d0 := F0.cell hfw e0;have d1 := F0.cell hfw e1;have d2 := F0.cell hfw e2;have d3 := F0.cell hfw e3;have d4 := F0.cell hfw e4;have d5 := F0.cell hfw e5;have hil : i < l.length := by have := HUL.out; omega
        have hcall : Calls Tryz.prog 54 #[.agg #[.int .i64 k1, .string t1, .int .i64 n1, .bool b1, .slice a1 l1 c1, .slice a2 l2 c2], .int .i64 ((d : Int) - 1)] (wr.alloc (.cells #[.int .i64 k1, .string t1, .int .i64 n1, .bool b1, .slice a1 l1 c1, .slice a2 l2 c2] 25)) (VoPost d l[i] (wr.alloc (.cells #[.int .i64 k1, .string t1, .int .i64 n1, .bool b1, .slice a1 l1 c1, .slice a2 l2 c2] 25))) := by
         rw [← hu]; exact HD.out _ (hfw.allocA _) i hlt hil
        have HCALL := hid hcall;have hsz := hfw.size;clear hf0 hfw hu e0 e1 e2 e3 e4 e5 hcall hSg;go_wp2_with fail;refine HCALL.out.mono ?_;rintro e w2 ⟨bb, rfl, HV⟩
        cases bb with
        | false =>
         go_wp2_with fail;go_ret
         exact VoPost.no (HFB.out.trans ((HG.out.1.allocA _).trans HV.out.1))
        | true =>
         have HNX : Hid (F0 wB w2 ∧ ∀ j (h : j < l.length), j < i + 1 → Mu.VOk 40 d l[j]) := hid ⟨(HG.out.1.allocA _).trans HV.out.1, fun j hj hji => by
          rcases Nat.lt_or_ge j i with h | h
          · exact HG.out.2 j hj h
          · obtain rfl : j = i := by omega
            exact HV.out.2 rfl⟩
         clear HV;go_wp2_with fail
         go_roundg (us.length - (i + 1))
         case rel => exact ⟨i + 1, by go_num, by omega, rfl, HNX⟩
         case measure => omega
      · have HALL : Hid (∀ x ∈ l, Mu.VOk 40 d x) := hid (fun x hx => by
         obtain ⟨j, hj, rfl⟩ := List.getElem_of_mem hx;exact HG.out.2 j hj (by have := HUL.out; omega))
        have hf0 := HG.out.1;have hbx2 := hf0.blk HBX.out id;have p1 := blk_cell hbx2 1;simp only [List.getElem?_toArray, List.getElem?_cons_zero, List.getElem?_cons_succ] at p1;clear hbx2 hf0
        by_cases h3 : tb.size = 0
        · have p3 : (tb.toList == []) = true := by rw [beq_iff_eq, ByteArray.toList_eq]; exact List.length_eq_zero_iff.1 h3
          have p4 : tb.toList = [] := by simpa using p3
          have HY := hid (HOK.out h3 trivial HALL.out);go_wp2_with fail;go_ret;exact ⟨_, rfl, hid ⟨HFB.out.trans HG.out.1, fun _ => HY.out⟩⟩
        · have p3 : tb.toList.isEmpty = false := by
           rw [ByteArray.toList_eq]
           cases hh : tb.data.toList with
           | nil => exact absurd (show tb.size = 0 by have := congrArg List.length hh; simpa using this) h3
           | cons => rfl
          clear h3;go_wp2_with fail;go_ret;exact VoPost.no (HFB.out.trans HG.out.1)
 · have hkp : 0 < kbs.length := by omega
   clear HOK HC HD HUL
   cases q3 : ((kbs.length : Int) == (us.length : Int))
   all_goals
    go_enter Tryz.func54, Tryz.ntmps54;go_wp2_with fail;rw [← HWB.out];clear hwB
    go_loopg [93] 0 (fun g v wr => v = .int .i64 0 ∧ g = 0 ∧ wB = wr)
    case atStart => exact ⟨rfl, rfl, rfl⟩
    case round =>
     obtain ⟨rfl, rfl, rfl⟩ := hrel;obtain ⟨gk, ok, hka, hSk, hkc⟩ := HKK.out hkp;subst hka;have d0 := F0.cell HFB.out (hkc 0 hkp);rw [Nat.add_zero] at d0;have hz := HKZ.out 0 hkp;obtain ⟨k0, hk0e⟩ : ∃ k0, k0 = kbs[0] := ⟨_, rfl⟩
     rw [← hk0e] at d0 hz;have hbx0 := HBX.out;have p0 := blk_cell hbx0 0;simp only [List.getElem?_toArray, List.getElem?_cons_zero, List.getElem?_cons_succ] at p0;clear hbx0 hkc hk0e hSk;go_wp2_with fail;refine (wordOk_wide k0 _ hz).mono ?_;rintro e w2 ⟨bb, rfl, rfl⟩;cases bb
     all_goals
      go_wp2_with fail;go_ret
      exact VoPost.no HFB.out
theorem vo_5 (d : Nat) (hd20 : d ≤ 20) (t : Mu.B) (n : Int) (b : Bool) (ks : List Mu.B) (l : List Mu.Val) (IH : ∀ x ∈ l, VoC d x) (hl : l.length ≤ 8) (hk : ks.length ≤ 8) (hkl : ks.length = l.length) : VoC (d + 1) (.mk 5 t n b ks l) := by
 intro w S u hd hS hrg
 unfold DAt at hd
 obtain ⟨tb, kv, lv, kbs, us, rfl, ht, ⟨ka, kc, rfl, hkc, hkk⟩, hks, hvs, hds⟩ := hd
 obtain ⟨la, lc, rfl, -⟩ := id hvs
 have hul := hds.length
 have hkb : kbs.length = ks.length := by rw [← hks]; simp
 simp only [Mu.Rg] at hrg
 have q0 : decide (((d + 1 : Nat) : Int) - 1 < 0) = false := decide_eq_false (by omega)
 have q1 : decide ((8 : Int) < (us.length : Int)) = false := by simp; omega
 have q2 : decide ((8 : Int) < (kbs.length : Int)) = false := by simp; omega
 have HC : Hid (∀ j (h : j < us.length), ∃ g o k1 t1 n1 b1 a1 l1 c1 a2 l2 c2, la = some ⟨g, o, none⟩ ∧ S g ∧ us[j] = .agg #[.int .i64 k1, .string t1, .int .i64 n1, .bool b1, .slice a1 l1 c1, .slice a2 l2 c2] ∧ w.cell? ⟨g, o + j * 6, none⟩ = some (.int .i64 k1) ∧ w.cell? ⟨g, o + j * 6 + 1, none⟩ = some (.string t1) ∧ w.cell? ⟨g, o + j * 6 + 2, none⟩ = some (.int .i64 n1) ∧ w.cell? ⟨g, o + j * 6 + 3, none⟩ = some (.bool b1) ∧ w.cell? ⟨g, o + j * 6 + 4, none⟩ = some (.slice a1 l1 c1) ∧ w.cell? ⟨g, o + j * 6 + 5, none⟩ = some (.slice a2 l2 c2)) := hid (fun j hj => hvs.one hds hj)
 have HD : Hid (∀ (w' : World), F0 w w' → ∀ j (h : j < us.length) (h' : j < l.length), Calls Tryz.prog 54 #[us[j], .int .i64 ((d : Int) - 1)] w' (VoPost d l[j] w')) := hid (fun w' hf j hj hj' =>
  IH l[j] (List.getElem_mem hj') w' S _ (DAt.keep (fun k hk => hf.block k (hS k hk) id) (fun _ h => h) _ _ (hds.at j hj' hj)) (fun k hk => by have := hS k hk; have := hf.size; omega) (hrg.2.2.2.get j hj'))
 have HUL := hid hul
 obtain ⟨wB, hwB⟩ : ∃ wB, wB = w.alloc (.cells #[.int .i64 5, .string tb, .int .i64 n, .bool b, .slice ka kbs.length kc, .slice la us.length lc] 25) := ⟨_, rfl⟩
 have HBX : Hid (wB.heap[w.heap.size]? = some (.cells #[.int .i64 5, .string tb, .int .i64 n, .bool b, .slice ka kbs.length kc, .slice la us.length lc] 25 (0, 0))) := hid (by rw [hwB]; exact blk_new _ _)
 have HFB : Hid (F0 w wB) := hid (by rw [hwB]; exact Fr.alloc _ _ _)
 have HWB := hid hwB
 have hul8 : us.length ≤ 8 := by omega
 have HOK : Hid (tb.size = 0 → ks.Nodup → (∀ x ∈ l, Mu.VOk 40 d x) → Mu.VOk 40 (d + 1) (.mk 5 t n b ks l)) := hid (fun h2 h4 h3 => by
  have ht0 : t = [] := List.length_eq_zero_iff.1 (by rw [← ht, L_length]; omega);subst ht0;exact ⟨⟨by show (0 : Int) ≤ 5; omega, by show (5 : Int) ≤ 5; omega⟩, (fun _ h => by cases h), Nat.zero_le _, ⟨(fun _ => ⟨hkl, h4⟩), hl⟩, hrg.2.1, h3⟩)
 have HKK := hid hkk
 have HKZ : Hid (∀ j (h : j < kbs.length), kbs[j].size ≤ 9223372036854775807) := hid (fun j hj => by
  have := hrg.2.2.1 (L kbs[j]) (by rw [← hks]; exact List.mem_map_of_mem (List.getElem_mem hj))
  rwa [L_length] at this)
 have HND : Hid ((∀ a b (ha : a < kbs.length) (hb : b < kbs.length), a < b → L kbs[a] ≠ L kbs[b]) → ks.Nodup) := hid (fun h => by
  rw [← hks, List.nodup_iff_pairwise_ne, List.pairwise_iff_getElem];intro a b ha hb hab;simp only [List.length_map] at ha hb;simp only [List.getElem_map];exact h a b ha hb hab)
 have HSS := hid hS
 have hwd : IntKind.i64.wrap ((d : Int) - 1) = (d : Int) - 1 := by rw [IntKind.wrap_i64]; omega
 obtain ⟨N, hN1, hN2⟩ : ∃ N, us.length = N ∧ kbs.length = N := ⟨us.length, rfl, by omega⟩
 rw [hN2] at hkc
 simp only [hN1, hN2] at q1 q2 hul8 HWB hwB HBX ⊢
 have HN1 := hid hN1
 have HN2 := hid hN2
 clear hS hrg hvs hds hks hkb hul hkk ht hl hk IH hN1 hN2 hkl
 go_enter Tryz.func54, Tryz.ntmps54
 go_wp2_with fail
 rw [← HWB.out]
 clear hwB
 go_loopg [93] N (fun g v wr => ∃ i : Nat, v = .int .i64 i ∧ i ≤ N ∧ g = N - i ∧ wB = wr ∧ Hid (∀ a b (ha : a < kbs.length) (hb : b < kbs.length), a < b → b < i → L kbs[a] ≠ L kbs[b]))
 case atStart => exact ⟨0, rfl, Nat.zero_le _, rfl, rfl, hid (fun _ _ _ _ _ h => absurd h (by omega))⟩
 case round =>
  obtain ⟨i, rfl, hi0, rfl, rfl, HI⟩ := hrel
  by_cases hlt : i < N
  · obtain ⟨gk, ok, hka, hSk, hkc2⟩ := HKK.out (by have := HN2.out; omega)
    subst hka;have hik : i < kbs.length := by have := HN2.out; omega
    have d0 := F0.cell HFB.out (hkc2 i hik);have hz := HKZ.out i hik;obtain ⟨k0, hk0e⟩ : ∃ k0, k0 = kbs[i] := ⟨_, rfl⟩
    rw [← hk0e] at d0 hz;have HK0 := hid hk0e;have HKC := hid hkc2;have hbx0 := HBX.out;have p0 := blk_cell hbx0 0;have p4 := blk_cell hbx0 4;simp only [List.getElem?_toArray, List.getElem?_cons_zero, List.getElem?_cons_succ] at p0 p4;clear hbx0 hkc2 hk0e hSk;go_wp2_with fail;refine (wordOk_wide k0 _ hz).mono ?_;rintro e w2 ⟨bb, rfl, rfl⟩
    cases bb with
    | false =>
     go_wp2_with fail;go_ret
     exact VoPost.no HFB.out
    | true =>
     go_wp2_with fail
     go_loopg [111] i (fun g v wr => ∃ j : Nat, v = .int .i64 j ∧ j ≤ i ∧ g = i - j ∧ wB = wr ∧ Hid (∀ a (ha : a < kbs.length), a < j → L kbs[a] ≠ L kbs[i]))
     case atStart => exact ⟨0, rfl, Nat.zero_le _, rfl, rfl, hid (fun _ _ h => absurd h (by omega))⟩
     case round =>
      obtain ⟨j, rfl, hj0, rfl, rfl, HJ⟩ := hrel
      by_cases hlj : j < i
      · have hjk : j < kbs.length := by omega
        have dj := F0.cell HFB.out (HKC.out j hjk);obtain ⟨kj, hkje⟩ : ∃ kj, kj = kbs[j] := ⟨_, rfl⟩
        rw [← hkje] at dj;have HKJ := hid hkje;clear hkje
        by_cases hq : L kj = L k0
        · have q2 : (kj.toList == k0.toList) = true := by rw [beq_iff_eq, ByteArray.toList_eq, ByteArray.toList_eq]; exact hq
          clear hq;go_wp2_with fail;go_ret;exact VoPost.no HFB.out
        · have q2 : (kj.toList == k0.toList) = false := by rw [beq_eq_false_iff_ne, ByteArray.toList_eq, ByteArray.toList_eq]; exact hq
          have HJ2 : Hid (∀ a (ha : a < kbs.length), a < j + 1 → L kbs[a] ≠ L kbs[i]) := hid (fun a ha haj => by
           rcases Nat.lt_or_ge a j with h | h
           · exact HJ.out a ha h
           · obtain rfl : a = j := by omega
             rw [← HKJ.out, ← HK0.out]; exact hq)
          clear hq;go_wp2_with fail
          go_roundg (i - (j + 1))
          case rel => exact ⟨j + 1, by go_num, by omega, rfl, rfl, HJ2⟩
          case measure => omega
      · have HI2 : Hid (∀ a b (ha : a < kbs.length) (hb : b < kbs.length), a < b → b < i + 1 → L kbs[a] ≠ L kbs[b]) := hid (fun a b ha hb hab hbi => by
         rcases Nat.lt_or_ge b i with h | h
         · exact HI.out a b ha hb hab h
         · obtain rfl : b = i := by omega
           exact HJ.out a ha (by omega))
        go_wp2_with fail
        go_roundg (N - (i + 1))
        case rel => exact ⟨i + 1, by go_num, by omega, rfl, rfl, HI2⟩
        case measure => omega
  · have HNDD := hid (HND.out (fun a b ha hb hab => HI.out a b ha hb hab (by have := HN2.out; omega)))
    have hbx0 := HBX.out;have p5 := blk_cell hbx0 5;simp only [List.getElem?_toArray, List.getElem?_cons_zero, List.getElem?_cons_succ] at p5;clear hbx0;go_wp2_with fail
    go_loopg [123] N (fun g v123 wr => ∃ i : Nat, v123 = .int .i64 i ∧ i ≤ N ∧ g = N - i ∧ Hid (F0 wB wr ∧ ∀ j (h : j < l.length), j < i → Mu.VOk 40 d l[j]))
    case atStart => exact ⟨0, rfl, Nat.zero_le _, rfl, hid ⟨Fr.refl _ _, fun j _ h => absurd h (by omega)⟩⟩
    case round =>
     obtain ⟨i, rfl, hi0, rfl, HG⟩ := hrel
     by_cases hlt : i < N
     · obtain ⟨g, o, k1, t1, n1, b1, a1, l1, c1, a2, l2, c2, rfl, hSg, hu, e0, e1, e2, e3, e4, e5⟩ := HC.out i (by have := HN1.out; omega)
       have hf0 := HG.out.1;have hfw := HFB.out.trans hf0;have d0 := F0.cell hfw e0;have d1 := F0.cell hfw e1;have d2 := F0.cell hfw e2;have d3 := F0.cell hfw e3;have d4 := F0.cell hfw e4;have d5 := F0.cell hfw e5;have hil : i < l.length := by have := HUL.out; have := HN1.out; omega
       have hcall : Calls Tryz.prog 54 #[.agg #[.int .i64 k1, .string t1, .int .i64 n1, .bool b1, .slice a1 l1 c1, .slice a2 l2 c2], .int .i64 ((d : Int) - 1)] (wr.alloc (.cells #[.int .i64 k1, .string t1, .int .i64 n1, .bool b1, .slice a1 l1 c1, .slice a2 l2 c2] 25)) (VoPost d l[i] (wr.alloc (.cells #[.int .i64 k1, .string t1, .int .i64 n1, .bool b1, .slice a1 l1 c1, .slice a2 l2 c2] 25))) := by
        rw [← hu]; exact HD.out _ (hfw.allocA _) i (by have := HN1.out; omega) hil
       have HCALL := hid hcall;have hsz := hfw.size;clear hf0 hfw hu e0 e1 e2 e3 e4 e5 hcall hSg;go_wp2_with fail;refine HCALL.out.mono ?_;rintro e w2 ⟨bb, rfl, HV⟩
       cases bb with
       | false =>
        go_wp2_with fail;go_ret
        exact VoPost.no (HFB.out.trans ((HG.out.1.allocA _).trans HV.out.1))
       | true =>
        have HNX : Hid (F0 wB w2 ∧ ∀ j (h : j < l.length), j < i + 1 → Mu.VOk 40 d l[j]) := hid ⟨(HG.out.1.allocA _).trans HV.out.1, fun j hj hji => by
         rcases Nat.lt_or_ge j i with h | h
         · exact HG.out.2 j hj h
         · obtain rfl : j = i := by omega
           exact HV.out.2 rfl⟩
        clear HV;go_wp2_with fail
        go_roundg (N - (i + 1))
        case rel => exact ⟨i + 1, by go_num, by omega, rfl, HNX⟩
        case measure => omega
     · have HALL : Hid (∀ x ∈ l, Mu.VOk 40 d x) := hid (fun x hx => by
        obtain ⟨j, hj, rfl⟩ := List.getElem_of_mem hx;exact HG.out.2 j hj (by have := HUL.out; have := HN1.out; omega))
       have hf0 := HG.out.1;have hbx2 := hf0.blk HBX.out id;have p1 := blk_cell hbx2 1;simp only [List.getElem?_toArray, List.getElem?_cons_zero, List.getElem?_cons_succ] at p1;clear hbx2 hf0
       by_cases h3 : tb.size = 0
       · have p3 : (tb.toList == []) = true := by rw [beq_iff_eq, ByteArray.toList_eq]; exact List.length_eq_zero_iff.1 h3
         have p4 : tb.toList = [] := by simpa using p3
         have HY := hid (HOK.out h3 HNDD.out HALL.out);go_wp2_with fail;go_ret;exact ⟨_, rfl, hid ⟨HFB.out.trans HG.out.1, fun _ => HY.out⟩⟩
       · have p3 : tb.toList.isEmpty = false := by
          rw [ByteArray.toList_eq]
          cases hh : tb.data.toList with
          | nil => exact absurd (show tb.size = 0 by have := congrArg List.length hh; simpa using this) h3
          | cons => rfl
         clear h3;go_wp2_with fail;go_ret;exact VoPost.no (HFB.out.trans HG.out.1)
theorem valueOk_all : ∀ (d : Nat) (v : Mu.Val), d ≤ 20 → VoC d v
 | d, .mk k t n b ks l, hd => by
  by_cases h : d = 0 ∨ 8 < l.length ∨ 8 < ks.length ∨ (k = 5 ∧ ks.length ≠ l.length)
  · exact vo_no d k t n b ks l h
  · cases d with
    | zero => exact absurd (.inl rfl) h
    | succ d =>
     have IH : ∀ x ∈ l, VoC d x := fun x hx => valueOk_all d x (by omega)
     have hl : l.length ≤ 8 := by omega
     have hk : ks.length ≤ 8 := by omega
     by_cases e4 : k = 4
     · subst e4; exact vo_4 d (by omega) t n b ks l IH hl hk
     by_cases e5 : k = 5
     · subst e5; exact vo_5 d (by omega) t n b ks l IH hl hk (by omega)
     by_cases e0 : k = 0
     · subst e0; exact vo_0 d t n b ks l hl hk
     by_cases e1 : k = 1
     · subst e1; exact vo_1 d t n b ks l hl hk
     by_cases e2 : k = 2
     · subst e2; exact vo_2 d t n b ks l hl hk
     by_cases e3 : k = 3
     · subst e3; exact vo_3 d t n b ks l hl hk
     exact vo_other d k t n b ks l hl hk e0 e1 e2 e3 e4 e5
end Go.Proofs.YtfakghnpkdoclaaGreatDoor
namespace Go.Proofs.YtfakghnpkdoclaaGreatDoor
open Go.RowKit
open Go.Lib (hid)
def SzPost (x : Mu.Val) (w : World) (e : Ending) (w' : World) : Prop := e = .returned (.int .i64 (Mu.vsz x)) ∧ Hid (F0 w w')
def SzC (x : Mu.Val) : Prop := ∀ (w : World) (S : Nat → Prop) (u : Value), DAt w S x u → (∀ k, S k → k < w.heap.size) → Mu.vsz x ≤ 1000000 → Calls Tryz.prog 55 #[u] w (SzPost x w)
theorem size_one (k : Int) (t : Mu.B) (n : Int) (b : Bool) (ks : List Mu.B) (l : List Mu.Val) (IH : ∀ x ∈ l, SzC x) (hl : l.length ≤ 8) : SzC (.mk k t n b ks l) := by
 intro w S u hd hS hsz
 unfold DAt at hd
 obtain ⟨tb, kv, lv, kbs, us, rfl, ht, ⟨ka, kc, rfl, hkc, hkk⟩, hks, hvs, hds⟩ := hd
 obtain ⟨la, lc, rfl, -⟩ := id hvs
 have hul := hds.length
 simp only [Mu.vsz] at hsz
 unfold SzPost
 simp only [Mu.vsz]
 have HC : Hid (∀ j (h : j < us.length), ∃ g o k1 t1 n1 b1 a1 l1 c1 a2 l2 c2, la = some ⟨g, o, none⟩ ∧ S g ∧ us[j] = .agg #[.int .i64 k1, .string t1, .int .i64 n1, .bool b1, .slice a1 l1 c1, .slice a2 l2 c2] ∧ w.cell? ⟨g, o + j * 6, none⟩ = some (.int .i64 k1) ∧ w.cell? ⟨g, o + j * 6 + 1, none⟩ = some (.string t1) ∧ w.cell? ⟨g, o + j * 6 + 2, none⟩ = some (.int .i64 n1) ∧ w.cell? ⟨g, o + j * 6 + 3, none⟩ = some (.bool b1) ∧ w.cell? ⟨g, o + j * 6 + 4, none⟩ = some (.slice a1 l1 c1) ∧ w.cell? ⟨g, o + j * 6 + 5, none⟩ = some (.slice a2 l2 c2)) := hid (fun j hj => hvs.one hds hj)
 have HD : Hid (∀ (w' : World), F0 w w' → ∀ j (h : j < us.length) (h' : j < l.length), Mu.vsz l[j] ≤ 1000000 → Calls Tryz.prog 55 #[us[j]] w' (SzPost l[j] w')) := hid (fun w' hf j hj hj' hz =>
  IH l[j] (List.getElem_mem hj') w' S _ (DAt.keep (fun k hk => hf.block k (hS k hk) id) (fun _ h => h) _ _ (hds.at j hj' hj)) (fun k hk => by have := hS k hk; have := hf.size; omega) hz)
 have HUL := hid hul
 have hul8 : us.length ≤ 8 := by omega
 clear hS hvs hds hks hkk ht IH hul
 go_enter Tryz.func55, Tryz.ntmps55
 go_wp2_with fail
 go_loopg [3, 9] us.length (fun g v3 v9 wr => ∃ i : Nat, v9 = .int .i64 i ∧ i ≤ us.length ∧ g = us.length - i ∧ v3 = .int .i64 ((1 + Mu.vszL (l.take i) : Nat) : Int) ∧ Hid (F0 w wr))
 case atStart => exact ⟨0, rfl, Nat.zero_le _, rfl, by simp [Mu.vszL], hid (Fr.alloc _ _ _)⟩
 case round =>
  obtain ⟨i, rfl, hi0, rfl, rfl, HG⟩ := hrel
  by_cases hlt : i < us.length
  · obtain ⟨g, o, k1, t1, n1, b1, a1, l1, c1, a2, l2, c2, rfl, hSg, hu, e0, e1, e2, e3, e4, e5⟩ := HC.out i hlt
    have hf0 := HG.out;have d0 := F0.cell hf0 e0;have d1 := F0.cell hf0 e1;have d2 := F0.cell hf0 e2;have d3 := F0.cell hf0 e3;have d4 := F0.cell hf0 e4;have d5 := F0.cell hf0 e5;have hil : i < l.length := by have := HUL.out; omega
    have hm2 := Mu.vszL_take l i hil;have hm3 := Mu.vszL_le l (i + 1)
    have hcall : Calls Tryz.prog 55 #[.agg #[.int .i64 k1, .string t1, .int .i64 n1, .bool b1, .slice a1 l1 c1, .slice a2 l2 c2]] (wr.alloc (.cells #[.int .i64 k1, .string t1, .int .i64 n1, .bool b1, .slice a1 l1 c1, .slice a2 l2 c2] 25)) (SzPost l[i] (wr.alloc (.cells #[.int .i64 k1, .string t1, .int .i64 n1, .bool b1, .slice a1 l1 c1, .slice a2 l2 c2] 25))) := by
     rw [← hu]; exact HD.out _ (hf0.allocA _) i hlt hil (by omega)
    have HCALL := hid hcall;have hsz := hf0.size;obtain ⟨M, hM⟩ : ∃ M, M = Mu.vsz l[i] := ⟨_, rfl⟩
    obtain ⟨A, hA⟩ : ∃ A, A = 1 + Mu.vszL (l.take i) := ⟨_, rfl⟩
    rw [← hA];have HM := hid hM;have HA := hid hA;have hAM : A + M ≤ 1000000 := by omega
    have hwr : IntKind.i64.wrap ((A : Int) + (M : Int)) = (A : Int) + (M : Int) := by rw [IntKind.wrap_i64]; omega
    clear hf0 hu e0 e1 e2 e3 e4 e5 hcall hSg hm2 hm3 hM hA;go_wp2_with fail;refine HCALL.out.mono ?_;rintro e w2 ⟨rfl, HV⟩;have HNX : Hid (F0 w w2) := hid ((HG.out.allocA _).trans HV.out);rw [← HM.out];clear HV;go_wp2_with fail
    go_roundg (us.length - (i + 1))
    case rel =>
     refine ⟨i + 1, by go_num, by omega, rfl, ?_, HNX⟩;have h1 := Mu.vszL_take l i hil;have h2 := HM.out;have h3 := HA.out
     congr 1
     omega
    case measure => omega
  · have hlf : l.take i = l := List.take_of_length_le (by have := HUL.out; omega)
    rw [hlf];go_wp2_with fail;go_ret;exact ⟨rfl, HG⟩
theorem size_all (T : Nat) : ∀ (d : Nat) (v : Mu.Val), Mu.VOk T d v → SzC v
 | 0, v, h => h.elim
 | d + 1, .mk k t n b ks l, h => size_one k t n b ks l (fun x hx => size_all T d x (h.2.2.2.2.2 x hx)) h.2.2.2.1.2
theorem vszL_pow {T d : Nat} (ih : ∀ v, Mu.VOk T d v → Mu.vsz v ≤ 10 ^ d) : ∀ (l : List Mu.Val), (∀ x ∈ l, Mu.VOk T d x) → Mu.vszL l ≤ l.length * 10 ^ d
 | [], _ => by simp [Mu.vszL]
 | v :: l, h => by
  have h1 := ih v (h v (by simp));have h2 := vszL_pow ih l (fun x hx => h x (by simp [hx]));simp only [Mu.vszL, List.length_cons, Nat.add_mul]; omega
theorem vsz_pow {T : Nat} : ∀ (d : Nat) (v : Mu.Val), Mu.VOk T d v → Mu.vsz v ≤ 10 ^ d
 | 0, v, h => h.elim
 | d + 1, .mk k t n b ks l, h => by
  have h1 := vszL_pow (vsz_pow d) l h.2.2.2.2.2;have h2 : l.length ≤ 8 := h.2.2.2.1.2;have h3 : l.length * 10 ^ d ≤ 8 * 10 ^ d := Nat.mul_le_mul_right _ h2;have h4 : 1 ≤ 10 ^ d := Nat.pos_of_ne_zero (by simp);simp only [Mu.vsz, Nat.pow_succ]; omega
def CxOk (x : Mu.Val) : Prop := Mu.VOk 40 5 x ∧ x.kind = 5 ∧ Mu.vsz x ≤ 300
def CxPost (x : Mu.Val) (w : World) (e : Ending) (w' : World) : Prop := ∃ b : Bool, e = .returned (.bool b) ∧ Hid (F0 w w' ∧ (b = true → CxOk x))
theorem contextOk_any (x : Mu.Val) (w : World) (S : Nat → Prop) (u : Value) (hd : DAt w S x u) (hS : ∀ k, S k → k < w.heap.size) (hrg : Mu.Rg x) : Calls Tryz.prog 31 #[u] w (CxPost x w) := by
 obtain ⟨k1, t1, n1, b1, a1, l1, c1, a2, l2, c2, rfl⟩ := hd.form
 have hk : x.kind = k1 := by
  obtain ⟨k, t, n, b, ks, l⟩ := x;unfold DAt at hd;obtain ⟨tb, kv, lv, kbs, us, h1, -⟩ := hd;simp only [Value.agg.injEq, Array.mk.injEq, List.cons.injEq, Value.int.injEq, true_and] at h1;exact h1.1.symm
 by_cases h5 : k1 = 5
 · subst h5
   have HV : Hid (∀ w', F0 w w' → Calls Tryz.prog 54 #[.agg #[.int .i64 5, .string t1, .int .i64 n1, .bool b1, .slice a1 l1 c1, .slice a2 l2 c2], .int .i64 4] w' (VoPost 5 x w')) := hid (fun w' hf =>
    valueOk_all 5 x (by omega) w' S _ (DAt.keep (fun k hk => hf.block k (hS k hk) id) (fun _ h => h) _ _ hd) (fun k hk => by have := hS k hk; have := hf.size; omega) hrg)
   have HZ : Hid (∀ w', F0 w w' → Mu.VOk 40 5 x → Calls Tryz.prog 55 #[.agg #[.int .i64 5, .string t1, .int .i64 n1, .bool b1, .slice a1 l1 c1, .slice a2 l2 c2]] w' (SzPost x w')) := hid (fun w' hf hv =>
    size_all 40 5 x hv w' S _ (DAt.keep (fun k hk => hf.block k (hS k hk) id) (fun _ h => h) _ _ hd) (fun k hk => by have := hS k hk; have := hf.size; omega) (by have := vsz_pow 5 x hv; omega))
   have HK := hid hk;clear hd hS hrg hk;go_enter Tryz.func31, Tryz.ntmps31;go_wp2_with fail;refine (HV.out _ (Fr.alloc _ _ _)).mono ?_;rintro e w1 ⟨b, rfl, HB⟩;have hnb := HB.out.1.blk (blk_new w (.cells #[.int .i64 5, .string t1, .int .i64 n1, .bool b1, .slice a1 l1 c1, .slice a2 l2 c2] 25)) id;have p0 := blk_cell hnb 0;have p1 := blk_cell hnb 1;have p2 := blk_cell hnb 2
   have p3 := blk_cell hnb 3;have p4 := blk_cell hnb 4;have p5 := blk_cell hnb 5;simp only [List.getElem?_toArray, List.getElem?_cons_zero, List.getElem?_cons_succ] at p0 p1 p2 p3 p4 p5;clear hnb
   cases b with
   | false =>
    go_wp2_with fail;go_ret
    exact ⟨false, rfl, hid ⟨(Fr.alloc _ _ _).trans HB.out.1, fun h => by cases h⟩⟩
   | true =>
    go_wp2_with fail;refine (HZ.out _ ((Fr.alloc _ _ _).trans HB.out.1) (HB.out.2 (by first | rfl | trivial))).mono ?_
    rintro e w2 ⟨rfl, HF⟩;go_wp2_with fail;go_ret;refine ⟨_, rfl, hid ⟨((Fr.alloc _ _ _).trans HB.out.1).trans HF.out, fun h => ⟨HB.out.2 (by first | rfl | trivial), HK.out, ?_⟩⟩⟩;simp at h;omega
 · have q5 : (k1 == 5) = false := by simpa using h5
   clear hd hS hrg hk h5;go_enter Tryz.func31, Tryz.ntmps31;go_wp2_with fail;go_ret;exact ⟨false, rfl, hid ⟨Fr.alloc _ _ _, fun h => by cases h⟩⟩
end Go.Proofs.YtfakghnpkdoclaaGreatDoor
namespace Go.Proofs.YtfakghnpkdoclaaGreatDoor
open Go.RowKit Go.ChangeShapes Go.WideShapes
section
variable {H : Type} {enc : TypeId × Value → H} {w : World} {spare : Nat → Bool} {held : Bool}
theorem cellsStr : Tryz.prog.cellsOf 9 = 1 := by kernel_rfl
theorem cellsInt : Tryz.prog.cellsOf 3 = 1 := by kernel_rfl
theorem cellsI64 : Tryz.prog.cellsOf 2 = 1 := by kernel_rfl
theorem cellsBool : Tryz.prog.cellsOf 4 = 1 := by kernel_rfl
theorem cellsSS : Tryz.prog.cellsOf 22 = 1 := by kernel_rfl
theorem cellsVS : Tryz.prog.cellsOf 23 = 1 := by kernel_rfl
theorem cellsVal : Tryz.prog.cellsOf 25 = 6 := by kernel_rfl
theorem cellsPart : Tryz.prog.cellsOf 73 = 2 := by kernel_rfl
theorem row_place {a : Addr} {v : Value} (h : w.cell? a = some v) : ∃ b o, a = ⟨b, o, none⟩ := by
 obtain ⟨b, o, sp⟩ := a
 have : sp = none := by simpa using World.cell?_spot h
 exact ⟨b, o, by rw [this]⟩
theorem cell_low {b o : Nat} {v : Value} (h : w.cell? ⟨b, o, none⟩ = some v) : b < w.heap.size := World.block_lt_of_cell? w ⟨b, o, none⟩ h
theorem ks_of {fuel : Nat} {cs : List Value} {x : DataW H × List MemPlace} (h : DataW.trod enc Tryz.prog w 0 spare held fuel 22 cs = some x) :
 ∃ kv kbs, cs = [kv] ∧ KsAt w (· < w.heap.size) kv kbs ∧ ∀ k ∈ kbs.map L, k.length ≤ 9223372036854775807 := by
 rcases DataW.trod_slice Tryz.underlying22 h with ⟨rfl, -⟩ | ⟨a, len, cap, elems, rest, n, -, rfl, -, -, hle, hmx, hlen, hel, -, -⟩
 · exact ⟨_, [], rfl, ⟨none, 0, rfl, Nat.le_refl _, fun h => absurd h (by simp)⟩, by simp⟩
 · obtain ⟨f, hf⟩ := Deep.choose_lt (α := ByteArray) (p := fun i s => w.cell? (a.add i) = some (.string s) ∧ s.size ≤ maxLen) (n := len) (fun i hi => by
    have h1 := hel i hi;rw [List.getElem?_eq_getElem (by omega), cellsStr, Nat.mul_one] at h1;obtain ⟨cs', h2, h3⟩ := Option.bind_eq_some_iff.1 h1;obtain ⟨-, -, h4⟩ := World.cells?_some h2;obtain ⟨s, rfl, -, hs⟩ := DataW.trod_string Tryz.underlying9 h3;exact ⟨s, by simpa [Addr.add] using h4 0 (by omega), hs⟩)
   refine ⟨_, (List.range len).map f, rfl, ⟨some a, cap, by simp, by simpa using hle, fun h0 => ?_⟩, ?_⟩
   · have hp : 0 < len := by simpa using h0
     have h1 := (hf 0 hp).1;rw [show a.add 0 = a by simp [Addr.add]] at h1;obtain ⟨b, o, rfl⟩ := row_place h1;refine ⟨b, o, rfl, cell_low h1, fun j hj => ?_⟩;have hj' : j < len := by simpa using hj
     have h2 := (hf j hj').1;rw [add_plain] at h2;rw [h2];simp
   · intro k hk
     simp only [List.map_map, List.mem_map, List.mem_range, Function.comp] at hk;obtain ⟨i, hi, rfl⟩ := hk;have := (hf i hi).2;rw [L_length];unfold maxLen at this;omega
theorem ps_of {fuel : Nat} {cs : List Value} {x : DataW H × List MemPlace} (h : DataW.trod enc Tryz.prog w 0 spare held fuel 41 cs = some x) :
 ∃ pv ps, cs = [pv] ∧ PsAt w pv ps ∧ (∀ p ∈ ps, p.1.size ≤ 9223372036854775807 ∧ p.2.size ≤ 9223372036854775807) ∧ ps.length ≤ 9223372036854775807 := by
 rcases DataW.trod_slice Tryz.underlying41 h with ⟨rfl, -⟩ | ⟨a, len, cap, elems, rest, n, -, rfl, -, -, hle, hmx, hlen, hel, -, -⟩
 · exact ⟨_, [], rfl, ⟨none, 0, rfl, Nat.le_refl _, fun h => absurd h (by simp)⟩, by simp, by simp⟩
 · obtain ⟨f, hf⟩ := Deep.choose_lt (α := ByteArray × ByteArray) (p := fun i s => w.cell? (a.add (i * 2)) = some (.string s.1) ∧ w.cell? ((a.add (i * 2)).add 1) = some (.string s.2) ∧ s.1.size ≤ maxLen ∧ s.2.size ≤ maxLen) (n := len) (fun i hi => by
    have h1 := hel i hi;rw [List.getElem?_eq_getElem (by omega), cellsPart] at h1;obtain ⟨cs', h2, h3⟩ := Option.bind_eq_some_iff.1 h1;obtain ⟨-, h5, h4⟩ := World.cells?_some h2;obtain ⟨xs, m, -, -, -, hxl, hfs⟩ := DataW.trod_struct Tryz.underlying73 h3
    match cs', h5, h4, hfs with
    | [c0, c1], h5, h4, hfs =>
     have g0 : DataW.trod enc Tryz.prog w 0 spare held m 9 (([c0, c1].drop 0).take (Tryz.prog.cellsOf 9)) = xs[0]? := hfs 0 _ rfl;have g1 : DataW.trod enc Tryz.prog w 0 spare held m 9 (([c0, c1].drop 1).take (Tryz.prog.cellsOf 9)) = xs[1]? := hfs 1 _ rfl;rw [List.getElem?_eq_getElem (by rw [hxl]; decide)] at g0 g1;rw [cellsStr] at g0 g1
     obtain ⟨s0, e0, -, hs0⟩ := DataW.trod_string Tryz.underlying9 g0;obtain ⟨s1, e1, -, hs1⟩ := DataW.trod_string Tryz.underlying9 g1;simp at e0 e1;subst e0 e1;exact ⟨(s0, s1), by simpa [Addr.add] using h4 0 (by omega), by simpa using h4 1 (by omega), hs0, hs1⟩)
   refine ⟨_, (List.range len).map f, rfl, ⟨some a, cap, by simp, by simpa using hle, fun h0 => ?_⟩, ?_, ?_⟩
   · have hp : 0 < len := by simpa using h0
     have h1 := (hf 0 hp).1;rw [show a.add (0 * 2) = a by simp [Addr.add]] at h1;obtain ⟨b, o, rfl⟩ := row_place h1;refine ⟨b, o, rfl, fun j hj => ?_⟩;have hj' : j < len := by simpa using hj
     have h2 := hf j hj';rw [add_plain, add_plain] at h2;rw [h2.1, h2.2.1];simp
   · intro p hp
     simp only [List.mem_map, List.mem_range] at hp;obtain ⟨i, hi, rfl⟩ := hp;have := (hf i hi).2.2;unfold maxLen at this;omega
   · simp; unfold maxLen at hmx; omega
theorem dsAt_mk {S : Nat → Prop} : ∀ (l : List Mu.Val) (us : List Value), l.length = us.length → (∀ j (h : j < l.length) (h' : j < us.length), DAt w S l[j] us[j]) → DsAt w S l us
 | [], [], _, _ => by unfold DsAt; rfl
 | v :: l, u :: us, hl, h => by
  unfold DsAt;exact ⟨u, us, rfl, h 0 (by simp) (by simp), dsAt_mk l us (by simpa using hl) (fun j hj hj' => h (j + 1) (by simpa using hj) (by simpa using hj'))⟩
theorem rgL_mk : ∀ (l : List Mu.Val), (∀ x ∈ l, Mu.Rg x) → Mu.RgL l
 | [], _ => by simp only [Mu.RgL]
 | v :: l, h => by
  simp only [Mu.RgL];exact ⟨h v (by simp), rgL_mk l (fun x hx => h x (by simp [hx]))⟩
instance : Inhabited Mu.Val := ⟨Mu.Val.zero⟩
theorem dat_of : ∀ (fuel : Nat) (cs : List Value) (x : DataW H × List MemPlace), DataW.trod enc Tryz.prog w 0 spare held fuel 25 cs = some x →
 ∃ (v : Mu.Val) (x0 x1 x2 x3 x4 x5 : Value), cs = [x0, x1, x2, x3, x4, x5] ∧ DAt w (· < w.heap.size) v (.agg #[x0, x1, x2, x3, x4, x5]) ∧ Mu.Rg v := by
 intro fuel
 induction fuel using Nat.strongRecOn with
 | ind fuel IH =>
  intro cs x h;obtain ⟨xs, n, rfl, -, hl, hxl, hfs⟩ := DataW.trod_struct Tryz.underlying25 h;rw [cellsVal] at hl
  match cs, hl, hfs with
  | [c0, c1, c2, c3, c4, c5], hl, hfs =>
   have g0 : DataW.trod enc Tryz.prog w 0 spare held n 3 (([c0, c1, c2, c3, c4, c5].drop 0).take (Tryz.prog.cellsOf 3)) = xs[0]? := hfs 0 _ rfl;have g1 : DataW.trod enc Tryz.prog w 0 spare held n 9 (([c0, c1, c2, c3, c4, c5].drop 1).take (Tryz.prog.cellsOf 9)) = xs[1]? := hfs 1 _ rfl
   have g2 : DataW.trod enc Tryz.prog w 0 spare held n 2 (([c0, c1, c2, c3, c4, c5].drop 2).take (Tryz.prog.cellsOf 2)) = xs[2]? := hfs 2 _ rfl;have g3 : DataW.trod enc Tryz.prog w 0 spare held n 4 (([c0, c1, c2, c3, c4, c5].drop 3).take (Tryz.prog.cellsOf 4)) = xs[3]? := hfs 3 _ rfl
   have g4 : DataW.trod enc Tryz.prog w 0 spare held n 22 (([c0, c1, c2, c3, c4, c5].drop 4).take (Tryz.prog.cellsOf 22)) = xs[4]? := hfs 4 _ rfl;have g5 : DataW.trod enc Tryz.prog w 0 spare held n 23 (([c0, c1, c2, c3, c4, c5].drop 5).take (Tryz.prog.cellsOf 23)) = xs[5]? := hfs 5 _ rfl;rw [List.getElem?_eq_getElem (by rw [hxl]; decide)] at g0 g1 g2 g3 g4 g5;rw [cellsInt] at g0
   rw [cellsStr] at g1;rw [cellsI64] at g2;rw [cellsBool] at g3;rw [cellsSS] at g4;rw [cellsVS] at g5;obtain ⟨k, e0, -, -⟩ := DataW.trod_int Tryz.underlying3 g0;obtain ⟨s, e1, -, hs⟩ := DataW.trod_string Tryz.underlying9 g1;obtain ⟨i, e2, -, hi⟩ := DataW.trod_int Tryz.underlying2 g2;obtain ⟨b, e3, -⟩ := DataW.trod_bool Tryz.underlying4 g3;obtain ⟨kv, kbs, e4, hks, hkl⟩ := ks_of g4
   simp at e0 e1 e2 e3 e4;subst e0 e1 e2 e3 e4
   have hir : -9223372036854775808 ≤ i ∧ i ≤ 9223372036854775807 := by
    simp [Lit.wf, IntKind.min, IntKind.max, IntKind.signed, IntKind.bits] at hi;exact hi
   have hsl : (L s).length ≤ 9223372036854775807 := by rw [L_length]; unfold maxLen at hs; omega
   have key : ∃ (l : List Mu.Val) (us : List Value), VsAt w (· < w.heap.size) c5 us ∧ DsAt w (· < w.heap.size) l us ∧ Mu.RgL l := by
    rcases DataW.trod_slice Tryz.underlying23 g5 with ⟨e5, -⟩ | ⟨a, len, cap, elems, rest, m, rfl, e5, -, -, hle, hmx, hlen, hel, -, -⟩
    · simp at e5
      subst e5;exact ⟨[], [], ⟨none, 0, rfl, Nat.le_refl _, fun h => absurd h (by simp)⟩, by unfold DsAt; rfl, by simp only [Mu.RgL]⟩
    · simp at e5
      subst e5
      obtain ⟨f, hf⟩ := Deep.choose_lt (α := Mu.Val × Value) (p := fun i r => ∃ x0 x1 x2 x3 x4 x5, r.2 = .agg #[x0, x1, x2, x3, x4, x5] ∧ (∀ j, j < 6 → w.cell? ((a.add (i * 6)).add j) = [x0, x1, x2, x3, x4, x5][j]?) ∧ DAt w (· < w.heap.size) r.1 r.2 ∧ Mu.Rg r.1) (n := len) (fun i hi => by
       have h1 := hel i hi;rw [List.getElem?_eq_getElem (by omega), cellsVal] at h1;obtain ⟨cs', h2, h3⟩ := Option.bind_eq_some_iff.1 h1;obtain ⟨-, h5, h4⟩ := World.cells?_some h2;obtain ⟨v, x0, x1, x2, x3, x4, x5, rfl, hd, hr⟩ := IH m (by omega) _ _ h3;exact ⟨(v, _), x0, x1, x2, x3, x4, x5, rfl, h4, hd, hr⟩)
      refine ⟨(List.range len).map (fun i => (f i).1), (List.range len).map (fun i => (f i).2), ⟨some a, cap, by simp, by simpa using hle, fun h0 => ?_⟩, dsAt_mk _ _ (by simp) (fun j hj hj' => ?_), rgL_mk _ (fun x hx => ?_)⟩
      · have hp : 0 < len := by simpa using h0
        obtain ⟨x0, x1, x2, x3, x4, x5, -, h1, -⟩ := hf 0 hp;have h1 := h1 0 (by omega);rw [show (a.add (0 * 6)).add 0 = a by simp [Addr.add]] at h1;obtain ⟨b, o, rfl⟩ := row_place h1;refine ⟨b, o, rfl, cell_low h1, fun j hj => ?_⟩;have hj' : j < len := by simpa using hj
        obtain ⟨x0, x1, x2, x3, x4, x5, h2, h3, -⟩ := hf j hj';refine ⟨x0, x1, x2, x3, x4, x5, by simpa using h2, ?_, ?_, ?_, ?_, ?_, ?_⟩
        · have := h3 0 (by omega); rw [add_plain, add_plain] at this; exact this
        · have := h3 1 (by omega); rw [add_plain, add_plain] at this; exact this
        · have := h3 2 (by omega); rw [add_plain, add_plain] at this; exact this
        · have := h3 3 (by omega); rw [add_plain, add_plain] at this; exact this
        · have := h3 4 (by omega); rw [add_plain, add_plain] at this; exact this
        · have := h3 5 (by omega); rw [add_plain, add_plain] at this; exact this
      · have hj2 : j < len := by simpa using hj
        obtain ⟨x0, x1, x2, x3, x4, x5, -, -, h2, -⟩ := hf j hj2;simpa using h2
      · simp only [List.mem_map, List.mem_range] at hx
        obtain ⟨i, hi, rfl⟩ := hx;obtain ⟨x0, x1, x2, x3, x4, x5, -, -, -, h2⟩ := hf i hi;exact h2
   obtain ⟨l, us, hv, hd, hr⟩ := key;refine ⟨.mk k (L s) i b (kbs.map L) l, _, _, _, _, _, _, rfl, ?_, ?_⟩
   · unfold DAt
     exact ⟨s, _, c5, kbs, us, rfl, rfl, hks, rfl, hv, hd⟩
   · simp only [Mu.Rg]
     exact ⟨hsl, hir, hkl, hr⟩
theorem open_ctx {r : Reach} {b0 : Nat} {v : Value} {d : DataW H} {ps : List MemPlace} (hv : Value.okWide Tryz.prog w r b0 25 v) (h : DataW.Trod enc Tryz.prog w 0 spare held 25 v d ps) :
 ∃ x : Mu.Val, DAt w (· < w.heap.size) x v ∧ Mu.Rg x := by
 obtain ⟨cs, rfl, -⟩ := okWide_struct Tryz.underlying25 hv
 obtain ⟨fuel, hf⟩ := h
 obtain ⟨x, x0, x1, x2, x3, x4, x5, h1, h2, h3⟩ := dat_of fuel _ _ hf
 have : cs = #[x0, x1, x2, x3, x4, x5] := by
  apply Array.ext';simpa [Value.cells] using h1
 subst this
 exact ⟨x, h2, h3⟩
theorem open_parts {r : Reach} {b0 : Nat} {v : Value} {d : DataW H} {pl : List MemPlace} (hv : Value.okWide Tryz.prog w r b0 41 v) (h : DataW.Trod enc Tryz.prog w 0 spare held 41 v d pl) :
 ∃ ps, PsAt w v ps ∧ (∀ p ∈ ps, p.1.size ≤ 9223372036854775807 ∧ p.2.size ≤ 9223372036854775807) ∧ ps.length ≤ 9223372036854775807 := by
 obtain ⟨a, len, cap, rfl⟩ := okWide_slice Tryz.underlying41 hv
 obtain ⟨fuel, hf⟩ := h
 obtain ⟨pv, ps, h1, h2, h3⟩ := ps_of hf
 simp [Value.cells] at h1
 subst h1
 exact ⟨ps, h2, h3⟩
end
end Go.Proofs.YtfakghnpkdoclaaGreatDoor
