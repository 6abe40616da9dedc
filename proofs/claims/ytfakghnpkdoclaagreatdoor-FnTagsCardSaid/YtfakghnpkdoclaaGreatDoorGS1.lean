/-
  The specification's small functions. (Joined by wip/pack.py.)
-/
import Derived.Test.YtfakghnpkdoclaaGreatDoorGB1
import Derived.Test.YtfakghnpkdoclaaGreatDoorGP2
set_option linter.unusedVariables false
set_option linter.unusedSimpArgs false
set_option maxRecDepth 100000
set_option maxHeartbeats 8000000
namespace Go.Proofs.YtfakghnpkdoclaaGreatDoor
open Go.RowKit
open Go.Lib (hid)
structure Pa where
 s : ByteArray
 p : Nat
 deep : Nat
 o : ByteArray
 c : ByteArray
 bad : Bool
def PaAt (w : World) (b : Nat) (x : Pa) : Prop :=
 w.heap[b]? = some (.cells #[.string x.s, .int .i64 x.p, .int .i64 x.deep, .string x.o, .string x.c, .bool x.bad] 70 (0, 0))
theorem PaAt.cells {w : World} {b : Nat} {x : Pa} (h : PaAt w b x) :
 w.cell? ⟨b, 0, none⟩ = some (.string x.s) ∧ w.cell? ⟨b, 1, none⟩ = some (.int .i64 x.p) ∧ w.cell? ⟨b, 2, none⟩ = some (.int .i64 x.deep) ∧
 w.cell? ⟨b, 3, none⟩ = some (.string x.o) ∧ w.cell? ⟨b, 4, none⟩ = some (.string x.c) ∧ w.cell? ⟨b, 5, none⟩ = some (.bool x.bad) :=
 ⟨blk_cell h 0, blk_cell h 1, blk_cell h 2, blk_cell h 3, blk_cell h 4, blk_cell h 5⟩
theorem PaAt.free {w : World} {b : Nat} {x : Pa} (h : PaAt w b x) (i : Nat) : w.frozen? ⟨b, i, none⟩ = false := blk_free h i
theorem PaAt.fr {M : Nat → Prop} {w w' : World} {b : Nat} {x : Pa} (h : PaAt w b x) (hf : Fr M w w') (hm : ¬ M b) : PaAt w' b x := hf.blk h hm
theorem PaAt.fr0 {w w' : World} {b : Nat} {x : Pa} (h : PaAt w b x) (hf : F0 w w') : PaAt w' b x := hf.blk h id
theorem PaAt.sm {w w' : World} {b : Nat} {x : Pa} (h : PaAt w b x) (hs : Sm w w') : PaAt w' b x := by obtain ⟨n, rfl⟩ := hs; exact h
theorem PaAt.set1 {w : World} {b : Nat} {x : Pa} (h : PaAt w b x) (p : Nat) : PaAt (w.setCell ⟨b, 1, none⟩ (.int .i64 p)) b { x with p := p } := blk_set _ h
theorem PaAt.set2 {w : World} {b : Nat} {x : Pa} (h : PaAt w b x) (p : Nat) : PaAt (w.setCell ⟨b, 2, none⟩ (.int .i64 p)) b { x with deep := p } := blk_set _ h
theorem PaAt.set3 {w : World} {b : Nat} {x : Pa} (h : PaAt w b x) (o : ByteArray) : PaAt (w.setCell ⟨b, 3, none⟩ (.string o)) b { x with o := o } := blk_set _ h
theorem PaAt.set4 {w : World} {b : Nat} {x : Pa} (h : PaAt w b x) (o : ByteArray) : PaAt (w.setCell ⟨b, 4, none⟩ (.string o)) b { x with c := o } := blk_set _ h
theorem PaAt.set5 {w : World} {b : Nat} {x : Pa} (h : PaAt w b x) (v : Bool) : PaAt (w.setCell ⟨b, 5, none⟩ (.bool v)) b { x with bad := v } := blk_set _ h
theorem at_extract' {s pat : ByteArray} {k : Nat} : (s.extract k (k + pat.size)).toList = pat.toList ↔ Mu.At (L s) (L pat) k := by
 have h1 : (s.extract k (k + pat.size)).toList = Mu.sub (L s) k (k + pat.size) := by rw [← L_extract]; exact ByteArray.toList_eq _
 have h2 : pat.toList = L pat := ByteArray.toList_eq _
 rw [h1, h2]
 unfold Mu.At
 rw [List.prefix_iff_eq_take, Mu.sub, List.drop_take, L_length, Nat.add_sub_cancel_left]
 exact eq_comm
theorem begins_yes (b k : Nat) (x : Pa) (pat : ByteArray) (w : World) (hs : x.s.size ≤ 4294967296) (hx : PaAt w b x) (hle : k + pat.size ≤ x.s.size) (ha : Mu.At (L x.s) (L pat) k) :
 Calls Tryz.prog 94 #[.pointer (some ⟨b, 0, none⟩), .int .i64 k, .string pat] w (fun e w' => e = .returned (.bool true) ∧ w = w') := by
 obtain ⟨h0, -⟩ := hx.cells
 clear hx
 have hb : ((x.s.extract k (k + pat.size)).toList == pat.toList) = true := by rw [beq_iff_eq]; exact at_extract'.2 ha
 have z1 : (k : Int) ≤ (k : Int) + (pat.size : Int) := by omega
 have z2 : decide ((k : Int) + (pat.size : Int) ≤ (x.s.size : Int)) = true := by simp; omega
 clear ha
 go_enter Tryz.func94, Tryz.ntmps94
 go_wp2
 go_ret
 exact ⟨rfl, rfl⟩
theorem begins_no (b k : Nat) (x : Pa) (pat : ByteArray) (w : World) (hs : x.s.size ≤ 4294967296) (hx : PaAt w b x) (hle : k + pat.size ≤ x.s.size) (ha : ¬ Mu.At (L x.s) (L pat) k) :
 Calls Tryz.prog 94 #[.pointer (some ⟨b, 0, none⟩), .int .i64 k, .string pat] w (fun e w' => e = .returned (.bool false) ∧ w = w') := by
 obtain ⟨h0, -⟩ := hx.cells
 clear hx
 have hb : ((x.s.extract k (k + pat.size)).toList == pat.toList) = false := by rw [beq_eq_false_iff_ne]; exact fun h => ha (at_extract'.1 h)
 have z1 : (k : Int) ≤ (k : Int) + (pat.size : Int) := by omega
 have z2 : decide ((k : Int) + (pat.size : Int) ≤ (x.s.size : Int)) = true := by simp; omega
 clear ha
 go_enter Tryz.func94, Tryz.ntmps94
 go_wp2
 go_ret
 exact ⟨rfl, rfl⟩
def idxV (o : Option Nat) : Int := match o with | some k => k | none => -1
def FindPost (s pat : ByteArray) (p : Nat) (w : World) (e : Ending) (w' : World) : Prop := e = .returned (.int .i64 (idxV (Mu.find (L s) (L pat) p))) ∧ w = w'
theorem find_any (b p : Nat) (x : Pa) (pat : ByteArray) (w : World) (hs : x.s.size ≤ 4294967296) (hx : PaAt w b x) (hp : p ≤ x.s.size) (hpat : 0 < pat.size) (hpat2 : pat.size ≤ 4294967296) :
 Calls Tryz.prog 84 #[.pointer (some ⟨b, 0, none⟩), .int .i64 p, .string pat] w (FindPost x.s pat p w) := by
 have HX := hid hx
 obtain ⟨h0, -⟩ := hx.cells
 clear hx
 have HP0 := hid (show ∀ j, p ≤ j → j < p → ¬ Mu.At (L x.s) (L pat) j from fun j a b => absurd a (by omega))
 go_enter Tryz.func84, Tryz.ntmps84
 go_wp2_with fail
 go_loopg [7] (x.s.size + 2 - p) (fun g i wr => ∃ k : Nat, i = .int .i64 k ∧ p ≤ k ∧ k ≤ x.s.size + 1 ∧ g = x.s.size + 2 - k ∧ wr = w ∧ Hid (∀ j, p ≤ j → j < k → ¬ Mu.At (L x.s) (L pat) j))
 case atStart => exact ⟨p, rfl, by omega, by omega, by omega, rfl, HP0⟩
 case round =>
  obtain ⟨k, rfl, hpk, hk, rfl, rfl, HP⟩ := hrel
  by_cases hle : k + pat.size ≤ x.s.size
  · by_cases ha : Mu.At (L x.s) (L pat) k
    · have HF := hid (Mu.find_eq hpk ha HP.out)
      have HA := hid ha;clear ha;go_wp2_with fail;refine (begins_yes b k x pat _ hs HX.out hle HA.out).mono ?_;rintro e w' ⟨rfl, rfl⟩;go_wp2_with fail;go_ret;exact ⟨by rw [HF.out]; rfl, rfl⟩
    · have HP' : Hid (∀ j, p ≤ j → j < k + 1 → ¬ Mu.At (L x.s) (L pat) j) := hid (fun j h0 h1 h2 => by
       rcases Nat.lt_or_ge j k with h | h
       · exact HP.out j h0 h h2
       · obtain rfl : j = k := by omega
         exact ha h2)
      have HA := hid ha;clear ha;go_wp2_with fail;refine (begins_no b k x pat _ hs HX.out hle HA.out).mono ?_;rintro e w' ⟨rfl, rfl⟩;go_wp2_with fail
      go_roundg (x.s.size + 2 - (k + 1))
      case rel => exact ⟨k + 1, by go_num, by omega, by omega, by omega, rfl, HP'⟩
      case measure => omega
  · have HF : Hid (Mu.find (L x.s) (L pat) p = none) := hid (by
     refine Mu.find_eq_none fun j hj ha => ?_
     have h1 := ha.length_le;rw [List.length_drop, L_length, L_length] at h1
     rcases Nat.lt_or_ge j k with h | h
     · exact HP.out j hj h ha
     · omega)
    go_wp2_with fail;go_ret
    exact ⟨by rw [HF.out]; rfl, rfl⟩
theorem blank_any (c : UInt8) (w : World) : Calls Tryz.prog 85 #[.int .u8 c.toNat] w (fun e w' => e = .returned (.bool (Mu.blankB c)) ∧ w = w') := by
 have hb : Mu.blankB c = (((c.toNat : Int) == 32) || ((c.toNat : Int) == 9)) := by
  unfold Mu.blankB
  by_cases h1 : c = 32
  · subst h1; decide
  · by_cases h2 : c = 9
    · subst h2; decide
    · have e1 := byte_isnt (b := 32) h1
      have e2 := byte_isnt (b := 9) h2;rw [show ((32 : UInt8).toNat : Int) = 32 from rfl] at e1;rw [show ((9 : UInt8).toNat : Int) = 9 from rfl] at e2;rw [e1, e2]; simp [h1, h2]
 rw [hb]
 clear hb
 cases h1 : ((c.toNat : Int) == 32) with
 | true =>
  go_enter Tryz.func85, Tryz.ntmps85
  go_wp2
  go_ret;exact ⟨rfl, rfl⟩
 | false =>
  cases h2 : ((c.toNat : Int) == 9) with
  | true =>
   go_enter Tryz.func85, Tryz.ntmps85
   go_wp2
   go_ret;exact ⟨rfl, rfl⟩
  | false =>
   go_enter Tryz.func85, Tryz.ntmps85
   go_wp2
   go_ret;exact ⟨rfl, rfl⟩
end Go.Proofs.YtfakghnpkdoclaaGreatDoor
namespace Go.Proofs.YtfakghnpkdoclaaGreatDoor
open Go.RowKit
open Go.Lib (hid)
theorem wsB_split (c : UInt8) : Mu.wsB c = (Mu.blankB c || c == 10) := rfl
theorem L_cons (t : ByteArray) (h : 0 < t.size) : L t = t[0] :: L (t.extract 1 t.size) := by
 rw [L_extract, ← L_length, Mu.sub_to_end]
 have hl : 0 < (L t).length := h
 have := List.drop_eq_getElem_cons hl
 rw [List.drop_zero] at this
 rw [this]
 rfl
theorem L_snoc (t : ByteArray) (h : 0 < t.size) : L t = L (t.extract 0 (t.size - 1)) ++ [t[t.size - 1]] := by
 rw [L_extract]
 have hl : t.size - 1 < (L t).length := by rw [L_length]; omega
 have h1 := Mu.sub_snoc (L t) 0 (t.size - 1) (Nat.zero_le _) hl
 rw [show t.size - 1 + 1 = (L t).length by rw [L_length]; omega, Mu.sub_to_end, List.drop_zero] at h1
 rw [L_get t (t.size - 1) (by omega)] at h1
 exact h1
def TrimmedPost (s : ByteArray) (w : World) (e : Ending) (w' : World) : Prop := ∃ r : ByteArray, e = .returned (.string r) ∧ L r = Mu.trimBy Mu.wsB (L s) ∧ w = w'
theorem dw_step {t : ByteArray} (h : 0 < t.size) (hc : Mu.wsB t[0] = true) : (L (t.extract 1 t.size)).dropWhile Mu.wsB = (L t).dropWhile Mu.wsB := by
 rw [L_cons t h, List.dropWhile_cons, if_pos hc]
theorem dw_stop {t : ByteArray} (h : 0 < t.size) (hc : Mu.wsB t[0] = false) : (L t).dropWhile Mu.wsB = L t := by
 have e := L_cons t h
 rw [e, List.dropWhile_cons, if_neg (by rw [hc]; decide)]
theorem dw_nil {t : ByteArray} (h : ¬ 0 < t.size) : L t = [] := List.eq_nil_of_length_eq_zero (by rw [L_length]; omega)
theorem tr_step {t : ByteArray} (h : 0 < t.size) (hc : Mu.wsB t[t.size - 1] = true) : Mu.trimR Mu.wsB (L (t.extract 0 (t.size - 1))) = Mu.trimR Mu.wsB (L t) := by
 rw [L_snoc t h]
 unfold Mu.trimR
 rw [List.reverse_append, List.reverse_singleton, List.singleton_append, List.dropWhile_cons, if_pos hc]
theorem tr_stop {t : ByteArray} (h : 0 < t.size) (hc : Mu.wsB t[t.size - 1] = false) : Mu.trimR Mu.wsB (L t) = L t := by
 have e := L_snoc t h
 rw [e, Mu.trimR_snoc hc]
theorem trimmed_any (s : ByteArray) (w : World) (hs : s.size ≤ 4294967296) :
 Calls Tryz.prog 82 #[.string s] w (TrimmedPost s w) := by
 go_enter Tryz.func82, Tryz.ntmps82
 go_wp2_with fail
 go_loopg [0] s.size (fun g v wr => ∃ t : ByteArray, v = .string t ∧ t.size ≤ s.size ∧ g = t.size ∧ wr = w ∧ Hid ((L t).dropWhile Mu.wsB = (L s).dropWhile Mu.wsB))
 case atStart => exact ⟨s, rfl, Nat.le_refl _, rfl, rfl, hid rfl⟩
 case round =>
  obtain ⟨t, rfl, hts, rfl, rfl, HT⟩ := hrel
  by_cases h0 : 0 < t.size
  · have hsz : (t.extract 1 t.size).size = t.size - 1 := by rw [ByteArray.size_extract]; omega
    have z1 : (1 : Int) ≤ (t.size : Int) := by omega
    have HSZ := hid hsz;clear hsz
    cases hb : Mu.blankB t[0] with
    | true =>
     have HW := hid (dw_step h0 (by rw [wsB_split, hb]; rfl));go_wp2_with fail;refine (blank_any _ _).mono ?_;rintro e w' ⟨rfl, rfl⟩;go_wp2_with fail
     go_roundg (t.extract 1 t.size).size
     case rel => exact ⟨_, rfl, by rw [HSZ.out]; omega, rfl, rfl, hid (by rw [HW.out, HT.out])⟩
     case measure => rw [HSZ.out]; omega
    | false =>
     by_cases h10 : t[0] = 10
     · have HW := hid (dw_step h0 (by rw [wsB_split, hb, h10]; rfl))
       have b10 : ((t[0].toNat : Int) == 10) = true := byte_is (b := 10) h10;clear h10;go_wp2_with fail;refine (blank_any _ _).mono ?_;rintro e w' ⟨rfl, rfl⟩;go_wp2_with fail
       go_roundg (t.extract 1 t.size).size
       case rel => exact ⟨_, rfl, by rw [HSZ.out]; omega, rfl, rfl, hid (by rw [HW.out, HT.out])⟩
       case measure => rw [HSZ.out]; omega
     · have HW := hid (dw_stop h0 (by rw [wsB_split, hb]; simpa using h10))
       have b10 : ((t[0].toNat : Int) == 10) = false := byte_isnt (b := 10) h10;have HQ : Hid (L t = (L s).dropWhile Mu.wsB) := hid (by rw [← HT.out, HW.out]);clear h10 HW HT HSZ;go_wp2_with fail;refine (blank_any _ _).mono ?_;rintro e w' ⟨rfl, rfl⟩;go_wp2_with fail
       go_loopg [0] t.size (fun g v w2 => ∃ u : ByteArray, v = .string u ∧ u.size ≤ t.size ∧ g = u.size ∧ w2 = wr ∧ Hid (Mu.trimR Mu.wsB (L u) = Mu.trimR Mu.wsB (L t)))
       case atStart => exact ⟨t, rfl, Nat.le_refl _, rfl, rfl, hid rfl⟩
       case round =>
        obtain ⟨u, rfl, hus, rfl, rfl, HU⟩ := hrel
        by_cases h1 : 0 < u.size
        · obtain ⟨m, hm⟩ : ∃ m, u.size = m + 1 := ⟨u.size - 1, by omega⟩
          have hmm : ((u.size : Int) - 1) = (m : Int) := by omega
          have hm1 : m < u.size := by omega
          have hlast : u[u.size - 1]'(Nat.sub_lt h1 Nat.one_pos) = u[m] := by congr 1; omega
          have z2 : (m : Int) ≤ (u.size : Int) := by omega
          have hsz : (u.extract 0 m).size = m := by rw [ByteArray.size_extract]; omega
          have HSZ := hid hsz;have HMM : Hid (u.size - 1 = m) := hid (by omega);have HLAST := hid hlast;clear hsz hm hlast
          cases hb2 : Mu.blankB u[m] with
          | true =>
           have HW := hid (tr_step h1 (by rw [HLAST.out, wsB_split, hb2]; rfl));rw [HMM.out] at HW;go_wp2_with fail;refine (blank_any _ _).mono ?_;rintro e w' ⟨rfl, rfl⟩;go_wp2_with fail
           go_roundg m
           case rel => exact ⟨_, rfl, by rw [HSZ.out]; omega, HSZ.out.symm, rfl, hid (by rw [HW.out, HU.out])⟩
           case measure => omega
          | false =>
           by_cases h10 : u[m] = 10
           · have HW := hid (tr_step h1 (by rw [HLAST.out, wsB_split, hb2, h10]; rfl))
             rw [HMM.out] at HW;have b10' : ((u[m].toNat : Int) == 10) = true := byte_is (b := 10) h10;clear h10;go_wp2_with fail;refine (blank_any _ _).mono ?_;rintro e w' ⟨rfl, rfl⟩;go_wp2_with fail
             go_roundg m
             case rel => exact ⟨_, rfl, by rw [HSZ.out]; omega, HSZ.out.symm, rfl, hid (by rw [HW.out, HU.out])⟩
             case measure => omega
           · have HW := hid (tr_stop h1 (by rw [HLAST.out, wsB_split, hb2]; simpa using h10))
             have b10' : ((u[m].toNat : Int) == 10) = false := byte_isnt (b := 10) h10;have HR : Hid (L u = Mu.trimBy Mu.wsB (L s)) := hid (by rw [← HW.out, HU.out, HQ.out]; rfl);clear h10 HW HU HSZ;go_wp2_with fail;refine (blank_any _ _).mono ?_;rintro e w' ⟨rfl, rfl⟩;go_wp2_with fail;go_ret;exact ⟨u, rfl, HR.out, rfl⟩
        · have HR : Hid (L u = Mu.trimBy Mu.wsB (L s)) := hid (by
           have h2 := HU.out;have h3 := dw_nil h1;rw [h3, HQ.out] at h2;rw [h3]; exact h2)
          go_wp2_with fail;go_ret
          exact ⟨u, rfl, HR.out, rfl⟩
  · have HQ : Hid (L t = (L s).dropWhile Mu.wsB) := hid (by rw [← HT.out, dw_nil h0]; rfl)
    clear HT;go_wp2_with fail
    go_loopg [0] t.size (fun g v w2 => ∃ u : ByteArray, v = .string u ∧ u.size ≤ t.size ∧ g = u.size ∧ w2 = wr ∧ Hid (Mu.trimR Mu.wsB (L u) = Mu.trimR Mu.wsB (L t)))
    case atStart => exact ⟨t, rfl, Nat.le_refl _, rfl, rfl, hid rfl⟩
    case round =>
     obtain ⟨u, rfl, hus, rfl, rfl, HU⟩ := hrel
     by_cases h1 : 0 < u.size
     · obtain ⟨m, hm⟩ : ∃ m, u.size = m + 1 := ⟨u.size - 1, by omega⟩
       have hmm : ((u.size : Int) - 1) = (m : Int) := by omega
       have hm1 : m < u.size := by omega
       have hlast : u[u.size - 1]'(Nat.sub_lt h1 Nat.one_pos) = u[m] := by congr 1; omega
       have z2 : (m : Int) ≤ (u.size : Int) := by omega
       have hsz : (u.extract 0 m).size = m := by rw [ByteArray.size_extract]; omega
       have HSZ := hid hsz;have HMM : Hid (u.size - 1 = m) := hid (by omega);have HLAST := hid hlast;clear hsz hm hlast
       cases hb2 : Mu.blankB u[m] with
       | true =>
        have HW := hid (tr_step h1 (by rw [HLAST.out, wsB_split, hb2]; rfl));rw [HMM.out] at HW;go_wp2_with fail;refine (blank_any _ _).mono ?_;rintro e w' ⟨rfl, rfl⟩;go_wp2_with fail
        go_roundg m
        case rel => exact ⟨_, rfl, by rw [HSZ.out]; omega, HSZ.out.symm, rfl, hid (by rw [HW.out, HU.out])⟩
        case measure => omega
       | false =>
        by_cases h10 : u[m] = 10
        · have HW := hid (tr_step h1 (by rw [HLAST.out, wsB_split, hb2, h10]; rfl))
          rw [HMM.out] at HW;have b10' : ((u[m].toNat : Int) == 10) = true := byte_is (b := 10) h10;clear h10;go_wp2_with fail;refine (blank_any _ _).mono ?_;rintro e w' ⟨rfl, rfl⟩;go_wp2_with fail
          go_roundg m
          case rel => exact ⟨_, rfl, by rw [HSZ.out]; omega, HSZ.out.symm, rfl, hid (by rw [HW.out, HU.out])⟩
          case measure => omega
        · have HW := hid (tr_stop h1 (by rw [HLAST.out, wsB_split, hb2]; simpa using h10))
          have b10' : ((u[m].toNat : Int) == 10) = false := byte_isnt (b := 10) h10;have HR : Hid (L u = Mu.trimBy Mu.wsB (L s)) := hid (by rw [← HW.out, HU.out, HQ.out]; rfl);clear h10 HW HU HSZ;go_wp2_with fail;refine (blank_any _ _).mono ?_;rintro e w' ⟨rfl, rfl⟩;go_wp2_with fail;go_ret;exact ⟨u, rfl, HR.out, rfl⟩
     · have HR : Hid (L u = Mu.trimBy Mu.wsB (L s)) := hid (by
        have h2 := HU.out;have h3 := dw_nil h1;rw [h3, HQ.out] at h2;rw [h3]; exact h2)
       go_wp2_with fail;go_ret
       exact ⟨u, rfl, HR.out, rfl⟩
end Go.Proofs.YtfakghnpkdoclaaGreatDoor
namespace Go.Proofs.YtfakghnpkdoclaaGreatDoor
open Go.RowKit
open Go.Lib (hid)
theorem all_of {s : ByteArray} {f : UInt8 → Bool} (h : ∀ j (hj : j < s.size), f s[j] = true) : (L s).all f = true := by
 rw [List.all_eq_true]
 intro x hx
 obtain ⟨j, hj, rfl⟩ := List.getElem_of_mem hx
 exact h j hj
theorem all_not {s : ByteArray} {f : UInt8 → Bool} {k : Nat} (hk : k < s.size) (h : f s[k] = false) : (L s).all f = false := by
 rw [List.all_eq_false]
 exact ⟨s[k], List.getElem_mem (l := L s) hk, by rw [h]; decide⟩
def BoolPost (b : Bool) (w : World) (e : Ending) (w' : World) : Prop := e = .returned (.bool b) ∧ w = w'
theorem lower_iff (c : UInt8) : Mu.lower c = (decide (97 ≤ (c.toNat : Int)) && decide ((c.toNat : Int) ≤ 122)) := by
 unfold Mu.lower
 rw [Bool.eq_iff_iff]
 simp [UInt8.le_iff_toNat_le]
 omega
theorem wordOk_any (s : ByteArray) (w : World) (hs : s.size ≤ 4294967296) :
 Calls Tryz.prog 46 #[.string s] w (BoolPost (Mu.wordOk (L s)) w) := by
 go_enter Tryz.func46, Tryz.ntmps46
 go_wp2_with fail
 go_loopg [3] s.size (fun g v wr => ∃ k : Nat, v = .int .i64 k ∧ k ≤ s.size ∧ g = s.size - k ∧ wr = w ∧ Hid (∀ j (hj : j < s.size), j < k → Mu.lower s[j] = true))
 case atStart => exact ⟨0, rfl, Nat.zero_le _, rfl, rfl, hid (fun j _ h => absurd h (by omega))⟩
 case round =>
  obtain ⟨k, rfl, hk, rfl, rfl, HK⟩ := hrel
  by_cases hlt : k < s.size
  · by_cases h1 : (s[k].toNat : Int) < 97
    · have HF : Hid (Mu.wordOk (L s) = false) := hid (by
       unfold Mu.wordOk;rw [all_not hlt (f := Mu.lower) (by rw [lower_iff]; simp; omega)]; rfl)
      go_wp2_with fail;go_ret
      unfold BoolPost;rw [HF.out];exact ⟨rfl, rfl⟩
    · by_cases h2 : (s[k].toNat : Int) > 122
      · have HF : Hid (Mu.wordOk (L s) = false) := hid (by
         unfold Mu.wordOk;rw [all_not hlt (f := Mu.lower) (by rw [lower_iff]; simp; omega)]; rfl)
        have e1 : decide ((s[k].toNat : Int) < 97) = false := by simpa using h1
        clear h1;go_wp2_with fail;go_ret;unfold BoolPost;rw [HF.out];exact ⟨rfl, rfl⟩
      · have HK' : Hid (∀ j (hj : j < s.size), j < k + 1 → Mu.lower s[j] = true) := hid (fun j hj hj2 => by
         rcases Nat.lt_or_ge j k with h | h
         · exact HK.out j hj h
         · obtain rfl : j = k := by omega
           rw [lower_iff]; simp; omega)
        have e1 : decide ((s[k].toNat : Int) < 97) = false := by simpa using h1
        have e2 : decide ((122 : Int) < (s[k].toNat : Int)) = false := by simpa using h2
        clear h1 h2;go_wp2_with fail
        go_roundg (s.size - (k + 1))
        case rel => exact ⟨k + 1, by go_num, by omega, rfl, rfl, HK'⟩
        case measure => omega
  · have HA : Hid ((L s).all Mu.lower = true) := hid (all_of (fun j hj => HK.out j hj (by omega)))
    by_cases h0 : 0 < s.size
    · by_cases h8 : s.size ≤ 8
      · have HF : Hid (Mu.wordOk (L s) = true) := hid (by
         unfold Mu.wordOk;rw [HA.out, L_length]; simp; omega)
        go_wp2_with fail;go_ret
        unfold BoolPost;rw [HF.out];exact ⟨by simp; omega, rfl⟩
      · have HF : Hid (Mu.wordOk (L s) = false) := hid (by
         unfold Mu.wordOk;rw [HA.out, L_length]; simp; omega)
        go_wp2_with fail;go_ret
        unfold BoolPost;rw [HF.out];exact ⟨by simp; omega, rfl⟩
    · have HF : Hid (Mu.wordOk (L s) = false) := hid (by
       unfold Mu.wordOk;rw [HA.out, L_length]; simp; omega)
      go_wp2_with fail;go_ret
      unfold BoolPost;rw [HF.out];exact ⟨by first | rfl | (simp; omega), rfl⟩
def signsB (l : Mu.B) : Bool := l.all Mu.signB && decide (l.length ≤ 400)
theorem signB_iff (c : UInt8) : Mu.signB c = ((decide (32 ≤ (c.toNat : Int)) && decide ((c.toNat : Int) ≤ 126)) || decide ((c.toNat : Int) = 10)) := by
 unfold Mu.signB
 rw [Bool.eq_iff_iff]
 simp [UInt8.le_iff_toNat_le, ← UInt8.toNat_inj]
 omega
theorem signsB_true {l : Mu.B} (h : signsB l = true) : Mu.signs l ∧ l.length ≤ 400 := by
 unfold signsB at h
 simp only [Bool.and_eq_true, decide_eq_true_eq, List.all_eq_true] at h
 exact h
theorem signsOk_any (s : ByteArray) (w : World) (hs : s.size ≤ 4294967296) :
 Calls Tryz.prog 75 #[.string s] w (BoolPost (signsB (L s)) w) := by
 go_enter Tryz.func75, Tryz.ntmps75
 go_wp2_with fail
 go_loopg [3] s.size (fun g v wr => ∃ k : Nat, v = .int .i64 k ∧ k ≤ s.size ∧ g = s.size - k ∧ wr = w ∧ Hid (∀ j (hj : j < s.size), j < k → Mu.signB s[j] = true))
 case atStart => exact ⟨0, rfl, Nat.zero_le _, rfl, rfl, hid (fun j _ h => absurd h (by omega))⟩
 case round =>
  obtain ⟨k, rfl, hk, rfl, rfl, HK⟩ := hrel
  by_cases hlt : k < s.size
  · have HK' : Mu.signB s[k] = true → Hid (∀ j (hj : j < s.size), j < k + 1 → Mu.signB s[j] = true) := fun hsk => hid (fun j hj hj2 => by
     rcases Nat.lt_or_ge j k with h | h
     · exact HK.out j hj h
     · obtain rfl : j = k := by omega
       exact hsk)
    have HKK := hid HK';clear HK'
    by_cases h10 : (s[k].toNat : Int) = 10
    · have HN := HKK.out (by rw [signB_iff, h10]; decide)
      have e0 : decide ((s[k].toNat : Int) < 32) = true := by rw [h10]; decide
      have e3 : ((s[k].toNat : Int) != 10) = false := by rw [h10]; decide
      clear HKK h10;go_wp2_with fail
      go_roundg (s.size - (k + 1))
      case rel => exact ⟨k + 1, by go_num, by omega, rfl, rfl, HN⟩
      case measure => omega
    · have e3 : ((s[k].toNat : Int) != 10) = true := by simpa using h10
      by_cases h1 : (s[k].toNat : Int) < 32
      · have HF : Hid (signsB (L s) = false) := hid (by
         unfold signsB;rw [all_not hlt (f := Mu.signB) (by rw [signB_iff]; simp; omega)]; rfl)
        clear HKK h10;go_wp2_with fail;go_ret;unfold BoolPost;rw [HF.out];exact ⟨rfl, rfl⟩
      · have e1 : decide ((s[k].toNat : Int) < 32) = false := by simpa using h1
        by_cases h2 : (s[k].toNat : Int) > 126
        · have HF : Hid (signsB (L s) = false) := hid (by
           unfold signsB;rw [all_not hlt (f := Mu.signB) (by rw [signB_iff]; simp; omega)]; rfl)
          clear h1 HKK h10;go_wp2_with fail;go_ret;unfold BoolPost;rw [HF.out];exact ⟨rfl, rfl⟩
        · have HN := HKK.out (by rw [signB_iff]; simp; omega)
          have e2 : decide ((126 : Int) < (s[k].toNat : Int)) = false := by simpa using h2
          clear h1 h2 HKK h10;go_wp2_with fail
          go_roundg (s.size - (k + 1))
          case rel => exact ⟨k + 1, by go_num, by omega, rfl, rfl, HN⟩
          case measure => omega
  · have HA : Hid ((L s).all Mu.signB = true) := hid (all_of (fun j hj => HK.out j hj (by omega)))
    have HF : Hid (signsB (L s) = decide ((s.size : Int) ≤ 400)) := hid (by
     unfold signsB;rw [HA.out, L_length, Bool.true_and]
     simp; omega)
    go_wp2_with fail;go_ret
    unfold BoolPost;rw [HF.out];exact ⟨rfl, rfl⟩
end Go.Proofs.YtfakghnpkdoclaaGreatDoor
namespace Go.Proofs.YtfakghnpkdoclaaGreatDoor
open Go.RowKit
open Go.Lib (hid)
theorem infoStr : (Tryz.prog.info? 9).map (fun i => (i.zero, i.size, i.bytes)) = some (some (.string ⟨#[]⟩), 1, 16) := by kernel_rfl
theorem one_new0 (w : World) (u : Value) (T : TypeId) {n : Nat} (hn : n = w.heap.size) : ∀ (j : Nat) (v : Value), [u][j]? = some v → (w.alloc (.cells #[u] T)).cell? ((⟨n, 0, none⟩ : Addr).add j) = some v := by
 subst hn
 exact cell_one_new w u T
theorem ownsRow_new (w : World) (e : TypeId) (size : Nat) : (w.alloc (.cells #[] e)).ownsRow w.heap.size e size (.slice (some ⟨w.heap.size, 0, none⟩) 0 0) 0 [] :=
 ⟨by simp, .inr ⟨w.heap.size, 0, #[], rfl, Nat.le_refl _, blk_new _ _, Nat.le_refl _, Nat.zero_le _, by simp, by simp⟩⟩
theorem grown_f0 {w0 w w' : World} {r : Option Nat} (h : F0 w0 w) (hg : w.grownBy w' r) (hr : ∀ k, r = some k → w0.heap.size ≤ k) : F0 w0 w' := by
 have h1 : Fr (fun k => r = some k) w w' := Fr.grown hg (fun k hk => .inl hk)
 exact h.trans' h1 (fun i hi hm => by have := hr i hm; omega)
theorem own_base {w : World} {B e s n : Nat} {v : Value} {xs : List Value} (h : w.ownsRow B e s v n xs) : ∀ k, v.ownBlock = some k → B ≤ k := fun k hk => (h.lt k hk).1
def WordsPost (s : ByteArray) (w : World) (e : Ending) (w' : World) : Prop :=
 ∃ (bs : List ByteArray) (v : Value), e = .returned v ∧ bs.map L = Mu.words (L s) ∧ w'.ownsRow w.heap.size 9 1 v bs.length (bs.map .string) ∧ F0 w w'
structure WordsInv (s : ByteArray) (w0 : World) (k f : Nat) (bs : List ByteArray) (v : Value) (wr : World) : Prop where
 fk : f ≤ k
 ks : k ≤ s.size + 1
 ln : bs.length ≤ k
 own : wr.ownsRow w0.heap.size 9 1 v bs.length (bs.map .string)
 fr : F0 w0 wr
 go : k ≤ s.size → bs.map L ++ Mu.wordsL (Mu.sub (L s) f k) ((L s).drop k) = Mu.words (L s)
 fin : k = s.size + 1 → bs.map L = Mu.words (L s)
theorem words_any (s : ByteArray) (w : World) (hs : s.size ≤ 4294967296) :
 Calls Tryz.prog 79 #[.string s] w (WordsPost s w) := by
 obtain ⟨i0, hi, hz0, hz1, hz2⟩ := info_parts infoStr
 go_enter Tryz.func79, Tryz.ntmps79
 go_wp2_with fail
 go_loopg [3, 4, 5] (s.size + 2) (fun g v fv iv wr => ∃ (k f : Nat) (bs : List ByteArray), iv = .int .i64 k ∧ fv = .int .i64 f ∧ g = s.size + 2 - k ∧ k ≤ s.size + 1 ∧ f ≤ k ∧ bs.length ≤ k ∧ Hid (WordsInv s w k f bs v wr))
 case atStart =>
  refine ⟨0, 0, [], rfl, rfl, rfl, by omega, by omega, by simp, hid ⟨Nat.le_refl _, by omega, by simp, ownsRow_new w _ _, Fr.alloc _ _ _, fun _ => ?_, fun h => by omega⟩⟩;rw [Mu.sub_self]; rfl
 case round =>
  obtain ⟨k, f, bs, rfl, rfl, rfl, hk, hf, hbl, HI⟩ := hrel
  by_cases hks : k ≤ s.size
  · by_cases he : k = s.size
    · subst he
      have HN : Hid (∀ v' w', w'.ownsRow w.heap.size 9 1 v' (bs.length + 1) (bs.map .string ++ [.string (s.extract f s.size)]) → F0 w w' → WordsInv s w (s.size + 1) (s.size + 1) (bs ++ [s.extract f s.size]) v' w') := hid (fun v' w' ho hf0 => by
       refine ⟨Nat.le_refl _, by omega, by simp; omega, by simpa using ho, hf0, fun h => by omega, fun _ => ?_⟩;have h := HI.out.go (Nat.le_refl _);rw [← h, List.drop_of_length_le (by rw [L_length]; omega), List.map_append, List.map_singleton, L_extract]
       rfl)
      have hfs : (f : Int) ≤ (s.size : Int) := by omega
      go_wp2_with (at_builtin; refine wpList_append_own_at _ rfl _ _ 22 rfl w.heap.size 9 i0 (.string ⟨#[]⟩) 1 16 Tryz.underlying22 hi hz0 hz1 hz2 rfl (by decide) u3 bs.length (bs.map .string) rfl ?own ⟨_, 0, none⟩ 1 1 [.string (s.extract f s.size)] rfl rfl ?c1 ?c2 ?c3 ?c4 ?c5 ?_)
      case own => exact HI.out.own.alloc _
      case c1 => exact one_new0 _ _ _ rfl
      case c2 => intro v hv; rw [List.mem_singleton.1 hv]; rfl
      case c3 => unfold maxLen; omega
      case c4 => omega
      case c5 => have := HI.out.fr.size; simp; omega
      intro v' w2 hown hgrow _ _;have HW := hid (HN.out v' w2 hown (grown_f0 (HI.out.fr.trans (Fr.alloc _ _ _)) hgrow (own_base HI.out.own)));clear hown hgrow;go_wp2_with fail
      go_roundg (s.size + 2 - (s.size + 1))
      case rel => exact ⟨s.size + 1, s.size + 1, _, by go_num, by go_num, rfl, by omega, by omega, by simp; omega, HW⟩
      case measure => omega
    · have hlt : k < s.size := by omega
      have hne : ((k : Int) == (s.size : Int)) = false := by simp; omega
      have hdrop : (L s).drop k = s[k] :: (L s).drop (k + 1) := by
       rw [List.drop_eq_getElem_cons (by rw [L_length]; exact hlt)]; rfl
      by_cases h46 : s[k] = 46
      · have HN : Hid (∀ v' w', w'.ownsRow w.heap.size 9 1 v' (bs.length + 1) (bs.map .string ++ [.string (s.extract f k)]) → F0 w w' → WordsInv s w (k + 1) (k + 1) (bs ++ [s.extract f k]) v' w') := hid (fun v' w' ho hf0 => by
         refine ⟨Nat.le_refl _, by omega, by simp; omega, by simpa using ho, hf0, fun h => ?_, fun h => by omega⟩;have h := HI.out.go (by omega);rw [← h, hdrop, List.map_append, List.map_singleton, L_extract, Mu.sub_self];simp only [Mu.wordsL, h46, if_true, List.append_assoc, List.singleton_append])
        have b46 : ((s[k].toNat : Int) == 46) = true := byte_is (b := 46) h46;have hfs : (f : Int) ≤ (k : Int) := by omega
        clear h46 hdrop
        go_wp2_with (at_builtin; refine wpList_append_own_at _ rfl _ _ 22 rfl w.heap.size 9 i0 (.string ⟨#[]⟩) 1 16 Tryz.underlying22 hi hz0 hz1 hz2 rfl (by decide) u3 bs.length (bs.map .string) rfl ?own ⟨_, 0, none⟩ 1 1 [.string (s.extract f k)] rfl rfl ?c1 ?c2 ?c3 ?c4 ?c5 ?_)
        case own => exact HI.out.own.alloc _
        case c1 => exact one_new0 _ _ _ rfl
        case c2 => intro v hv; rw [List.mem_singleton.1 hv]; rfl
        case c3 => unfold maxLen; omega
        case c4 => omega
        case c5 => have := HI.out.fr.size; simp; omega
        intro v' w2 hown hgrow _ _;have HW := hid (HN.out v' w2 hown (grown_f0 (HI.out.fr.trans (Fr.alloc _ _ _)) hgrow (own_base HI.out.own)));clear hown hgrow;go_wp2_with fail
        go_roundg (s.size + 2 - (k + 1))
        case rel => exact ⟨k + 1, k + 1, _, by go_num, by go_num, rfl, by omega, by omega, by simp; omega, HW⟩
        case measure => omega
      · have HN : Hid (WordsInv s w (k + 1) f bs u3 wr) := hid (by
         refine ⟨by omega, by omega, by omega, HI.out.own, HI.out.fr, fun h => ?_, fun h => by omega⟩;have h := HI.out.go (by omega);rw [← h, hdrop];simp only [Mu.wordsL, h46, if_false];rw [Mu.sub_snoc _ _ _ hf (by rw [L_length]; exact hlt), L_get _ _ hlt])
        have b46 : ((s[k].toNat : Int) == 46) = false := byte_isnt (b := 46) h46;clear h46 hdrop;go_wp2_with fail
        go_roundg (s.size + 2 - (k + 1))
        case rel => exact ⟨k + 1, f, bs, by go_num, rfl, rfl, by omega, by omega, by omega, HN⟩
        case measure => omega
  · go_wp2_with fail
    go_ret;exact ⟨bs, _, rfl, HI.out.fin (by omega), HI.out.own, HI.out.fr⟩
theorem words_pos (l : Mu.B) : 0 < (Mu.words l).length := by
 obtain ⟨w, ws, h, -⟩ := Mu.wordsL_head [] l
 unfold Mu.words
 rw [h]; simp
theorem words_mem {acc l x : Mu.B} : x ∈ Mu.wordsL acc l → x.length ≤ acc.length + l.length := by
 induction l generalizing acc with
 | nil => intro h; simp [Mu.wordsL] at h; subst h; simp
 | cons c l ih =>
  intro h;unfold Mu.wordsL at h
  split at h
  · rcases List.mem_cons.1 h with rfl | h
    · omega
    · have := ih h; simp at this ⊢; omega
  · have := ih h; simp at this ⊢; omega
theorem own_read {w : World} {B e n : Nat} {v : Value} {xs : List Value} (h : w.ownsRow B e 1 v n xs) (hn : 0 < n) : ∃ g c, v = .slice (some ⟨g, 0, none⟩) n c ∧ B ≤ g ∧ n ≤ c ∧ ∀ j (hj : j < xs.length), w.cell? ⟨g, j, none⟩ = some xs[j] := by
 rcases h.2 with ⟨_, h0⟩ | ⟨g, cap, cur, h1, h2, _, h4, _⟩
 · omega
 · refine ⟨g, cap, h1, h2, h4, fun j hj => ?_⟩
   have := h.cells (g := g) (by rw [h1]; rfl) j _ (List.getElem?_eq_getElem hj);have ha : (⟨g, 0, none⟩ : Addr).add j = ⟨g, j, none⟩ := by unfold Addr.add; split <;> simp_all
   rwa [ha] at this
def BoolPost0 (b : Bool) (w : World) (e : Ending) (w' : World) : Prop := e = .returned (.bool b) ∧ F0 w w'
theorem nameOk_any (s : ByteArray) (w : World) (hs : s.size ≤ 4294967296) :
 Calls Tryz.prog 68 #[.string s] w (BoolPost0 (Mu.nameOk (L s)) w) := by
 by_cases hp : L s = [46]
 · have hb : (s.toList == [46]) = true := by rw [beq_iff_eq, ByteArray.toList_eq]; exact hp
   have HF : Hid (Mu.nameOk (L s) = true) := hid (by unfold Mu.nameOk; rw [hp]; rfl);clear hp;go_enter Tryz.func68, Tryz.ntmps68;go_wp2_with fail;go_ret;unfold BoolPost0;rw [HF.out];exact ⟨rfl, Fr.refl _ _⟩
 · have hb : (s.toList == [46]) = false := by rw [beq_eq_false_iff_ne, ByteArray.toList_eq]; exact hp
   have HF : Hid (Mu.nameOk (L s) = ((Mu.words (L s)).all Mu.wordOk && decide ((Mu.words (L s)).length ≤ 3))) := hid (by
    unfold Mu.nameOk;rw [beq_eq_false_iff_ne.2 hp, Bool.false_or])
   clear hp;go_enter Tryz.func68, Tryz.ntmps68;go_wp2_with fail;refine (words_any s _ hs).mono ?_;rintro e w1 ⟨bs, v, rfl, hbs, hown, hf⟩
   have hlen : 0 < bs.length := by
    have := words_pos (L s); rw [← hbs] at this; simpa using this
   have hsz : ∀ (j : Nat) (hj : j < bs.length), bs[j].size ≤ 4294967296 := fun j hj => by
    have hm : L bs[j] ∈ Mu.words (L s) := by rw [← hbs]; exact List.mem_map_of_mem (List.getElem_mem hj)
    have := words_mem hm;rw [L_length, L_length] at this; simp at this; omega
   have hl2 : bs.length ≤ 4294967298 := by
    have : ∀ acc l, (Mu.wordsL acc l).length ≤ l.length + 1 := by
     intro acc l
     induction l generalizing acc with
     | nil => simp [Mu.wordsL]
     | cons c l ih =>
      unfold Mu.wordsL;split
      · have := ih []; simp; omega
      · have := ih (acc ++ [c]); simp; omega
    have h := this [] (L s);rw [show Mu.wordsL [] (L s) = Mu.words (L s) from rfl, ← hbs, List.length_map, L_length] at h;omega
   obtain ⟨g, cp, rfl, hg, hcp, hcell⟩ := own_read hown hlen;have HB := hid hbs
   have HC : Hid (∀ (j : Nat) (hj : j < bs.length), w1.cell? ⟨g, j, none⟩ = some (.string bs[j])) := hid (fun j hj => by
    have := hcell j (by simpa using hj);rw [this, List.getElem_map])
   have HFR := hid hf;have HSZ := hid hsz;clear hbs hown hf hcell hsz hg;go_wp2_with fail
   go_loopg [12] bs.length (fun g v wr => ∃ k : Nat, v = .int .i64 k ∧ k ≤ bs.length ∧ g = bs.length - k ∧ wr = w1 ∧ Hid (∀ j (hj : j < bs.length), j < k → Mu.wordOk (L bs[j]) = true))
   case atStart => exact ⟨0, rfl, Nat.zero_le _, rfl, rfl, hid (fun j _ h => absurd h (by omega))⟩
   case round =>
    obtain ⟨k, rfl, hk, rfl, rfl, HK⟩ := hrel
    by_cases hlt : k < bs.length
    · have hc := HC.out k hlt
      have hz := HSZ.out k hlt
      cases hw : Mu.wordOk (L bs[k]) with
      | true =>
       have HK' : Hid (∀ j (hj : j < bs.length), j < k + 1 → Mu.wordOk (L bs[j]) = true) := hid (fun j hj hj2 => by
        rcases Nat.lt_or_ge j k with h | h
        · exact HK.out j hj h
        · obtain rfl : j = k := by omega
          exact hw)
       have HW := hid hw;clear hw;go_wp2_with fail;refine (wordOk_any _ _ hz).mono ?_;intro e w' hpost;unfold BoolPost at hpost;rw [HW.out] at hpost;obtain ⟨rfl, rfl⟩ := hpost;go_wp2_with fail
       go_roundg (bs.length - (k + 1))
       case rel => exact ⟨k + 1, by go_num, by omega, rfl, rfl, HK'⟩
       case measure => omega
      | false =>
       have HFF : Hid (Mu.nameOk (L s) = false) := hid (by
        rw [HF.out, List.all_eq_false.2 ⟨L bs[k], by rw [← HB.out]; exact List.mem_map_of_mem (List.getElem_mem hlt), by rw [hw]; decide⟩]; rfl)
       have HW := hid hw;clear hw;go_wp2_with fail;refine (wordOk_any _ _ hz).mono ?_;intro e w' hpost;unfold BoolPost at hpost;rw [HW.out] at hpost;obtain ⟨rfl, rfl⟩ := hpost;go_wp2_with fail;go_ret;unfold BoolPost0;rw [HFF.out];exact ⟨rfl, HFR.out⟩
    · have HFF : Hid (Mu.nameOk (L s) = decide ((bs.length : Int) ≤ 3)) := hid (by
       rw [HF.out, ← HB.out]
       have : (bs.map L).all Mu.wordOk = true := by
        rw [List.all_eq_true];intro x hx;obtain ⟨b, hb, rfl⟩ := List.mem_map.1 hx;obtain ⟨j, hj, rfl⟩ := List.getElem_of_mem hb;exact HK.out j hj (by omega)
       rw [this, Bool.true_and, List.length_map]
       simp; omega)
      go_wp2_with fail;go_ret
      unfold BoolPost0;rw [HFF.out];exact ⟨rfl, HFR.out⟩
end Go.Proofs.YtfakghnpkdoclaaGreatDoor
