/-
  The specification's reader: begins, find, blank, trimmed.
-/
import Derived.Test.YtfakghnpkdoclaaDoorBase
set_option linter.unusedVariables false
set_option linter.unusedSimpArgs false
namespace Go.Proofs.YtfakghnpkdoclaaDoor
open Go.RowKit

/-- the specification's reader in memory -/
structure Pa where
  s : ByteArray
  p : Nat
  deep : Nat
  o : ByteArray
  c : ByteArray
  bad : Bool
def PaAt (w : World) (b : Nat) (x : Pa) : Prop :=
  w.heap[b]? = some (.cells #[.string x.s, .int .i64 x.p, .int .i64 x.deep, .string x.o, .string x.c, .bool x.bad] 37 (0, 0))
theorem PaAt.cells {w : World} {b : Nat} {x : Pa} (h : PaAt w b x) :
    w.cell? ⟨b, 0, none⟩ = some (.string x.s) ∧ w.cell? ⟨b, 1, none⟩ = some (.int .i64 x.p) ∧ w.cell? ⟨b, 2, none⟩ = some (.int .i64 x.deep) ∧
    w.cell? ⟨b, 3, none⟩ = some (.string x.o) ∧ w.cell? ⟨b, 4, none⟩ = some (.string x.c) ∧ w.cell? ⟨b, 5, none⟩ = some (.bool x.bad) :=
  ⟨blk_cell h 0, blk_cell h 1, blk_cell h 2, blk_cell h 3, blk_cell h 4, blk_cell h 5⟩
theorem PaAt.free {w : World} {b : Nat} {x : Pa} (h : PaAt w b x) (i : Nat) : w.frozen? ⟨b, i, none⟩ = false := blk_free h i
theorem PaAt.fr {M : Nat → Prop} {w w' : World} {b : Nat} {x : Pa} (h : PaAt w b x) (hf : Fr M w w') (hm : ¬ M b) : PaAt w' b x := hf.blk h hm
theorem PaAt.fr0 {w w' : World} {b : Nat} {x : Pa} (h : PaAt w b x) (hf : F0 w w') : PaAt w' b x := hf.blk h id
theorem PaAt.sm {w w' : World} {b : Nat} {x : Pa} (h : PaAt w b x) (hs : Sm w w') : PaAt w' b x := by obtain ⟨n, rfl⟩ := hs; exact h
theorem PaAt.set1 {w : World} {b : Nat} {x : Pa} (h : PaAt w b x) (p : Nat) : PaAt (w.setCell ⟨b, 1, none⟩ (.int .i64 p)) b { x with p := p } := blk_set _ h
theorem PaAt.set2 {w : World} {b : Nat} {x : Pa} (h : PaAt w b x) (p : Nat) : PaAt (w.setCell ⟨b, 2, none⟩ (.int .i64 p)) b { x with deep := p } := blk_set _ h
theorem PaAt.set3 {w : World} {b : Nat} {x : Pa} (h : PaAt w b x) (o : ByteArray) : PaAt (w.setCell ⟨b, 3, none⟩ (.string o)) b { x with o := o } := blk_set _ h
theorem PaAt.set4 {w : World} {b : Nat} {x : Pa} (h : PaAt w b x) (o : ByteArray) : PaAt (w.setCell ⟨b, 4, none⟩ (.string o)) b { x with c := o } := blk_set _ h
theorem PaAt.set5 {w : World} {b : Nat} {x : Pa} (h : PaAt w b x) (v : Bool) : PaAt (w.setCell ⟨b, 5, none⟩ (.bool v)) b { x with bad := v } := blk_set _ h

theorem at_extract' {s pat : ByteArray} {k : Nat} : (s.extract k (k + pat.size)).toList = pat.toList ↔ Mu.At (L s) (L pat) k := by
  have h1 : (s.extract k (k + pat.size)).toList = Mu.sub (L s) k (k + pat.size) := by rw [← L_extract]; exact ByteArray.toList_eq _
  have h2 : pat.toList = L pat := ByteArray.toList_eq _
  rw [h1, h2]
  unfold Mu.At
  rw [List.prefix_iff_eq_take, Mu.sub, List.drop_take, L_length, Nat.add_sub_cancel_left]
  exact eq_comm

set_option maxRecDepth 100000 in
set_option maxHeartbeats 1000000 in
theorem begins_yes (b k : Nat) (x : Pa) (pat : ByteArray) (w : World) (hs : x.s.size ≤ 4294967296) (hx : PaAt w b x) (hle : k + pat.size ≤ x.s.size) (ha : Mu.At (L x.s) (L pat) k) :
    Calls Tryd.prog 27 #[.pointer (some ⟨b, 0, none⟩), .int .i64 k, .string pat] w (fun e w' => e = .returned (.bool true) ∧ w = w') := by
  obtain ⟨h0, -⟩ := hx.cells
  clear hx
  have hb : ((x.s.extract k (k + pat.size)).toList == pat.toList) = true := by rw [beq_iff_eq]; exact at_extract'.2 ha
  have z1 : (k : Int) ≤ (k : Int) + (pat.size : Int) := by omega
  have z2 : decide ((k : Int) + (pat.size : Int) ≤ (x.s.size : Int)) = true := by simp; omega
  clear ha
  go_enter Tryd.func27, Tryd.ntmps27
  go_wp2
  go_ret
  exact ⟨rfl, rfl⟩
set_option maxRecDepth 100000 in
set_option maxHeartbeats 1000000 in
theorem begins_no (b k : Nat) (x : Pa) (pat : ByteArray) (w : World) (hs : x.s.size ≤ 4294967296) (hx : PaAt w b x) (hle : k + pat.size ≤ x.s.size) (ha : ¬ Mu.At (L x.s) (L pat) k) :
    Calls Tryd.prog 27 #[.pointer (some ⟨b, 0, none⟩), .int .i64 k, .string pat] w (fun e w' => e = .returned (.bool false) ∧ w = w') := by
  obtain ⟨h0, -⟩ := hx.cells
  clear hx
  have hb : ((x.s.extract k (k + pat.size)).toList == pat.toList) = false := by rw [beq_eq_false_iff_ne]; exact fun h => ha (at_extract'.1 h)
  have z1 : (k : Int) ≤ (k : Int) + (pat.size : Int) := by omega
  have z2 : decide ((k : Int) + (pat.size : Int) ≤ (x.s.size : Int)) = true := by simp; omega
  clear ha
  go_enter Tryd.func27, Tryd.ntmps27
  go_wp2
  go_ret
  exact ⟨rfl, rfl⟩

def idxV (o : Option Nat) : Int := match o with | some k => k | none => -1
def FindPost (s pat : ByteArray) (p : Nat) (w : World) (e : Ending) (w' : World) : Prop := e = .returned (.int .i64 (idxV (Mu.find (L s) (L pat) p))) ∧ w = w'
set_option maxRecDepth 100000 in
set_option maxHeartbeats 1000000 in
theorem find_any (b p : Nat) (x : Pa) (pat : ByteArray) (w : World) (hs : x.s.size ≤ 4294967296) (hx : PaAt w b x) (hp : p ≤ x.s.size) (hpat : 0 < pat.size) (hpat2 : pat.size ≤ 4294967296) :
    Calls Tryd.prog 22 #[.pointer (some ⟨b, 0, none⟩), .int .i64 p, .string pat] w (FindPost x.s pat p w) := by
  have HX := Lib.hid hx
  obtain ⟨h0, -⟩ := hx.cells
  clear hx
  have HP0 := Lib.hid (show ∀ j, p ≤ j → j < p → ¬ Mu.At (L x.s) (L pat) j from fun j a b => absurd a (by omega))
  go_enter Tryd.func22, Tryd.ntmps22
  go_wp2_with fail
  go_loopg [7] (x.s.size + 2 - p) (fun g i wr => ∃ k : Nat, i = .int .i64 k ∧ p ≤ k ∧ k ≤ x.s.size + 1 ∧ g = x.s.size + 2 - k ∧ wr = w ∧ Hid (∀ j, p ≤ j → j < k → ¬ Mu.At (L x.s) (L pat) j))
  case atStart => exact ⟨p, rfl, by omega, by omega, by omega, rfl, HP0⟩
  case round =>
    obtain ⟨k, rfl, hpk, hk, rfl, rfl, HP⟩ := hrel
    by_cases hle : k + pat.size ≤ x.s.size
    · by_cases ha : Mu.At (L x.s) (L pat) k
      · have HF := Lib.hid (Mu.find_eq hpk ha HP.out)
        have HA := Lib.hid ha
        clear ha
        go_wp2_with fail
        refine (begins_yes b k x pat _ hs HX.out hle HA.out).mono ?_
        rintro e w' ⟨rfl, rfl⟩
        go_wp2_with fail
        go_ret
        exact ⟨by rw [HF.out]; rfl, rfl⟩
      · have HP' : Hid (∀ j, p ≤ j → j < k + 1 → ¬ Mu.At (L x.s) (L pat) j) := Lib.hid (fun j h0 h1 h2 => by
          rcases Nat.lt_or_ge j k with h | h
          · exact HP.out j h0 h h2
          · obtain rfl : j = k := by omega
            exact ha h2)
        have HA := Lib.hid ha
        clear ha
        go_wp2_with fail
        refine (begins_no b k x pat _ hs HX.out hle HA.out).mono ?_
        rintro e w' ⟨rfl, rfl⟩
        go_wp2_with fail
        go_roundg (x.s.size + 2 - (k + 1))
        case rel => exact ⟨k + 1, by go_num, by omega, by omega, by omega, rfl, HP'⟩
        case measure => omega
    · have HF : Hid (Mu.find (L x.s) (L pat) p = none) := Lib.hid (by
        refine Mu.find_eq_none fun j hj ha => ?_
        have h1 := ha.length_le
        rw [List.length_drop, L_length, L_length] at h1
        rcases Nat.lt_or_ge j k with h | h
        · exact HP.out j hj h ha
        · omega)
      go_wp2_with fail
      go_ret
      exact ⟨by rw [HF.out]; rfl, rfl⟩

set_option maxRecDepth 100000 in
set_option maxHeartbeats 400000 in
theorem blank_any (c : UInt8) (w : World) : Calls Tryd.prog 24 #[.int .u8 c.toNat] w (fun e w' => e = .returned (.bool (Mu.blankB c)) ∧ w = w') := by
  have hb : Mu.blankB c = (((c.toNat : Int) == 32) || ((c.toNat : Int) == 9)) := by
    unfold Mu.blankB
    by_cases h1 : c = 32
    · subst h1; decide
    · by_cases h2 : c = 9
      · subst h2; decide
      · have e1 := byte_isnt (b := 32) h1
        have e2 := byte_isnt (b := 9) h2
        rw [show ((32 : UInt8).toNat : Int) = 32 from rfl] at e1
        rw [show ((9 : UInt8).toNat : Int) = 9 from rfl] at e2
        rw [e1, e2]; simp [h1, h2]
  rw [hb]
  clear hb
  cases h1 : ((c.toNat : Int) == 32) with
  | true =>
    go_enter Tryd.func24, Tryd.ntmps24
    go_wp2
    go_ret
    exact ⟨rfl, rfl⟩
  | false =>
    cases h2 : ((c.toNat : Int) == 9) with
    | true =>
      go_enter Tryd.func24, Tryd.ntmps24
      go_wp2
      go_ret
      exact ⟨rfl, rfl⟩
    | false =>
      go_enter Tryd.func24, Tryd.ntmps24
      go_wp2
      go_ret
      exact ⟨rfl, rfl⟩
end Go.Proofs.YtfakghnpkdoclaaDoor
