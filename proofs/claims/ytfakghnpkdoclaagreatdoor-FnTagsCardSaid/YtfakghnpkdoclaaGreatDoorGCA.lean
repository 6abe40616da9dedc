/-
  Sums of texts, indents, escapes. (Joined by wip/pack.py.)
-/
import Derived.Test.YtfakghnpkdoclaaGreatDoorGC0
import Derived.Test.YtfakghnpkdoclaaGreatDoorGR1
set_option linter.unusedVariables false
set_option linter.unusedSimpArgs false
set_option maxRecDepth 100000
set_option maxHeartbeats 8000000
namespace Go.Proofs.YtfakghnpkdoclaaGreatDoor
open Go.RowKit
open Go.Lib (hid)
theorem L_add (a b : ByteArray) : L (a ++ b) = L a ++ L b := by simp [L, ByteArray.data_append]
theorem take_one (s : ByteArray) (k : Nat) (h : k < s.size) : (L s).take (k + 1) = (L s).take k ++ [s[k]] := by
 have h1 : k < (L s).length := by rw [L_length]; exact h
 rw [List.take_succ_eq_append_getElem h1]
 rfl
theorem sub_one (s : ByteArray) (k : Nat) (h : k < s.size) : L (s.extract k (k + 1)) = [s[k]] := by
 have h1 : k < (L s).length := by rw [L_length]; exact h
 rw [L_extract, Mu.sub_cons _ _ _ (Nat.lt_succ_self _) (by rw [L_length]; omega), Mu.sub_self, L_get s k h]
theorem take_all (s : ByteArray) : (L s).take s.size = L s := List.take_of_length_le (by rw [L_length]; omega)
theorem esc_snoc (l : Mu.B) (c : UInt8) : Mu.esc (l ++ [c]) = Mu.esc l ++ Mu.escB c := by simp [Mu.esc]
theorem escB_len (c : UInt8) : (Mu.escB c).length ≤ 5 := by
 unfold Mu.escB
 repeat' split
 all_goals simp
def EscPost (s : ByteArray) (w : World) (e : Ending) (w' : World) : Prop := ∃ o : ByteArray, e = .returned (.string o) ∧ L o = Mu.esc (L s) ∧ w = w'
def EscInv (s o : ByteArray) (k : Nat) : Prop := L o = Mu.esc ((L s).take k)
theorem EscInv.step {s o o' p : ByteArray} {k : Nat} (h : EscInv s o k) (hk : k < s.size) (ho : o' = o ++ p) (hp : L p = Mu.escB s[k]) : EscInv s o' (k + 1) := by
 unfold EscInv at *
 rw [take_one s k hk, esc_snoc, ho, L_add, h, hp]
theorem EscInv.size {s o : ByteArray} {k : Nat} (h : EscInv s o k) : o.size ≤ 5 * k := by
 unfold EscInv at h
 have h1 : (L o).length = o.size := L_length o
 have h2 : ∀ l : Mu.B, (Mu.esc l).length ≤ 5 * l.length := by
  intro l
  induction l with
  | nil => simp [Mu.esc]
  | cons c l ih =>
   have := escB_len c;simp only [Mu.esc, List.flatMap_cons, List.length_append, List.length_cons] at ih ⊢;omega
 have h3 := h2 ((L s).take k)
 rw [← h, List.length_take] at h3
 omega
theorem zzEscape_any (s : ByteArray) (w : World) (hs : s.size ≤ 2147483647) (h0 : ∀ c ∈ L s, c ≠ 0) : Calls Tryz.prog 69 #[.string s] w (EscPost s w) := by
 have H0 := hid h0
 have HE0 : Hid (EscInv s ⟨#[]⟩ 0) := hid rfl
 clear h0
 go_enter Tryz.func69, Tryz.ntmps69
 go_wp2_with fail
 go_loopg [3, 4] s.size (fun g o i wr => ∃ (k : Nat) (ob : ByteArray), i = .int .i64 k ∧ k ≤ s.size ∧ o = .string ob ∧ ob.size ≤ 5 * k ∧ g = s.size - k ∧ wr = w ∧ Hid (EscInv s ob k))
 case atStart => exact ⟨0, _, rfl, Nat.zero_le _, rfl, (show (0 : Nat) ≤ _ from Nat.zero_le _), rfl, rfl, HE0⟩
 case round =>
  obtain ⟨k, ob, rfl, hk, rfl, hob, rfl, rfl, HI⟩ := hrel
  by_cases hlt : k < s.size
  · have hc0 : s[k] ≠ 0 := H0.out _ (by
     have := take_one s k hlt;exact List.mem_of_mem_take (this ▸ List.mem_append_right _ (List.mem_singleton.2 rfl)))
    have q0 : ((s[k].toNat : Int) == 0) = false := byte_isnt (b := 0) hc0;clear hc0
    by_cases h34 : s[k] = 34
    · have q34 : ((s[k].toNat : Int) == 34) = true := byte_is (b := 34) h34
      have HN : Hid (EscInv s (ob ++ ⟨#[38, 35, 51, 52, 59]⟩) (k + 1)) := hid (HI.out.step hlt rfl (by rw [h34]; decide));clear h34;go_wp2_with fail
      go_roundg (s.size - (k + 1))
      case rel => exact ⟨k + 1, _, by go_num, by omega, rfl, HN.out.size, rfl, rfl, HN⟩
      case measure => omega
    · have q34 : ((s[k].toNat : Int) == 34) = false := byte_isnt (b := 34) h34
      by_cases h39 : s[k] = 39
      · have q39 : ((s[k].toNat : Int) == 39) = true := byte_is (b := 39) h39
        have HN : Hid (EscInv s (ob ++ ⟨#[38, 35, 51, 57, 59]⟩) (k + 1)) := hid (HI.out.step hlt rfl (by rw [h39]; decide));clear h34 h39;go_wp2_with fail
        go_roundg (s.size - (k + 1))
        case rel => exact ⟨k + 1, _, by go_num, by omega, rfl, HN.out.size, rfl, rfl, HN⟩
        case measure => omega
      · have q39 : ((s[k].toNat : Int) == 39) = false := byte_isnt (b := 39) h39
        by_cases h38 : s[k] = 38
        · have q38 : ((s[k].toNat : Int) == 38) = true := byte_is (b := 38) h38
          have HN : Hid (EscInv s (ob ++ ⟨#[38, 97, 109, 112, 59]⟩) (k + 1)) := hid (HI.out.step hlt rfl (by rw [h38]; decide));clear h34 h39 h38;go_wp2_with fail
          go_roundg (s.size - (k + 1))
          case rel => exact ⟨k + 1, _, by go_num, by omega, rfl, HN.out.size, rfl, rfl, HN⟩
          case measure => omega
        · have q38 : ((s[k].toNat : Int) == 38) = false := byte_isnt (b := 38) h38
          by_cases h60 : s[k] = 60
          · have q60 : ((s[k].toNat : Int) == 60) = true := byte_is (b := 60) h60
            have HN : Hid (EscInv s (ob ++ ⟨#[38, 108, 116, 59]⟩) (k + 1)) := hid (HI.out.step hlt rfl (by rw [h60]; decide));clear h34 h39 h38 h60;go_wp2_with fail
            go_roundg (s.size - (k + 1))
            case rel => exact ⟨k + 1, _, by go_num, by omega, rfl, HN.out.size, rfl, rfl, HN⟩
            case measure => omega
          · have q60 : ((s[k].toNat : Int) == 60) = false := byte_isnt (b := 60) h60
            by_cases h62 : s[k] = 62
            · have q62 : ((s[k].toNat : Int) == 62) = true := byte_is (b := 62) h62
              have HN : Hid (EscInv s (ob ++ ⟨#[38, 103, 116, 59]⟩) (k + 1)) := hid (HI.out.step hlt rfl (by rw [h62]; decide));clear h34 h39 h38 h60 h62;go_wp2_with fail
              go_roundg (s.size - (k + 1))
              case rel => exact ⟨k + 1, _, by go_num, by omega, rfl, HN.out.size, rfl, rfl, HN⟩
              case measure => omega
            · have q62 : ((s[k].toNat : Int) == 62) = false := byte_isnt (b := 62) h62
              have HN : Hid (EscInv s (ob ++ s.extract k (k + 1)) (k + 1)) := hid (HI.out.step hlt rfl (by rw [sub_one s k hlt]; unfold Mu.escB; rw [if_neg h38, if_neg h60, if_neg h62, if_neg h34, if_neg h39]));clear h34 h39 h38 h60 h62;go_wp2_with fail
              go_roundg (s.size - (k + 1))
              case rel => exact ⟨k + 1, _, by go_num, by omega, rfl, HN.out.size, rfl, rfl, HN⟩
              case measure => omega
  · have HZ : Hid (L ob = Mu.esc (L s)) := hid (by
     have := HI.out;unfold EscInv at this;rw [this, show k = s.size by omega, take_all])
    go_wp2_with fail;go_ret
    exact ⟨ob, rfl, HZ.out, rfl⟩
def startAt (l : Mu.B) : Bool := match l.getLast? with
 | none => true
 | some d => d == 10
theorem indL_app (ind : Mu.B) : ∀ (l m : Mu.B) (b : Bool), Mu.indL ind b (l ++ m) = Mu.indL ind b l ++ Mu.indL ind (match l.getLast? with | none => b | some d => d == 10) m
 | [], m, b => rfl
 | c :: l, m, b => by
  simp only [List.cons_append, Mu.indL, indL_app ind l m, List.append_assoc]
  cases l with
  | nil => rfl
  | cons d l => rfl
theorem indL_snoc (ind l : Mu.B) (c : UInt8) : Mu.indL ind true (l ++ [c]) = Mu.indL ind true l ++ ((if startAt l && c != 10 then ind else []) ++ [c]) := by
 rw [indL_app]
 unfold startAt
 cases l.getLast? <;> rfl
def IndInv (s ind o : ByteArray) (k : Nat) : Prop := L o = Mu.indL (L ind) true ((L s).take k)
theorem startAt_zero (s : ByteArray) : startAt ((L s).take 0) = true := rfl
theorem startAt_succ (s : ByteArray) (k : Nat) (h : k < s.size) : startAt ((L s).take (k + 1)) = (s[k] == 10) := by
 rw [take_one s k h]
 unfold startAt
 simp
theorem IndInv.in_ {s ind o o' : ByteArray} {k : Nat} (h : IndInv s ind o k) (hk : k < s.size) (hst : startAt ((L s).take k) = true) (hc : s[k] ≠ 10) (ho : o' = o ++ ind ++ s.extract k (k + 1)) : IndInv s ind o' (k + 1) := by
 unfold IndInv at *
 rw [take_one s k hk, indL_snoc, ho, L_add, L_add, h, sub_one s k hk, hst]
 have : (s[k] != 10) = true := by simpa using hc
 rw [this]
 simp
theorem IndInv.out {s ind o o' : ByteArray} {k : Nat} (h : IndInv s ind o k) (hk : k < s.size) (hst : startAt ((L s).take k) = false ∨ s[k] = 10) (ho : o' = o ++ s.extract k (k + 1)) : IndInv s ind o' (k + 1) := by
 unfold IndInv at *
 rw [take_one s k hk, indL_snoc, ho, L_add, h, sub_one s k hk]
 have : (startAt ((L s).take k) && s[k] != 10) = false := by
  rcases hst with hst | hst
  · rw [hst]; rfl
  · rw [hst]; simp
 rw [this]
 simp
theorem IndInv.size {s ind o : ByteArray} {k : Nat} (h : IndInv s ind o k) : o.size ≤ k * (ind.size + 1) := by
 unfold IndInv at h
 have h1 : (L o).length = o.size := L_length o
 have h3 := Mu.indL_length (L ind) ((L s).take k) true
 rw [← h, h1, List.length_take, L_length, L_length] at h3
 exact Nat.le_trans h3 (Nat.mul_le_mul_right _ (Nat.min_le_left _ _))
def IndPost (s ind : ByteArray) (w : World) (e : Ending) (w' : World) : Prop := ∃ o : ByteArray, e = .returned (.string o) ∧ L o = Mu.indL (L ind) true (L s) ∧ w = w'
theorem zzIndent_any (s ind : ByteArray) (w : World) (hs : s.size ≤ 65536) (hi : ind.size ≤ 16777216) : Calls Tryz.prog 116 #[.string s, .string ind] w (IndPost s ind w) := by
 have HE0 : Hid (IndInv s ind ⟨#[]⟩ 0) := hid rfl
 have HSZ : Hid (∀ k, k ≤ s.size → ∀ o, IndInv s ind o k → o.size ≤ 65536 * 16777217) := hid (fun k hk o h => Nat.le_trans h.size (Nat.mul_le_mul (by omega) (by omega)))
 go_enter Tryz.func116, Tryz.ntmps116
 go_wp2_with fail
 go_loopg [5, 6] s.size (fun g o i wr => ∃ (k : Nat) (ob : ByteArray), i = .int .i64 k ∧ k ≤ s.size ∧ o = .string ob ∧ ob.size ≤ 65536 * 16777217 ∧ g = s.size - k ∧ wr = w ∧ Hid (IndInv s ind ob k))
 case atStart => exact ⟨0, _, rfl, Nat.zero_le _, rfl, (show (0 : Nat) ≤ _ from Nat.zero_le _), rfl, rfl, HE0⟩
 case round =>
  obtain ⟨k, ob, rfl, hk, rfl, hob, rfl, rfl, HI⟩ := hrel
  by_cases hlt : k < s.size
  · by_cases h10 : s[k] = 10
    · have q10 : ((s[k].toNat : Int) != 10) = false := byte_lit_eq (b := 10) h10
      have HN : Hid (IndInv s ind (ob ++ s.extract k (k + 1)) (k + 1)) := hid (HI.out.out hlt (.inr h10) rfl);clear h10;go_wp2_with fail
      go_roundg (s.size - (k + 1))
      case rel => exact ⟨k + 1, _, by go_num, by omega, rfl, HSZ.out _ hlt _ HN.out, rfl, rfl, HN⟩
      case measure => omega
    · have q10 : ((s[k].toNat : Int) != 10) = true := byte_lit_ne (b := 10) h10
      cases k with
      | zero =>
       have HN : Hid (IndInv s ind (ob ++ ind ++ s.extract 0 (0 + 1)) (0 + 1)) := hid (HI.out.in_ hlt rfl h10 rfl);clear h10;go_wp2_with fail
       go_roundg (s.size - (0 + 1))
       case rel => exact ⟨0 + 1, _, by go_num, by omega, rfl, HSZ.out _ hlt _ HN.out, rfl, rfl, HN⟩
       case measure => omega
      | succ k =>
       have hlt' : k < s.size := by omega
       by_cases hp : s[k] = 10
       · have qp : ((s[k].toNat : Int) == 10) = true := byte_is (b := 10) hp
         have HN : Hid (IndInv s ind (ob ++ ind ++ s.extract (k + 1) (k + 1 + 1)) (k + 1 + 1)) := hid (HI.out.in_ hlt (by rw [startAt_succ s k hlt', hp]; rfl) h10 rfl);clear h10 hp;go_wp2_with fail
         go_roundg (s.size - (k + 1 + 1))
         case rel => exact ⟨k + 1 + 1, _, by go_num, by omega, rfl, HSZ.out _ hlt _ HN.out, rfl, rfl, HN⟩
         case measure => omega
       · have qp : ((s[k].toNat : Int) == 10) = false := byte_isnt (b := 10) hp
         have HN : Hid (IndInv s ind (ob ++ s.extract (k + 1) (k + 1 + 1)) (k + 1 + 1)) := hid (HI.out.out hlt (.inl (by rw [startAt_succ s k hlt']; simpa using hp)) rfl);clear h10 hp;go_wp2_with fail
         go_roundg (s.size - (k + 1 + 1))
         case rel => exact ⟨k + 1 + 1, _, by go_num, by omega, rfl, HSZ.out _ hlt _ HN.out, rfl, rfl, HN⟩
         case measure => omega
  · have HZ : Hid (L ob = Mu.indL (L ind) true (L s)) := hid (by
     have := HI.out;unfold IndInv at this;rw [this, show k = s.size by omega, take_all])
    go_wp2_with fail;go_ret
    exact ⟨ob, rfl, HZ.out, rfl⟩
def EmPost (b : Bool) (w : World) (e : Ending) (w' : World) : Prop := e = .returned (.bool b) ∧ F0 w w'
theorem isEmpty_none (w : World) : Calls Tryz.prog 115 #[.agg #[.nilIface, .bool false]] w (EmPost true w) := by
 go_enter Tryz.func115, Tryz.ntmps115
 go_wp2_with fail
 go_ret
 exact ⟨rfl, Fr.alloc _ _ _⟩
theorem sp_of_signs {l : Mu.B} (h : Mu.signs l) : ∀ b ∈ l, b.toNat < 128 := fun b hb => by
 have := h b hb
 unfold Mu.signB at this
 simp only [Bool.or_eq_true, Bool.and_eq_true, decide_eq_true_eq, beq_iff_eq, UInt8.le_iff_toNat_le] at this
 rcases this with h | h
 · have := h.2; simp at this; omega
 · subst h; decide
theorem isEmpty_some (T : Nat) (hT : T ≤ 2147483647) (v : Mu.Val) (x : Value) (S : Nat → Prop) {B : Nat} {eb : Addr} (w : World) (hv : Mu.VG T v) (hx : CAt w S v x) (hg : Gl B eb w) :
 Calls Tryz.prog 115 #[.agg #[x, .bool true]] w (EmPost (Mu.emptyP (some v)) w) := by
 have htx := hv.text
 obtain ⟨k, t, n, b, ks, l⟩ := v
 unfold CAt at hx
 obtain ⟨htx1, htx2, -, -⟩ := htx
 simp only [Mu.Val.text] at htx1 htx2
 have HTX := hid htx1
 have HG := hid hg
 clear hv htx1 hg
 rcases hx with ⟨rfl, rfl⟩ | ⟨rfl, tb, rfl, htb⟩ | ⟨rfl, rfl⟩ | ⟨rfl, rfl⟩ | ⟨rfl, sv, vs, rfl, ⟨a, c, rfl, -⟩, hcs⟩ | ⟨rfl, r, es, clock, vs, rfl, -⟩
 · go_enter Tryz.func115, Tryz.ntmps115
   go_wp2_with fail;go_ret
   exact ⟨rfl, Fr.alloc _ _ _⟩
 · have HTB := hid htb
   have hsz : tb.size ≤ 2147483647 := by rw [← L_length, htb]; omega
   clear htb htx2;have a0 := fun (v : Value) (w : World) => notList w 9 v (by decide)
   have a1 := fun (v : Value) (w : World) => isStr w v
   go_enter Tryz.func115, Tryz.ntmps115;go_wp2_with fail;refine (trimSpace_any tb _ hsz (by rw [HTB.out]; exact sp_of_signs HTX.out) (HG.out.fr0 (Fr.alloc _ _ _))).mono ?_;rintro e w1 ⟨r, rfl, hr, hf⟩;have HF : Hid (F0 w w1) := hid ((Fr.alloc _ _ _).trans hf);have HE : Hid (Mu.emptyP (some (.mk 1 t n b ks l)) = (L r).isEmpty) := hid (by rw [hr, HTB.out]; rfl);clear hr hf
   cases hrz : (L r).isEmpty with
   | true =>
    have h0 : r.size = 0 := by rw [← L_length]; simpa using hrz
    have q0 : ((r.size : Int) == 0) = true := by rw [h0]; rfl
    rw [hrz] at HE;clear hrz h0;go_wp2_with fail;go_ret;exact ⟨by rw [HE.out]; rfl, HF.out⟩
   | false =>
    have h0 : r.size ≠ 0 := by
     rw [← L_length];intro h;have := List.eq_nil_of_length_eq_zero h;rw [this] at hrz; cases hrz
    have q0 : ((r.size : Int) == 0) = false := by rw [beq_eq_false_iff_ne]; omega
    rw [hrz] at HE;clear hrz h0;go_wp2_with fail;go_ret;exact ⟨by rw [HE.out]; rfl, HF.out⟩
 · have a0 := fun (v : Value) (w : World) => notList w 2 v (by decide)
   have a1 := fun (v : Value) (w : World) => notStr w 2 v (by decide)
   have a2 := fun (v : Value) (w : World) => notMap w 2 v (by decide)
   have a3 := fun (v : Value) (w : World) => isInt w v
   go_enter Tryz.func115, Tryz.ntmps115;go_wp2_with fail;go_ret;exact ⟨rfl, Fr.alloc _ _ _⟩
 · have a0 := fun (v : Value) (w : World) => notList w 4 v (by decide)
   have a1 := fun (v : Value) (w : World) => notStr w 4 v (by decide)
   have a2 := fun (v : Value) (w : World) => notMap w 4 v (by decide)
   have a3 := fun (v : Value) (w : World) => notInt w 4 v (by decide)
   have a4 := fun (v : Value) (w : World) => isBool w v
   go_enter Tryz.func115, Tryz.ntmps115;go_wp2_with fail;go_ret;exact ⟨rfl, Fr.alloc _ _ _⟩
 · have hl := hcs.length
   have HL : Hid (Mu.emptyP (some (.mk 4 t n b ks l)) = ((vs.length : Int) == 0)) := hid (by
    rw [hl]
    cases l with
    | nil => rfl
    | cons y l =>
     have : (((y :: l).length : Int) == 0) = false := by rw [beq_eq_false_iff_ne]; simp; omega
     rw [this]; rfl)
   clear hl hcs;have a0 := fun (v : Value) (w : World) => isList w v
   go_enter Tryz.func115, Tryz.ntmps115;go_wp2_with fail;go_ret;exact ⟨by rw [HL.out]; rfl, Fr.alloc _ _ _⟩
 · have a0 := fun (v : Value) (w : World) => notList w 78 v (by decide)
   have a1 := fun (v : Value) (w : World) => notStr w 78 v (by decide)
   have a2 := fun (v : Value) (w : World) => isMap w v
   have hmn : ∀ w, (binOp .eql 78 (.map (some r)) (.map none)).run Tryz.prog w = .ok (.bool false) w := fun w => run_eql_map_nil w _ _ _ _ Tryz.underlying78
   go_enter Tryz.func115, Tryz.ntmps115;go_wp2_with fail;go_ret;exact ⟨rfl, Fr.alloc _ _ _⟩
end Go.Proofs.YtfakghnpkdoclaaGreatDoor
