/-
  The package's reading functions. (Joined by wip/pack.py.)
-/
import Derived.Test.YtfakghnpkdoclaaGreatDoorGB1
import Derived.Test.YtfakghnpkdoclaaGreatDoorShelf
import Derived.Deep.CutBlock
import Derived.Test.YtfakghnpkdoclaaGreatDoorGP2
import Derived.Deep.AppendLies
import Derived.Deep.RegionLaw
import Derived.Deep.RegionHeld3
set_option linter.unusedVariables false
set_option linter.unusedSimpArgs false
set_option maxRecDepth 100000
set_option maxHeartbeats 8000000
namespace Go.Proofs.YtfakghnpkdoclaaGreatDoor
open Go.RowKit
open Go.Lib (hid)
def idxVal (o : Option Nat) : Int := match o with | some k => k | none => -1
def IdxPost (s pat : ByteArray) (w : World) (e : Ending) (w' : World) : Prop := e = .returned (.int .i64 (idxVal (Mu.find (L s) (L pat) 0))) ∧ w = w'
theorem at_extract {s pat : ByteArray} {k : Nat} : (s.extract k (k + pat.size)).toList = pat.toList ↔ Mu.At (L s) (L pat) k := by
 have h1 : (s.extract k (k + pat.size)).toList = Mu.sub (L s) k (k + pat.size) := by rw [← L_extract]; exact ByteArray.toList_eq _
 have h2 : pat.toList = L pat := ByteArray.toList_eq _
 rw [h1, h2]
 unfold Mu.At
 rw [List.prefix_iff_eq_take, Mu.sub, List.drop_take, L_length, Nat.add_sub_cancel_left]
 exact eq_comm
theorem zzIndex_any (s pat : ByteArray) (w : World) (hs : s.size ≤ 2147483647) (hp : pat.size ≤ 2147483647) :
 Calls Tryz.prog 96 #[.string s, .string pat] w (IdxPost s pat w) := by
 have HP0 := hid (show ∀ j, 0 ≤ j → j < 0 → ¬ Mu.At (L s) (L pat) j from fun j a b => absurd a (by omega))
 go_enter Tryz.func96, Tryz.ntmps96
 go_wp2
 go_loopg [5] (s.size + 2) (fun g i wr => ∃ k : Nat, i = .int .i64 k ∧ k ≤ s.size + 1 ∧ g = s.size + 2 - k ∧ wr = w ∧ Hid (∀ j, 0 ≤ j → j < k → ¬ Mu.At (L s) (L pat) j))
 case atStart => exact ⟨0, rfl, by omega, by omega, rfl, HP0⟩
 case round =>
  obtain ⟨k, rfl, hk, rfl, rfl, HP⟩ := hrel
  by_cases hle : k + pat.size ≤ s.size
  · have z1 : (k : Int) ≤ (k : Int) + (pat.size : Int) := by omega
    by_cases ha : Mu.At (L s) (L pat) k
    · have hb : ((s.extract k (k + pat.size)).toList == pat.toList) = true := by rw [beq_iff_eq]; exact at_extract.2 ha
      have HF := hid (Mu.find_eq (Nat.zero_le k) ha HP.out);clear ha
      go_wp2
      go_ret;exact ⟨by rw [HF.out]; rfl, rfl⟩
    · have hb : ((s.extract k (k + pat.size)).toList == pat.toList) = false := by rw [beq_eq_false_iff_ne]; exact fun h => ha (at_extract.1 h)
      have HP' : Hid (∀ j, 0 ≤ j → j < k + 1 → ¬ Mu.At (L s) (L pat) j) := hid (fun j h0 h1 h2 => by
       rcases Nat.lt_or_ge j k with h | h
       · exact HP.out j h0 h h2
       · obtain rfl : j = k := by omega
         exact ha h2)
      clear ha
      go_wp2
      go_roundg (s.size + 2 - (k + 1))
      case rel => exact ⟨k + 1, by go_num, by omega, by omega, rfl, HP'⟩
      case measure => omega
  · have HF : Hid (Mu.find (L s) (L pat) 0 = none) := hid (by
     refine Mu.find_eq_none fun j hj ha => ?_
     have h1 := ha.length_le;rw [List.length_drop, L_length, L_length] at h1
     rcases Nat.lt_or_ge j k with h | h
     · exact HP.out j hj h ha
     · have hz : pat.size = 0 := by omega
       have h0 : L pat = [] := List.eq_nil_of_length_eq_zero hz;exact HP.out 0 (Nat.le_refl _) (by omega) (by rw [h0]; exact List.nil_prefix))
    go_wp2
    go_ret;exact ⟨by rw [HF.out]; rfl, rfl⟩
def TrimPost (s : ByteArray) (w : World) (e : Ending) (w' : World) : Prop := ∃ r : ByteArray, e = .returned (.string r) ∧ L r = Mu.trimBy Mu.spB (L s) ∧ F0 w w'
theorem spB_eq (b : UInt8) : Lib.isSp b = Mu.spB b := rfl
theorem fr_bytes (w : World) (E : TypeId) (s : ByteArray) : F0 w (Lib.bytesWorld w E s) := by
 refine ⟨?_, ?_, ?_, ?_, fun k hk _ => Lib.bytesWorld_at_old w E s k hk⟩
 · unfold Lib.bytesWorld World.freeze; split <;> rfl
 · unfold Lib.bytesWorld World.freeze; split <;> rfl
 · unfold Lib.bytesWorld World.freeze; split <;> rfl
 · rw [Lib.bytesWorld_size]; omega
theorem trimSpace_any (s : ByteArray) {B : Nat} {eb : Addr} (w : World) (hs : s.size ≤ 2147483647) (ha : ∀ b ∈ L s, b.toNat < 128) (hg : Gl B eb w) :
 Calls Tryz.prog 88 #[.string s] w (TrimPost s w) := by
 refine (Tryz.strings_TrimSpace s w (by omega) (fun j b h => ha b (List.mem_of_getElem? h)) hg.space).mono ?_
 rintro e w' ⟨rfl, rfl⟩
 refine ⟨_, rfl, ?_, ?_⟩
 · rw [L_mk]
   unfold Lib.trimSpace Mu.trimBy;rw [funext spB_eq];rfl
 · exact fr_bytes _ _ _
end Go.Proofs.YtfakghnpkdoclaaGreatDoor
namespace Go.Proofs.YtfakghnpkdoclaaGreatDoor
open Go.RowKit
open Go.Lib (hid)
theorem rs_step {s pat : Mu.B} {p k : Nat} (hp : 0 < pat.length) (H : ∀ j, p ≤ j → j < k → ¬ Mu.At s pat j) (hne : s.getD k 0 ≠ pat.getD 0 0) : ∀ j, p ≤ j → j < k + 1 → ¬ Mu.At s pat j := by
 intro j h1 h2 ha
 rcases Nat.lt_or_ge j k with h | h
 · exact H j h1 h ha
 · obtain rfl : j = k := by omega
   exact hne (ha.get 0 hp)
theorem rs_step' {s pat : Mu.B} {p k q : Nat} (hp : q < pat.length) (H : ∀ j, p ≤ j → j < k → ¬ Mu.At s pat j) (hne : s.getD (k + q) 0 ≠ pat.getD q 0) : ∀ j, p ≤ j → j < k + 1 → ¬ Mu.At s pat j := by
 intro j h1 h2 ha
 rcases Nat.lt_or_ge j k with h | h
 · exact H j h1 h ha
 · obtain rfl : j = k := by omega
   exact hne (ha.get q hp)
def RsPost (x : Tm) (pat : ByteArray) (t : Nat) (eof : Value) (w : World) (e : Ending) (w' : World) : Prop :=
 match Mu.find (L x.s) (L pat) x.p with
 | some k => e = .returned (.tuple #[.string (x.s.extract x.p (k + pat.size)), .nilIface]) ∧ Fr (· = t) w w' ∧ ∃ l, TmAt w' t { x with p := k + pat.size, line := l }
 | none => e = .returned (.tuple #[.string (x.s.extract x.p x.s.size), eof]) ∧ Fr (· = t) w w' ∧ TmAt w' t x
theorem rs_none {e : Ending} {x : Tm} {pat : ByteArray} {t : Nat} {eof : Value} {w : World} {k n : Nat} (hpat : 0 < pat.size) (ht : TmAt w t x) (H : ∀ j, x.p ≤ j → j < k → ¬ Mu.At (L x.s) (L pat) j) (hge : ¬ k + pat.size ≤ x.s.size)
 (he : e = .returned (.tuple #[.string (x.s.extract x.p x.s.size), eof])) : RsPost x pat t eof w e (w.drewN n) := by
 have hf : Mu.find (L x.s) (L pat) x.p = none := Mu.find_eq_none fun j hj ha => by
  have hle := ha.le (by intro h; rw [← L_length, h] at hpat; exact absurd hpat (by simp));rw [L_length, L_length] at hle;exact H j hj (by omega) ha
 unfold RsPost
 rw [hf]
 exact ⟨he, Fr.drewN _ _ _, ht.drewN _⟩
theorem rs_some {e : Ending} {x : Tm} {pat : ByteArray} {t : Nat} {eof : Value} {w : World} {k n : Nat} {l : Int} (ht : TmAt w t x) (hp : x.p ≤ k) (H : ∀ j, x.p ≤ j → j < k → ¬ Mu.At (L x.s) (L pat) j) (hle : k + pat.size ≤ x.s.size)
 (hm : ∀ r, r < pat.size → (L x.s).getD (k + r) 0 = (L pat).getD r 0)
 (he : e = .returned (.tuple #[.string (x.s.extract x.p (k + pat.size)), .nilIface])) : RsPost x pat t eof w e (((w.setCell ⟨t, 3, none⟩ (.int .i64 ((k + pat.size : Nat) : Int))).setCell ⟨t, 4, none⟩ (.int .i64 l)).drewN n) := by
 have hf : Mu.find (L x.s) (L pat) x.p = some k := Mu.find_eq hp (Mu.at_of_get (by rw [L_length, L_length]; exact hle) hm) H
 unfold RsPost
 rw [hf]
 exact ⟨he, ((Fr.setCell (M := (· = t)) _ _ _ (.inl rfl)).trans (Fr.setCell (M := (· = t)) _ _ _ (.inl rfl))).trans (Fr.drewN _ _ _), _, ((ht.set3 _).set4 _).drewN _⟩
theorem readString_any (t : Nat) (x : Tm) (pat : ByteArray) (eof : Value) (w : World) (hs : x.s.size ≤ 2147483647) (hp : x.p ≤ x.s.size) (hpat : 0 < pat.size) (hpat2 : pat.size ≤ 2147483647)
 (ht : TmAt w t x) (hg : w.cell? ⟨0, 0, none⟩ = some eof) :
 Calls Tryz.prog 95 #[.pointer (some ⟨t, 0, none⟩), .string pat] w (RsPost x pat t eof w) := by
 have HT := hid ht
 obtain ⟨h0, -, -, h3, h4, -⟩ := ht.cells
 have f3 := ht.free 3
 have f4 := ht.free 4
 clear ht
 have HP0 := hid (show ∀ j, x.p ≤ j → j < x.p → ¬ Mu.At (L x.s) (L pat) j from fun j a b => absurd a (by omega))
 generalize hx : x.s = s at *
 generalize hxp : x.p = p at *
 generalize x.line = line at *
 have HX := hid hx
 have HXP := hid hxp
 clear hx hxp
 go_enter Tryz.func95, Tryz.ntmps95
 go_wp2
 go_loopg [6, 7] (s.size + 1 - p) (fun g nl i wr => ∃ (k n m : Nat), i = .int .i64 k ∧ nl = .int .i64 m ∧ m ≤ k ∧ p ≤ k ∧ k ≤ s.size ∧ g = s.size + 1 - k ∧ wr = w.drewN n ∧ Hid (∀ j, p ≤ j → j < k → ¬ Mu.At (L s) (L pat) j))
 case atStart => exact ⟨p, 0, 0, rfl, rfl, by omega, by omega, by omega, rfl, rfl, HP0⟩
 case round =>
  obtain ⟨k, n, m, rfl, rfl, hm, hpk, hks, rfl, rfl, HP⟩ := hrel
  by_cases hlt : k + pat.size ≤ s.size
  · have hk : k < s.size := by omega
    by_cases hb : s[k] = pat[0]
    · have heq := byte_eq' hb
      have HQ := hid (show ∀ r, r < 1 → (L s).getD (k + r) 0 = (L pat).getD r 0 from fun r hr => by
       obtain rfl : r = 0 := by omega
       rw [Nat.add_zero, L_get s k hk, L_get pat 0 hpat]; exact hb)
      clear hb
      go_wp2
      all_goals
       go_quiet (fail)
       go_wp2
       clear heq
       go_loopg [8, 9] pat.size (fun g' mt j w2 => ∃ (q n2 : Nat), mt = .bool true ∧ j = .int .i64 q ∧ 1 ≤ q ∧ q ≤ pat.size ∧ g' = pat.size + 1 - q ∧ w2 = w.drewN n2 ∧ Hid (∀ r, r < q → (L s).getD (k + r) 0 = (L pat).getD r 0))
       case atStart => exact ⟨1, _, rfl, rfl, by omega, by omega, by omega, (by first | rfl | exact World.drewN_drewN _ _ _), HQ⟩
       case round =>
        clear HQ;obtain ⟨q, n2, rfl, rfl, hq1, hq2, rfl, rfl, HQ⟩ := hrel
        by_cases hqlt : q < pat.size
        · have hkq : k + q < s.size := by omega
          by_cases hb : pat[q] = s[k + q]
          · have heq := byte_eq' hb
            have HQ' := hid (show ∀ r, r < q + 1 → (L s).getD (k + r) 0 = (L pat).getD r 0 from fun r hr => by
             rcases Nat.lt_or_ge r q with h | h
             · exact HQ.out r h
             · obtain rfl : r = q := by omega
               rw [L_get s _ hkq, L_get pat _ hqlt]; exact hb.symm)
            clear hb HQ;have z1 : IntKind.i64.wrap ((k : Int) + (q : Int)) = (k : Int) + (q : Int) := IntWalk.i64_in _ (by omega);have z2 : (0 : Int) ≤ (k : Int) + (q : Int) := by omega
            have z3 : ((k : Int) + (q : Int)).toNat = k + q := by omega
            have z4 : (k : Int) + (q : Int) < (s.size : Int) := by omega
            go_wp2
            go_quiet (fail)
            go_wp2
            go_roundg (pat.size + 1 - (q + 1))
            case rel => exact ⟨q + 1, _, rfl, by go_num, by omega, by omega, rfl, (by first | rfl | exact World.drewN_drewN _ _ _), HQ'⟩
            case measure => omega
          · have hne := byte_ne' hb
            have HP' := hid (rs_step' (pat := L pat) hqlt HP.out (by rw [L_get s _ hkq, L_get pat _ hqlt]; exact fun h => hb h.symm));clear hb HQ;have z1 : IntKind.i64.wrap ((k : Int) + (q : Int)) = (k : Int) + (q : Int) := IntWalk.i64_in _ (by omega);have z2 : (0 : Int) ≤ (k : Int) + (q : Int) := by omega
            have z3 : ((k : Int) + (q : Int)).toNat = k + q := by omega
            have z4 : (k : Int) + (q : Int) < (s.size : Int) := by omega
            go_wp2
            go_quiet (fail)
            go_wp2
            go_roundg (s.size + 1 - (k + 1))
            case rel => first | exact ⟨k + 1, _, m, by go_num, rfl, by omega, by omega, by omega, rfl, (by first | rfl | exact World.drewN_drewN _ _ _), HP'⟩ | exact ⟨k + 1, _, m + 1, by go_num, by go_num, by omega, by omega, by omega, rfl, (by first | rfl | exact World.drewN_drewN _ _ _), HP'⟩
            case measure => omega
        · obtain rfl : q = pat.size := by omega
          have z1 : IntKind.i64.wrap ((k : Int) + (pat.size : Int)) = (k : Int) + (pat.size : Int) := IntWalk.i64_in _ (by omega);have z2 : (0 : Int) ≤ (k : Int) + (pat.size : Int) := by omega
          have z3 : ((k : Int) + (pat.size : Int)).toNat = k + pat.size := by omega
          have z4 : (k : Int) + (pat.size : Int) ≤ (s.size : Int) := by omega
          have z5 : (p : Int) ≤ (k : Int) + (pat.size : Int) := by omega
          go_wp2
          go_quiet (fail)
          go_wp2
          go_ret2
          obtain rfl := HX.out;obtain rfl := HXP.out;exact rs_some HT.out hpk HP.out hlt HQ.out rfl
    · have hne := byte_ne' hb
      have HP' := hid (rs_step (pat := L pat) hpat HP.out (by rw [L_get s k hk, L_get pat 0 hpat]; exact hb));clear hb
      go_wp2
      all_goals
       go_quiet (fail)
       go_wp2
       go_roundg (s.size + 1 - (k + 1))
       case rel => first | exact ⟨k + 1, _, m, by go_num, rfl, by omega, by omega, by omega, rfl, (by first | rfl | exact World.drewN_drewN _ _ _), HP'⟩ | exact ⟨k + 1, _, m + 1, by go_num, by go_num, by omega, by omega, by omega, rfl, (by first | rfl | exact World.drewN_drewN _ _ _), HP'⟩
       case measure => omega
  · go_wp2
    go_quiet (fail)
    go_wp2
    go_ret2
    obtain rfl := HX.out;obtain rfl := HXP.out
    (try rw [World.drewN_drewN])
    refine rs_none (eof := eof) hpat HT.out HP.out hlt ?_; rfl
end Go.Proofs.YtfakghnpkdoclaaGreatDoor
namespace Go.Proofs.YtfakghnpkdoclaaGreatDoor
open Go.RowKit
open Go.Lib (hid)
def RtPost (x : Tm) (t : Nat) (eb : Addr) (w : World) (e : Ending) (w' : World) : Prop :=
 ∃ (r : Nat) (tx pd : ByteArray) (may : Bool), w.heap.size ≤ r ∧ w'.heap[r]? = some (.cells #[.string tx, .string pd, .bool may] 153 (0, 0)) ∧ Fr (· = t) w w' ∧
 match Mu.rdText (L x.s) x.p (L x.o) with
 | some q => L tx = q.text ∧ L pd = q.pad ∧ may = q.may ∧ e = .returned (.tuple #[.pointer (some ⟨r, 0, none⟩), .nilIface]) ∧ ∃ l, TmAt w' t { x with p := q.pos, line := l }
 | none => L tx = (L x.s).drop x.p ∧ L pd = [] ∧ may = false ∧ e = .returned (.tuple #[.pointer (some ⟨r, 0, none⟩), .iface 219 (.pointer (some eb))]) ∧ TmAt w' t x
theorem rt_none {e : Ending} {x : Tm} {t : Nat} {eb : Addr} {w w1 : World} (hf : Mu.find (L x.s) (L x.o) x.p = none) (hfr : Fr (· = t) w w1) (ht : TmAt w1 t x)
 (he : e = .returned (.tuple #[.pointer (some ⟨w1.heap.size, 0, none⟩), .iface 219 (.pointer (some eb))])) :
 RtPost x t eb w e (w1.alloc (.cells #[.string (x.s.extract x.p x.s.size), .string ⟨#[]⟩, .bool false] 153)) := by
 refine ⟨_, _, _, _, hfr.size, blk_new _ _, hfr.trans (Fr.alloc _ _ _), ?_⟩
 have hr : Mu.rdText (L x.s) x.p (L x.o) = none := by simp [Mu.rdText, hf]
 rw [hr]
 refine ⟨?_, rfl, rfl, he, blk_alloc _ ht⟩
 rw [L_extract, ← L_length, Mu.sub_to_end]
theorem readText_none (B t : Nat) (eb : Addr) (x : Tm) (w : World) (hs : x.s.size ≤ 2147483647) (hp : x.p ≤ x.s.size) (ho : 0 < x.o.size) (ho2 : x.o.size ≤ 2147483647) (ht : TmAt w t x) (hg : Gl B eb w) (hB : B ≤ t)
 (hf : Mu.find (L x.s) (L x.o) x.p = none) :
 Calls Tryz.prog 86 #[.pointer (some ⟨t, 0, none⟩)] w (RtPost x t eb w) := by
 have HT := hid ht
 have HF := hid hf
 clear hf
 have HG := hid hg
 have heof := hg.eof
 clear hg
 obtain ⟨-, h1, -, h3, -⟩ := ht.cells
 clear ht
 have e1 := eq_eof_eof eb
 go_enter Tryz.func86, Tryz.ntmps86
 go_wp2_with fail
 refine (readString_any t x x.o _ w hs hp ho ho2 HT.out heof).mono ?_
 intro e w1 hpost
 unfold RsPost at hpost
 rw [HF.out] at hpost
 obtain ⟨rfl, hfr, ht1⟩ := hpost
 have HR := hid hfr
 have HT1 := hid ht1
 have heof1 := (HG.out.fr hfr (fun k hk => by omega)).eof
 clear hfr ht1 h1 h3 heof
 go_wp2
 go_ret2
 exact rt_none HF.out HR.out HT1.out rfl
theorem rt_some {e : Ending} {x : Tm} {t : Nat} {eb : Addr} {k : Nat} {l : Int} {w w1 w2 : World} {tx pd : ByteArray} {may : Bool} (hf : Mu.find (L x.s) (L x.o) x.p = some k) (hfr : Fr (· = t) w w1) (ht : TmAt w1 t { x with p := k + x.o.size, line := l })
 (hw : ∃ n, w2 = (w1.alloc (.cells #[.string tx, .string pd, .bool may] 153)).drewN n)
 (hb : (may = true ∧ (Mu.backTo (L x.s) x.p k = 0 ∨ (L x.s).getD (Mu.backTo (L x.s) x.p k - 1) 0 = 10) ∧ tx = x.s.extract x.p (Mu.backTo (L x.s) x.p k) ∧ pd = x.s.extract (Mu.backTo (L x.s) x.p k) k) ∨
   (may = false ∧ ¬ (Mu.backTo (L x.s) x.p k = 0 ∨ (L x.s).getD (Mu.backTo (L x.s) x.p k - 1) 0 = 10) ∧ tx = x.s.extract x.p k ∧ pd = ⟨#[]⟩))
 (he : e = .returned (.tuple #[.pointer (some ⟨w1.heap.size, 0, none⟩), .nilIface])) :
 RtPost x t eb w e w2 := by
 obtain ⟨n, rfl⟩ := hw
 refine ⟨w1.heap.size, tx, pd, may, hfr.size, blk_new _ _, hfr.trans ((Fr.alloc _ _ _).trans (Fr.drewN _ _ _)), ?_⟩
 unfold Mu.rdText
 simp only [hf]
 have hT : TmAt ((w1.alloc (.cells #[.string tx, .string pd, .bool may] 153)).drewN n) t { x with p := k + x.o.size, line := l } := blk_alloc _ ht
 rcases hb with ⟨rfl, h1, rfl, rfl⟩ | ⟨rfl, h1, rfl, rfl⟩
 · rw [if_pos h1]
   exact ⟨L_extract _ _ _, L_extract _ _ _, rfl, he, l, hT⟩
 · rw [if_neg h1]
   exact ⟨L_extract _ _ _, rfl, rfl, he, l, hT⟩
theorem readText_some (B t : Nat) (eb : Addr) (k : Nat) (x : Tm) (w : World) (hs : x.s.size ≤ 2147483647) (hp : x.p ≤ x.s.size) (ho : 0 < x.o.size) (ho2 : x.o.size ≤ 2147483647) (ht : TmAt w t x) (hg : Gl B eb w) (hB : B ≤ t)
 (hf : Mu.find (L x.s) (L x.o) x.p = some k) :
 Calls Tryz.prog 86 #[.pointer (some ⟨t, 0, none⟩)] w (RtPost x t eb w) := by
 have hone : L x.o ≠ [] := by intro h; have := L_length x.o; rw [h] at this; simp at this; omega
 have hk1 := (Mu.find_some hf).1
 have hk2 := Mu.find_le hf hone
 rw [L_length, L_length] at hk2
 have HT := hid ht
 have HF := hid hf
 clear hf hone
 have HG := hid hg
 have heof := hg.eof
 clear hg
 obtain ⟨-, h1, -, h3, -⟩ := ht.cells
 clear ht
 have e1 := eq_nil_eof (.pointer (some eb))
 go_enter Tryz.func86, Tryz.ntmps86
 go_wp2_with fail
 refine (readString_any t x x.o _ w hs hp ho ho2 HT.out heof).mono ?_
 intro e w1 hpost
 unfold RsPost at hpost
 rw [HF.out] at hpost
 obtain ⟨rfl, hfr, l, ht1⟩ := hpost
 have HR := hid hfr
 have HT1 := hid ht1
 have heof1 := (HG.out.fr hfr (fun k hk => by omega)).eof
 clear hfr h1 h3 heof
 obtain ⟨q, hq⟩ : ∃ q, q = k + x.o.size := ⟨_, rfl⟩
 rw [← hq] at ht1
 obtain ⟨h0, h1, -, h3, -⟩ := ht1.cells
 clear ht1
 simp only at h0 h1 h3
 obtain ⟨s, hx⟩ : ∃ s, s = x.s := ⟨_, rfl⟩
 obtain ⟨o, hxo⟩ : ∃ o, o = x.o := ⟨_, rfl⟩
 obtain ⟨p, hxp⟩ : ∃ p, p = x.p := ⟨_, rfl⟩
 rw [← hx] at h0 hs hk2 hp
 rw [← hxo] at h1 hk2 ho ho2 hq
 rw [← hxp] at hp hk1
 have hql : q ≤ s.size := by omega
 have z1 : IntKind.i64.wrap ((q : Int) - (o.size : Int)) = (k : Int) := by rw [IntWalk.i64_in _ (by omega)]; omega
 have z1' : (q : Int) - (o.size : Int) = (k : Int) := by omega
 have HQ := hid hq
 have HX := hid hx
 have HXO := hid hxo
 have HXP := hid hxp
 clear hq hx hxo hxp
 rw [← HXP.out, ← HX.out]
 go_wp2
 go_quiet (fail)
 go_wp2
 go_loopg [7] (k + 1) (fun g i wr => ∃ (j n : Nat), i = .int .i64 j ∧ p ≤ j ∧ j ≤ k ∧ g = j + 1 ∧ wr = w1.drewN n ∧ Hid (Mu.backTo (L s) p k = Mu.backTo (L s) p j))
 case atStart => exact ⟨k, _, rfl, hk1, by omega, rfl, rfl, hid rfl⟩
 case round =>
  obtain ⟨j, n, rfl, hpj, hjk, rfl, rfl, HJ⟩ := hrel
  by_cases hgo : p < j ∧ Mu.blankB ((L s).getD (j - 1) 0) = true
  · obtain ⟨hlt, hbl⟩ := hgo
    obtain ⟨i, rfl⟩ : ∃ i, j = i + 1 := ⟨j - 1, by omega⟩
    have hi : i < s.size := by omega
    have HJ' : Hid (Mu.backTo (L s) p k = Mu.backTo (L s) p i) := hid (by
     rw [HJ.out]; conv => lhs; unfold Mu.backTo
     rw [if_pos ⟨hlt, by simpa using hbl⟩])
    rw [Nat.add_sub_cancel, L_get s i hi] at hbl;have z2 : IntKind.i64.wrap (((i + 1 : Nat) : Int) - 1) = (i : Int) := by rw [IntWalk.i64_in _ (by omega)]; omega
    have z3 : (((i + 1 : Nat) : Int) - 1) = (i : Int) := by omega
    by_cases h32 : s[i] = 32
    · have b1 : ((s[i].toNat : Int) != 32) = false := byte_lit_eq h32
      clear h32 hbl HJ
      go_wp2
      go_roundg (i + 1)
      case rel => exact ⟨i, _, by first | rfl | go_num, by omega, by omega, rfl, (by first | rfl | exact World.drewN_drewN _ _ _), HJ'⟩
      case measure => omega
    · have h9 : s[i] = 9 := by simpa [Mu.blankB, h32] using hbl
      have b1 : ((s[i].toNat : Int) != 32) = true := byte_lit_ne h32;have b2 : ((s[i].toNat : Int) != 9) = false := byte_lit_eq h9;clear h32 h9 hbl HJ
      go_wp2
      go_roundg (i + 1)
      case rel => exact ⟨i, _, by first | rfl | go_num, by omega, by omega, rfl, (by first | rfl | exact World.drewN_drewN _ _ _), HJ'⟩
      case measure => omega
  · have HS : Hid (Mu.backTo (L s) p j = j) := hid (by
     cases j with
     | zero => rfl
     | succ i => unfold Mu.backTo; rw [if_neg (by simpa using hgo)])
    replace HJ : Hid (Mu.backTo (L s) p k = j) := hid (HJ.out.trans HS.out);clear HS;have zp : (p : Int) ≤ (j : Int) := by omega
    have zk : (j : Int) ≤ (k : Int) := by omega
    have zs : (j : Int) ≤ (s.size : Int) := by omega
    have zks : (k : Int) ≤ (s.size : Int) := by omega
    have zw : IntKind.i64.wrap (k : Int) = (k : Int) := IntWalk.i64_in _ (by omega);have zk0 : (0 : Int) ≤ (k : Int) := by omega
    rcases Nat.eq_zero_or_pos j with hj0 | hj0
    · have hnlt : ¬ (p : Int) < (j : Int) := by omega
      have hc : ((j : Int) == 0) = true := by simp [hj0]
      have HM : Hid (j = 0 ∨ (L s).getD (j - 1) 0 = 10) := hid (.inl hj0);clear hgo hj0
      go_wp2
      refine still_tail 24 (by kernel_rfl) (by kernel_rfl) ?_;simp only [List.take_succ_cons, List.take_zero, List.drop_succ_cons, List.drop_zero]
      repeat still_step
      refine wpStill_nil ?_
      go_wp2
      go_ret2
      obtain rfl := HXP.out;obtain rfl := HX.out;exact rt_some (may := true) HF.out HR.out HT1.out ⟨_, rfl⟩ (by rw [HJ.out]; exact .inl ⟨rfl, HM.out, rfl, rfl⟩) rfl
    · obtain ⟨i, rfl⟩ : ∃ i, j = i + 1 := ⟨j - 1, by omega⟩
      have hi : i < s.size := by omega
      have z2 : IntKind.i64.wrap (((i + 1 : Nat) : Int) - 1) = (i : Int) := by rw [IntWalk.i64_in _ (by omega)]; omega
      have z3 : (((i + 1 : Nat) : Int) - 1) = (i : Int) := by omega
      have hc : (((i + 1 : Nat) : Int) == 0) = false := by rw [beq_eq_false_iff_ne]; omega
      have y1 : IntKind.i64.wrap ((i : Int) + 1) = (i : Int) + 1 := IntWalk.i64_in _ (by omega);have y2 : (0 : Int) ≤ (i : Int) + 1 := by omega
      have y3 : (p : Int) ≤ (i : Int) + 1 := by omega
      have y4 : (i : Int) + 1 ≤ (k : Int) := by omega
      have y5 : (i : Int) + 1 ≤ (s.size : Int) := by omega
      have y6 : ((i : Int) + 1).toNat = i + 1 := by omega
      clear hj0
      have hnl : (p : Int) < ((i + 1 : Nat) : Int) → ((s[i].toNat : Int) != 32) = true ∧ ((s[i].toNat : Int) != 9) = true := fun hlt => by
       have hb : ¬ Mu.blankB s[i] = true := fun h => hgo ⟨by omega, by rw [Nat.add_sub_cancel, L_get s i hi]; exact h⟩
       have h32 : s[i] ≠ 32 := fun h => hb (by rw [h]; rfl)
       have h9 : s[i] ≠ 9 := fun h => hb (by rw [h]; rfl)
       exact ⟨byte_lit_ne h32, byte_lit_ne h9⟩
      clear hgo
      by_cases h10 : s[i] = 10
      · have HM : Hid (i + 1 = 0 ∨ (L s).getD (i + 1 - 1) 0 = 10) := hid (.inr (by rw [Nat.add_sub_cancel, L_get s i hi]; exact h10))
        have b3 : ((s[i].toNat : Int) == 10) = true := byte_is h10;clear h10
        by_cases hlt : (p : Int) < ((i + 1 : Nat) : Int)
        · obtain ⟨b1, b2⟩ := hnl hlt
          clear hnl
          go_wp2
          refine still_tail 24 (by kernel_rfl) (by kernel_rfl) ?_;simp only [List.take_succ_cons, List.take_zero, List.drop_succ_cons, List.drop_zero]
          repeat still_step
          refine wpStill_nil ?_
          go_wp2
          go_ret2
          obtain rfl := HXP.out;obtain rfl := HX.out;exact rt_some (may := true) HF.out HR.out HT1.out ⟨_, rfl⟩ (by rw [HJ.out]; exact .inl ⟨rfl, HM.out, rfl, rfl⟩) rfl
        · clear hnl
          go_wp2
          refine still_tail 24 (by kernel_rfl) (by kernel_rfl) ?_;simp only [List.take_succ_cons, List.take_zero, List.drop_succ_cons, List.drop_zero]
          repeat still_step
          refine wpStill_nil ?_
          go_wp2
          go_ret2
          obtain rfl := HXP.out;obtain rfl := HX.out;exact rt_some (may := true) HF.out HR.out HT1.out ⟨_, rfl⟩ (by rw [HJ.out]; exact .inl ⟨rfl, HM.out, rfl, rfl⟩) rfl
      · have HM : Hid (¬ (i + 1 = 0 ∨ (L s).getD (i + 1 - 1) 0 = 10)) := hid (fun h => by
         rcases h with h | h
         · omega
         · rw [Nat.add_sub_cancel, L_get s i hi] at h
           exact h10 h)
        have b3 : ((s[i].toNat : Int) == 10) = false := byte_isnt h10;clear h10
        by_cases hlt : (p : Int) < ((i + 1 : Nat) : Int)
        · obtain ⟨b1, b2⟩ := hnl hlt
          clear hnl
          go_wp2
          refine still_tail 17 (by kernel_rfl) (by kernel_rfl) ?_;simp only [List.take_succ_cons, List.take_zero, List.drop_succ_cons, List.drop_zero]
          repeat still_step
          refine wpStill_nil ?_
          go_wp2
          go_ret2
          obtain rfl := HXP.out;obtain rfl := HX.out;exact rt_some (may := false) HF.out HR.out HT1.out ⟨_, rfl⟩ (by rw [HJ.out]; exact .inr ⟨rfl, HM.out, rfl, rfl⟩) rfl
        · clear hnl
          go_wp2
          refine still_tail 17 (by kernel_rfl) (by kernel_rfl) ?_;simp only [List.take_succ_cons, List.take_zero, List.drop_succ_cons, List.drop_zero]
          repeat still_step
          refine wpStill_nil ?_
          go_wp2
          go_ret2
          obtain rfl := HXP.out;obtain rfl := HX.out;exact rt_some (may := false) HF.out HR.out HT1.out ⟨_, rfl⟩ (by rw [HJ.out]; exact .inr ⟨rfl, HM.out, rfl, rfl⟩) rfl
theorem readText_any (B t : Nat) (eb : Addr) (x : Tm) (w : World) (hs : x.s.size ≤ 2147483647) (hp : x.p ≤ x.s.size) (ho : 0 < x.o.size) (ho2 : x.o.size ≤ 2147483647) (ht : TmAt w t x) (hg : Gl B eb w) (hB : B ≤ t) :
 Calls Tryz.prog 86 #[.pointer (some ⟨t, 0, none⟩)] w (RtPost x t eb w) := by
 cases hf : Mu.find (L x.s) (L x.o) x.p with
 | none => exact readText_none B t eb x w hs hp ho ho2 ht hg hB hf
 | some k => exact readText_some B t eb k x w hs hp ho ho2 ht hg hB hf
end Go.Proofs.YtfakghnpkdoclaaGreatDoor
namespace Go.Proofs.YtfakghnpkdoclaaGreatDoor
open Go.RowKit
open Go.Lib (hid)
def tagPatB (x : Tm) : ByteArray := if x.p < x.s.size ∧ (L x.s).getD x.p 0 = 123 then ⟨#[125]⟩ ++ x.c else x.c
theorem L_tagPatB (x : Tm) : L (tagPatB x) = Mu.tagPat (L x.s) x.p (L x.c) := by
 unfold tagPatB Mu.tagPat
 rw [L_length]
 split
 · simp [L]
 · rfl
def RgPost (x : Tm) (t : Nat) (may : Bool) (w : World) (e : Ending) (w' : World) : Prop :=
 match Mu.rdTag (L x.s) x.p (L x.c) may with
 | none => ∃ T v, e = .returned (.tuple #[.pointer none, .iface T v]) ∧ Fr (· = t) w w'
 | some q => ∃ (r : Nat) (tg : ByteArray), e = .returned (.tuple #[.pointer (some ⟨r, 0, none⟩), .nilIface]) ∧ w.heap.size ≤ r ∧
  w'.heap[r]? = some (.cells #[.string tg, .bool q.alone] 161 (0, 0)) ∧ L tg = q.tag ∧ Fr (· = t) w w' ∧ ∃ l, TmAt w' t { x with p := q.pos, line := l }
theorem rg_open {x : Tm} {t : Nat} {may : Bool} {w w' : World} (hf : Mu.find (L x.s) (L (tagPatB x)) x.p = none) (hfr : Fr (· = t) w w') (T : TypeId) (v : Value) {e : Ending}
 (he : e = .returned (.tuple #[.pointer none, .iface T v])) : RgPost x t may w e w' := by
 unfold RgPost Mu.rdTag
 rw [← L_tagPatB, hf]
 exact ⟨T, v, he, hfr⟩
theorem rg_tag {x : Tm} {may : Bool} {k p1 : Nat} {r : ByteArray} (hf : Mu.find (L x.s) (L (tagPatB x)) x.p = some k) (hp : p1 = k + (tagPatB x).size)
 (htg : L r = Mu.trimBy Mu.spB (Mu.sub (L x.s) x.p (p1 - x.c.size))) : Mu.rdTag (L x.s) x.p (L x.c) may =
   (if L r = [] then none else if may then if Mu.isSkip ((L r).getD 0 0) then
     if Mu.eow (L x.s) p1 = x.s.size then some ⟨L r, true, Mu.eow (L x.s) p1⟩
     else if (L x.s).getD (Mu.eow (L x.s) p1) 0 = 10 then some ⟨L r, true, Mu.eow (L x.s) p1 + 1⟩
     else if Mu.eow (L x.s) p1 + 1 < x.s.size ∧ (L x.s).getD (Mu.eow (L x.s) p1) 0 = 13 ∧ (L x.s).getD (Mu.eow (L x.s) p1 + 1) 0 = 10 then some ⟨L r, true, Mu.eow (L x.s) p1 + 2⟩
     else some ⟨L r, false, p1⟩
     else some ⟨L r, false, p1⟩ else some ⟨L r, true, p1⟩) := by
 have e : k + (Mu.tagPat (L x.s) x.p (L x.c)).length = p1 := by rw [hp, ← L_tagPatB, L_length]
 unfold Mu.rdTag
 rw [← L_tagPatB, hf]
 simp only [L_tagPatB, e, L_length]
 rw [← htg]
theorem rg_empty {x : Tm} {t : Nat} {may : Bool} {w w' : World} {k p1 : Nat} {r : ByteArray} (hf : Mu.find (L x.s) (L (tagPatB x)) x.p = some k) (hp : p1 = k + (tagPatB x).size)
 (htg : L r = Mu.trimBy Mu.spB (Mu.sub (L x.s) x.p (p1 - x.c.size))) (he0 : L r = []) (hfr : Fr (· = t) w w') (T : TypeId) (v : Value) {e : Ending}
 (he : e = .returned (.tuple #[.pointer none, .iface T v])) : RgPost x t may w e w' := by
 unfold RgPost
 rw [rg_tag hf hp htg, if_pos he0]
 exact ⟨T, v, he, hfr⟩
theorem rg_done {x : Tm} {t : Nat} {may : Bool} {w w1 w' : World} {q : Mu.TagR} {r : ByteArray} {l : Int} (hq : Mu.rdTag (L x.s) x.p (L x.c) may = some q) (ht : L r = q.tag)
 (hfr : Fr (· = t) w w1) (htm : TmAt w1 t { x with p := q.pos, line := l }) (hw : w' = w1.alloc (.cells #[.string r, .bool q.alone] 161)) {b : Nat} (hb : b = w1.heap.size) {e : Ending}
 (he : e = .returned (.tuple #[.pointer (some ⟨b, 0, none⟩), .nilIface])) : RgPost x t may w e w' := by
 subst hw hb
 unfold RgPost
 rw [hq]
 exact ⟨w1.heap.size, r, he, hfr.size, blk_new _ _, ht, hfr.trans (Fr.alloc _ _ _), l, blk_alloc _ htm⟩
theorem setCell_size (w : World) (a : Addr) (v : Value) : w.heap.size = (w.setCell a v).heap.size := by simp [World.setCell]
theorem setCell_size2 (w : World) (a b : Addr) (u v : Value) : w.heap.size = ((w.setCell a u).setCell b v).heap.size := by simp [World.setCell]
theorem getD_mem {l : Mu.B} {k : Nat} (h : k < l.length) : l.getD k 0 ∈ l := by
 rw [List.getD_eq_getElem?_getD, List.getElem?_eq_getElem h]
 exact List.getElem_mem h
def skipB : ByteArray := ⟨#[35, 94, 47, 60, 62, 61, 33]⟩
theorem skip_no (r : ByteArray) (hr : L r ≠ []) (h : ¬ Mu.isSkip ((L r).getD 0 0) = true) : Mu.find (L skipB) (L (r.extract 0 1)) 0 = none := by
 rw [L_extract]
 cases hl : L r with
 | nil => exact absurd hl hr
 | cons c l =>
  rw [hl] at h;have e : Mu.sub (c :: l) 0 1 = [c] := by simp [Mu.sub]
  rw [e];refine Mu.find_eq_none fun j _ ha => h ?_
  have := (ha.subset : [c] ⊆ (L skipB).drop j) (List.mem_singleton.2 rfl)
  have hm : c ∈ L skipB := List.mem_of_mem_drop this;simp only [L, skipB, List.mem_cons, List.not_mem_nil, or_false] at hm
  rcases hm with rfl | rfl | rfl | rfl | rfl | rfl | rfl <;> rfl
theorem skip_yes (r : ByteArray) (h : Mu.isSkip ((L r).getD 0 0) = true) : ∃ k, Mu.find (L skipB) (L (r.extract 0 1)) 0 = some k := by
 rw [L_extract]
 cases hl : L r with
 | nil => rw [hl] at h; cases h
 | cons c l =>
  rw [hl] at h;have e : Mu.sub (c :: l) 0 1 = [c] := by simp [Mu.sub]
  rw [e]
  have hc : c = 35 ∨ c = 94 ∨ c = 47 ∨ c = 60 ∨ c = 62 ∨ c = 61 ∨ c = 33 := by
   simpa [Mu.isSkip, Bool.or_eq_true, beq_iff_eq, or_assoc] using h
  rcases hc with rfl | rfl | rfl | rfl | rfl | rfl | rfl
  · exact ⟨0, rfl⟩
  · exact ⟨1, rfl⟩
  · exact ⟨2, rfl⟩
  · exact ⟨3, rfl⟩
  · exact ⟨4, rfl⟩
  · exact ⟨5, rfl⟩
  · exact ⟨6, rfl⟩
theorem ret2 {a b c d : Value} (h : Ending.returned (.tuple #[a, b]) = .returned (.tuple #[c, d])) : a = c ∧ b = d := by
 injection h with h
 injection h with h
 simp at h
 exact h
theorem tagPatB_size (x : Tm) : x.c.size ≤ (tagPatB x).size := by
 unfold tagPatB
 split
 · rw [ByteArray.size_append]; omega
 · omega
theorem rs_ret {x : Tm} {pat : ByteArray} {t : Nat} {eof : Value} {w w' : World} {e : Ending} (h : RsPost x pat t eof w e w') : ∃ a b, e = .returned (.tuple #[a, b]) := by
 unfold RsPost at h
 split at h
 · exact ⟨_, _, h.1⟩
 · exact ⟨_, _, h.1⟩
theorem readTag_any (B t : Nat) (eb : Addr) (x : Tm) (may : Bool) (w : World) (hs : x.s.size ≤ 2147483647) (hp : x.p ≤ x.s.size) (hc : 0 < x.c.size) (hc2 : x.c.size ≤ 2147483) (ha : ∀ b ∈ L x.s, b.toNat < 128) (hr : ∀ b ∈ L x.s, b ≠ 13) (ht : TmAt w t x) (hg : Gl B eb w) (hB : B ≤ t) :
 Calls Tryz.prog 87 #[.pointer (some ⟨t, 0, none⟩), .bool may] w (RgPost x t may w) := by
 have HA := hid ha
 have HRR := hid hr
 clear ha hr
 have hz0 : (ByteArray.mk #[125] ++ x.c).size = 1 + x.c.size := by rw [ByteArray.size_append]; rfl
 have hz1 : 0 < (ByteArray.mk #[125] ++ x.c).size := by omega
 have hz2 : (ByteArray.mk #[125] ++ x.c).size ≤ 2147483647 := by omega
 clear hz0
 have HT := hid ht
 have HG := hid hg
 have heof := hg.eof
 clear hg
 obtain ⟨h0, -, h2, h3, -⟩ := ht.cells
 clear ht
 go_enter Tryz.func87, Tryz.ntmps87
 go_upto_region 3 with fail
 go_cut [33] (fun v wr => v = .bool (decide (x.p < x.s.size ∧ (L x.s).getD x.p 0 = 123)) ∧ Hid (Sm w wr))
 case first =>
  by_cases hlt : x.p < x.s.size
  · have hlt' : (x.p : Int) < (x.s.size : Int) := by omega
    by_cases hb : x.s[x.p] = 123
    · have b1 : ((x.s[x.p].toNat : Int) == 123) = true := byte_is hb
      have hv : (Value.bool true) = .bool (decide (x.p < x.s.size ∧ (L x.s).getD x.p 0 = 123)) := by
       rw [decide_eq_true ⟨hlt, by rw [L_get _ _ hlt]; exact hb⟩]
      have HV := hid hv;clear hb hv
      go_quiet (fail)
      go_wp2_with fail
      go_meet
      case rel => exact ⟨HV.out, hid (by first | exact Sm.refl _ | exact Sm.mk _ _)⟩
    · have b1 : ((x.s[x.p].toNat : Int) == 123) = false := byte_isnt hb
      have hv : (Value.bool false) = .bool (decide (x.p < x.s.size ∧ (L x.s).getD x.p 0 = 123)) := by
       rw [decide_eq_false (fun h => hb (by rw [← L_get _ _ hlt]; exact h.2))]
      have HV := hid hv;clear hb hv
      go_quiet (fail)
      go_wp2_with fail
      go_meet
      case rel => exact ⟨HV.out, hid (by first | exact Sm.refl _ | exact Sm.mk _ _)⟩
  · have hlt' : decide ((x.p : Int) < (x.s.size : Int)) = false := by simp; omega
    have hv : (Value.bool false) = .bool (decide (x.p < x.s.size ∧ (L x.s).getD x.p 0 = 123)) := by
     rw [decide_eq_false (fun h => hlt h.1)]
    have HV := hid hv;clear hv
    go_quiet (fail)
    go_wp2_with fail
    go_meet
    case rel => exact ⟨HV.out, hid (by first | exact Sm.refl _ | exact Sm.mk _ _)⟩
 case rest =>
  obtain ⟨rfl, HS⟩ := hcut;have HT1 := hid (HT.out.sm HS.out);have HR1 := hid (HS.out.fr (· = t));have heof1 := (HS.out.cell _).trans heof;obtain ⟨h0, -, h2, h3, -⟩ := HT1.out.cells;clear heof HS
  go_upto_if 33 with fail
  go_cut [6, 7] (fun a b wr => Hid (RsPost x (tagPatB x) t (.iface 219 (.pointer (some eb))) wc (.returned (.tuple #[a, b])) wr))
  case first =>
   by_cases hb : x.p < x.s.size ∧ (L x.s).getD x.p 0 = 123
   · have hd : decide (x.p < x.s.size ∧ (L x.s).getD x.p 0 = 123) = true := decide_eq_true hb
     have HB := hid hb;clear hb;go_wp2_with fail;refine (readString_any t x (ByteArray.mk #[125] ++ x.c) _ _ hs hp hz1 hz2 HT1.out heof1).mono ?_;intro e w1 hpost;obtain ⟨a, b, rfl⟩ := rs_ret hpost;have HP := hid hpost;clear hpost;go_wp2_with fail
     go_meet
     case rel =>
      have e1 : tagPatB x = ⟨#[125]⟩ ++ x.c := if_pos HB.out;rw [e1];exact HP
   · have hd : decide (x.p < x.s.size ∧ (L x.s).getD x.p 0 = 123) = false := decide_eq_false hb
     have HB := hid hb;clear hb;go_wp2_with fail;refine (readString_any t x x.c _ _ hs hp hc (by omega) HT1.out heof1).mono ?_;intro e w1 hpost;obtain ⟨a, b, rfl⟩ := rs_ret hpost;have HP := hid hpost;clear hpost;go_wp2_with fail
     go_meet
     case rel =>
      have e1 : tagPatB x = x.c := if_neg HB.out;rw [e1];exact HP
  case rest =>
   have hpost := hcut.out;clear hcut;unfold RsPost at hpost
   cases hf : Mu.find (L x.s) (L (tagPatB x)) x.p with
   | none =>
    rw [hf] at hpost;obtain ⟨he, hfr, ht2⟩ := hpost;obtain ⟨rfl, rfl⟩ := ret2 he;have HF := hid hf;have HR2 := hid (HR1.out.trans hfr);have heof2 := (HG.out.fr HR2.out (fun k hk => by omega)).eof;obtain ⟨-, -, -, -, h4, -⟩ := ht2.cells;have e1 := eq_eof_eof eb;clear hf hfr ht2 he;go_wp2_with fail;refine (newError_any _ _ _).mono ?_;rintro e w2 ⟨rfl, hf⟩;have HR3 := hid (HR2.out.trans0 hf)
    clear hf;go_wp2_with fail
    go_ret2
    exact rg_open HF.out HR3.out _ _ rfl
   | some k =>
    rw [hf] at hpost;obtain ⟨he, hfr, l, ht2⟩ := hpost;obtain ⟨ha, hb⟩ := ret2 he;have hone : L (tagPatB x) ≠ [] := fun h => by have := L_length (tagPatB x); rw [h] at this; simp at this; have := tagPatB_size x; omega
    have hk1 := (Mu.find_some hf).1;have hk2 := Mu.find_le hf hone;rw [L_length, L_length] at hk2;have hcs := tagPatB_size x;have HF := hid hf;clear hf hone he;obtain ⟨T, hT⟩ : ∃ T, T = x.s.extract x.p (k + (tagPatB x).size) := ⟨_, rfl⟩
    obtain ⟨p1, hp1⟩ : ∃ p1, p1 = k + (tagPatB x).size := ⟨_, rfl⟩
    rw [← hT] at ha;subst ha hb;rw [← hp1] at hk2 ht2 hT;have hTs : T.size = p1 - x.p := by rw [hT, ByteArray.size_extract, Nat.min_eq_left hk2]
    have HR2 := hid (HR1.out.trans hfr);have HT2 := hid ht2;have HG2 := HG.out.fr HR2.out (fun k hk => by omega);have heof2 := HG2.eof;obtain ⟨h0, -, h2, h3, h4, -⟩ := ht2.cells;simp only at h0 h2 h3 h4;have e1 := eq_nil_eof (.pointer (some eb));obtain ⟨m, hm⟩ : ∃ m, m = T.size - x.c.size := ⟨_, rfl⟩
    have hm1 : x.c.size ≤ T.size := by omega
    have hTb : T.size ≤ 2147483647 := by omega
    have z1' : ((T.size : Int) - (x.c.size : Int)) = (m : Int) := by omega
    have z2 : (m : Int) ≤ (T.size : Int) := by omega
    have HTX : Hid (L (T.extract 0 m) = Mu.sub (L x.s) x.p (p1 - x.c.size)) := hid (by
     rw [L_extract, hT, L_extract, hm, hTs];unfold Mu.sub;rw [List.drop_zero, List.take_drop, List.take_take]
     congr 2
     omega)
    have HAX : Hid (∀ b ∈ L (T.extract 0 m), b.toNat < 128) := hid (fun b hb => HA.out b (Mu.mem_sub (by rw [← HTX.out]; exact hb)));have hxs : (T.extract 0 m).size ≤ 2147483647 := by rw [ByteArray.size_extract]; omega
    have HM := hid hm;have HTT := hid hT;have HTS := hid hTs;have HP1 := hid hp1;have hp1s : p1 ≤ x.s.size := hk2;have HGG := hid HG2;clear hm hT hTs hp1 hfr ht2 HG2 hk2;go_wp2_with fail;refine (trimSpace_any (T.extract 0 m) _ hxs HAX.out HGG.out).mono ?_;rintro e w2 ⟨r, rfl, hr, hf⟩;have HR3 := hid (HR2.out.trans0 hf);have HT3 := hid (HT2.out.fr0 hf);have HG3 := hid (HGG.out.fr0 hf)
    have HTG : Hid (L r = Mu.trimBy Mu.spB (Mu.sub (L x.s) x.p (p1 - x.c.size))) := hid (by rw [hr, HTX.out])
    have hrb : r.size ≤ 2147483647 := by
     have := Mu.trimBy_length Mu.spB (L (T.extract 0 m));rw [← hr, L_length, L_length] at this; omega
    obtain ⟨h0, -, h2, h3, h4, -⟩ := HT3.out.cells;simp only at h0 h2 h3 h4;clear hr hf HTX HAX heof2 heof1 HGG HR1 HT1 hm1 z1' z2 hxs
    by_cases hre : r.size = 0
    · have b1 : ((r.size : Int) == 0) = true := by simp [hre]
      have HE : Hid (L r = []) := hid (List.eq_nil_of_length_eq_zero hre);clear hre;go_wp2_with fail;refine (newError_any _ _ _).mono ?_;rintro e w3 ⟨rfl, hf⟩;have HR4 := hid (HR3.out.trans0 hf);clear hf;go_wp2_with fail
      go_ret2
      exact rg_empty HF.out HP1.out HTG.out HE.out HR4.out _ _ rfl
    · have b1 : ((r.size : Int) == 0) = false := by simp [hre]
      have HE : Hid (L r ≠ []) := hid (fun h => hre (by rw [← L_length, h]; rfl));have hr1 : 1 ≤ r.size := by omega
      have hr1' : (1 : Int) ≤ (r.size : Int) := by omega
      clear hre
      go_upto_block 0 with fail
      go_cut [9] (fun v wr => v = .int .i64 (Mu.eow (L x.s) p1) ∧ Hid (Sm w2 wr))
      case first =>
       go_wp2_with fail
       go_loopg [9, 10] (x.s.size + 1 - p1) (fun g v i wr => ∃ (j : Nat), v = .int .i64 p1 ∧ i = .int .i64 j ∧ p1 ≤ j ∧ j ≤ x.s.size ∧ g = x.s.size + 1 - j ∧ wr = w2 ∧ Hid (∀ q, p1 ≤ q → q < j → Mu.blankB ((L x.s).getD q 0) = true))
       case atStart => exact ⟨p1, rfl, rfl, by omega, by omega, by omega, rfl, hid (fun q h1 h2 => absurd h1 (by omega))⟩
       case round =>
        obtain ⟨j, rfl, rfl, hj1, hj2, rfl, rfl, HJ⟩ := hrel
        by_cases hlt : j < x.s.size
        · have hlt' : (j : Int) < (x.s.size : Int) := by omega
          by_cases hbl : Mu.blankB x.s[j] = true
          · have HJ' : Hid (∀ q, p1 ≤ q → q < j + 1 → Mu.blankB ((L x.s).getD q 0) = true) := hid (fun q h1 h2 => by
             rcases Nat.lt_or_ge q j with h | h
             · exact HJ.out q h1 h
             · obtain rfl : q = j := by omega
               rw [L_get _ _ hlt]; exact hbl)
            by_cases h32 : x.s[j] = 32
            · have b2 : ((x.s[j].toNat : Int) == 32) = true := byte_is h32
              clear h32 hbl HJ;go_wp2_with fail
              go_roundg (x.s.size + 1 - (j + 1))
              case rel => exact ⟨j + 1, rfl, by go_num, by omega, by omega, by omega, rfl, HJ'⟩
              case measure => omega
            · have h9 : x.s[j] = 9 := by simpa [Mu.blankB, h32] using hbl
              have b2 : ((x.s[j].toNat : Int) == 32) = false := byte_isnt h32;have b3 : ((x.s[j].toNat : Int) == 9) = true := byte_is h9;clear h32 h9 hbl HJ;go_wp2_with fail
              go_roundg (x.s.size + 1 - (j + 1))
              case rel => exact ⟨j + 1, rfl, by go_num, by omega, by omega, by omega, rfl, HJ'⟩
              case measure => omega
          · have b2 : ((x.s[j].toNat : Int) == 32) = false := byte_isnt (b := 32) (fun h => hbl (by rw [h]; rfl))
            have b3 : ((x.s[j].toNat : Int) == 9) = false := byte_isnt (b := 9) (fun h => hbl (by rw [h]; rfl));have HW : Hid (Mu.eow (L x.s) p1 = j) := hid (Mu.eow_at (L x.s) p1 j hj1 hlt HJ.out (by rw [L_get _ _ hlt]; simpa using hbl));clear hbl HJ;go_wp2_with fail
            go_meet
            case rel => exact ⟨by rw [HW.out], hid (Sm.refl _)⟩
        · have hd : decide ((j : Int) < (x.s.size : Int)) = false := by simp; omega
          have HW : Hid (Mu.eow (L x.s) p1 = p1) := hid (Mu.eow_all (L x.s) p1 hp1s (fun q h1 (h2 : q < x.s.size) => HJ.out q h1 (by omega)));clear HJ;go_wp2_with fail
          go_meet
          case rel => exact ⟨by rw [HW.out], hid (Sm.refl _)⟩
      case rest =>
       obtain ⟨rfl, HS⟩ := hcut;have HT4 := hid (HT3.out.sm HS.out);have HR4 := hid (HR3.out.trans (HS.out.fr (· = t)));have HG4 := hid (HG3.out.fr (HS.out.fr (· = t)) (fun k hk => by omega));have hwe := Mu.eow_le (L x.s) p1 hp1s;rw [L_length] at hwe;have HQ := hid (rg_tag (may := may) HF.out HP1.out HTG.out);obtain ⟨v, hv⟩ : ∃ v, v = Mu.eow (L x.s) p1 := ⟨_, rfl⟩
       rw [← hv] at hwe HQ ⊢;obtain ⟨h0, -, h2, h3, h4, -⟩ := HT4.out.cells;have f3 := HT4.out.free 3;have f4 := HT4.out.free 4;simp only at h0 h2 h3 h4;clear HS hv HR3 HT3 HG3
       cases may with
       | false =>
        have HQ' : Hid (Mu.rdTag (L x.s) x.p (L x.c) false = some ⟨L r, true, p1⟩) := hid (by rw [HQ.out, if_neg HE.out]; first | done | rfl);clear HQ;go_wp2_with fail
        go_ret2
        exact rg_done (q := ⟨L r, true, p1⟩) HQ'.out rfl HR4.out HT4.out rfl rfl rfl
       | true =>
        go_wp2_with fail;have hsl : (r.extract 0 1).size ≤ 2147483647 := by rw [ByteArray.size_extract]; omega
        refine (zzIndex_any _ _ _ (by decide) hsl).mono ?_;intro e w5 hpost;unfold IdxPost at hpost;obtain ⟨rfl, rfl⟩ := hpost
        by_cases hsk : Mu.isSkip ((L r).getD 0 0) = true
        · have hw1 : (v : Int) ≤ (x.s.size : Int) := by omega
          obtain ⟨ix, hix⟩ := skip_yes r hsk;unfold skipB at hix;rw [hix];simp only [idxVal];clear hix
          by_cases hve : v = x.s.size
          · have b2 : ((v : Int) == (x.s.size : Int)) = true := by rw [hve]; simp
            have HQ' : Hid (Mu.rdTag (L x.s) x.p (L x.c) true = some ⟨L r, true, v⟩) := hid (by rw [HQ.out, if_neg HE.out, if_pos trivial, if_pos hsk, if_pos hve]);clear HQ hve hsk;go_wp2_with fail
            go_ret2
            exact rg_done (q := ⟨L r, true, v⟩) HQ'.out rfl (HR4.out.trans (Fr.setCell (M := (· = t)) _ _ _ (.inl rfl))) (HT4.out.set3 v) rfl (setCell_size _ _ _) rfl
          · have b2 : ((v : Int) == (x.s.size : Int)) = false := by rw [beq_eq_false_iff_ne]; omega
            have hvl : v < x.s.size := by omega
            have hvl' : (v : Int) < (x.s.size : Int) := by omega
            by_cases h10 : x.s[v] = 10
            · have b3 : ((x.s[v].toNat : Int) == 10) = true := byte_is (b := 10) h10
              have hg10 : (L x.s).getD v 0 = 10 := by rw [L_get _ _ hvl]; exact h10
              have HQ' : Hid (Mu.rdTag (L x.s) x.p (L x.c) true = some ⟨L r, true, v + 1⟩) := hid (by rw [HQ.out, if_neg HE.out, if_pos trivial, if_pos hsk, if_neg hve, if_pos hg10]);clear HQ hve h10 hg10 hsk;go_wp2_with fail
              go_ret2
              exact rg_done (q := ⟨L r, true, v + 1⟩) HQ'.out rfl ((HR4.out.trans (Fr.setCell (M := (· = t)) _ _ _ (.inl rfl))).trans (Fr.setCell (M := (· = t)) _ _ _ (.inl rfl))) ((HT4.out.set3 (v + 1)).set4 _) rfl (setCell_size2 _ _ _ _ _) rfl
            · have b3 : ((x.s[v].toNat : Int) == 10) = false := byte_isnt (b := 10) h10
              have h13 : x.s[v] ≠ 13 := HRR.out _ (by rw [← L_get _ _ hvl]; exact getD_mem hvl);have b4 : ((x.s[v].toNat : Int) == 13) = false := byte_isnt (b := 13) h13;have hg10 : ¬ (L x.s).getD v 0 = 10 := by rw [L_get _ _ hvl]; exact h10
              have hg13 : ¬ (v + 1 < x.s.size ∧ (L x.s).getD v 0 = 13 ∧ (L x.s).getD (v + 1) 0 = 10) := fun h => h13 (by rw [← L_get _ _ hvl]; exact h.2.1)
              have HQ' : Hid (Mu.rdTag (L x.s) x.p (L x.c) true = some ⟨L r, false, p1⟩) := hid (by rw [HQ.out, if_neg HE.out, if_pos trivial, if_pos hsk, if_neg hve, if_neg hg10, if_neg hg13]);clear HQ hve h10 h13 hg10 hg13 hsk
              by_cases hv1 : v + 1 < x.s.size
              · have b5 : (v : Int) + 1 < (x.s.size : Int) := by omega
                go_wp2_with fail
                go_ret2
                exact rg_done (q := ⟨L r, false, p1⟩) HQ'.out rfl HR4.out HT4.out rfl rfl rfl
              · have b5 : decide ((v : Int) + 1 < (x.s.size : Int)) = false := by simp; omega
                go_wp2_with fail
                go_ret2
                exact rg_done (q := ⟨L r, false, p1⟩) HQ'.out rfl HR4.out HT4.out rfl rfl rfl
        · have HQ' : Hid (Mu.rdTag (L x.s) x.p (L x.c) true = some ⟨L r, false, p1⟩) := hid (by rw [HQ.out, if_neg HE.out, if_pos trivial, if_neg hsk])
          have hix := skip_no r HE.out hsk;unfold skipB at hix;rw [hix];simp only [idxVal];clear HQ hsk hix;go_wp2_with fail
          go_ret2
          exact rg_done (q := ⟨L r, false, p1⟩) HQ'.out rfl HR4.out HT4.out rfl rfl rfl
end Go.Proofs.YtfakghnpkdoclaaGreatDoor
namespace Go.Proofs.YtfakghnpkdoclaaGreatDoor
open Go.RowKit
open Go.Lib (hid)
theorem parsePartial_any (t : Nat) (x : Tm) (name indent : ByteArray) (T : TypeId) (p : Value) (w : World) (ht : TmAt w t x) (hp : x.prov = .iface T p) :
 Calls Tryz.prog 91 #[.pointer (some ⟨t, 0, none⟩), .string name, .string indent] w
  fun e w' => e = .returned (.tuple #[.pointer (some ⟨w.heap.size, 0, none⟩), .nilIface]) ∧ w.alloc (.cells #[.string name, .string indent, .iface T p] 185) = w' := by
 obtain ⟨-, -, -, -, -, -, -, h7, -⟩ := ht.cells
 rw [hp] at h7
 clear hp ht
 go_enter Tryz.func91, Tryz.ntmps91
 go_wp2
 go_ret2
 exact ⟨rfl, rfl⟩
def CutPost (s pat : ByteArray) (w : World) (e : Ending) (w' : World) : Prop := Sm w w' ∧
 match Mu.find (L s) (L pat) 0 with
 | some k => e = .returned (.tuple #[.string (s.extract 0 k), .string (s.extract (k + pat.size) s.size), .bool true])
 | none => e = .returned (.tuple #[.string s, .string ⟨#[]⟩, .bool false])
theorem zzCut_any (s pat : ByteArray) (w : World) (hs : s.size ≤ 2147483647) (hp : pat.size ≤ 2147483647) (hp0 : 0 < pat.size) :
 Calls Tryz.prog 101 #[.string s, .string pat] w (CutPost s pat w) := by
 cases hf : Mu.find (L s) (L pat) 0 with
 | none =>
  have HF := hid hf;clear hf;go_enter Tryz.func101, Tryz.ntmps101;go_wp2_with fail;refine (zzIndex_any s pat _ hs hp).mono ?_;intro e w1 hpost;unfold IdxPost at hpost;rw [HF.out] at hpost;simp only [idxVal] at hpost;obtain ⟨rfl, rfl⟩ := hpost;go_wp2_with fail
  go_ret3
  unfold CutPost;rw [HF.out];exact ⟨Sm.refl _, rfl⟩
 | some k =>
  have hk := Mu.find_le hf (by intro h; rw [← L_length, h] at hp0; exact absurd hp0 (by simp));rw [L_length, L_length] at hk;have HF := hid hf;clear hf;have z1 : (k : Int) ≤ (s.size : Int) := by omega
  have z2 : (k : Int) + (pat.size : Int) ≤ (s.size : Int) := by omega
  go_enter Tryz.func101, Tryz.ntmps101;go_wp2_with fail;refine (zzIndex_any s pat _ hs hp).mono ?_;intro e w1 hpost;unfold IdxPost at hpost;rw [HF.out] at hpost;simp only [idxVal] at hpost;obtain ⟨rfl, rfl⟩ := hpost;have z3 : IntKind.i64.wrap ((k : Int) + (pat.size : Int)) = (k : Int) + (pat.size : Int) := IntWalk.i64_in _ (by omega);have z4 : (0 : Int) ≤ (k : Int) + (pat.size : Int) := by omega
  have z5 : ((k : Int) + (pat.size : Int)).toNat = k + pat.size := by omega
  have z6 : (0 : Int) ≤ (k : Int) := by omega
  go_wp2_with fail
  go_quiet (fail)
  go_wp2_with fail
  go_ret3
  unfold CutPost;rw [HF.out];exact ⟨Sm.mk _ _, rfl⟩
def DelPost (x : Tm) (t : Nat) (o c : Mu.B) (w : World) (e : Ending) (w' : World) : Prop :=
 e = .returned (.tuple #[]) ∧ Fr (· = t) w w' ∧ ∃ ob cb : ByteArray, L ob = o ∧ L cb = c ∧ TmAt w' t { x with o := ob, c := cb }
theorem cutSp_some {l o c : Mu.B} (h : Mu.cutSp l = some (o, c)) : ∃ k, Mu.find l [32] 0 = some k ∧ o = l.take k ∧ c = l.drop (k + 1) := by
 unfold Mu.cutSp at h
 cases hf : Mu.find l [32] 0 with
 | none => rw [hf] at h; cases h
 | some k =>
  rw [hf] at h;simp only [Option.map_some, Option.some.injEq, Prod.mk.injEq] at h;exact ⟨k, rfl, h.1.symm, h.2.symm⟩
theorem parseCustomDelimiter_any (B t : Nat) (eb : Addr) (x : Tm) (tag : ByteArray) (o c : Mu.B) (w : World) (hs : tag.size ≤ 2147483647) (ha : ∀ b ∈ L tag, b.toNat < 128) (ht : TmAt w t x) (hg : Gl B eb w)
 (hc : Mu.custom (L tag) = some (o, c)) :
 Calls Tryz.prog 92 #[.pointer (some ⟨t, 0, none⟩), .string tag] w (DelPost x t o c w) := by
 unfold Mu.custom at hc
 split at hc
 · cases hc
 rename_i hcond
 have h3 : 3 ≤ tag.size := by
  rw [← L_length]; omega
 have hlast : (L tag).getLast? = some 61 := Classical.byContradiction fun h => hcond (.inr h)
 have hq : tag[tag.size - 1]'(by omega) = 61 := by
  rw [List.getLast?_eq_getElem?, L_length] at hlast;rw [← L_get _ _ (by omega), List.getD_eq_getElem?_getD, hlast]; rfl
 have hc' : Mu.cutSp (Mu.trimBy Mu.spB (((L tag).drop 1).dropLast)) = some (o, c) := by
  split at hc
  · cases hc
  · split at hc
    · cases hc
    · rename_i h _ ; rw [h, hc]
 obtain ⟨k, hk, ho, hcc⟩ := cutSp_some hc'
 have b0 : decide ((tag.size : Int) < 3) = false := by simp; omega
 have b0' : (3 : Int) ≤ (tag.size : Int) := by omega
 obtain ⟨n, hn⟩ : ∃ n, tag.size = n + 1 := ⟨tag.size - 1, by omega⟩
 have hnn : ((tag.size : Int) - 1) = (n : Int) := by omega
 have hn1 : n < tag.size := by omega
 have hq' : tag[n] = 61 := by
  have e : n = tag.size - 1 := by omega
  subst e;exact hq
 have b1 : ((tag[n].toNat : Int) != 61) = false := byte_eq' (b := 61) hq'
 have z1 : (1 : Int) ≤ (n : Int) := by omega
 have z2 : (n : Int) ≤ (tag.size : Int) := by omega
 have HT := hid ht
 have HG := hid hg
 have hin : ((L tag).drop 1).dropLast = L (tag.extract 1 n) := by
  rw [L_extract, Mu.sub, List.dropLast_eq_take, List.length_drop, L_length, hn, List.drop_take]
  congr 1
 have HHO := hid ho
 have HHC := hid hcc
 have HIN := hid hin
 have HK := hid hk
 have hts : (tag.extract 1 n).size ≤ 2147483647 := by rw [ByteArray.size_extract]; omega
 have HA : Hid (∀ b ∈ L (tag.extract 1 n), b.toNat < 128) := hid (fun b hb => ha b (Mu.mem_sub (by rw [← L_extract]; exact hb)))
 clear hlast hq hq' hcond hin ho hcc hk ha ht hg hc hc' hn
 go_enter Tryz.func92, Tryz.ntmps92
 go_wp2_with fail
 refine (trimSpace_any (tag.extract 1 n) _ hts HA.out HG.out).mono ?_
 rintro e w1 ⟨r, rfl, hr, hf⟩
 have HT1 := hid (HT.out.fr0 hf)
 have HR1 := hid hf
 have HRR : Hid (L r = Mu.trimBy Mu.spB (((L tag).drop 1).dropLast)) := hid (by rw [hr, HIN.out])
 have hrs : r.size ≤ 2147483647 := by
  have := Mu.trimBy_length Mu.spB (L (tag.extract 1 n));rw [← hr, L_length, L_length] at this; omega
 clear hr hf
 go_wp2_with fail
 refine (zzCut_any r _ _ hrs (by decide) (by decide)).mono ?_
 intro e w2 hpost
 unfold CutPost at hpost
 have hk2 : Mu.find (L r) (L ⟨#[32]⟩) 0 = some k := by rw [HRR.out]; exact HK.out
 rw [hk2] at hpost
 obtain ⟨hsm, rfl⟩ := hpost
 have HT2 := hid (HT1.out.sm hsm)
 have HR2 := hid ((Fr.of0 (M := (· = t)) HR1.out).trans (hsm.fr (· = t)))
 obtain ⟨-, h1, h2, -⟩ := HT2.out.cells
 have f1 := HT2.out.free 1
 have f2 := HT2.out.free 2
 clear hsm hk2
 go_wp2_with fail
 go_end0
 refine ⟨rfl, (HR2.out.trans (Fr.setCell (M := (· = t)) _ _ _ (.inl rfl))).trans (Fr.setCell (M := (· = t)) _ _ _ (.inl rfl)), r.extract 0 k, r.extract (k + 1) r.size, ?_, ?_, ((HT2.out.set1 _).set2 _)⟩
 · rw [L_extract, HHO.out, ← HRR.out]; simp [Mu.sub]
 · rw [L_extract, HHC.out, ← HRR.out, ← L_length, Mu.sub_to_end]
end Go.Proofs.YtfakghnpkdoclaaGreatDoor
namespace Go.Proofs.YtfakghnpkdoclaaGreatDoor
open Go.RowKit
theorem infoAny : (Tryz.prog.info? 20).map (fun i => (i.zero, i.size, i.bytes)) = some (some .nilIface, 1, 16) := by kernel_rfl
theorem conv_bytes (w : World) (s : ByteArray) : (convert 9 121 (.string s)).run Tryz.prog w = .ok (.slice (some ⟨w.heap.size, 0, none⟩) s.size (grownCap w s.size 0 5)) (Lib.bytesWorld w 5 s) :=
 Lib.run_convert_string_bytes w _ _ _ s Tryz.underlying9 Tryz.underlying121 Tryz.underlying5
structure Se where
 nm : ByteArray
 inv : Bool
 line : Int
 v : Value
def SeAt (w : World) (b : Nat) (y : Se) : Prop := w.heap[b]? = some (.cells #[.string y.nm, .bool y.inv, .int .i64 y.line, y.v] 163 (0, 0))
theorem SeAt.cells {w : World} {b : Nat} {y : Se} (h : SeAt w b y) : w.cell? ⟨b, 0, none⟩ = some (.string y.nm) ∧ w.cell? ⟨b, 2, none⟩ = some (.int .i64 y.line) ∧ w.cell? ⟨b, 3, none⟩ = some y.v ∧ w.frozen? ⟨b, 3, none⟩ = false :=
 ⟨blk_cell h 0, blk_cell h 2, blk_cell h 3, blk_free h 3⟩
theorem one_new (w : World) (u : Value) (T : TypeId) {n : Nat} (hn : n = w.heap.size) : ∀ (j : Nat) (v : Value), [u][j]? = some v → (w.alloc (.cells #[u] T)).cell? ((⟨n, 0, none⟩ : Addr).add j) = some v := by
 subst hn
 intro j v hj
 cases j with
 | zero =>
  have hv : u = v := by simpa using hj
  subst hv;have ha : (⟨w.heap.size, 0, none⟩ : Addr).add 0 = ⟨w.heap.size, 0, none⟩ := rfl;rw [ha, blk_cell (blk_new w _) 0];rfl
 | succ j => simp at hj
theorem one_new' (w : World) (u : Value) (T : TypeId) {n : Nat} (hn : n = w.heap.size) : ∀ (j : Nat) (v : Value), [u][j]? = some v → (w.alloc (.cells #[u] T)).drew.cell? ((⟨n, 0, none⟩ : Addr).add j) = some v := one_new w u T hn
theorem grown_drew {w w' : World} {r : Option Nat} (h : w.drew.grownBy w' r) : w.grownBy w' r := ⟨h.os, h.tape, h.output, h.size, h.block⟩
theorem own_at {v : Value} {g n cap H : Nat} (h : v.ownBlock = some g ∨ g = H) : (Value.slice (some ⟨g, 0, none⟩) n cap).ownBlock = v.ownBlock ∨ (Value.slice (some ⟨g, 0, none⟩) n cap).ownBlock = some H := by
 rcases h with h | h
 · exact .inl h.symm
 · exact .inr (by rw [h]; rfl)
theorem byte_beq (a b : UInt8) : ((a.toNat : Int) == (b.toNat : Int)) = (a == b) := by
 by_cases h : a = b
 · subst h; simp
 · rw [byte_isnt h]; exact (beq_eq_false_iff_ne.2 h).symm
theorem one_cell {u : Value} (h : u.oneCell' = true) : ∀ v ∈ [u], v.oneCell' = true := by
 intro v hv
 rw [List.mem_singleton.1 hv]; exact h
theorem owns_pos {w : World} {B e s n : Nat} {v : Value} {xs : List Value} (h : w.ownsRow B e s v (n + 1) xs) : ∃ g cp, v = .slice (some ⟨g, 0, none⟩) (n + 1) cp := by
 rcases h.2 with ⟨_, h⟩ | ⟨g, cap', _, h, _⟩
 · omega
 · exact ⟨g, cap', h⟩
theorem own_cells {w w1 w2 : World} {lo : Nat} {own : Nat → Prop} {prov v : Value} {es : List Mu.Elem} (h : Got w lo own prov v es) (hf : F0 w w1) (hg : w1.grownBy w2 v.ownBlock) {k : Nat} (hk : own k) (hlt : k < w.heap.size) :
 w2.heap[k]? = w.heap[k]? := by
 obtain ⟨S, vs, h1, h2, h3, h4⟩ := h.out
 have hs := hf.size
 exact (hg.block k (by omega) (fun h => h4 k h.symm hk)).trans (hf.block k hlt id)
theorem fresh_ok {w w1 : World} {lo : Nat} {own Sn : Nat → Prop} {prov v : Value} {es : List Mu.Elem} (h : Got w lo own prov v es) (hlo : lo ≤ w.heap.size) (hown : ∀ k, own k → k < w.heap.size) (hS : ∀ k, Sn k → w.heap.size ≤ k ∧ k < w1.heap.size) :
 ∀ k, Sn k → (lo ≤ k ∧ k < w1.heap.size) ∧ v.ownBlock ≠ some k ∧ ¬ own k := by
 obtain ⟨S, vs, h1, h2, h3, h4⟩ := h.out
 intro k hk
 obtain ⟨a, c⟩ := hS k hk
 refine ⟨⟨by omega, c⟩, fun h => ?_, fun h => ?_⟩
 · have := ownsRow_blk h1 h; omega
 · have := hown k h; omega
theorem fr_text (w : World) (s : ByteArray) (u : Value) : F0 w (((Lib.bytesWorld w 5 s).alloc (.cells #[.slice (some ⟨w.heap.size, 0, none⟩) s.size (grownCap w s.size 0 5)] 156)).alloc (.cells #[u] 20)) :=
 ((fr_bytes _ _ _).trans (Fr.alloc _ _ _)).trans (Fr.alloc _ _ _)
theorem text_at (w : World) (s : ByteArray) (u : Value) (prov : Value) :
 EAt (((Lib.bytesWorld w 5 s).alloc (.cells #[.slice (some ⟨w.heap.size, 0, none⟩) s.size (grownCap w s.size 0 5)] 156)).alloc (.cells #[u] 20))
  (fun k => w.heap.size ≤ k ∧ k < w.heap.size + 3) prov (.text (L s)) (pv 154 (w.heap.size + 1)) := by
 have hs := Lib.bytesWorld_size w 5 s
 have hg := grownCap_ge w s.size 0 5
 unfold EAt
 refine ⟨w.heap.size + 1, _, rfl, ⟨by omega, by omega⟩, ?_, w.heap.size, _, rfl, ⟨by omega, by omega⟩, hg, fun j hj => ?_⟩
 · have := blk_new (Lib.bytesWorld w 5 s) (.cells #[.slice (some ⟨w.heap.size, 0, none⟩) s.size (grownCap w s.size 0 5)] 156)
   rw [hs] at this;exact blk_alloc _ this
 · have h1 := Lib.bytesWorld_cell w 5 s j hj
   have h2 : w.heap.size < (Lib.bytesWorld w 5 s).heap.size := by omega
   rw [World.cell?_alloc_past _ _ _ (by simp; omega), World.cell?_alloc_past _ _ _ h2];exact h1
theorem fr_two (w : World) (o p : Obj) : F0 w ((w.alloc o).alloc p) := (Fr.alloc _ _ _).trans (Fr.alloc _ _ _)
theorem var_at (w : World) (n : ByteArray) (raw : Bool) (u : Value) (prov : Value) :
 EAt ((w.alloc (.cells #[.string n, .bool raw] 175)).alloc (.cells #[u] 20)) (fun k => w.heap.size ≤ k ∧ k < w.heap.size + 2) prov (.var (L n) raw) (pv 173 w.heap.size) := by
 unfold EAt
 exact ⟨w.heap.size, n, rfl, ⟨by omega, by omega⟩, blk_alloc _ (blk_new _ _), rfl⟩
theorem part_at (w : World) (n ind : ByteArray) (u : Value) (prov : Value) :
 EAt ((w.alloc (.cells #[.string n, .string ind, prov] 185)).alloc (.cells #[u] 20)) (fun k => w.heap.size ≤ k ∧ k < w.heap.size + 2) prov (.part (L n) (L ind)) (pv 170 w.heap.size) := by
 unfold EAt
 exact ⟨w.heap.size, n, ind, rfl, ⟨by omega, by omega⟩, blk_alloc _ (blk_new _ _), rfl, rfl⟩
theorem part_at' (w : World) (n ind : ByteArray) (T : TypeId) (pp : Value) (u : Value) {prov : Value} (hp : prov = .iface T pp) :
 EAt ((w.alloc (.cells #[.string n, .string ind, .iface T pp] 185)).alloc (.cells #[u] 20)) (fun k => w.heap.size ≤ k ∧ k < w.heap.size + 2) prov (.part (L n) (L ind)) (pv 170 w.heap.size) := by
 subst hp
 exact part_at w n ind u _
structure SecSt (w : World) (lo t b : Nat) (x : Tm) (y : Se) (es : List Mu.Elem) : Prop where
 tm : TmAt w t x
 se : SeAt w b y
 bt : b ≠ t
 lw : lo ≤ w.heap.size
 got : Got w lo (fun k => k = t ∨ k = b) x.prov y.v es
theorem SecSt.ownlt {w : World} {lo t b : Nat} {x : Tm} {y : Se} {es : List Mu.Elem} (h : SecSt w lo t b x y es) : ∀ k, (k = t ∨ k = b) → k < w.heap.size := by
 rintro k (rfl | rfl)
 · exact blk_lt h.tm
 · exact blk_lt h.se
def SecAdd (lo : Nat) (w1 w' : World) (t b : Nat) (x : Tm) (y : Se) (es : List Mu.Elem) (e : Mu.Elem) : Prop :=
 ∃ v', Fr (fun k => k = b ∨ y.v.ownBlock = some k) w1 w' ∧ SecSt w' lo t b x { y with v := v' } (es ++ [e]) ∧ (v'.ownBlock = y.v.ownBlock ∨ ∃ g, v'.ownBlock = some g ∧ w1.heap.size ≤ g)
theorem sec_add {w w1 w2 : World} {lo t b : Nat} {x : Tm} {y : Se} {es : List Mu.Elem} {e : Mu.Elem} {v' u : Value} {S Sn : Nat → Prop} {vs : List Value} (hst : SecSt w lo t b x y es)
 (h2 : EsAt w S x.prov es vs) (h3 : ∀ k, S k → (lo ≤ k ∧ k < w.heap.size) ∧ y.v.ownBlock ≠ some k ∧ ¬ (k = t ∨ k = b)) (h4 : ∀ k, y.v.ownBlock = some k → ¬ (k = t ∨ k = b))
 (hf : F0 w w1) (hu : EAt w1 Sn x.prov e u) (hSn : ∀ k, Sn k → (lo ≤ k ∧ k < w1.heap.size) ∧ y.v.ownBlock ≠ some k ∧ ¬ (k = t ∨ k = b))
 (ho : w2.ownsRow 0 20 1 v' (es.length + 1) (vs ++ [u])) (hg : w1.grownBy w2 y.v.ownBlock) {n : Nat} (hn : n = w1.heap.size) (hb : v'.ownBlock = y.v.ownBlock ∨ v'.ownBlock = some n) :
 SecAdd lo w (w2.setCell ⟨b, 3, none⟩ v') t b x y es e := by
 have hs := hf.size
 have hs2 := hg.size
 have e1 := own_cells hst.got hf hg (k := b) (.inr rfl) (blk_lt hst.se)
 have e2 := own_cells hst.got hf hg (k := t) (.inl rfl) (blk_lt hst.tm)
 have G := got_add h2 h3 h4 hf (fun k hk => by have := hst.ownlt k hk; omega) hu hSn ho hg hn hb
 refine ⟨v', ?_, ⟨?_, ?_, hst.bt, by have := hst.lw; simp [World.setCell]; omega, G.fr (M := fun k => k = b) (Fr.setCell _ _ _ (.inl rfl)) (fun k _ h => .inr h)⟩, ?_⟩
 · exact ((Fr.of0 hf).trans' (Fr.grown (M := fun k => k = b ∨ y.v.ownBlock = some k) hg (fun k h => .inl (.inr h))) (fun _ _ h => h)).trans (Fr.setCell _ _ _ (.inl (.inl rfl)))
 · exact blk_set_ne _ _ (e2.trans hst.tm) (fun h => hst.bt h.symm)
 · exact blk_set _ (e1.trans hst.se)
 · rcases hb with hb | hb
   · exact .inl hb
   · exact .inr ⟨n, hb, by omega⟩
structure SecMid (w0 : World) (lo t b : Nat) (x0 : Tm) (y0 : Se) (wr : World) (x : Tm) (y : Se) (es : List Mu.Elem) : Prop where
 st : SecSt wr lo t b x y es
 fr : Fr (fun k => k = t ∨ k = b ∨ y0.v.ownBlock = some k) w0 wr
 sx : x.s = x0.s ∧ x.raw = x0.raw ∧ x.prov = x0.prov ∧ x.esc = x0.esc ∧ x.am = x0.am ∧ x.el = x0.el
 sy : y.nm = y0.nm ∧ y.inv = y0.inv ∧ y.line = y0.line
 ow : y.v.ownBlock = y0.v.ownBlock ∨ ∃ k, y.v.ownBlock = some k ∧ w0.heap.size ≤ k
theorem SecMid.tstep {w0 : World} {lo t b : Nat} {x0 : Tm} {y0 : Se} {w w' : World} {x x' : Tm} {y : Se} {es : List Mu.Elem} (h : SecMid w0 lo t b x0 y0 w x y es) (hf : Fr (· = t) w w') (ht : TmAt w' t x')
 (hx : x'.s = x.s ∧ x'.raw = x.raw ∧ x'.prov = x.prov ∧ x'.esc = x.esc ∧ x'.am = x.am ∧ x'.el = x.el) : SecMid w0 lo t b x0 y0 w' x' y es := by
 obtain ⟨e1, e2, e3, e4, e5, e6⟩ := hx
 obtain ⟨d1, d2, d3, d4, d5, d6⟩ := h.sx
 refine ⟨⟨ht, hf.blk h.st.se h.st.bt, h.st.bt, by have := h.st.lw; have := hf.size; omega, ?_⟩, h.fr.trans' hf (fun k _ h => .inl h), ⟨e1.trans d1, e2.trans d2, e3.trans d3, e4.trans d4, e5.trans d5, e6.trans d6⟩, h.sy, h.ow⟩
 rw [e3]
 exact h.st.got.fr hf (fun k _ h => .inl h)
theorem SecMid.step0 {w0 : World} {lo t b : Nat} {x0 : Tm} {y0 : Se} {w w' : World} {x : Tm} {y : Se} {es : List Mu.Elem} (h : SecMid w0 lo t b x0 y0 w x y es) (hf : F0 w w') : SecMid w0 lo t b x0 y0 w' x y es :=
 h.tstep (Fr.of0 hf) (h.st.tm.fr0 hf) ⟨rfl, rfl, rfl, rfl, rfl, rfl⟩
theorem SecMid.add {w0 : World} {lo t b : Nat} {x0 : Tm} {y0 : Se} {w w' : World} {x : Tm} {y : Se} {es : List Mu.Elem} {e : Mu.Elem} (h : SecMid w0 lo t b x0 y0 w x y es) (ha : SecAdd lo w w' t b x y es e) :
 ∃ y', SecMid w0 lo t b x0 y0 w' x y' (es ++ [e]) ∧ Fr (fun k => k = b ∨ y.v.ownBlock = some k) w w' ∧ (y'.v.ownBlock = y.v.ownBlock ∨ ∃ g, y'.v.ownBlock = some g ∧ w.heap.size ≤ g) := by
 obtain ⟨v', hf, hst, ho⟩ := ha
 have hsz := h.fr.size
 refine ⟨_, ⟨hst, h.fr.trans' hf (fun k hk hm => ?_), h.sx, h.sy, ?_⟩, hf, ho⟩
 · rcases hm with hm | hm
   · exact .inr (.inl hm)
   · rcases h.ow with ho | ⟨j, hj, hlt⟩
     · exact .inr (.inr (ho ▸ hm))
     · rw [hj] at hm; injection hm with hm; omega
 · rcases ho with ho | ⟨g, hg, hlt⟩
   · show v'.ownBlock = _ ∨ _
     rw [ho]; exact h.ow
   · exact .inr ⟨g, hg, by omega⟩
def Blk (w : World) (t b : Nat) (y : Se) (r : Nat) (o : Obj) : Prop := w.heap[r]? = some o ∧ r ≠ t ∧ r ≠ b ∧ y.v.ownBlock ≠ some r
theorem Blk.tstep {w w' : World} {t b : Nat} {y : Se} {r : Nat} {o : Obj} (h : Blk w t b y r o) (hf : Fr (· = t) w w') : Blk w' t b y r o := ⟨hf.blk h.1 h.2.1, h.2⟩
theorem Blk.step0 {w w' : World} {t b : Nat} {y : Se} {r : Nat} {o : Obj} (h : Blk w t b y r o) (hf : F0 w w') : Blk w' t b y r o := ⟨hf.blk h.1 id, h.2⟩
theorem Blk.add {w w' : World} {t b : Nat} {y y' : Se} {r : Nat} {o : Obj} (h : Blk w t b y r o) (hf : Fr (fun k => k = b ∨ y.v.ownBlock = some k) w w') (ho : y'.v.ownBlock = y.v.ownBlock ∨ ∃ g, y'.v.ownBlock = some g ∧ w.heap.size ≤ g) :
 Blk w' t b y' r o := by
 have hr := blk_lt h.1
 refine ⟨hf.blk h.1 (fun hm => hm.elim h.2.2.1 h.2.2.2), h.2.1, h.2.2.1, fun he => ?_⟩
 rcases ho with ho | ⟨g, hg, hlt⟩
 · exact h.2.2.2 (ho ▸ he)
 · rw [hg] at he; injection he with he; omega
theorem SecMid.blk {w0 : World} {lo t b : Nat} {x0 : Tm} {y0 : Se} {w w' : World} {x : Tm} {y : Se} {es : List Mu.Elem} (h : SecMid w0 lo t b x0 y0 w x y es) {r : Nat} {o : Obj} (hb : w'.heap[r]? = some o) (hr : w.heap.size ≤ r) : Blk w' t b y r o := by
 obtain ⟨S, vs, h1, -⟩ := h.st.got.out
 have h2 := blk_lt h.st.tm
 have h3 := blk_lt h.st.se
 refine ⟨hb, by omega, by omega, fun he => ?_⟩
 have := ownsRow_blk h1 he; omega
structure SecInv (w0 : World) (lo t b depth : Nat) (x0 : Tm) (y0 : Se) (R : Option (List Mu.Elem × Mu.ISt)) (g : Nat) (wr : World) (x : Tm) (y : Se) (es : List Mu.Elem) : Prop where
 mid : SecMid w0 lo t b x0 y0 wr x y es
 pos : x.p ≤ x.s.size ∧ (0 < x.o.size ∧ x.o.size ≤ 1000) ∧ 0 < x.c.size ∧ x.c.size ≤ 1000
 len : es.length + 4 * g ≤ 8589934600
 res : Mu.pre es (Mu.iparse (L x.s) x.raw g depth ⟨x.p, L x.o, L x.c⟩ (some (L y.nm))) = some R
def SecPost (w0 : World) (lo t b : Nat) (x0 : Tm) (y0 : Se) (R : Option (List Mu.Elem × Mu.ISt)) (e : Ending) (w' : World) : Prop :=
 match R with
 | none => (∃ T v, e = .returned (.iface T v)) ∧ Fr (fun k => k = t ∨ k = b ∨ y0.v.ownBlock = some k) w0 w'
 | some (es, st) => e = .returned .nilIface ∧ ∃ x y, SecMid w0 lo t b x0 y0 w' x y es ∧ (x.p = st.pos ∧ L x.o = st.o ∧ L x.c = st.c) ∧ (x.p ≤ x.s.size ∧ (0 < x.o.size ∧ x.o.size ≤ 1000) ∧ 0 < x.c.size ∧ x.c.size ≤ 1000)
theorem sect_at {w0 w : World} {lo t b : Nat} {x0 x : Tm} {y0 y : Se} {es : List Mu.Elem} (h : SecMid w0 w0.heap.size t b x0 y0 w x y es) (hlo : lo ≤ b ∧ lo ≤ w0.heap.size) (hr : ∀ k, y0.v.ownBlock = some k → lo ≤ k) (u : Value) :
 EAt (w.alloc (.cells #[u] 20)) (fun k => lo ≤ k ∧ k < w.heap.size) x.prov (.sect (L y0.nm) y0.inv es) (pv 165 b) := by
 obtain ⟨S, vs, h1, h2, h3⟩ := (h.st.got.mono_lo hlo.2).all (fun k hk => by
  rcases h.ow with ho | ⟨j, hj, hlt⟩
  · exact hr k (ho ▸ hk)
  · rw [hj] at hk; injection hk with hk; omega)
 have hb := blk_lt h.st.se
 obtain ⟨e1, e2, e3⟩ := h.sy
 have hse := h.st.se
 unfold SeAt at hse
 rw [e1, e2] at hse
 unfold EAt
 have hk : Keep S w (w.alloc (.cells #[u] 20)) := fun k hk => Below.heap_alloc _ _ _ (h3 k hk).1.2
 exact ⟨b, y0.nm, y.line, y.v, vs, rfl, ⟨hlo.1, hb⟩, blk_alloc _ hse, rfl, h1.keep hk (fun k hk => (h3 k hk).1), EsAt.keep hk (fun k hk => (h3 k hk).1) _ _ h2⟩
theorem sec_start {w : World} {t b g : Nat} {x : Tm} {nm : ByteArray} {inv : Bool} {line : Int} (ht : TmAt w t x) (hb : w.heap[b]? = some (.cells #[.string nm, .bool inv, .int .i64 line, .slice (some ⟨g, 0, none⟩) 0 0] 163 (0, 0)))
 (hg : w.heap[g]? = some (.cells #[] 20 (0, 0))) (hbt : b ≠ t) (hgt : g ≠ t) (hgb : g ≠ b) :
 SecMid w w.heap.size t b x ⟨nm, inv, line, .slice (some ⟨g, 0, none⟩) 0 0⟩ w x ⟨nm, inv, line, .slice (some ⟨g, 0, none⟩) 0 0⟩ [] := by
 refine ⟨⟨ht, hb, hbt, Nat.le_refl _, got_nil _ _ _ _ ⟨rfl, .inr ⟨g, 0, #[], rfl, Nat.zero_le _, hg, Nat.le_refl _, Nat.zero_le _, rfl, rfl⟩⟩ ?_⟩, Fr.refl _ _, ⟨rfl, rfl, rfl, rfl, rfl, rfl⟩, ⟨rfl, rfl, rfl⟩, .inl rfl⟩
 intro k hk
 have : g = k := by simpa [Value.ownBlock] using hk
 subst this
 rintro (h | h)
 · exact hgt h
 · exact hgb h
end Go.Proofs.YtfakghnpkdoclaaGreatDoor
