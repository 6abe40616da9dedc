/-
  The package's reader: readString: from where it stands up to a text, or to the end.
-/
import Derived.Test.YtfakghnpkdoclaaDoorBase
set_option linter.unusedVariables false
set_option linter.unusedSimpArgs false
namespace Go.Proofs.YtfakghnpkdoclaaDoor
open Go.RowKit

theorem rs_step {s pat : Mu.B} {p k : Nat} (hp : 0 < pat.length) (H : ∀ j, p ≤ j → j < k → ¬ Mu.At s pat j) (hne : s.getD k 0 ≠ pat.getD 0 0) : ∀ j, p ≤ j → j < k + 1 → ¬ Mu.At s pat j := by
  intro j h1 h2 ha
  rcases Nat.lt_or_ge j k with h | h
  · exact H j h1 h ha
  · obtain rfl : j = k := by omega
    exact hne (ha.get 0 hp)
theorem rs_step' {s pat : Mu.B} {p k q : Nat} (hp : q < pat.length) (H : ∀ j, p ≤ j → j < k → ¬ Mu.At s pat j) (hne : s.getD (k + q) 0 ≠ pat.getD q 0) : ∀ j, p ≤ j → j < k + 1 → ¬ Mu.At s pat j := by
  intro j h1 h2 ha
  rcases Nat.lt_or_ge j k with h | h
  · exact H j h1 h ha
  · obtain rfl : j = k := by omega
    exact hne (ha.get q hp)

def RsPost (x : Tm) (pat : ByteArray) (t : Nat) (eof : Value) (w : World) (e : Ending) (w' : World) : Prop :=
  match Mu.find (L x.s) (L pat) x.p with
  | some k => e = .returned (.tuple #[.string (x.s.extract x.p (k + pat.size)), .nilIface]) ∧ Fr (· = t) w w' ∧ ∃ l, TmAt w' t { x with p := k + pat.size, line := l }
  | none => e = .returned (.tuple #[.string (x.s.extract x.p x.s.size), eof]) ∧ Fr (· = t) w w' ∧ TmAt w' t x

theorem rs_none {e : Ending} {x : Tm} {pat : ByteArray} {t : Nat} {eof : Value} {w : World} {k n : Nat} (hpat : 0 < pat.size) (ht : TmAt w t x) (H : ∀ j, x.p ≤ j → j < k → ¬ Mu.At (L x.s) (L pat) j) (hge : ¬ k + pat.size ≤ x.s.size)
    (he : e = .returned (.tuple #[.string (x.s.extract x.p x.s.size), eof])) : RsPost x pat t eof w e (w.drewN n) := by
  have hf : Mu.find (L x.s) (L pat) x.p = none := Mu.find_eq_none fun j hj ha => by
    have hle := ha.le (by intro h; rw [← L_length, h] at hpat; exact absurd hpat (by simp))
    rw [L_length, L_length] at hle
    exact H j hj (by omega) ha
  unfold RsPost
  rw [hf]
  exact ⟨he, Fr.drewN _ _ _, ht.drewN _⟩
theorem rs_some {e : Ending} {x : Tm} {pat : ByteArray} {t : Nat} {eof : Value} {w : World} {k n : Nat} {l : Int} (ht : TmAt w t x) (hp : x.p ≤ k) (H : ∀ j, x.p ≤ j → j < k → ¬ Mu.At (L x.s) (L pat) j) (hle : k + pat.size ≤ x.s.size)
    (hm : ∀ r, r < pat.size → (L x.s).getD (k + r) 0 = (L pat).getD r 0)
    (he : e = .returned (.tuple #[.string (x.s.extract x.p (k + pat.size)), .nilIface])) : RsPost x pat t eof w e (((w.setCell ⟨t, 3, none⟩ (.int .i64 ((k + pat.size : Nat) : Int))).setCell ⟨t, 4, none⟩ (.int .i64 l)).drewN n) := by
  have hf : Mu.find (L x.s) (L pat) x.p = some k := Mu.find_eq hp (Mu.at_of_get (by rw [L_length, L_length]; exact hle) hm) H
  unfold RsPost
  rw [hf]
  exact ⟨he, ((Fr.setCell (M := (· = t)) _ _ _ (.inl rfl)).trans (Fr.setCell (M := (· = t)) _ _ _ (.inl rfl))).trans (Fr.drewN _ _ _), _, ((ht.set3 _).set4 _).drewN _⟩

set_option maxRecDepth 100000 in
set_option maxHeartbeats 2000000 in
theorem readString_any (t : Nat) (x : Tm) (pat : ByteArray) (eof : Value) (w : World) (hs : x.s.size ≤ 2147483647) (hp : x.p ≤ x.s.size) (hpat : 0 < pat.size) (hpat2 : pat.size ≤ 2147483647)
    (ht : TmAt w t x) (hg : w.cell? ⟨0, 0, none⟩ = some eof) :
    Calls Tryd.prog 37 #[.pointer (some ⟨t, 0, none⟩), .string pat] w (RsPost x pat t eof w) := by
  have HT := Lib.hid ht
  obtain ⟨h0, -, -, h3, h4, -⟩ := ht.cells
  have f3 := ht.free 3
  have f4 := ht.free 4
  clear ht
  have HP0 := Lib.hid (show ∀ j, x.p ≤ j → j < x.p → ¬ Mu.At (L x.s) (L pat) j from fun j a b => absurd a (by omega))
  generalize hx : x.s = s at *
  generalize hxp : x.p = p at *
  generalize x.line = line at *
  have HX := Lib.hid hx
  have HXP := Lib.hid hxp
  clear hx hxp
  go_enter Tryd.func37, Tryd.ntmps37
  go_wp2
  go_loopg [6, 7] (s.size + 1 - p) (fun g nl i wr => ∃ (k n m : Nat), i = .int .i64 k ∧ nl = .int .i64 m ∧ m ≤ k ∧ p ≤ k ∧ k ≤ s.size ∧ g = s.size + 1 - k ∧ wr = w.drewN n ∧ Hid (∀ j, p ≤ j → j < k → ¬ Mu.At (L s) (L pat) j))
  case atStart => exact ⟨p, 0, 0, rfl, rfl, by omega, by omega, by omega, rfl, rfl, HP0⟩
  case round =>
    obtain ⟨k, n, m, rfl, rfl, hm, hpk, hks, rfl, rfl, HP⟩ := hrel
    by_cases hlt : k + pat.size ≤ s.size
    · have hk : k < s.size := by omega
      by_cases hb : s[k] = pat[0]
      · have heq := byte_eq' hb
        have HQ := Lib.hid (show ∀ r, r < 1 → (L s).getD (k + r) 0 = (L pat).getD r 0 from fun r hr => by
             obtain rfl : r = 0 := by omega
             rw [Nat.add_zero, L_get s k hk, L_get pat 0 hpat]; exact hb)
        clear hb
        go_wp2
        all_goals
          go_quiet (fail)
          go_wp2
          clear heq
          go_loopg [8, 9] pat.size (fun g' mt j w2 => ∃ (q n2 : Nat), mt = .bool true ∧ j = .int .i64 q ∧ 1 ≤ q ∧ q ≤ pat.size ∧ g' = pat.size + 1 - q ∧ w2 = w.drewN n2 ∧ Hid (∀ r, r < q → (L s).getD (k + r) 0 = (L pat).getD r 0))
          case atStart => exact ⟨1, _, rfl, rfl, by omega, by omega, by omega, (by first | rfl | exact World.drewN_drewN _ _ _), HQ⟩
          case round =>
            clear HQ
            obtain ⟨q, n2, rfl, rfl, hq1, hq2, rfl, rfl, HQ⟩ := hrel
            by_cases hqlt : q < pat.size
            · have hkq : k + q < s.size := by omega
              by_cases hb : pat[q] = s[k + q]
              · have heq := byte_eq' hb
                have HQ' := Lib.hid (show ∀ r, r < q + 1 → (L s).getD (k + r) 0 = (L pat).getD r 0 from fun r hr => by
                  rcases Nat.lt_or_ge r q with h | h
                  · exact HQ.out r h
                  · obtain rfl : r = q := by omega
                    rw [L_get s _ hkq, L_get pat _ hqlt]; exact hb.symm)
                clear hb HQ
                have z1 : IntKind.i64.wrap ((k : Int) + (q : Int)) = (k : Int) + (q : Int) := IntWalk.i64_in _ (by omega)
                have z2 : (0 : Int) ≤ (k : Int) + (q : Int) := by omega
                have z3 : ((k : Int) + (q : Int)).toNat = k + q := by omega
                have z4 : (k : Int) + (q : Int) < (s.size : Int) := by omega
                go_wp2
                go_quiet (fail)
                go_wp2
                go_roundg (pat.size + 1 - (q + 1))
                case rel => exact ⟨q + 1, _, rfl, by go_num, by omega, by omega, rfl, (by first | rfl | exact World.drewN_drewN _ _ _), HQ'⟩
                case measure => omega
              · have hne := byte_ne' hb
                have HP' := Lib.hid (rs_step' (pat := L pat) hqlt HP.out (by rw [L_get s _ hkq, L_get pat _ hqlt]; exact fun h => hb h.symm))
                clear hb HQ
                have z1 : IntKind.i64.wrap ((k : Int) + (q : Int)) = (k : Int) + (q : Int) := IntWalk.i64_in _ (by omega)
                have z2 : (0 : Int) ≤ (k : Int) + (q : Int) := by omega
                have z3 : ((k : Int) + (q : Int)).toNat = k + q := by omega
                have z4 : (k : Int) + (q : Int) < (s.size : Int) := by omega
                go_wp2
                go_quiet (fail)
                go_wp2
                go_roundg (s.size + 1 - (k + 1))
                case rel => first | exact ⟨k + 1, _, m, by go_num, rfl, by omega, by omega, by omega, rfl, (by first | rfl | exact World.drewN_drewN _ _ _), HP'⟩ | exact ⟨k + 1, _, m + 1, by go_num, by go_num, by omega, by omega, by omega, rfl, (by first | rfl | exact World.drewN_drewN _ _ _), HP'⟩
                case measure => omega
            · obtain rfl : q = pat.size := by omega
              have z1 : IntKind.i64.wrap ((k : Int) + (pat.size : Int)) = (k : Int) + (pat.size : Int) := IntWalk.i64_in _ (by omega)
              have z2 : (0 : Int) ≤ (k : Int) + (pat.size : Int) := by omega
              have z3 : ((k : Int) + (pat.size : Int)).toNat = k + pat.size := by omega
              have z4 : (k : Int) + (pat.size : Int) ≤ (s.size : Int) := by omega
              have z5 : (p : Int) ≤ (k : Int) + (pat.size : Int) := by omega
              go_wp2
              go_quiet (fail)
              go_wp2
              go_ret2
              obtain rfl := HX.out
              obtain rfl := HXP.out
              exact rs_some HT.out hpk HP.out hlt HQ.out rfl
      · have hne := byte_ne' hb
        have HP' := Lib.hid (rs_step (pat := L pat) hpat HP.out (by rw [L_get s k hk, L_get pat 0 hpat]; exact hb))
        clear hb
        go_wp2
        all_goals
          go_quiet (fail)
          go_wp2
          go_roundg (s.size + 1 - (k + 1))
          case rel => first | exact ⟨k + 1, _, m, by go_num, rfl, by omega, by omega, by omega, rfl, (by first | rfl | exact World.drewN_drewN _ _ _), HP'⟩ | exact ⟨k + 1, _, m + 1, by go_num, by go_num, by omega, by omega, by omega, rfl, (by first | rfl | exact World.drewN_drewN _ _ _), HP'⟩
          case measure => omega
    · go_wp2
      go_quiet (fail)
      go_wp2
      go_ret2
      obtain rfl := HX.out
      obtain rfl := HXP.out
      (try rw [World.drewN_drewN])
      refine rs_none (eof := eof) hpat HT.out HP.out hlt ?_; rfl
end Go.Proofs.YtfakghnpkdoclaaDoor
