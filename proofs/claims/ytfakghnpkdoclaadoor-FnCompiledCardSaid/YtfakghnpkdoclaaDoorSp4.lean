/-
  The specification's reader: alone.
-/
import Derived.Test.YtfakghnpkdoclaaDoorSp3
import Derived.Deep.DeepCutAuto
import Derived.Deep.CutBlock
set_option linter.unusedVariables false
set_option linter.unusedSimpArgs false
namespace Go.Proofs.YtfakghnpkdoclaaDoor
open Go.RowKit

theorem backTo_blank {s : Mu.B} {i : Nat} (h : Mu.blankB (s.getD i 0) = true) : Mu.backTo s 0 (i + 1) = Mu.backTo s 0 i := by
  conv => lhs; unfold Mu.backTo
  rw [if_pos ⟨by omega, h⟩]
theorem backTo_stop {s : Mu.B} {i : Nat} (h : Mu.blankB (s.getD i 0) = false) : Mu.backTo s 0 (i + 1) = i + 1 := by
  unfold Mu.backTo
  rw [if_neg (fun x => by rw [h] at x; exact absurd x.2 (by decide))]
theorem fwd_end' (s : Mu.B) (b : Nat) (h : s.length ≤ b) : Mu.fwd s b = b := by
  unfold Mu.fwd; rw [List.drop_of_length_le h]; rfl
theorem fwd_cons {s : Mu.B} {b : Nat} (h : b < s.length) : Mu.fwd s b = if Mu.blankB (s.getD b 0) = true then Mu.fwd s (b + 1) else b := by
  unfold Mu.fwd
  rw [List.drop_eq_getElem_cons h, List.takeWhile_cons]
  have : s.getD b 0 = s[b] := by simp [List.getD_eq_getElem?_getD, h]
  rw [this]
  split
  · simp; omega
  · rfl
theorem alone_eq {s : Mu.B} {f t a d : Nat} {part : Bool} (ha : a = Mu.backTo s 0 f) (hd : d = Mu.fwd s t) :
    Mu.alone s f t part = if (0 < a ∧ s.getD (a - 1) 0 ≠ 10) ∨ (d < s.length ∧ s.getD d 0 ≠ 10) then
      (f, t, decide (d = s.length ∧ t < d) || (part && (decide (a = 0) || decide (s.getD (a - 1) 0 = 10)) && decide (a < f)))
    else (a, min (d + 1) s.length, decide (d = s.length ∧ t < d)) := by
  subst ha hd
  rfl
theorem min_cast (a d n : Nat) : Ending.returned (.tuple #[.int .i64 a, .int .i64 (min ((d : Int) + 1) (n : Int)), .bool true]) = .returned (.tuple #[.int .i64 a, .int .i64 ((min (d + 1) n : Nat) : Int), .bool true]) := by
  rw [show (min ((d : Int) + 1) (n : Int)) = ((min (d + 1) n : Nat) : Int) by omega]
theorem PaAt.set5' {w : World} {b : Nat} {x : Pa} (h : PaAt w b x) {v v' : Bool} (e : v = v') : PaAt (w.setCell ⟨b, 5, none⟩ (.bool v)) b { x with bad := v' } := by
  subst e; exact h.set5 v
def AlonePost (x : Pa) (b f t : Nat) (part : Bool) (w : World) (e : Ending) (w' : World) : Prop :=
  ∃ r : Bool, e = .returned (.tuple #[.int .i64 (Mu.alone (L x.s) f t part).1, .int .i64 (Mu.alone (L x.s) f t part).2.1, .bool r]) ∧ Fr (· = b) w w' ∧ PaAt w' b { x with bad := x.bad || (Mu.alone (L x.s) f t part).2.2 }

set_option maxRecDepth 100000 in
set_option maxHeartbeats 4000000 in
theorem alone_any (b f t : Nat) (part : Bool) (x : Pa) (w : World) (hs : x.s.size ≤ 4294967296) (hx : PaAt w b x) (hf : f ≤ x.s.size) (ht : t ≤ x.s.size) :
    Calls Tryd.prog 17 #[.pointer (some ⟨b, 0, none⟩), .int .i64 f, .int .i64 t, .bool part] w (AlonePost x b f t part w) := by
  have HX := Lib.hid hx
  obtain ⟨h0, -, -, -, -, h5⟩ := hx.cells
  have f5 := hx.free 5
  clear hx
  go_enter Tryd.func17, Tryd.ntmps17
  go_upto_block 0 with fail
  go_cut [11] (fun v wr => v = .int .i64 (Mu.backTo (L x.s) 0 f) ∧ wr = w)
  case first =>
    go_wp2_with fail
    go_loopg [11] f (fun g v wr => ∃ k : Nat, v = .int .i64 k ∧ k ≤ f ∧ g = k ∧ wr = w ∧ Hid (Mu.backTo (L x.s) 0 k = Mu.backTo (L x.s) 0 f))
    case atStart => exact ⟨f, rfl, Nat.le_refl _, rfl, rfl, Lib.hid rfl⟩
    case round =>
      obtain ⟨_, rfl, hk, rfl, rfl, HK⟩ := hrel
      rcases gk with _ | i
      · go_wp2_with fail
        go_meet
        case rel => exact ⟨by rw [← HK.out]; rfl, rfl⟩
      · have hlt : i < x.s.size := by omega
        cases hb : Mu.blankB x.s[i] with
        | true =>
          have HN : Hid (Mu.backTo (L x.s) 0 i = Mu.backTo (L x.s) 0 f) := Lib.hid (by rw [← HK.out, backTo_blank (by rw [L_get _ _ hlt]; exact hb)])
          go_wp2_with fail
          refine (blank_any _ _).mono ?_
          rintro e w' ⟨rfl, rfl⟩
          go_wp2_with fail
          go_roundg i
          case rel => exact ⟨i, by go_num, by omega, rfl, rfl, HN⟩
          case measure => omega
        | false =>
          have HN : Hid (Mu.backTo (L x.s) 0 f = i + 1) := Lib.hid (by rw [← HK.out, backTo_stop (by rw [L_get _ _ hlt]; exact hb)])
          go_wp2_with fail
          refine (blank_any _ _).mono ?_
          rintro e w' ⟨rfl, rfl⟩
          go_wp2_with fail
          go_meet
          case rel => exact ⟨by rw [HN.out]; rfl, rfl⟩
  case rest =>
    obtain ⟨rfl, rfl⟩ := hcut
    have hbl := Mu.backTo_le (L x.s) 0 f
    obtain ⟨a, ha⟩ : ∃ a, a = Mu.backTo (L x.s) 0 f := ⟨_, rfl⟩
    rw [← ha] at hbl ⊢
    have HA := Lib.hid ha
    clear ha
    go_upto_block 2 with fail
    go_cut [12] (fun v wr => v = .int .i64 (Mu.fwd (L x.s) t) ∧ wr = wc)
    case first =>
      go_wp2_with fail
      go_loopg [12] (x.s.size - t) (fun g v wr => ∃ k : Nat, v = .int .i64 k ∧ k ≤ x.s.size ∧ g = x.s.size - k ∧ wr = wc ∧ Hid (Mu.fwd (L x.s) k = Mu.fwd (L x.s) t))
      case atStart => exact ⟨t, rfl, ht, rfl, rfl, Lib.hid rfl⟩
      case round =>
        obtain ⟨k, rfl, hk, rfl, rfl, HK⟩ := hrel
        by_cases hlt : k < x.s.size
        · cases hb : Mu.blankB x.s[k] with
          | true =>
            have HN : Hid (Mu.fwd (L x.s) (k + 1) = Mu.fwd (L x.s) t) := Lib.hid (by rw [← HK.out, fwd_cons (b := k) (by rw [L_length]; exact hlt), if_pos (by rw [L_get _ _ hlt]; exact hb)])
            go_wp2_with fail
            refine (blank_any _ _).mono ?_
            rintro e w' ⟨rfl, rfl⟩
            go_wp2_with fail
            go_roundg (x.s.size - (k + 1))
            case rel => exact ⟨k + 1, by go_num, by omega, rfl, rfl, HN⟩
            case measure => omega
          | false =>
            have HN : Hid (Mu.fwd (L x.s) t = k) := Lib.hid (by rw [← HK.out, fwd_cons (b := k) (by rw [L_length]; exact hlt), if_neg (by rw [L_get _ _ hlt, hb]; decide)])
            go_wp2_with fail
            refine (blank_any _ _).mono ?_
            rintro e w' ⟨rfl, rfl⟩
            go_wp2_with fail
            go_meet
            case rel => exact ⟨by rw [HN.out], rfl⟩
        · have HN : Hid (Mu.fwd (L x.s) t = k) := Lib.hid (by rw [← HK.out, fwd_end' _ _ (by rw [L_length]; omega)])
          go_wp2_with fail
          go_meet
          case rel => exact ⟨by rw [HN.out], rfl⟩
    case rest =>
      obtain ⟨rfl, rfl⟩ := hcut
      have hfl := Mu.fwd_le (L x.s) t (by rw [L_length]; exact ht)
      have hfg := Mu.fwd_ge (L x.s) t
      rw [L_length] at hfl
      obtain ⟨d, hd⟩ : ∃ d, d = Mu.fwd (L x.s) t := ⟨_, rfl⟩
      rw [← hd] at hfl hfg ⊢
      have HD := Lib.hid hd
      clear hd
      have AEQ : Hid (∀ c : Bool, c = (Mu.alone (L x.s) f t part).2.2 → c = c) := Lib.hid (fun _ _ => rfl)
      clear AEQ
      go_upto_region 6 with fail
      go_cut [] (fun wr => Fr (· = b) wc wr ∧ PaAt wr b { x with bad := x.bad || decide (d = x.s.size ∧ t < d) })
      case first =>
        by_cases hde : d = x.s.size
        · have e1 : ((d : Int) == (x.s.size : Int)) = true := by subst hde; simp
          by_cases hdt : t < d
          · have e2 : decide ((t : Int) < (d : Int)) = true := by simp; omega
            have HF : Hid (decide (d = x.s.size ∧ t < d) = true) := Lib.hid (by simp; omega)
            have HD2 := Lib.hid hde
            have HDT := Lib.hid hdt
            clear hde hdt
            cases hbad : x.bad with
            | true =>
              go_wp2_with fail
              go_meet
              case rel => exact ⟨Fr.setCell _ _ _ (.inl rfl), HX.out.set5' (by rw [hbad]; simp)⟩
            | false =>
              go_wp2_with fail
              go_meet
              case rel => exact ⟨Fr.setCell _ _ _ (.inl rfl), HX.out.set5' (by rw [hbad, HF.out]; first | rfl | simpa using HDT.out)⟩
          · have e2 : decide ((t : Int) < (d : Int)) = false := by simp; omega
            have HF : Hid (decide (d = x.s.size ∧ t < d) = false) := Lib.hid (by simp; omega)
            have HD2 := Lib.hid hde
            have HDT := Lib.hid hdt
            clear hde hdt
            cases hbad : x.bad with
            | true =>
              go_wp2_with fail
              go_meet
              case rel => exact ⟨Fr.setCell _ _ _ (.inl rfl), HX.out.set5' (by rw [hbad]; simp)⟩
            | false =>
              go_wp2_with fail
              go_meet
              case rel => exact ⟨Fr.setCell _ _ _ (.inl rfl), HX.out.set5' (by rw [hbad, HF.out]; first | rfl | simpa using HDT.out)⟩
        · have e1 : ((d : Int) == (x.s.size : Int)) = false := by simp; omega
          have HF : Hid (decide (d = x.s.size ∧ t < d) = false) := Lib.hid (by simp; omega)
          have HD2 := Lib.hid hde
          clear hde
          cases hbad : x.bad with
          | true =>
            go_wp2_with fail
            go_meet
            case rel => exact ⟨Fr.setCell _ _ _ (.inl rfl), HX.out.set5' (by rw [hbad]; simp)⟩
          | false =>
            go_wp2_with fail
            go_meet
            case rel => exact ⟨Fr.setCell _ _ _ (.inl rfl), HX.out.set5' (by rw [hbad, HF.out]; first | rfl | simpa using HDT.out)⟩
      case rest =>
        obtain ⟨hfr, hx1⟩ := hcut
        obtain ⟨x1, hx1e⟩ : ∃ x1 : Pa, x1 = { x with bad := x.bad || decide (d = x.s.size ∧ t < d) } := ⟨_, rfl⟩
        rw [← hx1e] at hx1
        obtain ⟨g0, -, -, -, -, g5⟩ := hx1.cells
        have gf := hx1.free 5
        have e0 : x1.s = x.s := by rw [hx1e]
        rw [e0] at g0
        have HX1 := Lib.hid hx1
        have HX1E := Lib.hid hx1e
        have HFR := Lib.hid hfr
        clear hfr hx1 hx1e e0 h0 h5 f5
        by_cases hfirst : 0 < a ∧ (L x.s).getD (a - 1) 0 ≠ 10
        · obtain ⟨ha0, ha1⟩ := hfirst
          obtain ⟨m, rfl⟩ : ∃ m, a = m + 1 := ⟨a - 1, by omega⟩
          have hm : m < x.s.size := by omega
          rw [Nat.add_sub_cancel, L_get _ _ hm] at ha1
          have b1 : ((x.s[m].toNat : Int) != 10) = true := byte_ne' (b := 10) ha1
          have b2 : ((x.s[m].toNat : Int) == 10) = false := byte_isnt (b := 10) ha1
          have HE : Hid (Mu.alone (L x.s) f t part = (f, t, decide (d = x.s.size ∧ t < d))) := Lib.hid (by
            rw [alone_eq HA.out HD.out, if_pos (.inl ⟨by omega, by rw [Nat.add_sub_cancel, L_get _ _ hm]; exact ha1⟩)]
            have : decide ((L x.s).getD (m + 1 - 1) 0 = 10) = false := by rw [Nat.add_sub_cancel, L_get _ _ hm]; simpa using ha1
            rw [this, L_length]; simp)
          have z1 : (0 : Int) ≤ (m : Int) := by omega
          clear ha1 ha0
          cases hbad : x1.bad with
          | true =>
            go_wp2_with fail
            go_ret3
            exact ⟨_, by rw [HE.out]; rfl, HFR.out.trans (Fr.setCell (M := (· = b)) _ _ _ (.inl rfl)), by
              rw [HE.out]
              have h := HX1.out
              rw [HX1E.out] at h hbad
              exact h.set5' (by rw [← hbad])⟩
          | false =>
            cases part with
            | true =>
              go_wp2_with fail
              go_ret3
              exact ⟨_, by rw [HE.out]; rfl, HFR.out.trans (Fr.setCell (M := (· = b)) _ _ _ (.inl rfl)), by
                rw [HE.out]
                have h := HX1.out
                rw [HX1E.out] at h hbad
                exact h.set5' (by rw [← hbad])⟩
            | false =>
              go_wp2_with fail
              go_ret3
              exact ⟨_, by rw [HE.out]; rfl, HFR.out.trans (Fr.setCell (M := (· = b)) _ _ _ (.inl rfl)), by
                rw [HE.out]
                have h := HX1.out
                rw [HX1E.out] at h hbad
                exact h.set5' (by rw [← hbad])⟩

        · have hmay : a = 0 ∨ (L x.s).getD (a - 1) 0 = 10 := by
            by_cases h : a = 0
            · exact .inl h
            · exact .inr (Classical.byContradiction fun h2 => hfirst ⟨by omega, h2⟩)
          have hmb : (decide (a = 0) || decide ((L x.s).getD (a - 1) 0 = 10)) = true := by
            rcases hmay with h | h
            · simp [h]
            · rw [h]; simp
          have HMAY := Lib.hid hmay
          have HMB := Lib.hid hmb
          have HNF := Lib.hid hfirst
          clear hfirst hmay hmb
          by_cases hsec : d < x.s.size ∧ (L x.s).getD d 0 ≠ 10
          · obtain ⟨hd0, hd1⟩ := hsec
            rw [L_get _ _ hd0] at hd1
            have c1 : ((x.s[d].toNat : Int) != 10) = true := byte_ne' (b := 10) hd1
            have HE : Hid (Mu.alone (L x.s) f t part = (f, t, decide (d = x.s.size ∧ t < d) || (part && decide (a < f)))) := Lib.hid (by
              rw [alone_eq HA.out HD.out, if_pos (.inr ⟨by rw [L_length]; exact hd0, by rw [L_get _ _ hd0]; exact hd1⟩), HMB.out, L_length]; simp)
            clear hd1
            rcases id HMAY.out with ha0 | ha1
            · subst ha0
              by_cases haf : 0 < f
              · have e3 : decide (0 < f) = true := by simpa using haf
                clear haf
                cases hbad : x1.bad with
                | true =>
                  go_wp2_with fail
                  go_ret3
                  exact ⟨_, by rw [HE.out]; rfl, HFR.out.trans (Fr.setCell (M := (· = b)) _ _ _ (.inl rfl)), by
                    rw [HE.out]
                    have h := HX1.out
                    rw [HX1E.out] at h hbad
                    exact h.set5' (by rw [← Bool.or_assoc, show (x.bad || decide (d = x.s.size ∧ t < d)) = true from hbad]; rfl)⟩
                | false =>
                  cases part with
                  | true =>
                    go_wp2_with fail
                    go_ret3
                    exact ⟨_, by rw [HE.out]; rfl, HFR.out.trans (Fr.setCell (M := (· = b)) _ _ _ (.inl rfl)), by
                      rw [HE.out]
                      have h := HX1.out
                      rw [HX1E.out] at h hbad
                      exact h.set5' (by rw [← Bool.or_assoc, show (x.bad || decide (d = x.s.size ∧ t < d)) = false from hbad]; first | rfl | (simp [e3]; done) | (have q := e3; simp at q ⊢; omega))⟩
                  | false =>
                    go_wp2_with fail
                    go_ret3
                    exact ⟨_, by rw [HE.out]; rfl, HFR.out.trans (Fr.setCell (M := (· = b)) _ _ _ (.inl rfl)), by
                      rw [HE.out]
                      have h := HX1.out
                      rw [HX1E.out] at h hbad
                      exact h.set5' (by rw [← Bool.or_assoc, show (x.bad || decide (d = x.s.size ∧ t < d)) = false from hbad]; rfl)⟩
              · have e3 : decide (0 < f) = false := by simpa using haf
                clear haf
                cases hbad : x1.bad with
                | true =>
                  go_wp2_with fail
                  go_ret3
                  exact ⟨_, by rw [HE.out]; rfl, HFR.out.trans (Fr.setCell (M := (· = b)) _ _ _ (.inl rfl)), by
                    rw [HE.out]
                    have h := HX1.out
                    rw [HX1E.out] at h hbad
                    exact h.set5' (by rw [← Bool.or_assoc, show (x.bad || decide (d = x.s.size ∧ t < d)) = true from hbad]; rfl)⟩
                | false =>
                  cases part with
                  | true =>
                    go_wp2_with fail
                    go_ret3
                    exact ⟨_, by rw [HE.out]; rfl, HFR.out.trans (Fr.setCell (M := (· = b)) _ _ _ (.inl rfl)), by
                      rw [HE.out]
                      have h := HX1.out
                      rw [HX1E.out] at h hbad
                      exact h.set5' (by rw [← Bool.or_assoc, show (x.bad || decide (d = x.s.size ∧ t < d)) = false from hbad]; first | rfl | (simp [e3]; done) | (have q := e3; simp at q ⊢; omega))⟩
                  | false =>
                    go_wp2_with fail
                    go_ret3
                    exact ⟨_, by rw [HE.out]; rfl, HFR.out.trans (Fr.setCell (M := (· = b)) _ _ _ (.inl rfl)), by
                      rw [HE.out]
                      have h := HX1.out
                      rw [HX1E.out] at h hbad
                      exact h.set5' (by rw [← Bool.or_assoc, show (x.bad || decide (d = x.s.size ∧ t < d)) = false from hbad]; rfl)⟩
            · rcases a with _ | m
              · by_cases haf : 0 < f
                · have e3 : decide (0 < f) = true := by simpa using haf
                  clear haf
                  cases hbad : x1.bad with
                  | true =>
                    go_wp2_with fail
                    go_ret3
                    exact ⟨_, by rw [HE.out]; rfl, HFR.out.trans (Fr.setCell (M := (· = b)) _ _ _ (.inl rfl)), by
                      rw [HE.out]
                      have h := HX1.out
                      rw [HX1E.out] at h hbad
                      exact h.set5' (by rw [← Bool.or_assoc, show (x.bad || decide (d = x.s.size ∧ t < d)) = true from hbad]; rfl)⟩
                  | false =>
                    cases part with
                    | true =>
                      go_wp2_with fail
                      go_ret3
                      exact ⟨_, by rw [HE.out]; rfl, HFR.out.trans (Fr.setCell (M := (· = b)) _ _ _ (.inl rfl)), by
                        rw [HE.out]
                        have h := HX1.out
                        rw [HX1E.out] at h hbad
                        exact h.set5' (by rw [← Bool.or_assoc, show (x.bad || decide (d = x.s.size ∧ t < d)) = false from hbad]; first | rfl | (simp [e3]; done) | (have q := e3; simp at q ⊢; omega))⟩
                    | false =>
                      go_wp2_with fail
                      go_ret3
                      exact ⟨_, by rw [HE.out]; rfl, HFR.out.trans (Fr.setCell (M := (· = b)) _ _ _ (.inl rfl)), by
                        rw [HE.out]
                        have h := HX1.out
                        rw [HX1E.out] at h hbad
                        exact h.set5' (by rw [← Bool.or_assoc, show (x.bad || decide (d = x.s.size ∧ t < d)) = false from hbad]; rfl)⟩
                · have e3 : decide (0 < f) = false := by simpa using haf
                  clear haf
                  cases hbad : x1.bad with
                  | true =>
                    go_wp2_with fail
                    go_ret3
                    exact ⟨_, by rw [HE.out]; rfl, HFR.out.trans (Fr.setCell (M := (· = b)) _ _ _ (.inl rfl)), by
                      rw [HE.out]
                      have h := HX1.out
                      rw [HX1E.out] at h hbad
                      exact h.set5' (by rw [← Bool.or_assoc, show (x.bad || decide (d = x.s.size ∧ t < d)) = true from hbad]; rfl)⟩
                  | false =>
                    cases part with
                    | true =>
                      go_wp2_with fail
                      go_ret3
                      exact ⟨_, by rw [HE.out]; rfl, HFR.out.trans (Fr.setCell (M := (· = b)) _ _ _ (.inl rfl)), by
                        rw [HE.out]
                        have h := HX1.out
                        rw [HX1E.out] at h hbad
                        exact h.set5' (by rw [← Bool.or_assoc, show (x.bad || decide (d = x.s.size ∧ t < d)) = false from hbad]; first | rfl | (simp [e3]; done) | (have q := e3; simp at q ⊢; omega))⟩
                    | false =>
                      go_wp2_with fail
                      go_ret3
                      exact ⟨_, by rw [HE.out]; rfl, HFR.out.trans (Fr.setCell (M := (· = b)) _ _ _ (.inl rfl)), by
                        rw [HE.out]
                        have h := HX1.out
                        rw [HX1E.out] at h hbad
                        exact h.set5' (by rw [← Bool.or_assoc, show (x.bad || decide (d = x.s.size ∧ t < d)) = false from hbad]; rfl)⟩
              · have hm : m < x.s.size := by omega
                rw [Nat.add_sub_cancel, L_get _ _ hm] at ha1
                have b1 : ((x.s[m].toNat : Int) != 10) = false := byte_eq' (b := 10) ha1
                have b2 : ((x.s[m].toNat : Int) == 10) = true := byte_is (b := 10) ha1
                have z1 : (0 : Int) ≤ (m : Int) := by omega
                clear ha1
                by_cases haf : m + 1 < f
                · have e3 : decide (m + 1 < f) = true := by simpa using haf
                  clear haf
                  cases hbad : x1.bad with
                  | true =>
                    go_wp2_with fail
                    go_ret3
                    exact ⟨_, by rw [HE.out]; rfl, HFR.out.trans (Fr.setCell (M := (· = b)) _ _ _ (.inl rfl)), by
                      rw [HE.out]
                      have h := HX1.out
                      rw [HX1E.out] at h hbad
                      exact h.set5' (by rw [← Bool.or_assoc, show (x.bad || decide (d = x.s.size ∧ t < d)) = true from hbad]; rfl)⟩
                  | false =>
                    cases part with
                    | true =>
                      go_wp2_with fail
                      go_ret3
                      exact ⟨_, by rw [HE.out]; rfl, HFR.out.trans (Fr.setCell (M := (· = b)) _ _ _ (.inl rfl)), by
                        rw [HE.out]
                        have h := HX1.out
                        rw [HX1E.out] at h hbad
                        exact h.set5' (by rw [← Bool.or_assoc, show (x.bad || decide (d = x.s.size ∧ t < d)) = false from hbad]; first | rfl | (simp [e3]; done) | (have q := e3; simp at q ⊢; omega))⟩
                    | false =>
                      go_wp2_with fail
                      go_ret3
                      exact ⟨_, by rw [HE.out]; rfl, HFR.out.trans (Fr.setCell (M := (· = b)) _ _ _ (.inl rfl)), by
                        rw [HE.out]
                        have h := HX1.out
                        rw [HX1E.out] at h hbad
                        exact h.set5' (by rw [← Bool.or_assoc, show (x.bad || decide (d = x.s.size ∧ t < d)) = false from hbad]; rfl)⟩
                · have e3 : decide (m + 1 < f) = false := by simpa using haf
                  clear haf
                  cases hbad : x1.bad with
                  | true =>
                    go_wp2_with fail
                    go_ret3
                    exact ⟨_, by rw [HE.out]; rfl, HFR.out.trans (Fr.setCell (M := (· = b)) _ _ _ (.inl rfl)), by
                      rw [HE.out]
                      have h := HX1.out
                      rw [HX1E.out] at h hbad
                      exact h.set5' (by rw [← Bool.or_assoc, show (x.bad || decide (d = x.s.size ∧ t < d)) = true from hbad]; rfl)⟩
                  | false =>
                    cases part with
                    | true =>
                      go_wp2_with fail
                      go_ret3
                      exact ⟨_, by rw [HE.out]; rfl, HFR.out.trans (Fr.setCell (M := (· = b)) _ _ _ (.inl rfl)), by
                        rw [HE.out]
                        have h := HX1.out
                        rw [HX1E.out] at h hbad
                        exact h.set5' (by rw [← Bool.or_assoc, show (x.bad || decide (d = x.s.size ∧ t < d)) = false from hbad]; first | rfl | (simp [e3]; done) | (have q := e3; simp at q ⊢; omega))⟩
                    | false =>
                      go_wp2_with fail
                      go_ret3
                      exact ⟨_, by rw [HE.out]; rfl, HFR.out.trans (Fr.setCell (M := (· = b)) _ _ _ (.inl rfl)), by
                        rw [HE.out]
                        have h := HX1.out
                        rw [HX1E.out] at h hbad
                        exact h.set5' (by rw [← Bool.or_assoc, show (x.bad || decide (d = x.s.size ∧ t < d)) = false from hbad]; rfl)⟩
          · have HE : Hid (Mu.alone (L x.s) f t part = (a, min (d + 1) x.s.size, decide (d = x.s.size ∧ t < d))) := Lib.hid (by
              rw [alone_eq HA.out HD.out, if_neg (by rintro (h | h); exact HNF.out h; rw [L_length] at h; exact hsec h), L_length])
            have hd : d = x.s.size ∨ (∃ h : d < x.s.size, x.s[d] = 10) := by
              by_cases h : d < x.s.size
              · right
                refine ⟨h, ?_⟩
                rw [← L_get _ _ h]
                exact Classical.byContradiction fun h2 => hsec ⟨h, h2⟩
              · left; omega
            have HDD := Lib.hid hd
            clear hsec hd
            rcases id HMAY.out with ha0 | ha1
            · subst ha0
              rcases id HDD.out with hd | ⟨hd0, hd1⟩
              · have c1 : decide (d < x.s.size) = false := by simp; omega
                clear hd
                go_wp2_with fail
                go_quiet (fail)
                go_wp2_with fail
                go_ret3
                refine ⟨true, by rw [HE.out]; exact min_cast _ _ _, HFR.out.trans (Fr.drewN _ _ _), ?_⟩
                rw [HE.out]
                have h := HX1.out
                rw [HX1E.out] at h
                exact h
              · have c1 : ((x.s[d].toNat : Int) != 10) = false := byte_eq' (b := 10) hd1
                clear hd1
                go_wp2_with fail
                go_quiet (fail)
                go_wp2_with fail
                go_ret3
                refine ⟨true, by rw [HE.out]; exact min_cast _ _ _, HFR.out.trans (Fr.drewN _ _ _), ?_⟩
                rw [HE.out]
                have h := HX1.out
                rw [HX1E.out] at h
                exact h
            · rcases a with _ | m
              · rcases id HDD.out with hd | ⟨hd0, hd1⟩
                · have c1 : decide (d < x.s.size) = false := by simp; omega
                  clear hd
                  go_wp2_with fail
                  go_quiet (fail)
                  go_wp2_with fail
                  go_ret3
                  refine ⟨true, by rw [HE.out]; exact min_cast _ _ _, HFR.out.trans (Fr.drewN _ _ _), ?_⟩
                  rw [HE.out]
                  have h := HX1.out
                  rw [HX1E.out] at h
                  exact h
                · have c1 : ((x.s[d].toNat : Int) != 10) = false := byte_eq' (b := 10) hd1
                  clear hd1
                  go_wp2_with fail
                  go_quiet (fail)
                  go_wp2_with fail
                  go_ret3
                  refine ⟨true, by rw [HE.out]; exact min_cast _ _ _, HFR.out.trans (Fr.drewN _ _ _), ?_⟩
                  rw [HE.out]
                  have h := HX1.out
                  rw [HX1E.out] at h
                  exact h
              · have hm : m < x.s.size := by omega
                rw [Nat.add_sub_cancel, L_get _ _ hm] at ha1
                have b1 : ((x.s[m].toNat : Int) != 10) = false := byte_eq' (b := 10) ha1
                have z1 : (0 : Int) ≤ (m : Int) := by omega
                clear ha1
                rcases id HDD.out with hd | ⟨hd0, hd1⟩
                · have c1 : decide (d < x.s.size) = false := by simp; omega
                  clear hd
                  go_wp2_with fail
                  go_quiet (fail)
                  go_wp2_with fail
                  go_ret3
                  refine ⟨true, by rw [HE.out]; exact min_cast _ _ _, HFR.out.trans (Fr.drewN _ _ _), ?_⟩
                  rw [HE.out]
                  have h := HX1.out
                  rw [HX1E.out] at h
                  exact h
                · have c1 : ((x.s[d].toNat : Int) != 10) = false := byte_eq' (b := 10) hd1
                  clear hd1
                  go_wp2_with fail
                  go_quiet (fail)
                  go_wp2_with fail
                  go_ret3
                  refine ⟨true, by rw [HE.out]; exact min_cast _ _ _, HFR.out.trans (Fr.drewN _ _ _), ?_⟩
                  rw [HE.out]
                  have h := HX1.out
                  rw [HX1E.out] at h
                  exact h
end Go.Proofs.YtfakghnpkdoclaaDoor
