/-
  The specification's tags. (Joined by wip/pack.py.)
-/
import Derived.Test.YtfakghnpkdoclaaGreatDoorGS1
import Derived.Deep.DeepCutAuto
import Derived.Deep.CutBlock
import Derived.Test.YtfakghnpkdoclaaGreatDoorGP2
import Derived.Laws.OwnMore
import Derived.Deep.AppendLies
import Derived.Deep.RegionLaw
import Derived.Deep.RegionHeld3
set_option linter.unusedVariables false
set_option linter.unusedSimpArgs false
set_option maxRecDepth 100000
set_option maxHeartbeats 8000000
namespace Go.Proofs.YtfakghnpkdoclaaGreatDoor
open Go.RowKit
open Go.Lib (hid)
theorem backTo_blank {s : Mu.B} {i : Nat} (h : Mu.blankB (s.getD i 0) = true) : Mu.backTo s 0 (i + 1) = Mu.backTo s 0 i := by
 conv => lhs; unfold Mu.backTo
 rw [if_pos ⟨by omega, h⟩]
theorem backTo_stop {s : Mu.B} {i : Nat} (h : Mu.blankB (s.getD i 0) = false) : Mu.backTo s 0 (i + 1) = i + 1 := by
 unfold Mu.backTo
 rw [if_neg (fun x => by rw [h] at x; exact absurd x.2 (by decide))]
theorem fwd_end' (s : Mu.B) (b : Nat) (h : s.length ≤ b) : Mu.fwd s b = b := by
 unfold Mu.fwd; rw [List.drop_of_length_le h]; rfl
theorem fwd_cons {s : Mu.B} {b : Nat} (h : b < s.length) : Mu.fwd s b = if Mu.blankB (s.getD b 0) = true then Mu.fwd s (b + 1) else b := by
 unfold Mu.fwd
 rw [List.drop_eq_getElem_cons h, List.takeWhile_cons]
 have : s.getD b 0 = s[b] := by simp [List.getD_eq_getElem?_getD, h]
 rw [this]
 split
 · simp; omega
 · rfl
theorem alone_eq {s : Mu.B} {f t a d : Nat} {part : Bool} (ha : a = Mu.backTo s 0 f) (hd : d = Mu.fwd s t) :
 Mu.alone s f t part = if (0 < a ∧ s.getD (a - 1) 0 ≠ 10) ∨ (d < s.length ∧ s.getD d 0 ≠ 10) then
  (f, t, decide (d = s.length ∧ t < d) || (part && (decide (a = 0) || decide (s.getD (a - 1) 0 = 10)) && decide (a < f)))
 else (a, min (d + 1) s.length, decide (d = s.length ∧ t < d)) := by
 subst ha hd
 rfl
theorem min_cast (a d n : Nat) : Ending.returned (.tuple #[.int .i64 a, .int .i64 (min ((d : Int) + 1) (n : Int)), .bool true]) = .returned (.tuple #[.int .i64 a, .int .i64 ((min (d + 1) n : Nat) : Int), .bool true]) := by
 rw [show (min ((d : Int) + 1) (n : Int)) = ((min (d + 1) n : Nat) : Int) by omega]
theorem PaAt.set5' {w : World} {b : Nat} {x : Pa} (h : PaAt w b x) {v v' : Bool} (e : v = v') : PaAt (w.setCell ⟨b, 5, none⟩ (.bool v)) b { x with bad := v' } := by
 subst e; exact h.set5 v
def AlonePost (x : Pa) (b f t : Nat) (part : Bool) (w : World) (e : Ending) (w' : World) : Prop :=
 ∃ r : Bool, e = .returned (.tuple #[.int .i64 (Mu.alone (L x.s) f t part).1, .int .i64 (Mu.alone (L x.s) f t part).2.1, .bool r]) ∧ Fr (· = b) w w' ∧ PaAt w' b { x with bad := x.bad || (Mu.alone (L x.s) f t part).2.2 }
theorem alone_any (b f t : Nat) (part : Bool) (x : Pa) (w : World) (hs : x.s.size ≤ 4294967296) (hx : PaAt w b x) (hf : f ≤ x.s.size) (ht : t ≤ x.s.size) :
 Calls Tryz.prog 66 #[.pointer (some ⟨b, 0, none⟩), .int .i64 f, .int .i64 t, .bool part] w (AlonePost x b f t part w) := by
 have HX := hid hx
 obtain ⟨h0, -, -, -, -, h5⟩ := hx.cells
 have f5 := hx.free 5
 clear hx
 go_enter Tryz.func66, Tryz.ntmps66
 go_upto_block 0 with fail
 go_cut [11] (fun v wr => v = .int .i64 (Mu.backTo (L x.s) 0 f) ∧ wr = w)
 case first =>
  go_wp2_with fail
  go_loopg [11] f (fun g v wr => ∃ k : Nat, v = .int .i64 k ∧ k ≤ f ∧ g = k ∧ wr = w ∧ Hid (Mu.backTo (L x.s) 0 k = Mu.backTo (L x.s) 0 f))
  case atStart => exact ⟨f, rfl, Nat.le_refl _, rfl, rfl, hid rfl⟩
  case round =>
   obtain ⟨_, rfl, hk, rfl, rfl, HK⟩ := hrel
   rcases gk with _ | i
   · go_wp2_with fail
     go_meet
     case rel => exact ⟨by rw [← HK.out]; rfl, rfl⟩
   · have hlt : i < x.s.size := by omega
     cases hb : Mu.blankB x.s[i] with
     | true =>
      have HN : Hid (Mu.backTo (L x.s) 0 i = Mu.backTo (L x.s) 0 f) := hid (by rw [← HK.out, backTo_blank (by rw [L_get _ _ hlt]; exact hb)]);go_wp2_with fail;refine (blank_any _ _).mono ?_;rintro e w' ⟨rfl, rfl⟩;go_wp2_with fail
      go_roundg i
      case rel => exact ⟨i, by go_num, by omega, rfl, rfl, HN⟩
      case measure => omega
     | false =>
      have HN : Hid (Mu.backTo (L x.s) 0 f = i + 1) := hid (by rw [← HK.out, backTo_stop (by rw [L_get _ _ hlt]; exact hb)]);go_wp2_with fail;refine (blank_any _ _).mono ?_;rintro e w' ⟨rfl, rfl⟩;go_wp2_with fail
      go_meet
      case rel => exact ⟨by rw [HN.out]; rfl, rfl⟩
 case rest =>
  obtain ⟨rfl, rfl⟩ := hcut;have hbl := Mu.backTo_le (L x.s) 0 f;obtain ⟨a, ha⟩ : ∃ a, a = Mu.backTo (L x.s) 0 f := ⟨_, rfl⟩
  rw [← ha] at hbl ⊢;have HA := hid ha;clear ha
  go_upto_block 2 with fail
  go_cut [12] (fun v wr => v = .int .i64 (Mu.fwd (L x.s) t) ∧ wr = wc)
  case first =>
   go_wp2_with fail
   go_loopg [12] (x.s.size - t) (fun g v wr => ∃ k : Nat, v = .int .i64 k ∧ k ≤ x.s.size ∧ g = x.s.size - k ∧ wr = wc ∧ Hid (Mu.fwd (L x.s) k = Mu.fwd (L x.s) t))
   case atStart => exact ⟨t, rfl, ht, rfl, rfl, hid rfl⟩
   case round =>
    obtain ⟨k, rfl, hk, rfl, rfl, HK⟩ := hrel
    by_cases hlt : k < x.s.size
    · cases hb : Mu.blankB x.s[k] with
      | true =>
       have HN : Hid (Mu.fwd (L x.s) (k + 1) = Mu.fwd (L x.s) t) := hid (by rw [← HK.out, fwd_cons (b := k) (by rw [L_length]; exact hlt), if_pos (by rw [L_get _ _ hlt]; exact hb)]);go_wp2_with fail;refine (blank_any _ _).mono ?_;rintro e w' ⟨rfl, rfl⟩;go_wp2_with fail
       go_roundg (x.s.size - (k + 1))
       case rel => exact ⟨k + 1, by go_num, by omega, rfl, rfl, HN⟩
       case measure => omega
      | false =>
       have HN : Hid (Mu.fwd (L x.s) t = k) := hid (by rw [← HK.out, fwd_cons (b := k) (by rw [L_length]; exact hlt), if_neg (by rw [L_get _ _ hlt, hb]; decide)]);go_wp2_with fail;refine (blank_any _ _).mono ?_;rintro e w' ⟨rfl, rfl⟩;go_wp2_with fail
       go_meet
       case rel => exact ⟨by rw [HN.out], rfl⟩
    · have HN : Hid (Mu.fwd (L x.s) t = k) := hid (by rw [← HK.out, fwd_end' _ _ (by rw [L_length]; omega)])
      go_wp2_with fail
      go_meet
      case rel => exact ⟨by rw [HN.out], rfl⟩
  case rest =>
   obtain ⟨rfl, rfl⟩ := hcut;have hfl := Mu.fwd_le (L x.s) t (by rw [L_length]; exact ht);have hfg := Mu.fwd_ge (L x.s) t;rw [L_length] at hfl;obtain ⟨d, hd⟩ : ∃ d, d = Mu.fwd (L x.s) t := ⟨_, rfl⟩
   rw [← hd] at hfl hfg ⊢;have HD := hid hd;clear hd;have AEQ : Hid (∀ c : Bool, c = (Mu.alone (L x.s) f t part).2.2 → c = c) := hid (fun _ _ => rfl);clear AEQ
   go_upto_region 6 with fail
   go_cut [] (fun wr => Fr (· = b) wc wr ∧ PaAt wr b { x with bad := x.bad || decide (d = x.s.size ∧ t < d) })
   case first =>
    by_cases hde : d = x.s.size
    · have e1 : ((d : Int) == (x.s.size : Int)) = true := by subst hde; simp
      by_cases hdt : t < d
      · have e2 : decide ((t : Int) < (d : Int)) = true := by simp; omega
        have HF : Hid (decide (d = x.s.size ∧ t < d) = true) := hid (by simp; omega);have HD2 := hid hde;have HDT := hid hdt;clear hde hdt
        cases hbad : x.bad with
        | true =>
         go_wp2_with fail
         go_meet
         case rel => exact ⟨Fr.setCell _ _ _ (.inl rfl), HX.out.set5' (by rw [hbad]; simp)⟩
        | false =>
         go_wp2_with fail
         go_meet
         case rel => exact ⟨Fr.setCell _ _ _ (.inl rfl), HX.out.set5' (by rw [hbad, HF.out]; first | rfl | simpa using HDT.out)⟩
      · have e2 : decide ((t : Int) < (d : Int)) = false := by simp; omega
        have HF : Hid (decide (d = x.s.size ∧ t < d) = false) := hid (by simp; omega);have HD2 := hid hde;have HDT := hid hdt;clear hde hdt
        cases hbad : x.bad with
        | true =>
         go_wp2_with fail
         go_meet
         case rel => exact ⟨Fr.setCell _ _ _ (.inl rfl), HX.out.set5' (by rw [hbad]; simp)⟩
        | false =>
         go_wp2_with fail
         go_meet
         case rel => exact ⟨Fr.setCell _ _ _ (.inl rfl), HX.out.set5' (by rw [hbad, HF.out]; first | rfl | simpa using HDT.out)⟩
    · have e1 : ((d : Int) == (x.s.size : Int)) = false := by simp; omega
      have HF : Hid (decide (d = x.s.size ∧ t < d) = false) := hid (by simp; omega);have HD2 := hid hde;clear hde
      cases hbad : x.bad with
      | true =>
       go_wp2_with fail
       go_meet
       case rel => exact ⟨Fr.setCell _ _ _ (.inl rfl), HX.out.set5' (by rw [hbad]; simp)⟩
      | false =>
       go_wp2_with fail
       go_meet
       case rel => exact ⟨Fr.setCell _ _ _ (.inl rfl), HX.out.set5' (by rw [hbad, HF.out]; first | rfl | simpa using HDT.out)⟩
   case rest =>
    obtain ⟨hfr, hx1⟩ := hcut;obtain ⟨x1, hx1e⟩ : ∃ x1 : Pa, x1 = { x with bad := x.bad || decide (d = x.s.size ∧ t < d) } := ⟨_, rfl⟩
    rw [← hx1e] at hx1;obtain ⟨g0, -, -, -, -, g5⟩ := hx1.cells;have gf := hx1.free 5;have e0 : x1.s = x.s := by rw [hx1e]
    rw [e0] at g0;have HX1 := hid hx1;have HX1E := hid hx1e;have HFR := hid hfr;clear hfr hx1 hx1e e0 h0 h5 f5
    by_cases hfirst : 0 < a ∧ (L x.s).getD (a - 1) 0 ≠ 10
    · obtain ⟨ha0, ha1⟩ := hfirst
      obtain ⟨m, rfl⟩ : ∃ m, a = m + 1 := ⟨a - 1, by omega⟩
      have hm : m < x.s.size := by omega
      rw [Nat.add_sub_cancel, L_get _ _ hm] at ha1;have b1 : ((x.s[m].toNat : Int) != 10) = true := byte_ne' (b := 10) ha1;have b2 : ((x.s[m].toNat : Int) == 10) = false := byte_isnt (b := 10) ha1
      have HE : Hid (Mu.alone (L x.s) f t part = (f, t, decide (d = x.s.size ∧ t < d))) := hid (by
       rw [alone_eq HA.out HD.out, if_pos (.inl ⟨by omega, by rw [Nat.add_sub_cancel, L_get _ _ hm]; exact ha1⟩)];have : decide ((L x.s).getD (m + 1 - 1) 0 = 10) = false := by rw [Nat.add_sub_cancel, L_get _ _ hm]; simpa using ha1
       rw [this, L_length]; simp)
      have z1 : (0 : Int) ≤ (m : Int) := by omega
      clear ha1 ha0
      cases hbad : x1.bad with
      | true =>
       go_wp2_with fail
       go_ret3
       exact ⟨_, by rw [HE.out]; rfl, HFR.out.trans (Fr.setCell (M := (· = b)) _ _ _ (.inl rfl)), by
        rw [HE.out];have h := HX1.out;rw [HX1E.out] at h hbad;exact h.set5' (by rw [← hbad])⟩
      | false =>
       cases part with
       | true =>
        go_wp2_with fail
        go_ret3
        exact ⟨_, by rw [HE.out]; rfl, HFR.out.trans (Fr.setCell (M := (· = b)) _ _ _ (.inl rfl)), by
         rw [HE.out];have h := HX1.out;rw [HX1E.out] at h hbad;exact h.set5' (by rw [← hbad])⟩
       | false =>
        go_wp2_with fail
        go_ret3
        exact ⟨_, by rw [HE.out]; rfl, HFR.out.trans (Fr.setCell (M := (· = b)) _ _ _ (.inl rfl)), by
         rw [HE.out];have h := HX1.out;rw [HX1E.out] at h hbad;exact h.set5' (by rw [← hbad])⟩
    · have hmay : a = 0 ∨ (L x.s).getD (a - 1) 0 = 10 := by
       by_cases h : a = 0
       · exact .inl h
       · exact .inr (Classical.byContradiction fun h2 => hfirst ⟨by omega, h2⟩)
      have hmb : (decide (a = 0) || decide ((L x.s).getD (a - 1) 0 = 10)) = true := by
       rcases hmay with h | h
       · simp [h]
       · rw [h]; simp
      have HMAY := hid hmay;have HMB := hid hmb;have HNF := hid hfirst;clear hfirst hmay hmb
      by_cases hsec : d < x.s.size ∧ (L x.s).getD d 0 ≠ 10
      · obtain ⟨hd0, hd1⟩ := hsec
        rw [L_get _ _ hd0] at hd1;have c1 : ((x.s[d].toNat : Int) != 10) = true := byte_ne' (b := 10) hd1
        have HE : Hid (Mu.alone (L x.s) f t part = (f, t, decide (d = x.s.size ∧ t < d) || (part && decide (a < f)))) := hid (by
         rw [alone_eq HA.out HD.out, if_pos (.inr ⟨by rw [L_length]; exact hd0, by rw [L_get _ _ hd0]; exact hd1⟩), HMB.out, L_length]; simp)
        clear hd1
        rcases id HMAY.out with ha0 | ha1
        · subst ha0
          by_cases haf : 0 < f
          · have e3 : decide (0 < f) = true := by simpa using haf
            clear haf
            cases hbad : x1.bad with
            | true =>
             go_wp2_with fail
             go_ret3
             exact ⟨_, by rw [HE.out]; rfl, HFR.out.trans (Fr.setCell (M := (· = b)) _ _ _ (.inl rfl)), by
              rw [HE.out];have h := HX1.out;rw [HX1E.out] at h hbad;exact h.set5' (by rw [← Bool.or_assoc, show (x.bad || decide (d = x.s.size ∧ t < d)) = true from hbad]; rfl)⟩
            | false =>
             cases part with
             | true =>
              go_wp2_with fail
              go_ret3
              exact ⟨_, by rw [HE.out]; rfl, HFR.out.trans (Fr.setCell (M := (· = b)) _ _ _ (.inl rfl)), by
               rw [HE.out];have h := HX1.out;rw [HX1E.out] at h hbad;exact h.set5' (by rw [← Bool.or_assoc, show (x.bad || decide (d = x.s.size ∧ t < d)) = false from hbad]; first | rfl | (simp [e3]; done) | (have q := e3; simp at q ⊢; omega))⟩
             | false =>
              go_wp2_with fail
              go_ret3
              exact ⟨_, by rw [HE.out]; rfl, HFR.out.trans (Fr.setCell (M := (· = b)) _ _ _ (.inl rfl)), by
               rw [HE.out];have h := HX1.out;rw [HX1E.out] at h hbad;exact h.set5' (by rw [← Bool.or_assoc, show (x.bad || decide (d = x.s.size ∧ t < d)) = false from hbad]; rfl)⟩
          · have e3 : decide (0 < f) = false := by simpa using haf
            clear haf
            cases hbad : x1.bad with
            | true =>
             go_wp2_with fail
             go_ret3
             exact ⟨_, by rw [HE.out]; rfl, HFR.out.trans (Fr.setCell (M := (· = b)) _ _ _ (.inl rfl)), by
              rw [HE.out];have h := HX1.out;rw [HX1E.out] at h hbad;exact h.set5' (by rw [← Bool.or_assoc, show (x.bad || decide (d = x.s.size ∧ t < d)) = true from hbad]; rfl)⟩
            | false =>
             cases part with
             | true =>
              go_wp2_with fail
              go_ret3
              exact ⟨_, by rw [HE.out]; rfl, HFR.out.trans (Fr.setCell (M := (· = b)) _ _ _ (.inl rfl)), by
               rw [HE.out];have h := HX1.out;rw [HX1E.out] at h hbad;exact h.set5' (by rw [← Bool.or_assoc, show (x.bad || decide (d = x.s.size ∧ t < d)) = false from hbad]; first | rfl | (simp [e3]; done) | (have q := e3; simp at q ⊢; omega))⟩
             | false =>
              go_wp2_with fail
              go_ret3
              exact ⟨_, by rw [HE.out]; rfl, HFR.out.trans (Fr.setCell (M := (· = b)) _ _ _ (.inl rfl)), by
               rw [HE.out];have h := HX1.out;rw [HX1E.out] at h hbad;exact h.set5' (by rw [← Bool.or_assoc, show (x.bad || decide (d = x.s.size ∧ t < d)) = false from hbad]; rfl)⟩
        · rcases a with _ | m
          · by_cases haf : 0 < f
            · have e3 : decide (0 < f) = true := by simpa using haf
              clear haf
              cases hbad : x1.bad with
              | true =>
               go_wp2_with fail
               go_ret3
               exact ⟨_, by rw [HE.out]; rfl, HFR.out.trans (Fr.setCell (M := (· = b)) _ _ _ (.inl rfl)), by
                rw [HE.out];have h := HX1.out;rw [HX1E.out] at h hbad;exact h.set5' (by rw [← Bool.or_assoc, show (x.bad || decide (d = x.s.size ∧ t < d)) = true from hbad]; rfl)⟩
              | false =>
               cases part with
               | true =>
                go_wp2_with fail
                go_ret3
                exact ⟨_, by rw [HE.out]; rfl, HFR.out.trans (Fr.setCell (M := (· = b)) _ _ _ (.inl rfl)), by
                 rw [HE.out];have h := HX1.out;rw [HX1E.out] at h hbad;exact h.set5' (by rw [← Bool.or_assoc, show (x.bad || decide (d = x.s.size ∧ t < d)) = false from hbad]; first | rfl | (simp [e3]; done) | (have q := e3; simp at q ⊢; omega))⟩
               | false =>
                go_wp2_with fail
                go_ret3
                exact ⟨_, by rw [HE.out]; rfl, HFR.out.trans (Fr.setCell (M := (· = b)) _ _ _ (.inl rfl)), by
                 rw [HE.out];have h := HX1.out;rw [HX1E.out] at h hbad;exact h.set5' (by rw [← Bool.or_assoc, show (x.bad || decide (d = x.s.size ∧ t < d)) = false from hbad]; rfl)⟩
            · have e3 : decide (0 < f) = false := by simpa using haf
              clear haf
              cases hbad : x1.bad with
              | true =>
               go_wp2_with fail
               go_ret3
               exact ⟨_, by rw [HE.out]; rfl, HFR.out.trans (Fr.setCell (M := (· = b)) _ _ _ (.inl rfl)), by
                rw [HE.out];have h := HX1.out;rw [HX1E.out] at h hbad;exact h.set5' (by rw [← Bool.or_assoc, show (x.bad || decide (d = x.s.size ∧ t < d)) = true from hbad]; rfl)⟩
              | false =>
               cases part with
               | true =>
                go_wp2_with fail
                go_ret3
                exact ⟨_, by rw [HE.out]; rfl, HFR.out.trans (Fr.setCell (M := (· = b)) _ _ _ (.inl rfl)), by
                 rw [HE.out];have h := HX1.out;rw [HX1E.out] at h hbad;exact h.set5' (by rw [← Bool.or_assoc, show (x.bad || decide (d = x.s.size ∧ t < d)) = false from hbad]; first | rfl | (simp [e3]; done) | (have q := e3; simp at q ⊢; omega))⟩
               | false =>
                go_wp2_with fail
                go_ret3
                exact ⟨_, by rw [HE.out]; rfl, HFR.out.trans (Fr.setCell (M := (· = b)) _ _ _ (.inl rfl)), by
                 rw [HE.out];have h := HX1.out;rw [HX1E.out] at h hbad;exact h.set5' (by rw [← Bool.or_assoc, show (x.bad || decide (d = x.s.size ∧ t < d)) = false from hbad]; rfl)⟩
          · have hm : m < x.s.size := by omega
            rw [Nat.add_sub_cancel, L_get _ _ hm] at ha1;have b1 : ((x.s[m].toNat : Int) != 10) = false := byte_eq' (b := 10) ha1;have b2 : ((x.s[m].toNat : Int) == 10) = true := byte_is (b := 10) ha1;have z1 : (0 : Int) ≤ (m : Int) := by omega
            clear ha1
            by_cases haf : m + 1 < f
            · have e3 : decide (m + 1 < f) = true := by simpa using haf
              clear haf
              cases hbad : x1.bad with
              | true =>
               go_wp2_with fail
               go_ret3
               exact ⟨_, by rw [HE.out]; rfl, HFR.out.trans (Fr.setCell (M := (· = b)) _ _ _ (.inl rfl)), by
                rw [HE.out];have h := HX1.out;rw [HX1E.out] at h hbad;exact h.set5' (by rw [← Bool.or_assoc, show (x.bad || decide (d = x.s.size ∧ t < d)) = true from hbad]; rfl)⟩
              | false =>
               cases part with
               | true =>
                go_wp2_with fail
                go_ret3
                exact ⟨_, by rw [HE.out]; rfl, HFR.out.trans (Fr.setCell (M := (· = b)) _ _ _ (.inl rfl)), by
                 rw [HE.out];have h := HX1.out;rw [HX1E.out] at h hbad;exact h.set5' (by rw [← Bool.or_assoc, show (x.bad || decide (d = x.s.size ∧ t < d)) = false from hbad]; first | rfl | (simp [e3]; done) | (have q := e3; simp at q ⊢; omega))⟩
               | false =>
                go_wp2_with fail
                go_ret3
                exact ⟨_, by rw [HE.out]; rfl, HFR.out.trans (Fr.setCell (M := (· = b)) _ _ _ (.inl rfl)), by
                 rw [HE.out];have h := HX1.out;rw [HX1E.out] at h hbad;exact h.set5' (by rw [← Bool.or_assoc, show (x.bad || decide (d = x.s.size ∧ t < d)) = false from hbad]; rfl)⟩
            · have e3 : decide (m + 1 < f) = false := by simpa using haf
              clear haf
              cases hbad : x1.bad with
              | true =>
               go_wp2_with fail
               go_ret3
               exact ⟨_, by rw [HE.out]; rfl, HFR.out.trans (Fr.setCell (M := (· = b)) _ _ _ (.inl rfl)), by
                rw [HE.out];have h := HX1.out;rw [HX1E.out] at h hbad;exact h.set5' (by rw [← Bool.or_assoc, show (x.bad || decide (d = x.s.size ∧ t < d)) = true from hbad]; rfl)⟩
              | false =>
               cases part with
               | true =>
                go_wp2_with fail
                go_ret3
                exact ⟨_, by rw [HE.out]; rfl, HFR.out.trans (Fr.setCell (M := (· = b)) _ _ _ (.inl rfl)), by
                 rw [HE.out];have h := HX1.out;rw [HX1E.out] at h hbad;exact h.set5' (by rw [← Bool.or_assoc, show (x.bad || decide (d = x.s.size ∧ t < d)) = false from hbad]; first | rfl | (simp [e3]; done) | (have q := e3; simp at q ⊢; omega))⟩
               | false =>
                go_wp2_with fail
                go_ret3
                exact ⟨_, by rw [HE.out]; rfl, HFR.out.trans (Fr.setCell (M := (· = b)) _ _ _ (.inl rfl)), by
                 rw [HE.out];have h := HX1.out;rw [HX1E.out] at h hbad;exact h.set5' (by rw [← Bool.or_assoc, show (x.bad || decide (d = x.s.size ∧ t < d)) = false from hbad]; rfl)⟩
      · have HE : Hid (Mu.alone (L x.s) f t part = (a, min (d + 1) x.s.size, decide (d = x.s.size ∧ t < d))) := hid (by
         rw [alone_eq HA.out HD.out, if_neg (by rintro (h | h); exact HNF.out h; rw [L_length] at h; exact hsec h), L_length])
        have hd : d = x.s.size ∨ (∃ h : d < x.s.size, x.s[d] = 10) := by
         by_cases h : d < x.s.size
         · right
           refine ⟨h, ?_⟩;rw [← L_get _ _ h];exact Classical.byContradiction fun h2 => hsec ⟨h, h2⟩
         · left; omega
        have HDD := hid hd;clear hsec hd
        rcases id HMAY.out with ha0 | ha1
        · subst ha0
          rcases id HDD.out with hd | ⟨hd0, hd1⟩
          · have c1 : decide (d < x.s.size) = false := by simp; omega
            clear hd;go_wp2_with fail
            go_quiet (fail)
            go_wp2_with fail
            go_ret3
            refine ⟨true, by rw [HE.out]; exact min_cast _ _ _, HFR.out.trans (Fr.drewN _ _ _), ?_⟩;rw [HE.out];have h := HX1.out;rw [HX1E.out] at h;exact h
          · have c1 : ((x.s[d].toNat : Int) != 10) = false := byte_eq' (b := 10) hd1
            clear hd1;go_wp2_with fail
            go_quiet (fail)
            go_wp2_with fail
            go_ret3
            refine ⟨true, by rw [HE.out]; exact min_cast _ _ _, HFR.out.trans (Fr.drewN _ _ _), ?_⟩;rw [HE.out];have h := HX1.out;rw [HX1E.out] at h;exact h
        · rcases a with _ | m
          · rcases id HDD.out with hd | ⟨hd0, hd1⟩
            · have c1 : decide (d < x.s.size) = false := by simp; omega
              clear hd;go_wp2_with fail
              go_quiet (fail)
              go_wp2_with fail
              go_ret3
              refine ⟨true, by rw [HE.out]; exact min_cast _ _ _, HFR.out.trans (Fr.drewN _ _ _), ?_⟩;rw [HE.out];have h := HX1.out;rw [HX1E.out] at h;exact h
            · have c1 : ((x.s[d].toNat : Int) != 10) = false := byte_eq' (b := 10) hd1
              clear hd1;go_wp2_with fail
              go_quiet (fail)
              go_wp2_with fail
              go_ret3
              refine ⟨true, by rw [HE.out]; exact min_cast _ _ _, HFR.out.trans (Fr.drewN _ _ _), ?_⟩;rw [HE.out];have h := HX1.out;rw [HX1E.out] at h;exact h
          · have hm : m < x.s.size := by omega
            rw [Nat.add_sub_cancel, L_get _ _ hm] at ha1;have b1 : ((x.s[m].toNat : Int) != 10) = false := byte_eq' (b := 10) ha1;have z1 : (0 : Int) ≤ (m : Int) := by omega
            clear ha1
            rcases id HDD.out with hd | ⟨hd0, hd1⟩
            · have c1 : decide (d < x.s.size) = false := by simp; omega
              clear hd;go_wp2_with fail
              go_quiet (fail)
              go_wp2_with fail
              go_ret3
              refine ⟨true, by rw [HE.out]; exact min_cast _ _ _, HFR.out.trans (Fr.drewN _ _ _), ?_⟩;rw [HE.out];have h := HX1.out;rw [HX1E.out] at h;exact h
            · have c1 : ((x.s[d].toNat : Int) != 10) = false := byte_eq' (b := 10) hd1
              clear hd1;go_wp2_with fail
              go_quiet (fail)
              go_wp2_with fail
              go_ret3
              refine ⟨true, by rw [HE.out]; exact min_cast _ _ _, HFR.out.trans (Fr.drewN _ _ _), ?_⟩;rw [HE.out];have h := HX1.out;rw [HX1E.out] at h;exact h
end Go.Proofs.YtfakghnpkdoclaaGreatDoor
namespace Go.Proofs.YtfakghnpkdoclaaGreatDoor
open Go.RowKit
open Go.Lib (hid)
theorem find_quiet (b p : Nat) (x : Pa) (pat : ByteArray) (w : World) (n : Nat) (hs : x.s.size ≤ 4294967296) (hx : PaAt w b x) (hp : p ≤ x.s.size) (hpat : 0 < pat.size) (hpat2 : pat.size ≤ 4294967296) {v : Int} (hv : idxV (Mu.find (L x.s) (L pat) p) = v) :
 Calls Tryz.prog 84 #[.pointer (some ⟨b, 0, none⟩), .int .i64 p, .string pat] (w.drewN n) (fun e w' => e = .returned (.int .i64 v) ∧ ∃ m, w' = w.drewN m) :=
 (find_any b p x pat (w.drewN n) hs (hx.sm ⟨n, rfl⟩) hp hpat hpat2).mono fun _ _ h => ⟨by rw [h.1, hv], n, h.2.symm⟩
theorem L_append (a b : ByteArray) : L (a ++ b) = L a ++ L b := by
 unfold L
 rw [ByteArray.data_append, Array.toList_append]
def TagAt (w : World) (b : Nat) (k : UInt8) (body : ByteArray) (f t : Nat) : Prop := w.heap[b]? = some (.cells #[.int .u8 k.toNat, .string body, .int .i64 f, .int .i64 t] 111 (0, 0))
theorem tag_new (w : World) (o o2 : Obj) (n : Nat) : (((w.alloc o).drewN n).alloc o2).heap[w.heap.size + 1]? = some o2 := by
 have := blk_new ((w.alloc o).drewN n) o2
 simpa using this
theorem tag_old (w : World) (o o2 : Obj) (n : Nat) : (((w.alloc o).drewN n).alloc o2).heap[w.heap.size]? = some o := blk_alloc o2 (blk_new w o)
def NextPost (x : Pa) (b : Nat) (w : World) (e : Ending) (w' : World) : Prop :=
 match Mu.snext (L x.s) x.p (L x.o) (L x.c) with
 | .none bad => e = .returned (.tuple #[.agg #[.int .u8 0, .string ⟨#[]⟩, .int .i64 0, .int .i64 0], .bool false]) ∧ Fr (· = b) w w' ∧ PaAt w' b { x with bad := x.bad || bad }
 | .some t => ∃ bd : ByteArray, e = .returned (.tuple #[.agg #[.int .u8 t.kind.toNat, .string bd, .int .i64 t.at0, .int .i64 t.to], .bool true]) ∧ L bd = t.body ∧ F0 w w'
theorem blk_cells4 {w : World} {b : Nat} {u0 u1 u2 u3 : Value} {T : TypeId} (h : w.heap[b]? = some (.cells #[u0, u1, u2, u3] T (0, 0))) :
 w.cell? ⟨b, 0, none⟩ = some u0 ∧ w.cell? ⟨b, 1, none⟩ = some u1 ∧ w.cell? ⟨b, 2, none⟩ = some u2 ∧ w.cell? ⟨b, 3, none⟩ = some u3 ∧ (∀ i, w.frozen? ⟨b, i, none⟩ = false) :=
 ⟨blk_cell h 0, blk_cell h 1, blk_cell h 2, blk_cell h 3, fun i => blk_free h i⟩
theorem next_none_close {b : Nat} {x : Pa} {w wc : World} (hfr : F0 w wc) (hx : PaAt wc b x) (hbl : b < w.heap.size) (v0 v1 v2 v3 : Value) :
 Fr (· = b) w (((((wc.setCell ⟨b, 5, none⟩ (.bool true)).setCell ⟨w.heap.size, 0, none⟩ v0).setCell ⟨w.heap.size, 1, none⟩ v1).setCell ⟨w.heap.size, 2, none⟩ v2).setCell ⟨w.heap.size, 3, none⟩ v3) ∧
 PaAt (((((wc.setCell ⟨b, 5, none⟩ (.bool true)).setCell ⟨w.heap.size, 0, none⟩ v0).setCell ⟨w.heap.size, 1, none⟩ v1).setCell ⟨w.heap.size, 2, none⟩ v2).setCell ⟨w.heap.size, 3, none⟩ v3) b { x with bad := x.bad || true } := by
 have hne : b ≠ w.heap.size := by omega
 refine ⟨(((((Fr.of0 (M := (· = b)) hfr).setA _ _ (.inl rfl)).setA _ _ (.inr (Nat.le_refl _))).setA _ _ (.inr (Nat.le_refl _))).setA _ _ (.inr (Nat.le_refl _))).setA _ _ (.inr (Nat.le_refl _)), ?_⟩
 rw [Bool.or_true]
 exact blk_set_ne _ _ (blk_set_ne _ _ (blk_set_ne _ _ (blk_set_ne _ _ (hx.set5 true) hne) hne) hne) hne
theorem next_some_close {w wc : World} (hfr : F0 w wc) (u1 u3 v0 v1 v2 v3 : Value) :
 F0 w ((((((wc.setCell ⟨w.heap.size + 1, 1, none⟩ u1).setCell ⟨w.heap.size + 1, 3, none⟩ u3).setCell ⟨w.heap.size, 0, none⟩ v0).setCell ⟨w.heap.size, 1, none⟩ v1).setCell ⟨w.heap.size, 2, none⟩ v2).setCell ⟨w.heap.size, 3, none⟩ v3) :=
 (((((hfr.setA _ _ (.inr (by simp))).setA _ _ (.inr (by simp))).setA _ _ (.inr (Nat.le_refl _))).setA _ _ (.inr (Nat.le_refl _))).setA _ _ (.inr (Nat.le_refl _))).setA _ _ (.inr (Nat.le_refl _))
theorem next_ret {k : UInt8} {bd : ByteArray} {f : Nat} {a b : Int} (h : a = b) : Ending.returned (.tuple #[.agg #[.int .u8 k.toNat, .string bd, .int .i64 f, .int .i64 a], .bool true]) = .returned (.tuple #[.agg #[.int .u8 k.toNat, .string bd, .int .i64 f, .int .i64 b], .bool true]) := by rw [h]
theorem next_any (b : Nat) (x : Pa) (w : World) (hs : x.s.size ≤ 4294967296) (hx : PaAt w b x) (hp : x.p ≤ x.s.size) (ho : 0 < x.o.size ∧ x.o.size ≤ 1000) (hc : 0 < x.c.size ∧ x.c.size ≤ 1000) :
 Calls Tryz.prog 65 #[.pointer (some ⟨b, 0, none⟩)] w (NextPost x b w) := by
 have hbl : b < w.heap.size := blk_lt hx
 have HX := hid hx
 obtain ⟨h0, h1, -, h3, h4, -⟩ := hx.cells
 clear hx
 obtain ⟨ho1, ho2⟩ := ho
 obtain ⟨hc1, hc2⟩ := hc
 cases hf : Mu.find (L x.s) (L x.o) x.p with
 | none =>
  have HF : Hid (idxV (Mu.find (L x.s) (L x.o) x.p) = -1) := hid (by rw [hf]; rfl);have HS : Hid (Mu.snext (L x.s) x.p (L x.o) (L x.c) = .none false) := hid (by unfold Mu.snext; rw [hf]);clear hf;go_enter Tryz.func65, Tryz.ntmps65;go_wp2_with fail
  go_quiet ((go_at_call 84; exact find_quiet b x.p x x.o _ _ hs ((HX.out).fr0 (Fr.alloc _ _ _)) hp ho1 (by omega) HF.out))
  go_wp2_with fail;refine bodyPost_ret (v := .tuple #[.agg #[.int .u8 0, .string ⟨#[]⟩, .int .i64 0, .int .i64 0], .bool false]) (by simp [results, Tryz.results65, go_sem]) rfl ?_
  unfold NextPost;rw [HS.out]
  have hfr : ∀ (n : Nat) (v0 v1 v2 v3 : Value), F0 w (((((((w.alloc (.cells #[.int .u8 0, .string ⟨#[]⟩, .int .i64 0, .int .i64 0] 111)).drewN n).setCell ⟨w.heap.size, 0, none⟩ v0).setCell ⟨w.heap.size, 1, none⟩ v1).setCell ⟨w.heap.size, 2, none⟩ v2).setCell ⟨w.heap.size, 3, none⟩ v3)) := fun n v0 v1 v2 v3 =>
   ((((((Fr.alloc _ _ _).drewNA n).setA _ _ (.inr (Nat.le_refl _))).setA _ _ (.inr (Nat.le_refl _))).setA _ _ (.inr (Nat.le_refl _))).setA _ _ (.inr (Nat.le_refl _)))
  exact ⟨rfl, Fr.of0 (hfr _ _ _ _ _), by rw [Bool.or_false]; exact HX.out.fr0 (hfr _ _ _ _ _)⟩
 | some f =>
  have hfl := Mu.find_le hf (by intro h; rw [← L_length, h] at ho1; exact absurd ho1 (by simp));rw [L_length, L_length] at hfl;have HF : Hid (idxV (Mu.find (L x.s) (L x.o) x.p) = (f : Int)) := hid (by rw [hf]; rfl);have HFO := hid hf;clear hf;have z0 : decide ((f : Int) < 0) = false := by simp
  go_enter Tryz.func65, Tryz.ntmps65;go_wp2_with fail
  go_quiet ((go_at_call 84; exact find_quiet b x.p x x.o _ _ hs ((HX.out).fr0 (Fr.alloc _ _ _)) hp ho1 (by omega) HF.out))
  obtain ⟨a1, ha1⟩ : ∃ a1, a1 = f + x.o.size := ⟨_, rfl⟩
  have ha1l : a1 ≤ x.s.size := by omega
  have za : ((f : Int) + (x.o.size : Int)) = (a1 : Int) := by omega
  have HA1 := hid ha1;clear ha1
  go_upto_if 42 with fail
  obtain ⟨k, hk⟩ : ∃ k, k = Mu.kindAt (L x.s) a1 := ⟨_, rfl⟩
  obtain ⟨a2, ha2⟩ : ∃ a2, a2 = if k = 0 then a1 else a1 + 1 := ⟨_, rfl⟩
  have HK := hid hk;have HA2 := hid ha2;clear hk ha2
  go_cut [6] (fun v wr => v = .int .i64 a2 ∧ Fr No w wr ∧ TagAt wr (w.heap.size + 1) k ⟨#[]⟩ f 0 ∧ TagAt wr w.heap.size 0 ⟨#[]⟩ 0 0)
  case first =>
   by_cases hlt : a1 < x.s.size
   · rcases Mu.kindAt_cases (L x.s) a1 hlt with ⟨hkind, hke⟩ | ⟨hkind, hke⟩
     · rw [L_get _ _ hlt] at hkind hke
       have hkq : k = x.s[a1] := by rw [HK.out, hke]
       have ha2q : a2 = a1 + 1 := by rw [HA2.out, if_neg (by rw [hkq]; intro h; rw [h] at hkind; exact absurd hkind (by decide))]
       subst hkq ha2q;have hcs := Mu.isKind_cases hkind;have HCS := hid hcs;clear hcs hkind hke HA2
       rcases HCS.out with kk | kk | kk | kk | kk | kk | kk | kk
       · have b35 : ((x.s[a1].toNat : Int) == 35) = true := byte_is (b := 35) kk
         clear kk HCS;go_wp2_with fail
         go_meet
         case rel => exact ⟨by go_num, ((Fr.alloc _ _ _).drewNA _).allocA _, tag_new _ _ _ _, tag_old _ _ _ _⟩
       · have b35 : ((x.s[a1].toNat : Int) == 35) = false := byte_isnt (b := 35) (by rw [kk]; decide)
         have b94 : ((x.s[a1].toNat : Int) == 94) = true := byte_is (b := 94) kk;clear kk HCS;go_wp2_with fail
         go_meet
         case rel => exact ⟨by go_num, ((Fr.alloc _ _ _).drewNA _).allocA _, tag_new _ _ _ _, tag_old _ _ _ _⟩
       · have b35 : ((x.s[a1].toNat : Int) == 35) = false := byte_isnt (b := 35) (by rw [kk]; decide)
         have b94 : ((x.s[a1].toNat : Int) == 94) = false := byte_isnt (b := 94) (by rw [kk]; decide);have b47 : ((x.s[a1].toNat : Int) == 47) = true := byte_is (b := 47) kk;clear kk HCS;go_wp2_with fail
         go_meet
         case rel => exact ⟨by go_num, ((Fr.alloc _ _ _).drewNA _).allocA _, tag_new _ _ _ _, tag_old _ _ _ _⟩
       · have b35 : ((x.s[a1].toNat : Int) == 35) = false := byte_isnt (b := 35) (by rw [kk]; decide)
         have b94 : ((x.s[a1].toNat : Int) == 94) = false := byte_isnt (b := 94) (by rw [kk]; decide);have b47 : ((x.s[a1].toNat : Int) == 47) = false := byte_isnt (b := 47) (by rw [kk]; decide);have b33 : ((x.s[a1].toNat : Int) == 33) = true := byte_is (b := 33) kk;clear kk HCS;go_wp2_with fail
         go_meet
         case rel => exact ⟨by go_num, ((Fr.alloc _ _ _).drewNA _).allocA _, tag_new _ _ _ _, tag_old _ _ _ _⟩
       · have b35 : ((x.s[a1].toNat : Int) == 35) = false := byte_isnt (b := 35) (by rw [kk]; decide)
         have b94 : ((x.s[a1].toNat : Int) == 94) = false := byte_isnt (b := 94) (by rw [kk]; decide);have b47 : ((x.s[a1].toNat : Int) == 47) = false := byte_isnt (b := 47) (by rw [kk]; decide);have b33 : ((x.s[a1].toNat : Int) == 33) = false := byte_isnt (b := 33) (by rw [kk]; decide);have b62 : ((x.s[a1].toNat : Int) == 62) = true := byte_is (b := 62) kk;clear kk HCS;go_wp2_with fail
         go_meet
         case rel => exact ⟨by go_num, ((Fr.alloc _ _ _).drewNA _).allocA _, tag_new _ _ _ _, tag_old _ _ _ _⟩
       · have b35 : ((x.s[a1].toNat : Int) == 35) = false := byte_isnt (b := 35) (by rw [kk]; decide)
         have b94 : ((x.s[a1].toNat : Int) == 94) = false := byte_isnt (b := 94) (by rw [kk]; decide);have b47 : ((x.s[a1].toNat : Int) == 47) = false := byte_isnt (b := 47) (by rw [kk]; decide);have b33 : ((x.s[a1].toNat : Int) == 33) = false := byte_isnt (b := 33) (by rw [kk]; decide);have b62 : ((x.s[a1].toNat : Int) == 62) = false := byte_isnt (b := 62) (by rw [kk]; decide)
         have b38 : ((x.s[a1].toNat : Int) == 38) = true := byte_is (b := 38) kk;clear kk HCS;go_wp2_with fail
         go_meet
         case rel => exact ⟨by go_num, ((Fr.alloc _ _ _).drewNA _).allocA _, tag_new _ _ _ _, tag_old _ _ _ _⟩
       · have b35 : ((x.s[a1].toNat : Int) == 35) = false := byte_isnt (b := 35) (by rw [kk]; decide)
         have b94 : ((x.s[a1].toNat : Int) == 94) = false := byte_isnt (b := 94) (by rw [kk]; decide);have b47 : ((x.s[a1].toNat : Int) == 47) = false := byte_isnt (b := 47) (by rw [kk]; decide);have b33 : ((x.s[a1].toNat : Int) == 33) = false := byte_isnt (b := 33) (by rw [kk]; decide);have b62 : ((x.s[a1].toNat : Int) == 62) = false := byte_isnt (b := 62) (by rw [kk]; decide)
         have b38 : ((x.s[a1].toNat : Int) == 38) = false := byte_isnt (b := 38) (by rw [kk]; decide);have b61 : ((x.s[a1].toNat : Int) == 61) = true := byte_is (b := 61) kk;clear kk HCS;go_wp2_with fail
         go_meet
         case rel => exact ⟨by go_num, ((Fr.alloc _ _ _).drewNA _).allocA _, tag_new _ _ _ _, tag_old _ _ _ _⟩
       · have b35 : ((x.s[a1].toNat : Int) == 35) = false := byte_isnt (b := 35) (by rw [kk]; decide)
         have b94 : ((x.s[a1].toNat : Int) == 94) = false := byte_isnt (b := 94) (by rw [kk]; decide);have b47 : ((x.s[a1].toNat : Int) == 47) = false := byte_isnt (b := 47) (by rw [kk]; decide);have b33 : ((x.s[a1].toNat : Int) == 33) = false := byte_isnt (b := 33) (by rw [kk]; decide);have b62 : ((x.s[a1].toNat : Int) == 62) = false := byte_isnt (b := 62) (by rw [kk]; decide)
         have b38 : ((x.s[a1].toNat : Int) == 38) = false := byte_isnt (b := 38) (by rw [kk]; decide);have b61 : ((x.s[a1].toNat : Int) == 61) = false := byte_isnt (b := 61) (by rw [kk]; decide);have b123 : ((x.s[a1].toNat : Int) == 123) = true := byte_is (b := 123) kk;clear kk HCS;go_wp2_with fail
         go_meet
         case rel => exact ⟨by go_num, ((Fr.alloc _ _ _).drewNA _).allocA _, tag_new _ _ _ _, tag_old _ _ _ _⟩
     · rw [L_get _ _ hlt] at hkind
       have hkq : k = 0 := by rw [HK.out, hke]
       have ha2q : a1 = a2 := by rw [HA2.out, if_pos hkq]
       subst hkq ha2q;have b35 : ((x.s[a1].toNat : Int) == 35) = false := byte_isnt (b := 35) (fun h => by rw [h] at hkind; exact absurd hkind (by decide));have b94 : ((x.s[a1].toNat : Int) == 94) = false := byte_isnt (b := 94) (fun h => by rw [h] at hkind; exact absurd hkind (by decide))
       have b47 : ((x.s[a1].toNat : Int) == 47) = false := byte_isnt (b := 47) (fun h => by rw [h] at hkind; exact absurd hkind (by decide));have b33 : ((x.s[a1].toNat : Int) == 33) = false := byte_isnt (b := 33) (fun h => by rw [h] at hkind; exact absurd hkind (by decide))
       have b62 : ((x.s[a1].toNat : Int) == 62) = false := byte_isnt (b := 62) (fun h => by rw [h] at hkind; exact absurd hkind (by decide));have b38 : ((x.s[a1].toNat : Int) == 38) = false := byte_isnt (b := 38) (fun h => by rw [h] at hkind; exact absurd hkind (by decide))
       have b61 : ((x.s[a1].toNat : Int) == 61) = false := byte_isnt (b := 61) (fun h => by rw [h] at hkind; exact absurd hkind (by decide));have b123 : ((x.s[a1].toNat : Int) == 123) = false := byte_isnt (b := 123) (fun h => by rw [h] at hkind; exact absurd hkind (by decide));clear hkind hke HA2;go_wp2_with fail
       go_meet
       case rel => exact ⟨rfl, ((Fr.alloc _ _ _).drewNA _).allocA _, tag_new _ _ _ _, tag_old _ _ _ _⟩
   · have hkq : k = 0 := by rw [HK.out]; unfold Mu.kindAt; rw [if_neg (fun h => hlt h.1)]
     have ha2q : a1 = a2 := by rw [HA2.out, if_pos hkq]
     subst hkq ha2q;clear HA2;go_wp2_with fail
     go_meet
     case rel => exact ⟨rfl, ((Fr.alloc _ _ _).drewNA _).allocA _, tag_new _ _ _ _, tag_old _ _ _ _⟩
  case rest =>
   obtain ⟨rfl, hfr, htag, hres⟩ := hcut;obtain ⟨r0, r1, r2, r3, rf⟩ := blk_cells4 hres;have rf0 := rf 0;have rf1 := rf 1;have rf2 := rf 2;have rf3 := rf 3;have HRES := hid hres;have hsz := hfr.size;have hx2 := HX.out.fr0 hfr;obtain ⟨g0, -, -, -, g4, g5⟩ := hx2.cells;have gf := hx2.free 5;obtain ⟨t0, t1, t2, t3, tf⟩ := blk_cells4 htag;have tf1 := tf 1;have tf3 := tf 3;have hw1 := blk_lt htag
   have HX2 := hid hx2;have HFR := hid hfr;have HTAG := hid htag;have ha2l : a2 ≤ a1 + 1 := by rw [HA2.out]; split <;> omega
   have ha2s : a2 ≤ x.s.size := by
    have h := HA2.out
    split at h
    · omega
    · rename_i hk0
      rw [HK.out] at hk0;unfold Mu.kindAt at hk0
      split at hk0
      · rename_i h2; have := h2.1; rw [L_length] at this; omega
      · exact absurd rfl hk0
   have HEND : Hid (∀ (eb : ByteArray), L eb = Mu.tagEnd k (L x.c) → Mu.snext (L x.s) x.p (L x.o) (L x.c) = match Mu.find (L x.s) (L eb) a2 with
    | none => .none true
    | some e => .some ⟨k, Mu.trimBy Mu.wsB (Mu.sub (L x.s) a2 e), f, e + eb.size⟩) := hid (fun eb heb => by
    unfold Mu.snext;rw [HFO.out]
    dsimp only
    rw [L_length, ← HA1.out, ← HK.out, ← HA2.out, ← heb, L_length]
    cases Mu.find (L x.s) (L eb) a2 <;> rfl)
   have hca : ∀ (c : UInt8) (y : ByteArray), L (⟨#[c]⟩ ++ y) = c :: L y := fun c y => L_append ⟨#[c]⟩ y
   have HCA := hid hca;clear hfr htag hx2 tf hca hres rf h0 h1 h3 h4 HX HF HFO HA1
   by_cases k123 : k = 123
   · have HEB : Hid (L (⟨#[125]⟩ ++ x.c) = Mu.tagEnd k (L x.c)) := hid (by rw [HCA.out, k123]; rfl)
     have c1 : ((k.toNat : Int) == 123) = true := byte_is (b := 123) k123;clear k123;have hsz1 : (⟨#[125]⟩ ++ x.c : ByteArray).size = x.c.size + 1 := by rw [← L_length, HCA.out, List.length_cons, L_length]
     have HSZ1 := hid hsz1;clear hsz1;have hes : (⟨#[125]⟩ ++ x.c).size ≤ 1001 := by rw [HSZ1.out]; omega
     have hes0 : 0 < (⟨#[125]⟩ ++ x.c).size := by rw [HSZ1.out]; omega
     cases hfe : Mu.find (L x.s) (L (⟨#[125]⟩ ++ x.c)) a2 with
     | none =>
      have HN : Hid (Mu.snext (L x.s) x.p (L x.o) (L x.c) = .none true) := hid (by rw [HEND.out (⟨#[125]⟩ ++ x.c) HEB.out, hfe]);have HV : Hid (idxV (Mu.find (L x.s) (L (⟨#[125]⟩ ++ x.c)) a2) = -1) := hid (by rw [hfe]; rfl);clear hfe;go_wp2_with fail;refine (find_any b a2 x _ _ hs HX2.out ha2s hes0 (by omega)).mono ?_;intro e w' hpost;unfold FindPost at hpost;rw [HV.out] at hpost
      obtain ⟨rfl, rfl⟩ := hpost;go_wp2_with fail;refine bodyPost_ret (v := .tuple #[.agg #[.int .u8 0, .string ⟨#[]⟩, .int .i64 0, .int .i64 0], .bool false]) (by simp [results, Tryz.results65, go_sem, r0, r1, r2, r3]) rfl ?_;unfold NextPost;rw [HN.out];exact ⟨rfl, next_none_close HFR.out HX2.out hbl _ _ _ _⟩
     | some e =>
      have hle := Mu.find_le hfe (by intro h; rw [← L_length, h] at hes0; exact absurd hes0 (by simp));have hge := (Mu.find_some hfe).1;rw [L_length, L_length] at hle;have HN : Hid (Mu.snext (L x.s) x.p (L x.o) (L x.c) = .some ⟨k, Mu.trimBy Mu.wsB (Mu.sub (L x.s) a2 e), f, e + (⟨#[125]⟩ ++ x.c).size⟩) := hid (by rw [HEND.out (⟨#[125]⟩ ++ x.c) HEB.out, hfe])
      have HV : Hid (idxV (Mu.find (L x.s) (L (⟨#[125]⟩ ++ x.c)) a2) = (e : Int)) := hid (by rw [hfe]; rfl);clear hfe;have z1 : decide ((e : Int) < 0) = false := by simp
      have z2 : (a2 : Int) ≤ (e : Int) := by omega
      have z3 : (e : Int) ≤ (x.s.size : Int) := by omega
      have hsl : (x.s.extract a2 e).size ≤ 4294967296 := by rw [ByteArray.size_extract]; omega
      go_wp2_with fail;refine (find_any b a2 x _ _ hs HX2.out ha2s hes0 (by omega)).mono ?_
      intro e' w' hpost;unfold FindPost at hpost;rw [HV.out] at hpost;obtain ⟨rfl, rfl⟩ := hpost;go_wp2_with fail;refine (trimmed_any (x.s.extract a2 e) _ hsl).mono ?_;rintro e' w' ⟨bd, rfl, hbd, rfl⟩;have HBD := hid hbd;clear hbd;go_wp2_with fail
      refine bodyPost_ret (v := .tuple #[.agg #[.int .u8 k.toNat, .string bd, .int .i64 f, .int .i64 ((e : Int) + (1 + (x.c.size : Int)))], .bool true]) (by simp [results, Tryz.results65, go_sem, r0, r1, r2, r3]) rfl ?_;unfold NextPost;rw [HN.out]
      exact ⟨bd, next_ret (by show _ = ((e + (⟨#[125]⟩ ++ x.c).size : Nat) : Int); rw [HSZ1.out]; omega), by rw [HBD.out, L_extract], next_some_close HFR.out _ _ _ _ _ _⟩
   · by_cases k61 : k = 61
     · have HEB : Hid (L (⟨#[61]⟩ ++ x.c) = Mu.tagEnd k (L x.c)) := hid (by rw [HCA.out, k61]; rfl)
       have c1 : ((k.toNat : Int) == 123) = false := byte_isnt (b := 123) k123;have c2 : ((k.toNat : Int) == 61) = true := byte_is (b := 61) k61;clear k61 k123;have hsz1 : (⟨#[61]⟩ ++ x.c : ByteArray).size = x.c.size + 1 := by rw [← L_length, HCA.out, List.length_cons, L_length]
       have HSZ1 := hid hsz1;clear hsz1;have hes : (⟨#[61]⟩ ++ x.c).size ≤ 1001 := by rw [HSZ1.out]; omega
       have hes0 : 0 < (⟨#[61]⟩ ++ x.c).size := by rw [HSZ1.out]; omega
       cases hfe : Mu.find (L x.s) (L (⟨#[61]⟩ ++ x.c)) a2 with
       | none =>
        have HN : Hid (Mu.snext (L x.s) x.p (L x.o) (L x.c) = .none true) := hid (by rw [HEND.out (⟨#[61]⟩ ++ x.c) HEB.out, hfe]);have HV : Hid (idxV (Mu.find (L x.s) (L (⟨#[61]⟩ ++ x.c)) a2) = -1) := hid (by rw [hfe]; rfl);clear hfe;go_wp2_with fail;refine (find_any b a2 x _ _ hs HX2.out ha2s hes0 (by omega)).mono ?_;intro e w' hpost;unfold FindPost at hpost;rw [HV.out] at hpost
        obtain ⟨rfl, rfl⟩ := hpost;go_wp2_with fail;refine bodyPost_ret (v := .tuple #[.agg #[.int .u8 0, .string ⟨#[]⟩, .int .i64 0, .int .i64 0], .bool false]) (by simp [results, Tryz.results65, go_sem, r0, r1, r2, r3]) rfl ?_;unfold NextPost;rw [HN.out];exact ⟨rfl, next_none_close HFR.out HX2.out hbl _ _ _ _⟩
       | some e =>
        have hle := Mu.find_le hfe (by intro h; rw [← L_length, h] at hes0; exact absurd hes0 (by simp));have hge := (Mu.find_some hfe).1;rw [L_length, L_length] at hle;have HN : Hid (Mu.snext (L x.s) x.p (L x.o) (L x.c) = .some ⟨k, Mu.trimBy Mu.wsB (Mu.sub (L x.s) a2 e), f, e + (⟨#[61]⟩ ++ x.c).size⟩) := hid (by rw [HEND.out (⟨#[61]⟩ ++ x.c) HEB.out, hfe])
        have HV : Hid (idxV (Mu.find (L x.s) (L (⟨#[61]⟩ ++ x.c)) a2) = (e : Int)) := hid (by rw [hfe]; rfl);clear hfe;have z1 : decide ((e : Int) < 0) = false := by simp
        have z2 : (a2 : Int) ≤ (e : Int) := by omega
        have z3 : (e : Int) ≤ (x.s.size : Int) := by omega
        have hsl : (x.s.extract a2 e).size ≤ 4294967296 := by rw [ByteArray.size_extract]; omega
        go_wp2_with fail;refine (find_any b a2 x _ _ hs HX2.out ha2s hes0 (by omega)).mono ?_
        intro e' w' hpost;unfold FindPost at hpost;rw [HV.out] at hpost;obtain ⟨rfl, rfl⟩ := hpost;go_wp2_with fail;refine (trimmed_any (x.s.extract a2 e) _ hsl).mono ?_;rintro e' w' ⟨bd, rfl, hbd, rfl⟩;have HBD := hid hbd;clear hbd;go_wp2_with fail
        refine bodyPost_ret (v := .tuple #[.agg #[.int .u8 k.toNat, .string bd, .int .i64 f, .int .i64 ((e : Int) + (1 + (x.c.size : Int)))], .bool true]) (by simp [results, Tryz.results65, go_sem, r0, r1, r2, r3]) rfl ?_;unfold NextPost;rw [HN.out]
        exact ⟨bd, next_ret (by show _ = ((e + (⟨#[61]⟩ ++ x.c).size : Nat) : Int); rw [HSZ1.out]; omega), by rw [HBD.out, L_extract], next_some_close HFR.out _ _ _ _ _ _⟩
     · have HEB : Hid (L x.c = Mu.tagEnd k (L x.c)) := hid (by unfold Mu.tagEnd; rw [if_neg k123, if_neg k61])
       have c1 : ((k.toNat : Int) == 123) = false := byte_isnt (b := 123) k123;have c2 : ((k.toNat : Int) == 61) = false := byte_isnt (b := 61) k61;clear k123 k61;have hes : (x.c).size ≤ 1001 := by rw [show x.c.size = x.c.size from rfl]; omega
       have hes0 : 0 < (x.c).size := by rw [show x.c.size = x.c.size from rfl]; omega
       cases hfe : Mu.find (L x.s) (L (x.c)) a2 with
       | none =>
        have HN : Hid (Mu.snext (L x.s) x.p (L x.o) (L x.c) = .none true) := hid (by rw [HEND.out (x.c) HEB.out, hfe]);have HV : Hid (idxV (Mu.find (L x.s) (L (x.c)) a2) = -1) := hid (by rw [hfe]; rfl);clear hfe;go_wp2_with fail;refine (find_any b a2 x _ _ hs HX2.out ha2s hes0 (by omega)).mono ?_;intro e w' hpost;unfold FindPost at hpost;rw [HV.out] at hpost;obtain ⟨rfl, rfl⟩ := hpost
        go_wp2_with fail;refine bodyPost_ret (v := .tuple #[.agg #[.int .u8 0, .string ⟨#[]⟩, .int .i64 0, .int .i64 0], .bool false]) (by simp [results, Tryz.results65, go_sem, r0, r1, r2, r3]) rfl ?_
        unfold NextPost;rw [HN.out];exact ⟨rfl, next_none_close HFR.out HX2.out hbl _ _ _ _⟩
       | some e =>
        have hle := Mu.find_le hfe (by intro h; rw [← L_length, h] at hes0; exact absurd hes0 (by simp));have hge := (Mu.find_some hfe).1;rw [L_length, L_length] at hle;have HN : Hid (Mu.snext (L x.s) x.p (L x.o) (L x.c) = .some ⟨k, Mu.trimBy Mu.wsB (Mu.sub (L x.s) a2 e), f, e + (x.c).size⟩) := hid (by rw [HEND.out (x.c) HEB.out, hfe])
        have HV : Hid (idxV (Mu.find (L x.s) (L (x.c)) a2) = (e : Int)) := hid (by rw [hfe]; rfl);clear hfe;have z1 : decide ((e : Int) < 0) = false := by simp
        have z2 : (a2 : Int) ≤ (e : Int) := by omega
        have z3 : (e : Int) ≤ (x.s.size : Int) := by omega
        have hsl : (x.s.extract a2 e).size ≤ 4294967296 := by rw [ByteArray.size_extract]; omega
        go_wp2_with fail;refine (find_any b a2 x _ _ hs HX2.out ha2s hes0 (by omega)).mono ?_
        intro e' w' hpost;unfold FindPost at hpost;rw [HV.out] at hpost;obtain ⟨rfl, rfl⟩ := hpost;go_wp2_with fail;refine (trimmed_any (x.s.extract a2 e) _ hsl).mono ?_;rintro e' w' ⟨bd, rfl, hbd, rfl⟩;have HBD := hid hbd;clear hbd;go_wp2_with fail
        refine bodyPost_ret (v := .tuple #[.agg #[.int .u8 k.toNat, .string bd, .int .i64 f, .int .i64 ((e : Int) + (x.c.size : Int))], .bool true]) (by simp [results, Tryz.results65, go_sem, r0, r1, r2, r3]) rfl ?_;unfold NextPost;rw [HN.out]
        exact ⟨bd, next_ret (by show _ = ((e + (x.c).size : Nat) : Int); rw [show x.c.size = x.c.size from rfl]; omega), by rw [HBD.out, L_extract], next_some_close HFR.out _ _ _ _ _ _⟩
end Go.Proofs.YtfakghnpkdoclaaGreatDoor
namespace Go.Proofs.YtfakghnpkdoclaaGreatDoor
open Go.RowKit
open Go.Lib (hid)
def iv (k : Nat) : Value := match k with | 0 => .int .i64 0 | 1 => .int .i64 1 | 2 => .int .i64 2 | 3 => .int .i64 3 | _ => .int .i64 4
def fits (body o : Mu.B) (l : Mu.B × Mu.B) : Bool := (body == l.1 ++ [32] ++ l.2) && !(l.1 == o)
def DelimPost (x : Pa) (b : Nat) (body : ByteArray) (w : World) (e : Ending) (w' : World) : Prop :=
 e = .returned (.tuple #[]) ∧ Fr (· = b) w w' ∧ match Mu.delim (L body) (L x.o) with
  | some (o, c) => ∃ ob cb : ByteArray, L ob = o ∧ L cb = c ∧ PaAt w' b { x with o := ob, c := cb }
  | none => PaAt w' b { x with bad := true }
theorem str_is {a b : ByteArray} (h : L a = L b) : (a.toList == b.toList) = true := by rw [beq_iff_eq, ByteArray.toList_eq, ByteArray.toList_eq]; exact h
theorem str_isnt {a b : ByteArray} (h : ¬ L a = L b) : (a.toList == b.toList) = false := by rw [beq_eq_false_iff_ne, ByteArray.toList_eq, ByteArray.toList_eq]; exact h
theorem lit_is {l : List UInt8} {b : ByteArray} (h : l = L b) : (l == b.toList) = true := by rw [beq_iff_eq, ByteArray.toList_eq]; exact h
theorem lit_isnt {l : List UInt8} {b : ByteArray} (h : ¬ l = L b) : (l == b.toList) = false := by rw [beq_eq_false_iff_ne, ByteArray.toList_eq]; exact h
theorem delimited_any (b : Nat) (x : Pa) (body : ByteArray) (w : World) (hx : PaAt w b x) (hs : body.size ≤ 4294967296) (ho : x.o.size ≤ 1000) :
 Calls Tryz.prog 67 #[.pointer (some ⟨b, 0, none⟩), .string body] w (DelimPost x b body w) := by
 have hbl : b < w.heap.size := blk_lt hx
 have HX := hid hx
 clear hx
 go_enter Tryz.func67, Tryz.ntmps67
 go_wp2_with fail
 go_loopg [12] 4 (fun g v wr => ∃ k, k ≤ 4 ∧ v = iv k ∧ g = 4 - k ∧ Hid (Fr No w wr ∧ wr.heap[w.heap.size]? = some (.cells #[.string ⟨#[60, 37]⟩, .string ⟨#[37, 62]⟩, .string ⟨#[91, 91]⟩, .string ⟨#[93, 93]⟩, .string ⟨#[124]⟩, .string ⟨#[124]⟩, .string ⟨#[123, 123]⟩, .string ⟨#[125, 125]⟩] 147 (0, 0)) ∧ (Mu.pairs.drop k).find? (fits (L body) (L x.o)) = Mu.delim (L body) (L x.o)))
 case atStart => exact ⟨0, by omega, rfl, rfl, hid ⟨Fr.alloc _ _ _, blk_new _ _, rfl⟩⟩
 case round =>
  obtain ⟨k, hk, rfl, rfl, HI⟩ := hrel;have hfr := HI.out.1;have hsz := hfr.size;have hbr : b < wr.heap.size := by omega
  have hne : b ≠ wr.heap.size := by omega
  have hblk := HI.out.2.1;have hx2 := HX.out.fr0 hfr;obtain ⟨-, -, -, g3, g4, g5⟩ := hx2.cells;have gf3 := hx2.free 3;have gf4 := hx2.free 4;have gf5 := hx2.free 5;have HX2 := hid hx2;have HFR := hid hfr;have HB := hid hblk;clear hfr hblk hx2
  rcases k with _ | _ | _ | _ | k
  · have hv : iv 0 = .int .i64 0 := rfl
    rw [show iv (0) = .int .i64 0 from rfl];clear hv;have d0 := blk_cell HB.out 0;have d1 := blk_cell HB.out 1;simp only [List.getElem?_toArray, List.getElem?_cons_zero, List.getElem?_cons_succ] at d0 d1
    have HT : Hid (Mu.delim (L body) (L x.o) = if fits (L body) (L x.o) ([60, 37], [37, 62]) = true then some ([60, 37], [37, 62]) else (Mu.pairs.drop 1).find? (fits (L body) (L x.o))) := hid (by
     rw [← HI.out.2.2];show List.find? (fits (L body) (L x.o)) (([60, 37], [37, 62]) :: Mu.pairs.drop 1) = _;rw [List.find?_cons]
     cases fits (L body) (L x.o) ([60, 37], [37, 62]) <;> rfl)
    by_cases hb : L body = [60, 37, 32, 37, 62]
    · have q1 : (body.toList == (⟨#[60, 37]⟩ ++ ⟨#[32]⟩ ++ ⟨#[37, 62]⟩ : ByteArray).toList) = true := str_is (by rw [hb]; rfl)
      by_cases hoo : [60, 37] = L x.o
      · have q2 : (([60, 37] : List UInt8) == x.o.toList) = true := lit_is hoo
        have q3 : (([60, 37] : List UInt8) != x.o.toList) = false := by rw [bne, q2]; rfl
        have HD : Hid ((Mu.pairs.drop 1).find? (fits (L body) (L x.o)) = Mu.delim (L body) (L x.o)) := hid (by
         rw [HT.out, if_neg (by unfold fits; rw [show (([60, 37], [37, 62]) : Mu.B × Mu.B).1 = [60, 37] from rfl, hoo]; simp)])
        clear hb hoo HT;go_wp2_with fail
        go_quiet (fail)
        go_wp2_with fail
        go_roundg 3
        case rel => exact ⟨1, by omega, rfl, rfl, hid ⟨(HFR.out.allocA _).drewNA _, blk_alloc _ HB.out, HD.out⟩⟩
        case measure => omega
      · have q2 : (([60, 37] : List UInt8) == x.o.toList) = false := lit_isnt hoo
        have q3 : (([60, 37] : List UInt8) != x.o.toList) = true := by rw [bne, q2]; rfl
        have HD : Hid (Mu.delim (L body) (L x.o) = some ([60, 37], [37, 62])) := hid (by
         rw [HT.out, if_pos (by unfold fits; rw [hb]; simp; exact hoo)])
        clear hb hoo HT;go_wp2_with fail
        go_quiet (fail)
        go_wp2_with fail
        go_region
        go_wp2_with fail
        first | go_end0 | refine bodyPost_ret (v := .tuple #[]) rfl rfl ?_
        unfold DelimPost;rw [HD.out];exact ⟨rfl, ((((Fr.of0 (M := (· = b)) HFR.out).allocA _).drewNA _).setA _ _ (.inl rfl)).setA _ _ (.inl rfl), ⟨#[60, 37]⟩, ⟨#[37, 62]⟩, rfl, rfl, ((HX2.out.fr0 (Fr.alloc _ _ _)).sm ⟨_, rfl⟩).set3 _ |>.set4 _⟩
    · have q1 : (body.toList == (⟨#[60, 37]⟩ ++ ⟨#[32]⟩ ++ ⟨#[37, 62]⟩ : ByteArray).toList) = false := str_isnt (fun h => hb (h.trans rfl))
      have HD : Hid ((Mu.pairs.drop 1).find? (fits (L body) (L x.o)) = Mu.delim (L body) (L x.o)) := hid (by
       rw [HT.out, if_neg (by unfold fits; simp; intro h; exact absurd h hb)])
      clear hb HT;go_wp2_with fail
      go_quiet (fail)
      go_wp2_with fail
      go_roundg 3
      case rel => exact ⟨1, by omega, rfl, rfl, hid ⟨(HFR.out.allocA _).drewNA _, blk_alloc _ HB.out, HD.out⟩⟩
      case measure => omega
  · have hv : iv 1 = .int .i64 1 := rfl
    rw [show iv (0 + 1) = .int .i64 1 from rfl];clear hv;have d0 := blk_cell HB.out 2;have d1 := blk_cell HB.out 3;simp only [List.getElem?_toArray, List.getElem?_cons_zero, List.getElem?_cons_succ] at d0 d1
    have HT : Hid (Mu.delim (L body) (L x.o) = if fits (L body) (L x.o) ([91, 91], [93, 93]) = true then some ([91, 91], [93, 93]) else (Mu.pairs.drop 2).find? (fits (L body) (L x.o))) := hid (by
     rw [← HI.out.2.2];show List.find? (fits (L body) (L x.o)) (([91, 91], [93, 93]) :: Mu.pairs.drop 2) = _;rw [List.find?_cons]
     cases fits (L body) (L x.o) ([91, 91], [93, 93]) <;> rfl)
    by_cases hb : L body = [91, 91, 32, 93, 93]
    · have q1 : (body.toList == (⟨#[91, 91]⟩ ++ ⟨#[32]⟩ ++ ⟨#[93, 93]⟩ : ByteArray).toList) = true := str_is (by rw [hb]; rfl)
      by_cases hoo : [91, 91] = L x.o
      · have q2 : (([91, 91] : List UInt8) == x.o.toList) = true := lit_is hoo
        have q3 : (([91, 91] : List UInt8) != x.o.toList) = false := by rw [bne, q2]; rfl
        have HD : Hid ((Mu.pairs.drop 2).find? (fits (L body) (L x.o)) = Mu.delim (L body) (L x.o)) := hid (by
         rw [HT.out, if_neg (by unfold fits; rw [show (([91, 91], [93, 93]) : Mu.B × Mu.B).1 = [91, 91] from rfl, hoo]; simp)])
        clear hb hoo HT;go_wp2_with fail
        go_quiet (fail)
        go_wp2_with fail
        go_roundg 2
        case rel => exact ⟨2, by omega, rfl, rfl, hid ⟨(HFR.out.allocA _).drewNA _, blk_alloc _ HB.out, HD.out⟩⟩
        case measure => omega
      · have q2 : (([91, 91] : List UInt8) == x.o.toList) = false := lit_isnt hoo
        have q3 : (([91, 91] : List UInt8) != x.o.toList) = true := by rw [bne, q2]; rfl
        have HD : Hid (Mu.delim (L body) (L x.o) = some ([91, 91], [93, 93])) := hid (by
         rw [HT.out, if_pos (by unfold fits; rw [hb]; simp; exact hoo)])
        clear hb hoo HT;go_wp2_with fail
        go_quiet (fail)
        go_wp2_with fail
        go_region
        go_wp2_with fail
        first | go_end0 | refine bodyPost_ret (v := .tuple #[]) rfl rfl ?_
        unfold DelimPost;rw [HD.out];exact ⟨rfl, ((((Fr.of0 (M := (· = b)) HFR.out).allocA _).drewNA _).setA _ _ (.inl rfl)).setA _ _ (.inl rfl), ⟨#[91, 91]⟩, ⟨#[93, 93]⟩, rfl, rfl, ((HX2.out.fr0 (Fr.alloc _ _ _)).sm ⟨_, rfl⟩).set3 _ |>.set4 _⟩
    · have q1 : (body.toList == (⟨#[91, 91]⟩ ++ ⟨#[32]⟩ ++ ⟨#[93, 93]⟩ : ByteArray).toList) = false := str_isnt (fun h => hb (h.trans rfl))
      have HD : Hid ((Mu.pairs.drop 2).find? (fits (L body) (L x.o)) = Mu.delim (L body) (L x.o)) := hid (by
       rw [HT.out, if_neg (by unfold fits; simp; intro h; exact absurd h hb)])
      clear hb HT;go_wp2_with fail
      go_quiet (fail)
      go_wp2_with fail
      go_roundg 2
      case rel => exact ⟨2, by omega, rfl, rfl, hid ⟨(HFR.out.allocA _).drewNA _, blk_alloc _ HB.out, HD.out⟩⟩
      case measure => omega
  · have hv : iv 2 = .int .i64 2 := rfl
    rw [show iv (0 + 1 + 1) = .int .i64 2 from rfl];clear hv;have d0 := blk_cell HB.out 4;have d1 := blk_cell HB.out 5;simp only [List.getElem?_toArray, List.getElem?_cons_zero, List.getElem?_cons_succ] at d0 d1
    have HT : Hid (Mu.delim (L body) (L x.o) = if fits (L body) (L x.o) ([124], [124]) = true then some ([124], [124]) else (Mu.pairs.drop 3).find? (fits (L body) (L x.o))) := hid (by
     rw [← HI.out.2.2];show List.find? (fits (L body) (L x.o)) (([124], [124]) :: Mu.pairs.drop 3) = _;rw [List.find?_cons]
     cases fits (L body) (L x.o) ([124], [124]) <;> rfl)
    by_cases hb : L body = [124, 32, 124]
    · have q1 : (body.toList == (⟨#[124]⟩ ++ ⟨#[32]⟩ ++ ⟨#[124]⟩ : ByteArray).toList) = true := str_is (by rw [hb]; rfl)
      by_cases hoo : [124] = L x.o
      · have q2 : (([124] : List UInt8) == x.o.toList) = true := lit_is hoo
        have q3 : (([124] : List UInt8) != x.o.toList) = false := by rw [bne, q2]; rfl
        have HD : Hid ((Mu.pairs.drop 3).find? (fits (L body) (L x.o)) = Mu.delim (L body) (L x.o)) := hid (by
         rw [HT.out, if_neg (by unfold fits; rw [show (([124], [124]) : Mu.B × Mu.B).1 = [124] from rfl, hoo]; simp)])
        clear hb hoo HT;go_wp2_with fail
        go_quiet (fail)
        go_wp2_with fail
        go_roundg 1
        case rel => exact ⟨3, by omega, rfl, rfl, hid ⟨(HFR.out.allocA _).drewNA _, blk_alloc _ HB.out, HD.out⟩⟩
        case measure => omega
      · have q2 : (([124] : List UInt8) == x.o.toList) = false := lit_isnt hoo
        have q3 : (([124] : List UInt8) != x.o.toList) = true := by rw [bne, q2]; rfl
        have HD : Hid (Mu.delim (L body) (L x.o) = some ([124], [124])) := hid (by
         rw [HT.out, if_pos (by unfold fits; rw [hb]; simp; exact hoo)])
        clear hb hoo HT;go_wp2_with fail
        go_quiet (fail)
        go_wp2_with fail
        go_region
        go_wp2_with fail
        first | go_end0 | refine bodyPost_ret (v := .tuple #[]) rfl rfl ?_
        unfold DelimPost;rw [HD.out];exact ⟨rfl, ((((Fr.of0 (M := (· = b)) HFR.out).allocA _).drewNA _).setA _ _ (.inl rfl)).setA _ _ (.inl rfl), ⟨#[124]⟩, ⟨#[124]⟩, rfl, rfl, ((HX2.out.fr0 (Fr.alloc _ _ _)).sm ⟨_, rfl⟩).set3 _ |>.set4 _⟩
    · have q1 : (body.toList == (⟨#[124]⟩ ++ ⟨#[32]⟩ ++ ⟨#[124]⟩ : ByteArray).toList) = false := str_isnt (fun h => hb (h.trans rfl))
      have HD : Hid ((Mu.pairs.drop 3).find? (fits (L body) (L x.o)) = Mu.delim (L body) (L x.o)) := hid (by
       rw [HT.out, if_neg (by unfold fits; simp; intro h; exact absurd h hb)])
      clear hb HT;go_wp2_with fail
      go_quiet (fail)
      go_wp2_with fail
      go_roundg 1
      case rel => exact ⟨3, by omega, rfl, rfl, hid ⟨(HFR.out.allocA _).drewNA _, blk_alloc _ HB.out, HD.out⟩⟩
      case measure => omega
  · have hv : iv 3 = .int .i64 3 := rfl
    rw [show iv (0 + 1 + 1 + 1) = .int .i64 3 from rfl];clear hv;have d0 := blk_cell HB.out 6;have d1 := blk_cell HB.out 7;simp only [List.getElem?_toArray, List.getElem?_cons_zero, List.getElem?_cons_succ] at d0 d1
    have HT : Hid (Mu.delim (L body) (L x.o) = if fits (L body) (L x.o) ([123, 123], [125, 125]) = true then some ([123, 123], [125, 125]) else (Mu.pairs.drop 4).find? (fits (L body) (L x.o))) := hid (by
     rw [← HI.out.2.2];show List.find? (fits (L body) (L x.o)) (([123, 123], [125, 125]) :: Mu.pairs.drop 4) = _;rw [List.find?_cons]
     cases fits (L body) (L x.o) ([123, 123], [125, 125]) <;> rfl)
    by_cases hb : L body = [123, 123, 32, 125, 125]
    · have q1 : (body.toList == (⟨#[123, 123]⟩ ++ ⟨#[32]⟩ ++ ⟨#[125, 125]⟩ : ByteArray).toList) = true := str_is (by rw [hb]; rfl)
      by_cases hoo : [123, 123] = L x.o
      · have q2 : (([123, 123] : List UInt8) == x.o.toList) = true := lit_is hoo
        have q3 : (([123, 123] : List UInt8) != x.o.toList) = false := by rw [bne, q2]; rfl
        have HD : Hid ((Mu.pairs.drop 4).find? (fits (L body) (L x.o)) = Mu.delim (L body) (L x.o)) := hid (by
         rw [HT.out, if_neg (by unfold fits; rw [show (([123, 123], [125, 125]) : Mu.B × Mu.B).1 = [123, 123] from rfl, hoo]; simp)])
        clear hb hoo HT;go_wp2_with fail
        go_quiet (fail)
        go_wp2_with fail
        go_roundg 0
        case rel => exact ⟨4, by omega, rfl, rfl, hid ⟨(HFR.out.allocA _).drewNA _, blk_alloc _ HB.out, HD.out⟩⟩
        case measure => omega
      · have q2 : (([123, 123] : List UInt8) == x.o.toList) = false := lit_isnt hoo
        have q3 : (([123, 123] : List UInt8) != x.o.toList) = true := by rw [bne, q2]; rfl
        have HD : Hid (Mu.delim (L body) (L x.o) = some ([123, 123], [125, 125])) := hid (by
         rw [HT.out, if_pos (by unfold fits; rw [hb]; simp; exact hoo)])
        clear hb hoo HT;go_wp2_with fail
        go_quiet (fail)
        go_wp2_with fail
        go_region
        go_wp2_with fail
        first | go_end0 | refine bodyPost_ret (v := .tuple #[]) rfl rfl ?_
        unfold DelimPost;rw [HD.out];exact ⟨rfl, ((((Fr.of0 (M := (· = b)) HFR.out).allocA _).drewNA _).setA _ _ (.inl rfl)).setA _ _ (.inl rfl), ⟨#[123, 123]⟩, ⟨#[125, 125]⟩, rfl, rfl, ((HX2.out.fr0 (Fr.alloc _ _ _)).sm ⟨_, rfl⟩).set3 _ |>.set4 _⟩
    · have q1 : (body.toList == (⟨#[123, 123]⟩ ++ ⟨#[32]⟩ ++ ⟨#[125, 125]⟩ : ByteArray).toList) = false := str_isnt (fun h => hb (h.trans rfl))
      have HD : Hid ((Mu.pairs.drop 4).find? (fits (L body) (L x.o)) = Mu.delim (L body) (L x.o)) := hid (by
       rw [HT.out, if_neg (by unfold fits; simp; intro h; exact absurd h hb)])
      clear hb HT;go_wp2_with fail
      go_quiet (fail)
      go_wp2_with fail
      go_roundg 0
      case rel => exact ⟨4, by omega, rfl, rfl, hid ⟨(HFR.out.allocA _).drewNA _, blk_alloc _ HB.out, HD.out⟩⟩
      case measure => omega
  · obtain rfl : k = 0 := by omega
    rw [show iv (0 + 1 + 1 + 1 + 1) = .int .i64 4 from rfl];have HD : Hid (Mu.delim (L body) (L x.o) = none) := hid (by rw [← HI.out.2.2]; rfl);go_wp2_with fail
    first | go_end0 | refine bodyPost_ret (v := .tuple #[]) rfl rfl ?_
    unfold DelimPost;rw [HD.out];exact ⟨rfl, (Fr.of0 (M := (· = b)) HFR.out).setA _ _ (.inl rfl), HX2.out.set5 _⟩
end Go.Proofs.YtfakghnpkdoclaaGreatDoor
namespace Go.Proofs.YtfakghnpkdoclaaGreatDoor
open Go.RowKit
def RowN (w : World) (S : Nat → Prop) (size : Nat) (v : Value) (n : Nat) (xs : List Value) : Prop :=
 xs.length = n * size ∧ ∃ a c, v = .slice a n c ∧ n ≤ c ∧ (0 < n → ∃ g, a = some ⟨g, 0, none⟩ ∧ S g ∧ ∀ j (hj : j < xs.length), w.cell? ⟨g, j, none⟩ = some xs[j])
mutual
def NAt (w : World) (S : Nat → Prop) : Mu.Node → List Value → Prop
 | .mk k t raw ind kids, cs => ∃ (tb ib : ByteArray) (sv : Value) (vs : List Value), cs = [.int .i64 k, .string tb, .bool raw, .string ib, sv] ∧ L tb = t ∧ L ib = ind ∧ RowN w S 5 sv kids.length vs ∧ NsAt w S kids vs
def NsAt (w : World) (S : Nat → Prop) : List Mu.Node → List Value → Prop
 | [], vs => vs = []
 | n :: ns, vs => ∃ c vs', vs = c ++ vs' ∧ NAt w S n c ∧ NsAt w S ns vs'
end
theorem RowN.keep {w w' : World} {S S' : Nat → Prop} {size n : Nat} {v : Value} {xs : List Value} (h : RowN w S size v n xs) (hk : Keep S w w') (hS : ∀ k, S k → S' k) : RowN w' S' size v n xs := by
 obtain ⟨h0, a, c, h1, h2, h3⟩ := h
 refine ⟨h0, a, c, h1, h2, fun hp => ?_⟩
 obtain ⟨g, h4, h5, h6⟩ := h3 hp
 exact ⟨g, h4, hS _ h5, fun j hj => (World.cell?_of_block (w := w) (a := ⟨g, j, none⟩) (hk _ h5)).trans (h6 j hj)⟩
mutual
theorem NAt.keep {w w' : World} {S S' : Nat → Prop} (hk : Keep S w w') (hS : ∀ k, S k → S' k) : ∀ (n : Mu.Node) (cs : List Value), NAt w S n cs → NAt w' S' n cs
 | .mk k t raw ind kids, cs, h => by
  unfold NAt at h ⊢;obtain ⟨tb, ib, sv, vs, h1, h2, h3, h4, h5⟩ := h;exact ⟨tb, ib, sv, vs, h1, h2, h3, h4.keep hk hS, NsAt.keep hk hS kids vs h5⟩
theorem NsAt.keep {w w' : World} {S S' : Nat → Prop} (hk : Keep S w w') (hS : ∀ k, S k → S' k) : ∀ (ns : List Mu.Node) (vs : List Value), NsAt w S ns vs → NsAt w' S' ns vs
 | [], vs, h => by unfold NsAt at h ⊢; exact h
 | n :: ns, vs, h => by
  unfold NsAt at h ⊢;obtain ⟨c, vs', h1, h2, h3⟩ := h;exact ⟨c, vs', h1, NAt.keep hk hS n c h2, NsAt.keep hk hS ns vs' h3⟩
end
theorem NsAt.append {w : World} {S : Nat → Prop} : ∀ {ns ms : List Mu.Node} {vs us : List Value}, NsAt w S ns vs → NsAt w S ms us → NsAt w S (ns ++ ms) (vs ++ us)
 | [], ms, vs, us, h, k => by
  unfold NsAt at h;subst h;exact k
 | n :: ns, ms, vs, us, h, k => by
  unfold NsAt at h;obtain ⟨c, vs', rfl, h2, h3⟩ := h;show NsAt w S (n :: (ns ++ ms)) (c ++ vs' ++ us);unfold NsAt;exact ⟨c, _, by rw [List.append_assoc], h2, NsAt.append h3 k⟩
theorem NsAt.one {w : World} {S : Nat → Prop} {n : Mu.Node} {c : List Value} (h : NAt w S n c) : NsAt w S [n] c := by
 unfold NsAt
 exact ⟨c, [], by rw [List.append_nil], h, by unfold NsAt; rfl⟩
theorem RowN.none_ (w : World) (S : Nat → Prop) (size : Nat) : RowN w S size (.slice none 0 0) 0 [] := ⟨by simp, none, 0, rfl, Nat.le_refl _, fun h => absurd h (by omega)⟩
theorem nat_leaf (w : World) (S : Nat → Prop) (k : Nat) (t : ByteArray) (raw : Bool) (ind : ByteArray) : NAt w S (.mk k (L t) raw (L ind) []) [.int .i64 k, .string t, .bool raw, .string ind, .slice none 0 0] := by
 unfold NAt
 exact ⟨t, ind, _, [], rfl, rfl, rfl, RowN.none_ _ _ _, by unfold NsAt; rfl⟩
theorem row_of_own {w : World} {B e size n : Nat} {v : Value} {xs : List Value} (h : w.ownsRow B e size v n xs) : RowN w (fun k => v.ownBlock = some k) size v n xs := by
 refine ⟨h.1, ?_⟩
 rcases h.2 with ⟨h1, h2⟩ | ⟨g, cap, cur, h1, _, _, h4, _⟩
 · subst h1 h2
   exact ⟨none, 0, rfl, Nat.le_refl _, fun hp => by omega⟩
 · refine ⟨some ⟨g, 0, none⟩, cap, h1, h4, fun _ => ⟨g, rfl, by rw [h1]; rfl, fun j hj => ?_⟩⟩
   have := h.cells (g := g) (by rw [h1]; rfl) j _ (List.getElem?_eq_getElem hj);have ha : (⟨g, 0, none⟩ : Addr).add j = ⟨g, j, none⟩ := by unfold Addr.add; split <;> simp_all
   rwa [ha] at this
structure GotN (w : World) (lo : Nat) (own : Nat → Prop) (v : Value) (ns : List Mu.Node) : Prop where
 out : ∃ (S : Nat → Prop) (vs : List Value), w.ownsRow 0 38 5 v ns.length vs ∧ NsAt w S ns vs ∧ (∀ k, S k → (lo ≤ k ∧ k < w.heap.size) ∧ v.ownBlock ≠ some k ∧ ¬ own k) ∧ (∀ k, v.ownBlock = some k → lo ≤ k ∧ ¬ own k)
theorem GotN.fr {w w' : World} {lo : Nat} {M own : Nat → Prop} {v : Value} {ns : List Mu.Node} (h : GotN w lo own v ns) (hf : Fr M w w') (hM : ∀ k, lo ≤ k → k < w.heap.size → M k → own k) : GotN w' lo own v ns := by
 obtain ⟨S, vs, h1, h2, h3, h4⟩ := h.out
 have hk : Keep S w w' := Keep.fr hf (fun k hk => ⟨(h3 k hk).1.2, fun hm => (h3 k hk).2.2 (hM k (h3 k hk).1.1 (h3 k hk).1.2 hm)⟩)
 refine ⟨S, vs, ownsRow_of_block h1 (fun k hb => hf.block k (ownsRow_blk h1 hb) (fun hm => (h4 k hb).2 (hM k (h4 k hb).1 (ownsRow_blk h1 hb) hm))), NsAt.keep hk (fun _ h => h) _ _ h2, fun k hk => ⟨⟨(h3 k hk).1.1, ?_⟩, (h3 k hk).2⟩, h4⟩
 have := (h3 k hk).1; have := hf.size; omega
theorem GotN.own {w : World} {lo : Nat} {own own' : Nat → Prop} {v : Value} {ns : List Mu.Node} (h : GotN w lo own v ns) (ho : ∀ k, lo ≤ k → k < w.heap.size → own' k → own k) : GotN w lo own' v ns := by
 obtain ⟨S, vs, h1, h2, h3, h4⟩ := h.out
 exact ⟨S, vs, h1, h2, fun k hk => ⟨(h3 k hk).1, (h3 k hk).2.1, fun hn => (h3 k hk).2.2 (ho k (h3 k hk).1.1 (h3 k hk).1.2 hn)⟩, fun k hk => ⟨(h4 k hk).1, fun hn => (h4 k hk).2 (ho k (h4 k hk).1 (ownsRow_blk h1 hk) hn)⟩⟩
theorem GotN.all {w : World} {lo : Nat} {own : Nat → Prop} {v : Value} {ns : List Mu.Node} (h : GotN w lo own v ns) :
 ∃ (S : Nat → Prop) (vs : List Value), RowN w S 5 v ns.length vs ∧ NsAt w S ns vs ∧ ∀ k, S k → (lo ≤ k ∧ k < w.heap.size) ∧ ¬ own k := by
 obtain ⟨S, vs, h1, h2, h3, h4⟩ := h.out
 refine ⟨fun k => S k ∨ v.ownBlock = some k, vs, (row_of_own h1).keep (fun _ _ => rfl) (fun k h => .inr h), NsAt.keep (fun _ _ => rfl) (fun k h => .inl h) _ _ h2, ?_⟩
 rintro k (hk | hk)
 · exact ⟨(h3 k hk).1, (h3 k hk).2.2⟩
 · exact ⟨⟨(h4 k hk).1, ownsRow_blk h1 hk⟩, (h4 k hk).2⟩
theorem infoNode : (Tryz.prog.info? 38).map (fun i => (i.zero, i.size, i.bytes)) = some (some (.agg #[.int .i64 0, .string ⟨#[]⟩, .bool false, .string ⟨#[]⟩, .slice none 0 0]), 5, 72) := by kernel_rfl
theorem setCell_comm (w : World) (a b : Addr) (u v : Value) (h : a.block ≠ b.block) : (w.setCell a u).setCell b v = (w.setCell b v).setCell a u := by
 have key : ∀ (A : Array Obj) (i j : Nat) (f g : Obj → Obj), i ≠ j → (A.modify i f).modify j g = (A.modify j g).modify i f := by
  intro A i j f g hne;apply Array.ext_getElem?;intro k;simp only [Array.getElem?_modify]
  by_cases h1 : j = k
  · subst h1
    rw [if_pos rfl, if_neg hne, if_neg hne, if_pos rfl]
  · rw [if_neg h1, if_neg h1]
 simp only [World.setCell]
 rw [key _ _ _ _ _ h]
theorem grown_drew0 {w w' : World} {r : Option Nat} (h : w.drew.grownBy w' r) : w.grownBy w' r := ⟨h.os, h.tape, h.output, h.size, h.block⟩
abbrev zeroNode : List Value := [.int .i64 0, .string ⟨#[]⟩, .bool false, .string ⟨#[]⟩, .slice none 0 0]
theorem zeroNode_new (w : World) : ∀ (j : Nat) (u : Value), zeroNode[j]? = some u → (w.alloc (.cells #[.int .i64 0, .string ⟨#[]⟩, .bool false, .string ⟨#[]⟩, .slice none 0 0] 38)).drew.cell? ((⟨w.heap.size, 0, none⟩ : Addr).add j) = some u := by
 intro j u hj
 have ha : (⟨w.heap.size, 0, none⟩ : Addr).add j = ⟨w.heap.size, j, none⟩ := by unfold Addr.add; split <;> simp_all
 rw [ha]
 show (w.alloc (.cells #[.int .i64 0, .string ⟨#[]⟩, .bool false, .string ⟨#[]⟩, .slice none 0 0] 38)).cell? ⟨w.heap.size, j, none⟩ = some u
 rw [blk_cell (blk_new w _) j]
 simpa using hj
theorem zeroNode_one : ∀ u ∈ zeroNode, u.oneCell' = true := by
 intro u hu
 simp only [zeroNode, List.mem_cons, List.not_mem_nil, or_false] at hu
 rcases hu with rfl | rfl | rfl | rfl | rfl <;> rfl
theorem node_room {w : World} {gg cp n : Nat} {vs : List Value} {z0 z1 z2 z3 z4 : Value} (h : w.ownsRow 0 38 5 (.slice (some ⟨gg, 0, none⟩) (n + 1) cp) (n + 1) (vs ++ [z0, z1, z2, z3, z4])) (hl : vs.length = n * 5) :
 w.cell? ⟨gg, n * 5, none⟩ = some z0 ∧ w.cell? ⟨gg, n * 5 + 1, none⟩ = some z1 ∧ w.cell? ⟨gg, n * 5 + 2, none⟩ = some z2 ∧ w.cell? ⟨gg, n * 5 + 3, none⟩ = some z3 ∧ w.cell? ⟨gg, n * 5 + 4, none⟩ = some z4 ∧
 w.frozen? ⟨gg, n * 5, none⟩ = false ∧ w.frozen? ⟨gg, n * 5 + 1, none⟩ = false ∧ w.frozen? ⟨gg, n * 5 + 2, none⟩ = false ∧ w.frozen? ⟨gg, n * 5 + 3, none⟩ = false ∧ w.frozen? ⟨gg, n * 5 + 4, none⟩ = false := by
 have hc : ∀ i, i < 5 → w.cell? ⟨gg, n * 5 + i, none⟩ = ([z0, z1, z2, z3, z4] : List Value)[i]? := fun i hi => by
  rw [h.cellAt _ (by omega), List.getElem?_append_right (by omega), hl, Nat.add_sub_cancel_left]
 exact ⟨hc 0 (by omega), hc 1 (by omega), hc 2 (by omega), hc 3 (by omega), hc 4 (by omega), h.frozenAt _, h.frozenAt _, h.frozenAt _, h.frozenAt _, h.frozenAt _⟩
theorem set5 {vs : List Value} {z0 z1 z2 z3 z4 c0 c1 c2 c3 c4 : Value} {m : Nat} (hl : vs.length = m) :
 (((((vs ++ [z0, z1, z2, z3, z4]).set m c0).set (m + 1) c1).set (m + 2) c2).set (m + 3) c3).set (m + 4) c4 = vs ++ [c0, c1, c2, c3, c4] := by
 subst hl
 have e : ∀ (l : List Value) (i : Nat) (c : Value), (vs ++ l).set (vs.length + i) c = vs ++ l.set i c := fun l i c => by
  rw [List.set_append_right _ _ (by omega), Nat.add_sub_cancel_left]
 have h0 := e [z0, z1, z2, z3, z4] 0 c0
 rw [Nat.add_zero] at h0
 rw [h0, e, e, e, e]
 rfl
structure NAdd (lo : Nat) (own : Nat → Prop) (ob : Nat) (w w' : World) (v v' : Value) (ns new : List Mu.Node) : Prop where
 fr : Fr (fun k => k = ob ∨ v.ownBlock = some k) w w'
 cell : w'.heap[ob]? = some (.cells #[v'] 34 (0, 0))
 got : GotN w' lo own v' (ns ++ new)
 ow : v'.ownBlock = v.ownBlock ∨ ∃ g, v'.ownBlock = some g ∧ w.heap.size ≤ g
 form : ∃ g c, v' = .slice (some ⟨g, 0, none⟩) (ns ++ new).length c
theorem nd_add {w w1 w2 : World} {lo ob g0 cp0 gg cp : Nat} {own S Sn : Nat → Prop} {ns : List Mu.Node} {nd : Mu.Node} {vs : List Value} {z0 z1 z2 z3 z4 c0 c1 c2 c3 c4 : Value}
 (h1 : w.ownsRow 0 38 5 (.slice (some ⟨g0, 0, none⟩) ns.length cp0) ns.length vs) (h2 : NsAt w S ns vs) (h3 : ∀ k, S k → (lo ≤ k ∧ k < w.heap.size) ∧ (Value.slice (some ⟨g0, 0, none⟩) ns.length cp0).ownBlock ≠ some k ∧ ¬ own k)
 (h4 : ∀ k, (Value.slice (some ⟨g0, 0, none⟩) ns.length cp0).ownBlock = some k → lo ≤ k ∧ ¬ own k) (hob : w.heap[ob]? = some (.cells #[.slice (some ⟨g0, 0, none⟩) ns.length cp0] 34 (0, 0))) (hown : own ob) (hlo : lo ≤ w.heap.size) (hownl : ∀ k, own k → k < w.heap.size)
 (hf : F0 w w1) (ho : w2.ownsRow 0 38 5 (.slice (some ⟨gg, 0, none⟩) (ns.length + 1) cp) (ns.length + 1) (vs ++ [z0, z1, z2, z3, z4])) (hg : w1.grownBy w2 (Value.slice (some ⟨g0, 0, none⟩) ns.length cp0).ownBlock)
 (hat : (Value.slice (some ⟨g0, 0, none⟩) ns.length cp0).ownBlock = some gg ∨ gg = w.heap.size + 1) (hsz : w1.heap.size = w.heap.size + 1)
 (hnd : NAt w Sn nd [c0, c1, c2, c3, c4]) (hSn : ∀ k, Sn k → (lo ≤ k ∧ k < w.heap.size) ∧ k ≠ g0 ∧ ¬ own k) :
 NAdd lo own ob w ((((((w2.setCell ⟨gg, ns.length * 5, none⟩ c0).setCell ⟨gg, ns.length * 5 + 1, none⟩ c1).setCell ⟨gg, ns.length * 5 + 2, none⟩ c2).setCell ⟨gg, ns.length * 5 + 3, none⟩ c3).setCell ⟨gg, ns.length * 5 + 4, none⟩ c4).setCell ⟨ob, 0, none⟩ (.slice (some ⟨gg, 0, none⟩) (ns.length + 1) cp))
  (.slice (some ⟨g0, 0, none⟩) ns.length cp0) (.slice (some ⟨gg, 0, none⟩) (ns.length + 1) cp) ns [nd] := by
 have hs := hf.size
 have hobl := blk_lt hob
 have hg0l : g0 < w.heap.size := ownsRow_blk h1 (k := g0) rfl
 have hb0 : ∀ k, (Value.slice (some ⟨g0, 0, none⟩) ns.length cp0).ownBlock = some k ↔ g0 = k := fun k => by simp [Value.ownBlock]
 have hgl : lo ≤ gg ∧ ¬ own gg ∧ gg ≠ ob := by
  rcases hat with h | h
  · have := h4 gg h
    exact ⟨this.1, this.2, fun e => this.2 (e ▸ hown)⟩
  · exact ⟨by omega, fun e => by have := hownl gg e; omega, by omega⟩
 have hgq : g0 = gg ∨ gg = w.heap.size + 1 := hat.imp (hb0 gg).1 id
 have hold : ∀ k, k < w.heap.size → k ≠ g0 → w2.heap[k]? = w.heap[k]? := fun k hk hne => (hg.block k (by omega) (fun e => hne ((hb0 k).1 e.symm).symm)).trans (hf.block k hk id)
 have ho5 := (((((ho.stored (ns.length * 5) c0).1.stored (ns.length * 5 + 1) c1).1.stored (ns.length * 5 + 2) c2).1.stored (ns.length * 5 + 3) c3).1.stored (ns.length * 5 + 4) c4).1
 rw [set5 h1.1] at ho5
 generalize hw5 : (((((w2.setCell ⟨gg, ns.length * 5, none⟩ c0).setCell ⟨gg, ns.length * 5 + 1, none⟩ c1).setCell ⟨gg, ns.length * 5 + 2, none⟩ c2).setCell ⟨gg, ns.length * 5 + 3, none⟩ c3).setCell ⟨gg, ns.length * 5 + 4, none⟩ c4) = w5 at ho5 ⊢
 have hfr5 : Fr (fun k => k = gg) w2 w5 := by
  rw [← hw5];exact (((((Fr.refl (fun k => k = gg) w2).setA _ _ (.inl rfl)).setA _ _ (.inl rfl)).setA _ _ (.inl rfl)).setA _ _ (.inl rfl)).setA _ _ (.inl rfl)
 have hob5 : w5.heap[ob]? = some (.cells #[.slice (some ⟨g0, 0, none⟩) ns.length cp0] 34 (0, 0)) := by
  have hne : ob ≠ g0 := fun e => (h4 g0 rfl).2 (e ▸ hown)
  exact hfr5.blk ((hold ob hobl hne).trans hob) (fun e => hgl.2.2 e.symm)
 have hs2 := hg.size
 have hs5 := hfr5.size
 have hK : ∀ k, (S k ∨ Sn k) → (lo ≤ k ∧ k < w.heap.size) ∧ k ≠ g0 ∧ k ≠ gg ∧ ¬ own k := by
  rintro k (hk | hk)
  · obtain ⟨a, b, c⟩ := h3 k hk
    have hb : k ≠ g0 := fun e => b ((hb0 k).2 e.symm)
    exact ⟨a, hb, by rcases hgq with h | h <;> omega, c⟩
  · obtain ⟨a, b, c⟩ := hSn k hk
    exact ⟨a, b, by rcases hgq with h | h <;> omega, c⟩
 have hkeep : ∀ k, (S k ∨ Sn k) → (w5.setCell ⟨ob, 0, none⟩ (.slice (some ⟨gg, 0, none⟩) (ns.length + 1) cp)).heap[k]? = w.heap[k]? := fun k hk => by
  obtain ⟨a, b, c, d⟩ := hK k hk;rw [Below.heap_setCell _ _ _ _ (show k ≠ ob from fun e => d (e ▸ hown))];exact (hfr5.block k (by omega) c).trans (hold k a.2 b)
 have hsl : (w5.setCell ⟨ob, 0, none⟩ (.slice (some ⟨gg, 0, none⟩) (ns.length + 1) cp)).heap.size = w5.heap.size := by simp [World.setCell]
 refine ⟨?_, ?_, ⟨fun k => S k ∨ Sn k, vs ++ [c0, c1, c2, c3, c4], ?_, ?_, ?_, ?_⟩, ?_, gg, cp, by simp⟩
 · have a1 : Fr (fun k => k = ob ∨ (Value.slice (some ⟨g0, 0, none⟩) ns.length cp0).ownBlock = some k) w w2 := (Fr.of0 hf).grownA hg (fun k hk => .inl (.inr hk))
   have a2 : Fr (fun k => k = ob ∨ (Value.slice (some ⟨g0, 0, none⟩) ns.length cp0).ownBlock = some k) w w5 := a1.trans' hfr5 (fun k hk e => by
    subst e
    rcases hat with h | h
    · exact .inr h
    · omega)
   exact a2.setA _ _ (.inl (.inl rfl))
 · exact blk_set _ hob5
 · rw [List.length_append]
   exact ownsRow_setCell_other ho5 (fun e => hgl.2.2 (by simpa [Value.ownBlock] using e)) _
 · refine NsAt.append (NsAt.keep (S := S) (fun k hk => hkeep k (.inl hk)) (fun k h => .inl h) _ _ h2) (NsAt.one (NAt.keep (S := Sn) (fun k hk => hkeep k (.inr hk)) (fun k h => .inr h) _ _ hnd))
 · intro k hk
   obtain ⟨a, b, c, d⟩ := hK k hk;exact ⟨⟨a.1, by rw [hsl]; omega⟩, fun e => c (by simpa [Value.ownBlock] using e.symm), d⟩
 · intro k hk
   have : gg = k := by simpa [Value.ownBlock] using hk
   subst this;exact ⟨hgl.1, hgl.2.1⟩
 · rcases hat with h | h
   · left; rw [h]; rfl
   · right; exact ⟨gg, rfl, by omega⟩
theorem nd_swap {w2 : World} {ob gg m : Nat} {c0 c1 c2 c3 c4 v : Value} (h : gg ≠ ob) :
 ((((((w2.setCell ⟨gg, m, none⟩ c0).setCell ⟨gg, m + 1, none⟩ c1).setCell ⟨gg, m + 2, none⟩ c2).setCell ⟨gg, m + 3, none⟩ c3).setCell ⟨gg, m + 4, none⟩ c4).setCell ⟨ob, 0, none⟩ v) =
 ((((((w2.setCell ⟨ob, 0, none⟩ v).setCell ⟨gg, m, none⟩ c0).setCell ⟨gg, m + 1, none⟩ c1).setCell ⟨gg, m + 2, none⟩ c2).setCell ⟨gg, m + 3, none⟩ c3).setCell ⟨gg, m + 4, none⟩ c4) := by
 rw [setCell_comm _ ⟨gg, m + 4, none⟩ ⟨ob, 0, none⟩ _ _ h, setCell_comm _ ⟨gg, m + 3, none⟩ ⟨ob, 0, none⟩ _ _ h, setCell_comm _ ⟨gg, m + 2, none⟩ ⟨ob, 0, none⟩ _ _ h, setCell_comm _ ⟨gg, m + 1, none⟩ ⟨ob, 0, none⟩ _ _ h, setCell_comm _ ⟨gg, m, none⟩ ⟨ob, 0, none⟩ _ _ h]
end Go.Proofs.YtfakghnpkdoclaaGreatDoor
