/-
  The package's reader: readText.
-/
import Derived.Test.YtfakghnpkdoclaaDoorRead0
set_option linter.unusedVariables false
set_option linter.unusedSimpArgs false
namespace Go.Proofs.YtfakghnpkdoclaaDoor
open Go.RowKit

/-- what readText hands back -/
def RtPost (x : Tm) (t : Nat) (eb : Addr) (w : World) (e : Ending) (w' : World) : Prop :=
  ∃ (r : Nat) (tx pd : ByteArray) (may : Bool), w.heap.size ≤ r ∧ w'.heap[r]? = some (.cells #[.string tx, .string pd, .bool may] 82 (0, 0)) ∧ Fr (· = t) w w' ∧
  match Mu.rdText (L x.s) x.p (L x.o) with
  | some q => L tx = q.text ∧ L pd = q.pad ∧ may = q.may ∧ e = .returned (.tuple #[.pointer (some ⟨r, 0, none⟩), .nilIface]) ∧ ∃ l, TmAt w' t { x with p := q.pos, line := l }
  | none => L tx = (L x.s).drop x.p ∧ L pd = [] ∧ may = false ∧ e = .returned (.tuple #[.pointer (some ⟨r, 0, none⟩), .iface 140 (.pointer (some eb))]) ∧ TmAt w' t x

theorem rt_none {e : Ending} {x : Tm} {t : Nat} {eb : Addr} {w w1 : World} (hf : Mu.find (L x.s) (L x.o) x.p = none) (hfr : Fr (· = t) w w1) (ht : TmAt w1 t x)
    (he : e = .returned (.tuple #[.pointer (some ⟨w1.heap.size, 0, none⟩), .iface 140 (.pointer (some eb))])) :
    RtPost x t eb w e (w1.alloc (.cells #[.string (x.s.extract x.p x.s.size), .string ⟨#[]⟩, .bool false] 82)) := by
  refine ⟨_, _, _, _, hfr.size, blk_new _ _, hfr.trans (Fr.alloc _ _ _), ?_⟩
  have hr : Mu.rdText (L x.s) x.p (L x.o) = none := by simp [Mu.rdText, hf]
  rw [hr]
  refine ⟨?_, rfl, rfl, he, blk_alloc _ ht⟩
  rw [L_extract, ← L_length, Mu.sub_to_end]

set_option maxRecDepth 100000 in
set_option maxHeartbeats 2000000 in
theorem readText_none (B t : Nat) (eb : Addr) (x : Tm) (w : World) (hs : x.s.size ≤ 2147483647) (hp : x.p ≤ x.s.size) (ho : 0 < x.o.size) (ho2 : x.o.size ≤ 2147483647) (ht : TmAt w t x) (hg : Gl B eb w) (hB : B ≤ t)
    (hf : Mu.find (L x.s) (L x.o) x.p = none) :
    Calls Tryd.prog 30 #[.pointer (some ⟨t, 0, none⟩)] w (RtPost x t eb w) := by
  have HT := Lib.hid ht
  have HF := Lib.hid hf
  clear hf
  have HG := Lib.hid hg
  have heof := hg.eof
  clear hg
  obtain ⟨-, h1, -, h3, -⟩ := ht.cells
  clear ht
  have e1 := eq_eof_eof eb
  go_enter Tryd.func30, Tryd.ntmps30
  go_wp2_with fail
  refine (readString_any t x x.o _ w hs hp ho ho2 HT.out heof).mono ?_
  intro e w1 hpost
  unfold RsPost at hpost
  rw [HF.out] at hpost
  obtain ⟨rfl, hfr, ht1⟩ := hpost
  have HR := Lib.hid hfr
  have HT1 := Lib.hid ht1
  have heof1 := (HG.out.fr hfr (fun k hk => by omega)).eof
  clear hfr ht1 h1 h3 heof
  go_wp2
  go_ret2
  exact rt_none HF.out HR.out HT1.out rfl

theorem rt_some {e : Ending} {x : Tm} {t : Nat} {eb : Addr} {k : Nat} {l : Int} {w w1 w2 : World} {tx pd : ByteArray} {may : Bool} (hf : Mu.find (L x.s) (L x.o) x.p = some k) (hfr : Fr (· = t) w w1) (ht : TmAt w1 t { x with p := k + x.o.size, line := l })
    (hw : ∃ n, w2 = (w1.alloc (.cells #[.string tx, .string pd, .bool may] 82)).drewN n)
    (hb : (may = true ∧ (Mu.backTo (L x.s) x.p k = 0 ∨ (L x.s).getD (Mu.backTo (L x.s) x.p k - 1) 0 = 10) ∧ tx = x.s.extract x.p (Mu.backTo (L x.s) x.p k) ∧ pd = x.s.extract (Mu.backTo (L x.s) x.p k) k) ∨
      (may = false ∧ ¬ (Mu.backTo (L x.s) x.p k = 0 ∨ (L x.s).getD (Mu.backTo (L x.s) x.p k - 1) 0 = 10) ∧ tx = x.s.extract x.p k ∧ pd = ⟨#[]⟩))
    (he : e = .returned (.tuple #[.pointer (some ⟨w1.heap.size, 0, none⟩), .nilIface])) :
    RtPost x t eb w e w2 := by
  obtain ⟨n, rfl⟩ := hw
  refine ⟨w1.heap.size, tx, pd, may, hfr.size, blk_new _ _, hfr.trans ((Fr.alloc _ _ _).trans (Fr.drewN _ _ _)), ?_⟩
  unfold Mu.rdText
  simp only [hf]
  have hT : TmAt ((w1.alloc (.cells #[.string tx, .string pd, .bool may] 82)).drewN n) t { x with p := k + x.o.size, line := l } := blk_alloc _ ht
  rcases hb with ⟨rfl, h1, rfl, rfl⟩ | ⟨rfl, h1, rfl, rfl⟩
  · rw [if_pos h1]
    exact ⟨L_extract _ _ _, L_extract _ _ _, rfl, he, l, hT⟩
  · rw [if_neg h1]
    exact ⟨L_extract _ _ _, rfl, rfl, he, l, hT⟩

set_option maxRecDepth 100000 in
set_option maxHeartbeats 4000000 in
theorem readText_some (B t : Nat) (eb : Addr) (k : Nat) (x : Tm) (w : World) (hs : x.s.size ≤ 2147483647) (hp : x.p ≤ x.s.size) (ho : 0 < x.o.size) (ho2 : x.o.size ≤ 2147483647) (ht : TmAt w t x) (hg : Gl B eb w) (hB : B ≤ t)
    (hf : Mu.find (L x.s) (L x.o) x.p = some k) :
    Calls Tryd.prog 30 #[.pointer (some ⟨t, 0, none⟩)] w (RtPost x t eb w) := by
  have hone : L x.o ≠ [] := by intro h; have := L_length x.o; rw [h] at this; simp at this; omega
  have hk1 := (Mu.find_some hf).1
  have hk2 := Mu.find_le hf hone
  rw [L_length, L_length] at hk2
  have HT := Lib.hid ht
  have HF := Lib.hid hf
  clear hf hone
  have HG := Lib.hid hg
  have heof := hg.eof
  clear hg
  obtain ⟨-, h1, -, h3, -⟩ := ht.cells
  clear ht
  have e1 := eq_nil_eof (.pointer (some eb))
  go_enter Tryd.func30, Tryd.ntmps30
  go_wp2_with fail
  refine (readString_any t x x.o _ w hs hp ho ho2 HT.out heof).mono ?_
  intro e w1 hpost
  unfold RsPost at hpost
  rw [HF.out] at hpost
  obtain ⟨rfl, hfr, l, ht1⟩ := hpost
  have HR := Lib.hid hfr
  have HT1 := Lib.hid ht1
  have heof1 := (HG.out.fr hfr (fun k hk => by omega)).eof
  clear hfr h1 h3 heof
  obtain ⟨q, hq⟩ : ∃ q, q = k + x.o.size := ⟨_, rfl⟩
  rw [← hq] at ht1
  obtain ⟨h0, h1, -, h3, -⟩ := ht1.cells
  clear ht1
  simp only at h0 h1 h3
  obtain ⟨s, hx⟩ : ∃ s, s = x.s := ⟨_, rfl⟩
  obtain ⟨o, hxo⟩ : ∃ o, o = x.o := ⟨_, rfl⟩
  obtain ⟨p, hxp⟩ : ∃ p, p = x.p := ⟨_, rfl⟩
  rw [← hx] at h0 hs hk2 hp
  rw [← hxo] at h1 hk2 ho ho2 hq
  rw [← hxp] at hp hk1
  have hql : q ≤ s.size := by omega
  have z1 : IntKind.i64.wrap ((q : Int) - (o.size : Int)) = (k : Int) := by rw [IntWalk.i64_in _ (by omega)]; omega
  have z1' : (q : Int) - (o.size : Int) = (k : Int) := by omega
  have HQ := Lib.hid hq
  have HX := Lib.hid hx
  have HXO := Lib.hid hxo
  have HXP := Lib.hid hxp
  clear hq hx hxo hxp
  rw [← HXP.out, ← HX.out]
  go_wp2
  go_quiet (fail)
  go_wp2
  go_loopg [7] (k + 1) (fun g i wr => ∃ (j n : Nat), i = .int .i64 j ∧ p ≤ j ∧ j ≤ k ∧ g = j + 1 ∧ wr = w1.drewN n ∧ Hid (Mu.backTo (L s) p k = Mu.backTo (L s) p j))
  case atStart => exact ⟨k, _, rfl, hk1, by omega, rfl, rfl, Lib.hid rfl⟩
  case round =>
    obtain ⟨j, n, rfl, hpj, hjk, rfl, rfl, HJ⟩ := hrel
    by_cases hgo : p < j ∧ Mu.blankB ((L s).getD (j - 1) 0) = true
    · obtain ⟨hlt, hbl⟩ := hgo
      obtain ⟨i, rfl⟩ : ∃ i, j = i + 1 := ⟨j - 1, by omega⟩
      have hi : i < s.size := by omega
      have HJ' : Hid (Mu.backTo (L s) p k = Mu.backTo (L s) p i) := Lib.hid (by
        rw [HJ.out]; conv => lhs; unfold Mu.backTo
        rw [if_pos ⟨hlt, by simpa using hbl⟩])
      rw [Nat.add_sub_cancel, L_get s i hi] at hbl
      have z2 : IntKind.i64.wrap (((i + 1 : Nat) : Int) - 1) = (i : Int) := by rw [IntWalk.i64_in _ (by omega)]; omega
      have z3 : (((i + 1 : Nat) : Int) - 1) = (i : Int) := by omega
      by_cases h32 : s[i] = 32
      · have b1 : ((s[i].toNat : Int) != 32) = false := byte_lit_eq h32
        clear h32 hbl HJ
        go_wp2
        go_roundg (i + 1)
        case rel => exact ⟨i, _, by first | rfl | go_num, by omega, by omega, rfl, (by first | rfl | exact World.drewN_drewN _ _ _), HJ'⟩
        case measure => omega
      · have h9 : s[i] = 9 := by simpa [Mu.blankB, h32] using hbl
        have b1 : ((s[i].toNat : Int) != 32) = true := byte_lit_ne h32
        have b2 : ((s[i].toNat : Int) != 9) = false := byte_lit_eq h9
        clear h32 h9 hbl HJ
        go_wp2
        go_roundg (i + 1)
        case rel => exact ⟨i, _, by first | rfl | go_num, by omega, by omega, rfl, (by first | rfl | exact World.drewN_drewN _ _ _), HJ'⟩
        case measure => omega
    · have HS : Hid (Mu.backTo (L s) p j = j) := Lib.hid (by
        cases j with
        | zero => rfl
        | succ i => unfold Mu.backTo; rw [if_neg (by simpa using hgo)])
      replace HJ : Hid (Mu.backTo (L s) p k = j) := Lib.hid (HJ.out.trans HS.out)
      clear HS
      have zp : (p : Int) ≤ (j : Int) := by omega
      have zk : (j : Int) ≤ (k : Int) := by omega
      have zs : (j : Int) ≤ (s.size : Int) := by omega
      have zks : (k : Int) ≤ (s.size : Int) := by omega
      have zw : IntKind.i64.wrap (k : Int) = (k : Int) := IntWalk.i64_in _ (by omega)
      have zk0 : (0 : Int) ≤ (k : Int) := by omega
      rcases Nat.eq_zero_or_pos j with hj0 | hj0
      · have hnlt : ¬ (p : Int) < (j : Int) := by omega
        have hc : ((j : Int) == 0) = true := by simp [hj0]
        have HM : Hid (j = 0 ∨ (L s).getD (j - 1) 0 = 10) := Lib.hid (.inl hj0)
        clear hgo hj0
        go_wp2
        refine still_tail 24 (by kernel_rfl) (by kernel_rfl) ?_
        simp only [List.take_succ_cons, List.take_zero, List.drop_succ_cons, List.drop_zero]
        repeat still_step
        refine wpStill_nil ?_
        go_wp2
        go_ret2
        obtain rfl := HXP.out
        obtain rfl := HX.out
        exact rt_some (may := true) HF.out HR.out HT1.out ⟨_, rfl⟩ (by rw [HJ.out]; exact .inl ⟨rfl, HM.out, rfl, rfl⟩) rfl
      · obtain ⟨i, rfl⟩ : ∃ i, j = i + 1 := ⟨j - 1, by omega⟩
        have hi : i < s.size := by omega
        have z2 : IntKind.i64.wrap (((i + 1 : Nat) : Int) - 1) = (i : Int) := by rw [IntWalk.i64_in _ (by omega)]; omega
        have z3 : (((i + 1 : Nat) : Int) - 1) = (i : Int) := by omega
        have hc : (((i + 1 : Nat) : Int) == 0) = false := by rw [beq_eq_false_iff_ne]; omega
        have y1 : IntKind.i64.wrap ((i : Int) + 1) = (i : Int) + 1 := IntWalk.i64_in _ (by omega)
        have y2 : (0 : Int) ≤ (i : Int) + 1 := by omega
        have y3 : (p : Int) ≤ (i : Int) + 1 := by omega
        have y4 : (i : Int) + 1 ≤ (k : Int) := by omega
        have y5 : (i : Int) + 1 ≤ (s.size : Int) := by omega
        have y6 : ((i : Int) + 1).toNat = i + 1 := by omega
        clear hj0
        have hnl : (p : Int) < ((i + 1 : Nat) : Int) → ((s[i].toNat : Int) != 32) = true ∧ ((s[i].toNat : Int) != 9) = true := fun hlt => by
          have hb : ¬ Mu.blankB s[i] = true := fun h => hgo ⟨by omega, by rw [Nat.add_sub_cancel, L_get s i hi]; exact h⟩
          have h32 : s[i] ≠ 32 := fun h => hb (by rw [h]; rfl)
          have h9 : s[i] ≠ 9 := fun h => hb (by rw [h]; rfl)
          exact ⟨byte_lit_ne h32, byte_lit_ne h9⟩
        clear hgo
        by_cases h10 : s[i] = 10
        · have HM : Hid (i + 1 = 0 ∨ (L s).getD (i + 1 - 1) 0 = 10) := Lib.hid (.inr (by rw [Nat.add_sub_cancel, L_get s i hi]; exact h10))
          have b3 : ((s[i].toNat : Int) == 10) = true := byte_is h10
          clear h10
          by_cases hlt : (p : Int) < ((i + 1 : Nat) : Int)
          · obtain ⟨b1, b2⟩ := hnl hlt
            clear hnl
            go_wp2
            refine still_tail 24 (by kernel_rfl) (by kernel_rfl) ?_
            simp only [List.take_succ_cons, List.take_zero, List.drop_succ_cons, List.drop_zero]
            repeat still_step
            refine wpStill_nil ?_
            go_wp2
            go_ret2
            obtain rfl := HXP.out
            obtain rfl := HX.out
            exact rt_some (may := true) HF.out HR.out HT1.out ⟨_, rfl⟩ (by rw [HJ.out]; exact .inl ⟨rfl, HM.out, rfl, rfl⟩) rfl
          · clear hnl
            go_wp2
            refine still_tail 24 (by kernel_rfl) (by kernel_rfl) ?_
            simp only [List.take_succ_cons, List.take_zero, List.drop_succ_cons, List.drop_zero]
            repeat still_step
            refine wpStill_nil ?_
            go_wp2
            go_ret2
            obtain rfl := HXP.out
            obtain rfl := HX.out
            exact rt_some (may := true) HF.out HR.out HT1.out ⟨_, rfl⟩ (by rw [HJ.out]; exact .inl ⟨rfl, HM.out, rfl, rfl⟩) rfl
        · have HM : Hid (¬ (i + 1 = 0 ∨ (L s).getD (i + 1 - 1) 0 = 10)) := Lib.hid (fun h => by
            rcases h with h | h
            · omega
            · rw [Nat.add_sub_cancel, L_get s i hi] at h
              exact h10 h)
          have b3 : ((s[i].toNat : Int) == 10) = false := byte_isnt h10
          clear h10
          by_cases hlt : (p : Int) < ((i + 1 : Nat) : Int)
          · obtain ⟨b1, b2⟩ := hnl hlt
            clear hnl
            go_wp2
            refine still_tail 17 (by kernel_rfl) (by kernel_rfl) ?_
            simp only [List.take_succ_cons, List.take_zero, List.drop_succ_cons, List.drop_zero]
            repeat still_step
            refine wpStill_nil ?_
            go_wp2
            go_ret2
            obtain rfl := HXP.out
            obtain rfl := HX.out
            exact rt_some (may := false) HF.out HR.out HT1.out ⟨_, rfl⟩ (by rw [HJ.out]; exact .inr ⟨rfl, HM.out, rfl, rfl⟩) rfl
          · clear hnl
            go_wp2
            refine still_tail 17 (by kernel_rfl) (by kernel_rfl) ?_
            simp only [List.take_succ_cons, List.take_zero, List.drop_succ_cons, List.drop_zero]
            repeat still_step
            refine wpStill_nil ?_
            go_wp2
            go_ret2
            obtain rfl := HXP.out
            obtain rfl := HX.out
            exact rt_some (may := false) HF.out HR.out HT1.out ⟨_, rfl⟩ (by rw [HJ.out]; exact .inr ⟨rfl, HM.out, rfl, rfl⟩) rfl

theorem readText_any (B t : Nat) (eb : Addr) (x : Tm) (w : World) (hs : x.s.size ≤ 2147483647) (hp : x.p ≤ x.s.size) (ho : 0 < x.o.size) (ho2 : x.o.size ≤ 2147483647) (ht : TmAt w t x) (hg : Gl B eb w) (hB : B ≤ t) :
    Calls Tryd.prog 30 #[.pointer (some ⟨t, 0, none⟩)] w (RtPost x t eb w) := by
  cases hf : Mu.find (L x.s) (L x.o) x.p with
  | none => exact readText_none B t eb x w hs hp ho ho2 ht hg hB hf
  | some k => exact readText_some B t eb k x w hs hp ho ho2 ht hg hB hf
end Go.Proofs.YtfakghnpkdoclaaDoor
