/-
  The thin package's Compiled.
-/
import Derived.Test.YtfakghnpkdoclaaDoorImp0
set_option linter.unusedVariables false
set_option linter.unusedSimpArgs false
namespace Go.Proofs.YtfakghnpkdoclaaDoor
open Go.RowKit

set_option maxRecDepth 100000 in
set_option maxHeartbeats 1000000 in
theorem count_zero (nb : Nat) (w : World) (hn : w.heap[nb]? = some (.cells #[.int .i64 0] 3 (0, 0))) :
    Calls Tryd.prog 20 #[.agg #[.int .i64 0, .string ⟨#[]⟩, .int .i64 0, .bool false, .slice none 0 0, .slice none 0 0], .int .i64 1, .pointer (some ⟨nb, 0, none⟩)] w (fun e w' => e = .returned (.bool true) ∧ Fr (· = nb) w w') := by
  have n0 := blk_cell hn 0
  have nf := blk_free hn 0
  have hl := blk_lt hn
  simp only [List.getElem?_toArray, List.getElem?_cons_zero] at n0
  clear hn
  go_enter Tryd.func20, Tryd.ntmps20
  go_wp2_with fail
  go_ret
  exact ⟨rfl, ((Fr.refl (· = nb) w).setA _ _ (.inl rfl)).allocA _⟩

set_option maxRecDepth 100000 in
set_option maxHeartbeats 2000000 in
theorem taken_one (s : ByteArray) (b1 b2 : Nat) (w : World) (hs : s.size ≤ 4096) (h1 : w.heap[b1]? = some (.cells #[.string s] 9 (0, 0))) (h2 : w.heap[b2]? = some (.cells #[.int .i64 0, .string ⟨#[]⟩, .int .i64 0, .bool false, .slice none 0 0, .slice none 0 0] 42 (0, 0))) :
    Calls Tryd.prog 11 #[.slice (some ⟨b1, 0, none⟩) 1 1, .slice none 0 0, .slice (some ⟨b2, 0, none⟩) 1 1] w (fun e w' => e = .returned (.bool true) ∧ F0 w w') := by
  have HB2 := Lib.hid h2
  have c0 := blk_cell h1 0
  have d0 := blk_cell h2 0
  have d1 := blk_cell h2 1
  have d2 := blk_cell h2 2
  have d3 := blk_cell h2 3
  have d4 := blk_cell h2 4
  have d5 := blk_cell h2 5
  have hl1 := blk_lt h1
  have hl2 := blk_lt h2
  simp only [List.getElem?_toArray, List.getElem?_cons_zero, List.getElem?_cons_succ] at c0 d0 d1 d2 d3 d4 d5
  have hs' : decide ((4096 : Int) < (s.size : Int)) = false := by simp; omega
  clear h1 h2
  go_enter Tryd.func11, Tryd.ntmps11
  go_wp2_with fail
  go_loopg [0, 29] 0 (fun g v0 v wr => v0 = .slice (some ⟨b1, 0, none⟩) 1 1 ∧ v = .int .i64 0 ∧ g = 0 ∧ wr = w)
  case atStart => exact ⟨rfl, rfl, rfl, rfl⟩
  case round =>
    obtain ⟨rfl, rfl, rfl, rfl⟩ := hrel
    go_wp2_with fail
    go_loopg [48] 1 (fun g v w2 => (v = .int .i64 0 ∧ g = 1 ∨ v = .int .i64 1 ∧ g = 0) ∧ w2 = wr)
    case atStart => exact ⟨.inl ⟨rfl, rfl⟩, rfl⟩
    case round =>
      obtain ⟨hv, rfl⟩ := hrel
      rcases hv with ⟨rfl, rfl⟩ | ⟨rfl, rfl⟩
      · go_wp2_with fail
        go_roundg 0
        case rel => exact ⟨.inr ⟨rfl, rfl⟩, rfl⟩
        case measure => omega
      · go_wp2_with fail
        go_loopg [58] 1 (fun g v w2 => (v = .int .i64 0 ∧ g = 1 ∧ Hid (w2 = wr.alloc (.cells #[.int .i64 0] 3)) ∨ v = .int .i64 1 ∧ g = 0) ∧ Hid (F0 wr w2))
        case atStart => exact ⟨.inl ⟨rfl, rfl, Lib.hid rfl⟩, Lib.hid (Fr.alloc _ _ _)⟩
        case round =>
          obtain ⟨hv, HF⟩ := hrel
          rcases hv with ⟨rfl, rfl, HW⟩ | ⟨rfl, rfl⟩
          · have hw := HW.out
            clear HW
            subst hw
            go_wp2_with fail
            refine (count_zero wr.heap.size _ (blk_alloc _ (blk_new wr _))).mono ?_
            rintro e w3 ⟨rfl, hf3⟩
            have HF3 : Hid (F0 wr w3) := Lib.hid (((Fr.alloc No wr _).allocA _).trans' hf3 (fun i hi hm => by omega))
            clear hf3
            go_wp2_with fail
            go_roundg 0
            case rel => exact ⟨.inr ⟨rfl, rfl⟩, HF3⟩
            case measure => omega
          · go_wp2_with fail
            go_ret
            exact ⟨rfl, HF.out⟩

set_option maxRecDepth 100000 in
set_option maxHeartbeats 1000000 in
theorem parseString_any (B : Nat) (eb : Addr) (n : Nat) (s : ByteArray) (w : World) (R : Option (List Mu.Elem × Mu.ISt)) (hs : s.size ≤ 2147483647) (ha : ∀ c ∈ L s, c.toNat < 128) (hr : ∀ c ∈ L s, c ≠ 13) (hg : Gl B eb w)
    (hR : Mu.iparse (L s) false n 0 ⟨0, Mu.OB, Mu.CB⟩ none = some R) (hn : 4 * n ≤ 8589934600) :
    Calls Tryd.prog 12 #[.string s] w (fun e w' => ∃ pv, PsrPost w false pv R e w' ∨ ∃ w1, F0 w w1 ∧ PsrPost w1 false pv R e w') := by
  have HA := Lib.hid ha
  have HR := Lib.hid hr
  have HG := Lib.hid hg
  have HRR := Lib.hid hR
  clear ha hr hg hR
  have key : Calls Tryd.prog 21 #[.string s, .bool false] w (fun e w' => ∃ pv, PsrPost w false pv R e w' ∨ ∃ w1, F0 w w1 ∧ PsrPost w1 false pv R e w') := by
    go_enter Tryd.func21, Tryd.ntmps21
    go_wp2_with fail
    refine (psr_any B eb n s false _ _ _ R hs HA.out HR.out (HG.out.fr0 (Fr.alloc _ _ _)) HRR.out hn).mono ?_
    intro e w2 hpost
    have HP := Lib.hid hpost
    unfold PsrPost at hpost
    cases R with
    | none =>
      obtain ⟨⟨T2, v2, rfl⟩, hf2⟩ := hpost
      clear hf2
      go_wp2_with fail
      go_ret2
      exact ⟨_, .inr ⟨_, Fr.alloc _ _ _, HP.out⟩⟩
    | some z =>
      obtain ⟨es, st⟩ := z
      obtain ⟨t, rfl, hf2⟩ := hpost
      clear hf2
      go_wp2_with fail
      go_ret2
      exact ⟨_, .inr ⟨_, Fr.alloc _ _ _, HP.out⟩⟩
  have HKEY := Lib.hid key
  clear key
  go_enter Tryd.func12, Tryd.ntmps12
  go_wp2_with fail
  refine HKEY.out.mono ?_
  intro e w2 hpost
  have HP := Lib.hid hpost
  obtain ⟨pv, hpost⟩ := hpost
  cases R with
  | none =>
    have hee : ∃ T2 v2, e = .returned (.tuple #[.pointer none, .iface T2 v2]) := by
      rcases hpost with h | ⟨w1, -, h⟩ <;> exact h.1
    obtain ⟨T2, v2, rfl⟩ := hee
    clear hpost
    go_wp2_with fail
    go_ret2
    exact HP.out
  | some z =>
    obtain ⟨es, st⟩ := z
    have hee : ∃ t, e = .returned (.tuple #[.pointer (some ⟨t, 0, none⟩), .nilIface]) := by
      rcases hpost with ⟨t, h, -⟩ | ⟨w1, -, t, h, -⟩ <;> exact ⟨t, h⟩
    obtain ⟨t, rfl⟩ := hee
    clear hpost
    go_wp2_with fail
    go_ret2
    exact HP.out

/-- is a text read without an error -/
def CompPost (R : Option (List Mu.Elem × Mu.ISt)) (w : World) (e : Ending) (w' : World) : Prop := e = .returned (.bool R.isSome) ∧ F0 w w'
set_option maxRecDepth 100000 in
set_option maxHeartbeats 1000000 in
theorem compiled_any (B : Nat) (eb : Addr) (n : Nat) (s : ByteArray) (w : World) (R : Option (List Mu.Elem × Mu.ISt)) (hs : s.size ≤ 4096) (ha : ∀ c ∈ L s, c.toNat < 128) (hr : ∀ c ∈ L s, c ≠ 13) (hg : Gl B eb w)
    (hR : Mu.iparse (L s) false n 0 ⟨0, Mu.OB, Mu.CB⟩ none = some R) (hn : 4 * n ≤ 8589934600) :
    Calls Tryd.prog 6 #[.string s] w (CompPost R w) := by
  have HA := Lib.hid ha
  have HR := Lib.hid hr
  have HG := Lib.hid hg
  have HRR := Lib.hid hR
  clear ha hr hg hR
  go_enter Tryd.func6, Tryd.ntmps6
  go_wp2_with fail
  refine (taken_one s w.heap.size (w.heap.size + 1) _ hs (blk_alloc _ (blk_new _ _)) (by
    have := blk_new (w.alloc (.cells #[.string s] 9)) (.cells #[.int .i64 0, .string ⟨#[]⟩, .int .i64 0, .bool false, .slice none 0 0, .slice none 0 0] 42)
    simp only [World.size_alloc] at this
    exact this)).mono ?_
  rintro e w1 ⟨rfl, hf1⟩
  have HF1 : Hid (F0 w w1) := Lib.hid (((Fr.alloc No w _).allocA _).trans hf1)
  clear hf1
  go_wp2_with fail
  refine (parseString_any B eb n s _ R (by omega) HA.out HR.out (HG.out.fr0 HF1.out) HRR.out hn).mono ?_
  intro e w2 hpost
  have hff : F0 w w2 := by
    obtain ⟨pv, hpost⟩ := hpost
    unfold PsrPost at hpost
    cases R with
    | none =>
      rcases hpost with h | ⟨w1', h0, h⟩
      · exact HF1.out.trans h.2
      · exact (HF1.out.trans h0).trans h.2
    | some z =>
      rcases hpost with ⟨t, -, h, -⟩ | ⟨w1', h0, t, -, h, -⟩
      · exact HF1.out.trans h
      · exact (HF1.out.trans h0).trans h
  have HFF := Lib.hid hff
  clear hff
  obtain ⟨pv, hpost⟩ := hpost
  cases R with
  | none =>
    have hee : ∃ T2 v2, e = .returned (.tuple #[.pointer none, .iface T2 v2]) := by
      rcases hpost with h | ⟨w1, -, h⟩ <;> exact h.1
    obtain ⟨T2, v2, rfl⟩ := hee
    clear hpost
    go_wp2_with fail
    go_ret
    exact ⟨rfl, HFF.out⟩
  | some z =>
    obtain ⟨es, st⟩ := z
    have hee : ∃ t, e = .returned (.tuple #[.pointer (some ⟨t, 0, none⟩), .nilIface]) := by
      rcases hpost with ⟨t, h, -⟩ | ⟨w1, -, t, h, -⟩ <;> exact ⟨t, h⟩
    obtain ⟨t, rfl⟩ := hee
    clear hpost
    go_wp2_with fail
    go_ret
    exact ⟨rfl, HFF.out⟩
end Go.Proofs.YtfakghnpkdoclaaDoor
