/-
  The package's reader: parsePartial, zzCut, parseCustomDelimiter.
-/
import Derived.Test.YtfakghnpkdoclaaDoorRead2
set_option linter.unusedVariables false
set_option linter.unusedSimpArgs false
namespace Go.Proofs.YtfakghnpkdoclaaDoor
open Go.RowKit

set_option maxHeartbeats 400000 in
theorem parsePartial_any (t : Nat) (x : Tm) (name indent : ByteArray) (T : TypeId) (p : Value) (w : World) (ht : TmAt w t x) (hp : x.prov = .iface T p) :
    Calls Tryd.prog 35 #[.pointer (some ⟨t, 0, none⟩), .string name, .string indent] w
      fun e w' => e = .returned (.tuple #[.pointer (some ⟨w.heap.size, 0, none⟩), .nilIface]) ∧ w.alloc (.cells #[.string name, .string indent, .iface T p] 114) = w' := by
  obtain ⟨-, -, -, -, -, -, -, h7, -⟩ := ht.cells
  rw [hp] at h7
  clear hp ht
  go_enter Tryd.func35, Tryd.ntmps35
  go_wp2
  go_ret2
  exact ⟨rfl, rfl⟩

/-- what zzCut hands back -/
def CutPost (s pat : ByteArray) (w : World) (e : Ending) (w' : World) : Prop := Sm w w' ∧
  match Mu.find (L s) (L pat) 0 with
  | some k => e = .returned (.tuple #[.string (s.extract 0 k), .string (s.extract (k + pat.size) s.size), .bool true])
  | none => e = .returned (.tuple #[.string s, .string ⟨#[]⟩, .bool false])

set_option maxRecDepth 100000 in
set_option maxHeartbeats 1000000 in
theorem zzCut_any (s pat : ByteArray) (w : World) (hs : s.size ≤ 2147483647) (hp : pat.size ≤ 2147483647) (hp0 : 0 < pat.size) :
    Calls Tryd.prog 43 #[.string s, .string pat] w (CutPost s pat w) := by
  cases hf : Mu.find (L s) (L pat) 0 with
  | none =>
    have HF := Lib.hid hf
    clear hf
    go_enter Tryd.func43, Tryd.ntmps43
    go_wp2_with fail
    refine (zzIndex_any s pat _ hs hp).mono ?_
    intro e w1 hpost
    unfold IdxPost at hpost
    rw [HF.out] at hpost
    simp only [idxVal] at hpost
    obtain ⟨rfl, rfl⟩ := hpost
    go_wp2_with fail
    go_ret3
    unfold CutPost
    rw [HF.out]
    exact ⟨Sm.refl _, rfl⟩
  | some k =>
    have hk := Mu.find_le hf (by intro h; rw [← L_length, h] at hp0; exact absurd hp0 (by simp))
    rw [L_length, L_length] at hk
    have HF := Lib.hid hf
    clear hf
    have z1 : (k : Int) ≤ (s.size : Int) := by omega
    have z2 : (k : Int) + (pat.size : Int) ≤ (s.size : Int) := by omega
    go_enter Tryd.func43, Tryd.ntmps43
    go_wp2_with fail
    refine (zzIndex_any s pat _ hs hp).mono ?_
    intro e w1 hpost
    unfold IdxPost at hpost
    rw [HF.out] at hpost
    simp only [idxVal] at hpost
    obtain ⟨rfl, rfl⟩ := hpost
    have z3 : IntKind.i64.wrap ((k : Int) + (pat.size : Int)) = (k : Int) + (pat.size : Int) := IntWalk.i64_in _ (by omega)
    have z4 : (0 : Int) ≤ (k : Int) + (pat.size : Int) := by omega
    have z5 : ((k : Int) + (pat.size : Int)).toNat = k + pat.size := by omega
    have z6 : (0 : Int) ≤ (k : Int) := by omega
    go_wp2_with fail
    go_quiet (fail)
    go_wp2_with fail
    go_ret3
    unfold CutPost
    rw [HF.out]
    exact ⟨Sm.mk _ _, rfl⟩
/-- what parseCustomDelimiter does -/
def DelPost (x : Tm) (t : Nat) (o c : Mu.B) (w : World) (e : Ending) (w' : World) : Prop :=
  e = .returned (.tuple #[]) ∧ Fr (· = t) w w' ∧ ∃ ob cb : ByteArray, L ob = o ∧ L cb = c ∧ TmAt w' t { x with o := ob, c := cb }

theorem cutSp_some {l o c : Mu.B} (h : Mu.cutSp l = some (o, c)) : ∃ k, Mu.find l [32] 0 = some k ∧ o = l.take k ∧ c = l.drop (k + 1) := by
  unfold Mu.cutSp at h
  cases hf : Mu.find l [32] 0 with
  | none => rw [hf] at h; cases h
  | some k =>
    rw [hf] at h
    simp only [Option.map_some, Option.some.injEq, Prod.mk.injEq] at h
    exact ⟨k, rfl, h.1.symm, h.2.symm⟩

set_option maxRecDepth 100000 in
set_option maxHeartbeats 1500000 in
theorem parseCustomDelimiter_any (B t : Nat) (eb : Addr) (x : Tm) (tag : ByteArray) (o c : Mu.B) (w : World) (hs : tag.size ≤ 2147483647) (ha : ∀ b ∈ L tag, b.toNat < 128) (ht : TmAt w t x) (hg : Gl B eb w)
    (hc : Mu.custom (L tag) = some (o, c)) :
    Calls Tryd.prog 36 #[.pointer (some ⟨t, 0, none⟩), .string tag] w (DelPost x t o c w) := by
  unfold Mu.custom at hc
  split at hc
  · cases hc
  rename_i hcond
  have h3 : 3 ≤ tag.size := by
    rw [← L_length]; omega
  have hlast : (L tag).getLast? = some 61 := Classical.byContradiction fun h => hcond (.inr h)
  have hq : tag[tag.size - 1]'(by omega) = 61 := by
    rw [List.getLast?_eq_getElem?, L_length] at hlast
    rw [← L_get _ _ (by omega), List.getD_eq_getElem?_getD, hlast]; rfl
  have hc' : Mu.cutSp (Mu.trimBy Mu.spB (((L tag).drop 1).dropLast)) = some (o, c) := by
    split at hc
    · cases hc
    · split at hc
      · cases hc
      · rename_i h _ ; rw [h, hc]
  obtain ⟨k, hk, ho, hcc⟩ := cutSp_some hc'
  have b0 : decide ((tag.size : Int) < 3) = false := by simp; omega
  have b0' : (3 : Int) ≤ (tag.size : Int) := by omega
  obtain ⟨n, hn⟩ : ∃ n, tag.size = n + 1 := ⟨tag.size - 1, by omega⟩
  have hnn : ((tag.size : Int) - 1) = (n : Int) := by omega
  have hn1 : n < tag.size := by omega
  have hq' : tag[n] = 61 := by
    have e : n = tag.size - 1 := by omega
    subst e
    exact hq
  have b1 : ((tag[n].toNat : Int) != 61) = false := byte_eq' (b := 61) hq'
  have z1 : (1 : Int) ≤ (n : Int) := by omega
  have z2 : (n : Int) ≤ (tag.size : Int) := by omega
  have HT := Lib.hid ht
  have HG := Lib.hid hg
  have hin : ((L tag).drop 1).dropLast = L (tag.extract 1 n) := by
    rw [L_extract, Mu.sub, List.dropLast_eq_take, List.length_drop, L_length, hn, List.drop_take]
    congr 1
  have HHO := Lib.hid ho
  have HHC := Lib.hid hcc
  have HIN := Lib.hid hin
  have HK := Lib.hid hk
  have hts : (tag.extract 1 n).size ≤ 2147483647 := by rw [ByteArray.size_extract]; omega
  have HA : Hid (∀ b ∈ L (tag.extract 1 n), b.toNat < 128) := Lib.hid (fun b hb => ha b (Mu.mem_sub (by rw [← L_extract]; exact hb)))
  clear hlast hq hq' hcond hin ho hcc hk ha ht hg hc hc' hn
  go_enter Tryd.func36, Tryd.ntmps36
  go_wp2_with fail
  refine (trimSpace_any (tag.extract 1 n) _ hts HA.out HG.out).mono ?_
  rintro e w1 ⟨r, rfl, hr, hf⟩
  have HT1 := Lib.hid (HT.out.fr0 hf)
  have HR1 := Lib.hid hf
  have HRR : Hid (L r = Mu.trimBy Mu.spB (((L tag).drop 1).dropLast)) := Lib.hid (by rw [hr, HIN.out])
  have hrs : r.size ≤ 2147483647 := by
    have := Mu.trimBy_length Mu.spB (L (tag.extract 1 n))
    rw [← hr, L_length, L_length] at this; omega
  clear hr hf
  go_wp2_with fail
  refine (zzCut_any r _ _ hrs (by decide) (by decide)).mono ?_
  intro e w2 hpost
  unfold CutPost at hpost
  have hk2 : Mu.find (L r) (L ⟨#[32]⟩) 0 = some k := by rw [HRR.out]; exact HK.out
  rw [hk2] at hpost
  obtain ⟨hsm, rfl⟩ := hpost
  have HT2 := Lib.hid (HT1.out.sm hsm)
  have HR2 := Lib.hid ((Fr.of0 (M := (· = t)) HR1.out).trans (hsm.fr (· = t)))
  obtain ⟨-, h1, h2, -⟩ := HT2.out.cells
  have f1 := HT2.out.free 1
  have f2 := HT2.out.free 2
  clear hsm hk2
  go_wp2_with fail
  go_end0
  refine ⟨rfl, (HR2.out.trans (Fr.setCell (M := (· = t)) _ _ _ (.inl rfl))).trans (Fr.setCell (M := (· = t)) _ _ _ (.inl rfl)), r.extract 0 k, r.extract (k + 1) r.size, ?_, ?_, ((HT2.out.set1 _).set2 _)⟩
  · rw [L_extract, HHO.out, ← HRR.out]; simp [Mu.sub]
  · rw [L_extract, HHC.out, ← HRR.out, ← L_length, Mu.sub_to_end]
end Go.Proofs.YtfakghnpkdoclaaDoor
