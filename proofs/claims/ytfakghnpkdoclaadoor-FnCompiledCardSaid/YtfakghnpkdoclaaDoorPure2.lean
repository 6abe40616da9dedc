/-
  Plain Lean, no program: one step of the package's reader.
-/
import Derived.Test.YtfakghnpkdoclaaDoorPure1
set_option linter.unusedVariables false
set_option linter.unusedSimpArgs false
namespace Go.Proofs.YtfakghnpkdoclaaDoor.Mu

abbrev IRes := Option (Option (List Elem × ISt))
/-- parts ahead of what is read -/
def pre (l : List Elem) (r : IRes) : IRes := r.map fun q => q.map fun x => (l ++ x.1, x.2)
theorem pre_pre (l m : List Elem) (r : IRes) : pre l (pre m r) = pre (l ++ m) r := by
  cases r with
  | none => rfl
  | some q => cases q <;> simp [pre]
theorem pre_nil (r : IRes) : pre [] r = r := by
  cases r with
  | none => rfl
  | some q => cases q <;> simp [pre]
theorem pre_some_none {l : List Elem} {r : IRes} (h : pre l r = some none) : r = some none := by
  cases r with
  | none => cases h
  | some q => cases q with
    | none => rfl
    | some x => simp [pre] at h
theorem pre_err (l : List Elem) : pre l (some none) = some none := rfl
theorem pre_ok (l es : List Elem) (st : ISt) : pre l (some (some (es, st))) = some (some (l ++ es, st)) := rfl

def txOf (tr : TextR) (tg : TagR) : List Elem := .text tr.text :: (if tg.alone then [] else [Elem.text tr.pad])

theorem txOf_length (tr : TextR) (tg : TagR) : (txOf tr tg).length ≤ 2 := by
  unfold txOf
  split <;> simp
section
variable {s : B} {raw : Bool} {n depth : Nat} {st : ISt} {nm : Option B} {tr : TextR} {tg : TagR}

theorem step_eof_sec {m : B} (h1 : rdText s st.pos st.o = none) : iparse s raw (n + 1) depth st (some m) = some none := by
  simp only [iparse, h1]
theorem step_eof_top (h1 : rdText s st.pos st.o = none) : iparse s raw (n + 1) depth st none = some (some ([.text (s.drop st.pos)], { st with pos := s.length })) := by
  simp only [iparse, h1]
theorem step_tag (h1 : rdText s st.pos st.o = some tr) (h2 : rdTag s tr.pos st.c tr.may = none) : iparse s raw (n + 1) depth st nm = some none := by
  simp only [iparse, h1, h2]
theorem step_bang (h1 : rdText s st.pos st.o = some tr) (h2 : rdTag s tr.pos st.c tr.may = some tg) (hk : tg.tag.getD 0 0 = 33) :
    iparse s raw (n + 1) depth st nm = pre (txOf tr tg) (iparse s raw n depth { st with pos := tg.pos } nm) := by
  simp only [iparse, h1, h2, hk, pre, txOf, if_true, List.append_nil]
theorem step_deep (h1 : rdText s st.pos st.o = some tr) (h2 : rdTag s tr.pos st.c tr.may = some tg) (hk : tg.tag.getD 0 0 = 35 ∨ tg.tag.getD 0 0 = 94) (hd : 10000 < depth + 1) :
    iparse s raw (n + 1) depth st nm = some none := by
  have h33 : ¬ tg.tag.getD 0 0 = 33 := by rcases hk with h | h <;> rw [h] <;> decide
  simp only [iparse, h1, h2, h33, if_false, hk, if_true, hd]
theorem step_sect (h1 : rdText s st.pos st.o = some tr) (h2 : rdTag s tr.pos st.c tr.may = some tg) (hk : tg.tag.getD 0 0 = 35 ∨ tg.tag.getD 0 0 = 94) (hd : ¬ 10000 < depth + 1) :
    iparse s raw (n + 1) depth st nm = match iparse s raw n (depth + 1) { st with pos := tg.pos } (some (trimBy spB (tg.tag.drop 1))) with
      | none => none
      | some none => some none
      | some (some x) => pre (txOf tr tg ++ [.sect (trimBy spB (tg.tag.drop 1)) (tg.tag.getD 0 0 == 94) x.1]) (iparse s raw n depth x.2 nm) := by
  have h33 : ¬ tg.tag.getD 0 0 = 33 := by rcases hk with h | h <;> rw [h] <;> decide
  simp only [iparse, h1, h2, h33, if_false, hk, if_true, hd, pre, txOf]
  rfl
theorem step_sect_err (h1 : rdText s st.pos st.o = some tr) (h2 : rdTag s tr.pos st.c tr.may = some tg) (hk : tg.tag.getD 0 0 = 35 ∨ tg.tag.getD 0 0 = 94) (hd : ¬ 10000 < depth + 1)
    (h3 : iparse s raw n (depth + 1) { st with pos := tg.pos } (some (trimBy spB (tg.tag.drop 1))) = some none) : iparse s raw (n + 1) depth st nm = some none := by
  rw [step_sect h1 h2 hk hd, h3]
theorem step_sect_ok {x : List Elem × ISt} (h1 : rdText s st.pos st.o = some tr) (h2 : rdTag s tr.pos st.c tr.may = some tg) (hk : tg.tag.getD 0 0 = 35 ∨ tg.tag.getD 0 0 = 94) (hd : ¬ 10000 < depth + 1)
    (h3 : iparse s raw n (depth + 1) { st with pos := tg.pos } (some (trimBy spB (tg.tag.drop 1))) = some (some x)) :
    iparse s raw (n + 1) depth st nm = pre (txOf tr tg ++ [.sect (trimBy spB (tg.tag.drop 1)) (tg.tag.getD 0 0 == 94) x.1]) (iparse s raw n depth x.2 nm) := by
  rw [step_sect h1 h2 hk hd, h3]
theorem step_sect_none (h1 : rdText s st.pos st.o = some tr) (h2 : rdTag s tr.pos st.c tr.may = some tg) (hk : tg.tag.getD 0 0 = 35 ∨ tg.tag.getD 0 0 = 94) (hd : ¬ 10000 < depth + 1)
    (h3 : iparse s raw n (depth + 1) { st with pos := tg.pos } (some (trimBy spB (tg.tag.drop 1))) = none) : iparse s raw (n + 1) depth st nm = none := by
  rw [step_sect h1 h2 hk hd, h3]
theorem step_close_top (h1 : rdText s st.pos st.o = some tr) (h2 : rdTag s tr.pos st.c tr.may = some tg) (hk : tg.tag.getD 0 0 = 47) :
    iparse s raw (n + 1) depth st none = some none := by
  have h : ∀ k : UInt8, 47 ≠ k → ¬ tg.tag.getD 0 0 = k := fun k hn he => hn (hk.symm.trans he)
  simp only [iparse, h1, h2, h 33 (by decide), h 35 (by decide), h 94 (by decide), if_false, or_self, hk, if_true, pre, txOf, List.append_nil]
  try rfl

theorem step_close {m : B} (h1 : rdText s st.pos st.o = some tr) (h2 : rdTag s tr.pos st.c tr.may = some tg) (hk : tg.tag.getD 0 0 = 47) :
    iparse s raw (n + 1) depth st (some m) = if trimBy spB (tg.tag.drop 1) = m then some (some (txOf tr tg, { st with pos := tg.pos })) else some none := by
  have h : ∀ k : UInt8, 47 ≠ k → ¬ tg.tag.getD 0 0 = k := fun k hn he => hn (hk.symm.trans he)
  simp only [iparse, h1, h2, h 33 (by decide), h 35 (by decide), h 94 (by decide), if_false, or_self, hk, if_true, pre, txOf, List.append_nil]
  try rfl

theorem step_part (h1 : rdText s st.pos st.o = some tr) (h2 : rdTag s tr.pos st.c tr.may = some tg) (hk : tg.tag.getD 0 0 = 62) :
    iparse s raw (n + 1) depth st nm = pre (txOf tr tg ++ [.part (trimBy spB (tg.tag.drop 1)) tr.pad]) (iparse s raw n depth { st with pos := tg.pos } nm) := by
  have h : ∀ k : UInt8, 62 ≠ k → ¬ tg.tag.getD 0 0 = k := fun k hn he => hn (hk.symm.trans he)
  simp only [iparse, h1, h2, h 33 (by decide), h 35 (by decide), h 94 (by decide), h 47 (by decide), if_false, or_self, hk, if_true, pre, txOf, List.append_nil]
  try rfl

theorem step_set_none (h1 : rdText s st.pos st.o = some tr) (h2 : rdTag s tr.pos st.c tr.may = some tg) (hk : tg.tag.getD 0 0 = 61) (hc : custom tg.tag = none) :
    iparse s raw (n + 1) depth st nm = none := by
  have h : ∀ k : UInt8, 61 ≠ k → ¬ tg.tag.getD 0 0 = k := fun k hn he => hn (hk.symm.trans he)
  simp only [iparse, h1, h2, h 33 (by decide), h 35 (by decide), h 94 (by decide), h 47 (by decide), h 62 (by decide), if_false, or_self, hk, if_true, hc, pre, txOf, List.append_nil]
  try rfl

theorem step_set {o c : B} (h1 : rdText s st.pos st.o = some tr) (h2 : rdTag s tr.pos st.c tr.may = some tg) (hk : tg.tag.getD 0 0 = 61) (hc : custom tg.tag = some (o, c)) :
    iparse s raw (n + 1) depth st nm = pre (txOf tr tg) (iparse s raw n depth ⟨tg.pos, o, c⟩ nm) := by
  have h : ∀ k : UInt8, 61 ≠ k → ¬ tg.tag.getD 0 0 = k := fun k hn he => hn (hk.symm.trans he)
  simp only [iparse, h1, h2, h 33 (by decide), h 35 (by decide), h 94 (by decide), h 47 (by decide), h 62 (by decide), if_false, or_self, hk, if_true, hc, pre, txOf, List.append_nil]
  try rfl

theorem step_raw (h1 : rdText s st.pos st.o = some tr) (h2 : rdTag s tr.pos st.c tr.may = some tg) (hk : tg.tag.getD 0 0 = 123) (hl : tg.tag.getLast? = some 125) :
    iparse s raw (n + 1) depth st nm = pre (txOf tr tg ++ [.var (trimBy spB ((tg.tag.drop 1).dropLast)) true]) (iparse s raw n depth { st with pos := tg.pos } nm) := by
  have h : ∀ k : UInt8, 123 ≠ k → ¬ tg.tag.getD 0 0 = k := fun k hn he => hn (hk.symm.trans he)
  simp only [iparse, h1, h2, h 33 (by decide), h 35 (by decide), h 94 (by decide), h 47 (by decide), h 62 (by decide), h 61 (by decide), if_false, or_self, hk, if_true, hl, pre, txOf, List.append_nil]
  try rfl

theorem step_raw_no (h1 : rdText s st.pos st.o = some tr) (h2 : rdTag s tr.pos st.c tr.may = some tg) (hk : tg.tag.getD 0 0 = 123) (hl : ¬ tg.tag.getLast? = some 125) :
    iparse s raw (n + 1) depth st nm = pre (txOf tr tg) (iparse s raw n depth { st with pos := tg.pos } nm) := by
  have h : ∀ k : UInt8, 123 ≠ k → ¬ tg.tag.getD 0 0 = k := fun k hn he => hn (hk.symm.trans he)
  simp only [iparse, h1, h2, h 33 (by decide), h 35 (by decide), h 94 (by decide), h 47 (by decide), h 62 (by decide), h 61 (by decide), if_false, or_self, hk, if_true, hl, pre, txOf, List.append_nil]
  try rfl

theorem step_amp (h1 : rdText s st.pos st.o = some tr) (h2 : rdTag s tr.pos st.c tr.may = some tg) (hk : tg.tag.getD 0 0 = 38) :
    iparse s raw (n + 1) depth st nm = pre (txOf tr tg ++ [.var (trimBy spB (tg.tag.drop 1)) true]) (iparse s raw n depth { st with pos := tg.pos } nm) := by
  have h : ∀ k : UInt8, 38 ≠ k → ¬ tg.tag.getD 0 0 = k := fun k hn he => hn (hk.symm.trans he)
  simp only [iparse, h1, h2, h 33 (by decide), h 35 (by decide), h 94 (by decide), h 47 (by decide), h 62 (by decide), h 61 (by decide), h 123 (by decide), if_false, or_self, hk, if_true, pre, txOf, List.append_nil]
  try rfl

theorem step_var (h1 : rdText s st.pos st.o = some tr) (h2 : rdTag s tr.pos st.c tr.may = some tg) (hk : ∀ k, k = 33 ∨ k = 35 ∨ k = 94 ∨ k = 47 ∨ k = 62 ∨ k = 61 ∨ k = 123 ∨ k = 38 → tg.tag.getD 0 0 ≠ k) :
    iparse s raw (n + 1) depth st nm = pre (txOf tr tg ++ [.var tg.tag raw]) (iparse s raw n depth { st with pos := tg.pos } nm) := by
  have h33 := hk 33 (by simp)
  have h35 := hk 35 (by simp)
  have h94 := hk 94 (by simp)
  have h47 := hk 47 (by simp)
  have h62 := hk 62 (by simp)
  have h61 := hk 61 (by simp)
  have h123 := hk 123 (by simp)
  have h38 := hk 38 (by simp)
  simp only [iparse, h1, h2, h33, h35, h94, h47, h62, h61, h123, h38, if_false, or_self, pre, txOf]
end

/-! ### where the reader comes to -/
theorem rdText_pos {s o : B} {p : Nat} {tr : TextR} (h : rdText s p o = some tr) (ho : o ≠ []) : p < tr.pos ∧ tr.pos ≤ s.length ∧ tr.text.length ≤ s.length ∧ tr.pad.length ≤ s.length := by
  unfold rdText at h
  split at h
  · cases h
  · rename_i i hi
    have h1 := (find_some hi).1
    have h2 := find_le hi ho
    have h3 : 0 < o.length := List.length_pos_iff.2 ho
    have hb := backTo_le s p i
    have hb2 := backTo_ge s p i h1
    have hsub : ∀ a b, b ≤ s.length → (sub s a b).length ≤ s.length := fun a b hb => by rw [sub_length s a b hb]; omega
    dsimp only at h
    split at h
    · cases h
      exact ⟨by dsimp only; omega, by dsimp only; omega, hsub _ _ (by omega), hsub _ _ (by omega)⟩
    · cases h
      exact ⟨by dsimp only; omega, by dsimp only; omega, hsub _ _ (by omega), by simp⟩
theorem rdTag_pos {s c : B} {p : Nat} {may : Bool} {tg : TagR} (h : rdTag s p c may = some tg) (hc : c ≠ []) : p ≤ tg.pos ∧ tg.pos ≤ s.length ∧ tg.tag ≠ [] ∧ (∀ b ∈ tg.tag, b ∈ s) ∧ tg.tag.length ≤ s.length := by
  unfold rdTag at h
  split at h
  · cases h
  · rename_i e he
    have hp : tagPat s p c ≠ [] := by unfold tagPat; split <;> simp [hc]
    have h1 := (find_some he).1
    have h2 := find_le he hp
    have hm : ∀ b ∈ trimBy spB (sub s p (e + (tagPat s p c).length - c.length)), b ∈ s := fun b hb => mem_sub (mem_trimBy hb)
    have hl : (trimBy spB (sub s p (e + (tagPat s p c).length - c.length))).length ≤ s.length := by
      have := trimBy_length spB (sub s p (e + (tagPat s p c).length - c.length))
      rw [sub_length _ _ _ (by omega)] at this
      omega
    have hw := eow_le s (e + (tagPat s p c).length) h2
    dsimp only at h
    split at h
    · cases h
    · rename_i hne
      split at h
      · split at h
        · split at h
          · cases h; exact ⟨by dsimp only; omega, by dsimp only; omega, hne, hm, hl⟩
          · split at h
            · rename_i h10 
              cases h
              refine ⟨by dsimp only; omega, ?_, hne, hm, hl⟩
              dsimp only
              omega
            · split at h
              · rename_i h13
                cases h
                refine ⟨by dsimp only; omega, ?_, hne, hm, hl⟩
                dsimp only
                omega
              · cases h; exact ⟨by dsimp only; omega, by dsimp only; omega, hne, hm, hl⟩
        · cases h; exact ⟨by dsimp only; omega, by dsimp only; omega, hne, hm, hl⟩
      · cases h; exact ⟨by dsimp only; omega, by dsimp only; omega, hne, hm, hl⟩
theorem custom_ok {tag o c : B} (h : custom tag = some (o, c)) : (0 < o.length ∧ o.length ≤ 1000) ∧ 0 < c.length ∧ c.length ≤ 1000 := by
  unfold custom at h
  split at h
  · cases h
  · split at h
    · cases h
    · split at h
      · cases h
      · rename_i hn
        simp only [Option.some.injEq, Prod.mk.injEq] at h
        obtain ⟨rfl, rfl⟩ := h
        simp only [not_or] at hn
        exact ⟨⟨List.length_pos_iff.2 hn.1, by omega⟩, List.length_pos_iff.2 hn.2.1, by omega⟩
end Go.Proofs.YtfakghnpkdoclaaDoor.Mu
