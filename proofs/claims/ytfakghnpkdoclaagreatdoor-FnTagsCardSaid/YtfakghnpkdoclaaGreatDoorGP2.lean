/-
  The plain laws: both readers, both renders, and that they agree. (Joined by wip/pack.py.)
-/
import Derived.Test.YtfakghnpkdoclaaGreatDoorGP1
import Derived.Lib.ItoaNum
set_option linter.unusedVariables false
set_option linter.unusedSimpArgs false
namespace Go.Proofs.YtfakghnpkdoclaaGreatDoor.Mu
abbrev IRes := Option (Option (List Elem × ISt))
def pre (l : List Elem) (r : IRes) : IRes := r.map fun q => q.map fun x => (l ++ x.1, x.2)
theorem pre_pre (l m : List Elem) (r : IRes) : pre l (pre m r) = pre (l ++ m) r := by
 cases r with
 | none => rfl
 | some q => cases q <;> simp [pre]
theorem pre_nil (r : IRes) : pre [] r = r := by
 cases r with
 | none => rfl
 | some q => cases q <;> simp [pre]
theorem pre_err (l : List Elem) : pre l (some none) = some none := rfl
theorem pre_ok (l es : List Elem) (st : ISt) : pre l (some (some (es, st))) = some (some (l ++ es, st)) := rfl
def txOf (tr : TextR) (tg : TagR) : List Elem := .text tr.text :: (if tg.alone then [] else [Elem.text tr.pad])
theorem txOf_length (tr : TextR) (tg : TagR) : (txOf tr tg).length ≤ 2 := by
 unfold txOf
 split <;> simp
section
variable {s : B} {raw : Bool} {n depth : Nat} {st : ISt} {nm : Option B} {tr : TextR} {tg : TagR}
theorem step_eof_sec {m : B} (h1 : rdText s st.pos st.o = none) : iparse s raw (n + 1) depth st (some m) = some none := by
 simp only [iparse, h1]
theorem step_eof_top (h1 : rdText s st.pos st.o = none) : iparse s raw (n + 1) depth st none = some (some ([.text (s.drop st.pos)], { st with pos := s.length })) := by
 simp only [iparse, h1]
theorem step_tag (h1 : rdText s st.pos st.o = some tr) (h2 : rdTag s tr.pos st.c tr.may = none) : iparse s raw (n + 1) depth st nm = some none := by
 simp only [iparse, h1, h2]
theorem step_bang (h1 : rdText s st.pos st.o = some tr) (h2 : rdTag s tr.pos st.c tr.may = some tg) (hk : tg.tag.getD 0 0 = 33) :
 iparse s raw (n + 1) depth st nm = pre (txOf tr tg) (iparse s raw n depth { st with pos := tg.pos } nm) := by
 simp only [iparse, h1, h2, hk, pre, txOf, if_true, List.append_nil]
theorem step_deep (h1 : rdText s st.pos st.o = some tr) (h2 : rdTag s tr.pos st.c tr.may = some tg) (hk : tg.tag.getD 0 0 = 35 ∨ tg.tag.getD 0 0 = 94) (hd : 10000 < depth + 1) :
 iparse s raw (n + 1) depth st nm = some none := by
 have h33 : ¬ tg.tag.getD 0 0 = 33 := by rcases hk with h | h <;> rw [h] <;> decide
 simp only [iparse, h1, h2, h33, if_false, hk, if_true, hd]
theorem step_sect (h1 : rdText s st.pos st.o = some tr) (h2 : rdTag s tr.pos st.c tr.may = some tg) (hk : tg.tag.getD 0 0 = 35 ∨ tg.tag.getD 0 0 = 94) (hd : ¬ 10000 < depth + 1) :
 iparse s raw (n + 1) depth st nm = match iparse s raw n (depth + 1) { st with pos := tg.pos } (some (trimBy spB (tg.tag.drop 1))) with
  | none => none
  | some none => some none
  | some (some x) => pre (txOf tr tg ++ [.sect (trimBy spB (tg.tag.drop 1)) (tg.tag.getD 0 0 == 94) x.1]) (iparse s raw n depth x.2 nm) := by
 have h33 : ¬ tg.tag.getD 0 0 = 33 := by rcases hk with h | h <;> rw [h] <;> decide
 simp only [iparse, h1, h2, h33, if_false, hk, if_true, hd, pre, txOf]
 rfl
theorem step_sect_err (h1 : rdText s st.pos st.o = some tr) (h2 : rdTag s tr.pos st.c tr.may = some tg) (hk : tg.tag.getD 0 0 = 35 ∨ tg.tag.getD 0 0 = 94) (hd : ¬ 10000 < depth + 1)
 (h3 : iparse s raw n (depth + 1) { st with pos := tg.pos } (some (trimBy spB (tg.tag.drop 1))) = some none) : iparse s raw (n + 1) depth st nm = some none := by
 rw [step_sect h1 h2 hk hd, h3]
theorem step_sect_ok {x : List Elem × ISt} (h1 : rdText s st.pos st.o = some tr) (h2 : rdTag s tr.pos st.c tr.may = some tg) (hk : tg.tag.getD 0 0 = 35 ∨ tg.tag.getD 0 0 = 94) (hd : ¬ 10000 < depth + 1)
 (h3 : iparse s raw n (depth + 1) { st with pos := tg.pos } (some (trimBy spB (tg.tag.drop 1))) = some (some x)) :
 iparse s raw (n + 1) depth st nm = pre (txOf tr tg ++ [.sect (trimBy spB (tg.tag.drop 1)) (tg.tag.getD 0 0 == 94) x.1]) (iparse s raw n depth x.2 nm) := by
 rw [step_sect h1 h2 hk hd, h3]
theorem step_sect_none (h1 : rdText s st.pos st.o = some tr) (h2 : rdTag s tr.pos st.c tr.may = some tg) (hk : tg.tag.getD 0 0 = 35 ∨ tg.tag.getD 0 0 = 94) (hd : ¬ 10000 < depth + 1)
 (h3 : iparse s raw n (depth + 1) { st with pos := tg.pos } (some (trimBy spB (tg.tag.drop 1))) = none) : iparse s raw (n + 1) depth st nm = none := by
 rw [step_sect h1 h2 hk hd, h3]
theorem step_close_top (h1 : rdText s st.pos st.o = some tr) (h2 : rdTag s tr.pos st.c tr.may = some tg) (hk : tg.tag.getD 0 0 = 47) :
 iparse s raw (n + 1) depth st none = some none := by
 have h : ∀ k : UInt8, 47 ≠ k → ¬ tg.tag.getD 0 0 = k := fun k hn he => hn (hk.symm.trans he)
 simp only [iparse, h1, h2, h 33 (by decide), h 35 (by decide), h 94 (by decide), if_false, or_self, hk, if_true, pre, txOf, List.append_nil]
 try rfl
theorem step_close {m : B} (h1 : rdText s st.pos st.o = some tr) (h2 : rdTag s tr.pos st.c tr.may = some tg) (hk : tg.tag.getD 0 0 = 47) :
 iparse s raw (n + 1) depth st (some m) = if trimBy spB (tg.tag.drop 1) = m then some (some (txOf tr tg, { st with pos := tg.pos })) else some none := by
 have h : ∀ k : UInt8, 47 ≠ k → ¬ tg.tag.getD 0 0 = k := fun k hn he => hn (hk.symm.trans he)
 simp only [iparse, h1, h2, h 33 (by decide), h 35 (by decide), h 94 (by decide), if_false, or_self, hk, if_true, pre, txOf, List.append_nil]
 try rfl
theorem step_part (h1 : rdText s st.pos st.o = some tr) (h2 : rdTag s tr.pos st.c tr.may = some tg) (hk : tg.tag.getD 0 0 = 62) :
 iparse s raw (n + 1) depth st nm = pre (txOf tr tg ++ [.part (trimBy spB (tg.tag.drop 1)) tr.pad]) (iparse s raw n depth { st with pos := tg.pos } nm) := by
 have h : ∀ k : UInt8, 62 ≠ k → ¬ tg.tag.getD 0 0 = k := fun k hn he => hn (hk.symm.trans he)
 simp only [iparse, h1, h2, h 33 (by decide), h 35 (by decide), h 94 (by decide), h 47 (by decide), if_false, or_self, hk, if_true, pre, txOf, List.append_nil]
 try rfl
theorem step_set_none (h1 : rdText s st.pos st.o = some tr) (h2 : rdTag s tr.pos st.c tr.may = some tg) (hk : tg.tag.getD 0 0 = 61) (hc : custom tg.tag = none) :
 iparse s raw (n + 1) depth st nm = none := by
 have h : ∀ k : UInt8, 61 ≠ k → ¬ tg.tag.getD 0 0 = k := fun k hn he => hn (hk.symm.trans he)
 simp only [iparse, h1, h2, h 33 (by decide), h 35 (by decide), h 94 (by decide), h 47 (by decide), h 62 (by decide), if_false, or_self, hk, if_true, hc, pre, txOf, List.append_nil]
 try rfl
theorem step_set {o c : B} (h1 : rdText s st.pos st.o = some tr) (h2 : rdTag s tr.pos st.c tr.may = some tg) (hk : tg.tag.getD 0 0 = 61) (hc : custom tg.tag = some (o, c)) :
 iparse s raw (n + 1) depth st nm = pre (txOf tr tg) (iparse s raw n depth ⟨tg.pos, o, c⟩ nm) := by
 have h : ∀ k : UInt8, 61 ≠ k → ¬ tg.tag.getD 0 0 = k := fun k hn he => hn (hk.symm.trans he)
 simp only [iparse, h1, h2, h 33 (by decide), h 35 (by decide), h 94 (by decide), h 47 (by decide), h 62 (by decide), if_false, or_self, hk, if_true, hc, pre, txOf, List.append_nil]
 try rfl
theorem step_raw (h1 : rdText s st.pos st.o = some tr) (h2 : rdTag s tr.pos st.c tr.may = some tg) (hk : tg.tag.getD 0 0 = 123) (hl : tg.tag.getLast? = some 125) :
 iparse s raw (n + 1) depth st nm = pre (txOf tr tg ++ [.var (trimBy spB ((tg.tag.drop 1).dropLast)) true]) (iparse s raw n depth { st with pos := tg.pos } nm) := by
 have h : ∀ k : UInt8, 123 ≠ k → ¬ tg.tag.getD 0 0 = k := fun k hn he => hn (hk.symm.trans he)
 simp only [iparse, h1, h2, h 33 (by decide), h 35 (by decide), h 94 (by decide), h 47 (by decide), h 62 (by decide), h 61 (by decide), if_false, or_self, hk, if_true, hl, pre, txOf, List.append_nil]
 try rfl
theorem step_raw_no (h1 : rdText s st.pos st.o = some tr) (h2 : rdTag s tr.pos st.c tr.may = some tg) (hk : tg.tag.getD 0 0 = 123) (hl : ¬ tg.tag.getLast? = some 125) :
 iparse s raw (n + 1) depth st nm = pre (txOf tr tg) (iparse s raw n depth { st with pos := tg.pos } nm) := by
 have h : ∀ k : UInt8, 123 ≠ k → ¬ tg.tag.getD 0 0 = k := fun k hn he => hn (hk.symm.trans he)
 simp only [iparse, h1, h2, h 33 (by decide), h 35 (by decide), h 94 (by decide), h 47 (by decide), h 62 (by decide), h 61 (by decide), if_false, or_self, hk, if_true, hl, pre, txOf, List.append_nil]
 try rfl
theorem step_amp (h1 : rdText s st.pos st.o = some tr) (h2 : rdTag s tr.pos st.c tr.may = some tg) (hk : tg.tag.getD 0 0 = 38) :
 iparse s raw (n + 1) depth st nm = pre (txOf tr tg ++ [.var (trimBy spB (tg.tag.drop 1)) true]) (iparse s raw n depth { st with pos := tg.pos } nm) := by
 have h : ∀ k : UInt8, 38 ≠ k → ¬ tg.tag.getD 0 0 = k := fun k hn he => hn (hk.symm.trans he)
 simp only [iparse, h1, h2, h 33 (by decide), h 35 (by decide), h 94 (by decide), h 47 (by decide), h 62 (by decide), h 61 (by decide), h 123 (by decide), if_false, or_self, hk, if_true, pre, txOf, List.append_nil]
 try rfl
theorem step_var (h1 : rdText s st.pos st.o = some tr) (h2 : rdTag s tr.pos st.c tr.may = some tg) (hk : ∀ k, k = 33 ∨ k = 35 ∨ k = 94 ∨ k = 47 ∨ k = 62 ∨ k = 61 ∨ k = 123 ∨ k = 38 → tg.tag.getD 0 0 ≠ k) :
 iparse s raw (n + 1) depth st nm = pre (txOf tr tg ++ [.var tg.tag raw]) (iparse s raw n depth { st with pos := tg.pos } nm) := by
 have h33 := hk 33 (by simp)
 have h35 := hk 35 (by simp)
 have h94 := hk 94 (by simp)
 have h47 := hk 47 (by simp)
 have h62 := hk 62 (by simp)
 have h61 := hk 61 (by simp)
 have h123 := hk 123 (by simp)
 have h38 := hk 38 (by simp)
 simp only [iparse, h1, h2, h33, h35, h94, h47, h62, h61, h123, h38, if_false, or_self, pre, txOf]
end
theorem rdText_pos {s o : B} {p : Nat} {tr : TextR} (h : rdText s p o = some tr) (ho : o ≠ []) : p < tr.pos ∧ tr.pos ≤ s.length ∧ tr.text.length ≤ s.length ∧ tr.pad.length ≤ s.length := by
 unfold rdText at h
 split at h
 · cases h
 · rename_i i hi
   have h1 := (find_some hi).1;have h2 := find_le hi ho;have h3 : 0 < o.length := List.length_pos_iff.2 ho;have hb := backTo_le s p i;have hb2 := backTo_ge s p i h1;have hsub : ∀ a b, b ≤ s.length → (sub s a b).length ≤ s.length := fun a b hb => by rw [sub_length s a b hb]; omega
   dsimp only at h
   split at h
   · cases h
     exact ⟨by dsimp only; omega, by dsimp only; omega, hsub _ _ (by omega), hsub _ _ (by omega)⟩
   · cases h
     exact ⟨by dsimp only; omega, by dsimp only; omega, hsub _ _ (by omega), by simp⟩
theorem rdTag_pos {s c : B} {p : Nat} {may : Bool} {tg : TagR} (h : rdTag s p c may = some tg) (hc : c ≠ []) : p ≤ tg.pos ∧ tg.pos ≤ s.length ∧ tg.tag ≠ [] ∧ (∀ b ∈ tg.tag, b ∈ s) ∧ tg.tag.length ≤ s.length := by
 unfold rdTag at h
 split at h
 · cases h
 · rename_i e he
   have hp : tagPat s p c ≠ [] := by unfold tagPat; split <;> simp [hc]
   have h1 := (find_some he).1;have h2 := find_le he hp;have hm : ∀ b ∈ trimBy spB (sub s p (e + (tagPat s p c).length - c.length)), b ∈ s := fun b hb => mem_sub (mem_trimBy hb)
   have hl : (trimBy spB (sub s p (e + (tagPat s p c).length - c.length))).length ≤ s.length := by
    have := trimBy_length spB (sub s p (e + (tagPat s p c).length - c.length));rw [sub_length _ _ _ (by omega)] at this;omega
   have hw := eow_le s (e + (tagPat s p c).length) h2
   dsimp only at h
   split at h
   · cases h
   · rename_i hne
     split at h
     · split at h
       · split at h
         · cases h; exact ⟨by dsimp only; omega, by dsimp only; omega, hne, hm, hl⟩
         · split at h
           · rename_i h10
             cases h
             refine ⟨by dsimp only; omega, ?_, hne, hm, hl⟩
             dsimp only
             omega
           · split at h
             · rename_i h13
               cases h
               refine ⟨by dsimp only; omega, ?_, hne, hm, hl⟩
               dsimp only
               omega
             · cases h; exact ⟨by dsimp only; omega, by dsimp only; omega, hne, hm, hl⟩
       · cases h; exact ⟨by dsimp only; omega, by dsimp only; omega, hne, hm, hl⟩
     · cases h; exact ⟨by dsimp only; omega, by dsimp only; omega, hne, hm, hl⟩
theorem custom_ok {tag o c : B} (h : custom tag = some (o, c)) : (0 < o.length ∧ o.length ≤ 1000) ∧ 0 < c.length ∧ c.length ≤ 1000 := by
 unfold custom at h
 split at h
 · cases h
 · split at h
   · cases h
   · split at h
     · cases h
     · rename_i hn
       simp only [Option.some.injEq, Prod.mk.injEq] at h;obtain ⟨rfl, rfl⟩ := h;simp only [not_or] at hn;exact ⟨⟨List.length_pos_iff.2 hn.1, by omega⟩, List.length_pos_iff.2 hn.2.1, by omega⟩
end Go.Proofs.YtfakghnpkdoclaaGreatDoor.Mu
namespace Go.Proofs.YtfakghnpkdoclaaGreatDoor.Mu
def signB (b : UInt8) : Bool := (32 ≤ b && b ≤ 126) || b == 10
def signs (s : B) : Prop := ∀ b ∈ s, signB b = true
theorem getD_app (s t : B) (k : Nat) (h : k < s.length) : (s ++ t).getD k 0 = s.getD k 0 := by
 simp [List.getD_eq_getElem?_getD, List.getElem?_append_left h]
theorem sub_app (s t : B) (a b : Nat) (h : b ≤ s.length) : sub (s ++ t) a b = sub s a b := by
 unfold sub
 rw [List.take_append_of_le_length h]
theorem at_app {s pat : B} (t : B) {i : Nat} (h : At s pat i) : At (s ++ t) pat i := by
 unfold At at *
 rw [List.drop_append]
 exact h.trans (List.prefix_append _ _)
theorem at_of_app {s t pat : B} {i : Nat} (h : At (s ++ t) pat i) (hl : i + pat.length ≤ s.length) : At s pat i :=
 at_of_get hl fun j hj => by rw [← getD_app s t _ (by omega)]; exact h.get j hj
theorem find_app {s pat : B} (t : B) {i f : Nat} (hp : pat ≠ []) (h : find s pat i = some f) : find (s ++ t) pat i = some f := by
 have h1 := find_some h
 have h2 := find_le h hp
 exact find_eq h1.1 (at_app t h1.2.1) fun j hj hjf ha => h1.2.2 j hj hjf (at_of_app ha (by omega))
theorem backTo_app (s t : B) (p i : Nat) (h : i ≤ s.length) : backTo (s ++ t) p i = backTo s p i := by
 induction i with
 | zero => rfl
 | succ i ih =>
  unfold backTo;rw [getD_app s t i (by omega), ih (by omega)]
theorem fwd_app (s t : B) (b : Nat) (hb : b ≤ s.length) (h : fwd s b < s.length) : fwd (s ++ t) b = fwd s b := by
 refine fwd_eq _ _ _ (fwd_ge s b) (by rw [List.length_append]; omega) (fun q h1 h2 => ?_) (.inr ?_)
 · rw [getD_app s t q (by omega)]; exact fwd_blank s b q h1 h2
 · rw [getD_app s t _ h]; exact fwd_stop s b h
theorem fwd_end (s t : B) (h : t = [] ∨ ∃ t', t = 123 :: t') : fwd (s ++ t) s.length = s.length := by
 rcases h with rfl | ⟨t', rfl⟩
 · rw [List.append_nil]
   exact fwd_eq s _ _ (Nat.le_refl _) (Nat.le_refl _) (fun q a b => by omega) (.inl rfl)
 · refine fwd_eq _ _ _ (Nat.le_refl _) (by rw [List.length_append]; omega) (fun q a b => by omega) (.inr ?_)
   simp [List.getD_eq_getElem?_getD, blankB]
theorem pairs_cases {o c : B} (h : (o, c) ∈ pairs) : (o = [60, 37] ∧ c = [37, 62]) ∨ (o = [91, 91] ∧ c = [93, 93]) ∨ (o = [124] ∧ c = [124]) ∨ (o = [123, 123] ∧ c = [125, 125]) := by
 simpa [pairs] using h
theorem pairs_ne {o c : B} (h : (o, c) ∈ pairs) : o ≠ [] ∧ c ≠ [] ∧ o.length ≤ 2 ∧ c.length ≤ 2 := by
 rcases pairs_cases h with ⟨rfl, rfl⟩ | ⟨rfl, rfl⟩ | ⟨rfl, rfl⟩ | ⟨rfl, rfl⟩ <;> simp
theorem pairs_head {o c : B} (h : (o, c) ∈ pairs) : ∃ q l, c = q :: l ∧ isKind q = false ∧ wsB q = false ∧ spB q = false ∧ q ≠ 61 := by
 rcases pairs_cases h with ⟨rfl, rfl⟩ | ⟨rfl, rfl⟩ | ⟨rfl, rfl⟩ | ⟨rfl, rfl⟩
 · exact ⟨37, [62], rfl, by decide, by decide, by decide, by decide⟩
 · exact ⟨93, [93], rfl, by decide, by decide, by decide, by decide⟩
 · exact ⟨124, [], rfl, by decide, by decide, by decide, by decide⟩
 · exact ⟨125, [125], rfl, by decide, by decide, by decide, by decide⟩
theorem pairs_last {o c : B} (h : (o, c) ∈ pairs) : blankB (c.getD (c.length - 1) 0) = false := by
 rcases pairs_cases h with ⟨rfl, rfl⟩ | ⟨rfl, rfl⟩ | ⟨rfl, rfl⟩ | ⟨rfl, rfl⟩ <;> decide
theorem delim_some {body o o' c' : B} (h : delim body o = some (o', c')) : (o', c') ∈ pairs ∧ body = o' ++ [32] ++ c' ∧ o' ≠ o := by
 unfold delim at h
 have h1 := List.mem_of_find?_eq_some h
 have h2 := List.find?_some h
 simp only [Bool.and_eq_true, beq_iff_eq, Bool.not_eq_true', beq_eq_false_iff_ne, ne_eq] at h2
 exact ⟨h1, h2.1, h2.2⟩
theorem pairs_apart {o c o' c' : B} (h : (o, c) ∈ pairs) (h' : (o', c') ∈ pairs) (hne : o' ≠ o) : ∀ q l, c = q :: l → q ∉ o' ++ [32] ++ c' := by
 rcases pairs_cases h with ⟨rfl, rfl⟩ | ⟨rfl, rfl⟩ | ⟨rfl, rfl⟩ | ⟨rfl, rfl⟩ <;> rcases pairs_cases h' with ⟨rfl, rfl⟩ | ⟨rfl, rfl⟩ | ⟨rfl, rfl⟩ | ⟨rfl, rfl⟩ <;>
  first
   | exact absurd rfl hne
   | (intro q l hq; injection hq with hq _; subst hq; decide)
theorem signB_sp {b : UInt8} (h : signB b = true) : spB b = wsB b := by
 unfold signB at h
 unfold spB wsB
 simp only [Bool.or_eq_true, Bool.and_eq_true, decide_eq_true_eq, beq_iff_eq] at h
 rcases h with ⟨h1, h2⟩ | h
 · have h1' : 32 ≤ b.toNat := h1
   have : ∀ k : UInt8, k.toNat < 32 → (b == k) = false := fun k hk => beq_eq_false_iff_ne.2 (fun e => by subst e; omega)
   rw [this 9 (by decide), this 10 (by decide), this 11 (by decide), this 12 (by decide), this 13 (by decide)];simp
 · subst h; decide
theorem signB_blank {b : UInt8} (h : signB b = true) : b ≠ 13 := by
 rintro rfl; exact absurd h (by decide)
theorem signs_getD {s : B} (h : signs s) (k : Nat) (hk : k < s.length) : signB (s.getD k 0) = true := by
 rw [List.getD_eq_getElem?_getD, List.getElem?_eq_getElem hk]
 exact h _ (List.getElem_mem hk)
theorem trim_signs {s : B} (h : signs s) (a b : Nat) : trimBy spB (sub s a b) = trimBy wsB (sub s a b) :=
 trimBy_congr fun x hx => signB_sp (h x (mem_sub hx))
theorem trimR_signs {s : B} (h : signs s) (a b : Nat) : trimBy spB (trimR spB (sub s a b)) = trimBy wsB (sub s a b) := by
 rw [trimBy_trimR]; exact trim_signs h a b
theorem mem_dropWhile_or {f : UInt8 → Bool} : ∀ {l : B} {x : UInt8}, x ∈ l → f x = true ∨ x ∈ l.dropWhile f
 | c :: l, x, h => by
  by_cases hc : f c = true
  · rcases List.mem_cons.1 h with rfl | h
    · exact .inl hc
    · rw [List.dropWhile_cons, if_pos hc]; exact mem_dropWhile_or h
  · rw [List.dropWhile_cons, if_neg hc]; exact .inr h
theorem mem_trimBy_or {f : UInt8 → Bool} {l : B} {x : UInt8} (h : x ∈ l) : f x = true ∨ x ∈ trimBy f l := by
 rcases mem_dropWhile_or (f := f) h with h | h
 · exact .inl h
 · rcases mem_dropWhile_or (f := f) (List.mem_reverse.2 h) with h | h
   · exact .inl h
   · exact .inr (List.mem_reverse.2 h)
theorem sub_snoc' (s : B) (a e : Nat) (h : a ≤ e) (he : e < s.length) (q : UInt8) (hq : s.getD e 0 = q) : sub s a (e + 1) = sub s a e ++ [q] := by
 rw [sub_snoc s a e h he, hq]
theorem lower_facts {b : UInt8} (h : lower b = true) : isKind b = false ∧ isSkip b = false ∧ spB b = false := by
 unfold lower at h
 simp only [Bool.and_eq_true, decide_eq_true_eq] at h
 have h1 : 97 ≤ b.toNat := h.1
 have h2 : b.toNat ≤ 122 := h.2
 have hn : ∀ k : UInt8, k.toNat < 97 ∨ 122 < k.toNat → (b == k) = false := fun k hk => beq_eq_false_iff_ne.2 (fun e => by subst e; omega)
 unfold isKind isSkip spB
 simp [hn 35 (by decide), hn 94 (by decide), hn 47 (by decide), hn 33 (by decide), hn 62 (by decide), hn 38 (by decide), hn 61 (by decide), hn 123 (by decide), hn 60 (by decide), hn 9 (by decide), hn 10 (by decide), hn 11 (by decide), hn 12 (by decide), hn 13 (by decide), hn 32 (by decide)]
theorem wordOk_facts {w : B} (h : wordOk w = true) : (∀ b ∈ w, lower b = true) ∧ 0 < w.length ∧ w.length ≤ 8 := by
 unfold wordOk at h
 simp only [Bool.and_eq_true, decide_eq_true_eq, List.all_eq_true] at h
 exact ⟨h.1.1, h.1.2, h.2⟩
theorem wordsL_head (acc l : B) : ∃ w ws, wordsL acc l = (acc ++ w) :: ws ∧ w <+: l := by
 induction l generalizing acc with
 | nil => exact ⟨[], [], by simp [wordsL], List.nil_prefix⟩
 | cons c l ih =>
  unfold wordsL;split
  · exact ⟨[], _, by rw [List.append_nil], List.nil_prefix⟩
  · obtain ⟨w, ws, h1, h2⟩ := ih (acc ++ [c])
    exact ⟨c :: w, ws, by rw [h1]; simp, List.cons_prefix_cons.2 ⟨rfl, h2⟩⟩
theorem nameOk_head {s : B} (h : nameOk s = true) : ∃ c l, s = c :: l ∧ (c = 46 ∨ lower c = true) := by
 unfold nameOk at h
 simp only [Bool.or_eq_true, beq_iff_eq, Bool.and_eq_true] at h
 rcases h with h | ⟨h, -⟩
 · exact ⟨46, [], h, .inl rfl⟩
 · obtain ⟨w, ws, h1, h2⟩ := wordsL_head [] s
   unfold words at h;rw [h1, List.nil_append, List.all_cons, Bool.and_eq_true] at h;obtain ⟨ha, hb, -⟩ := wordOk_facts h.1
   cases w with
   | nil => simp at hb
   | cons c w =>
    obtain ⟨t, ht⟩ := h2;exact ⟨c, w ++ t, ht.symm, .inr (ha c (by simp))⟩
theorem nameOk_kind {s : B} (h : nameOk s = true) : s ≠ [] ∧ isKind (s.getD 0 0) = false ∧ isSkip (s.getD 0 0) = false := by
 obtain ⟨c, l, rfl, hc⟩ := nameOk_head h
 refine ⟨by simp, ?_⟩
 show isKind c = false ∧ isSkip c = false
 rcases hc with rfl | hc
 · decide
 · exact ⟨(lower_facts hc).1, (lower_facts hc).2.1⟩
def PosOk (s : B) (p : Nat) : Prop := p ≤ s.length ∧ (p = 0 ∨ blankB (s.getD (p - 1) 0) = false)
def Tail (t : B) : Prop := t = [] ∨ ∃ t', t = 123 :: t'
structure Found (s : B) (p : Nat) (o c : B) (t : Tag) (a2 e : Nat) : Prop where
 fo : find s o p = some t.at0
 kd : t.kind = kindAt s (t.at0 + o.length)
 ha : a2 = if t.kind = 0 then t.at0 + o.length else t.at0 + o.length + 1
 fe : find s (tagEnd t.kind c) a2 = some e
 bd : t.body = trimBy wsB (sub s a2 e)
 to : t.to = e + (tagEnd t.kind c).length
theorem snext_some {s o c : B} {p : Nat} {t : Tag} (h : snext s p o c = .some t) : ∃ a2 e, Found s p o c t a2 e := by
 unfold snext at h
 split at h
 · cases h
 · rename_i f hf
   dsimp only at h
   split at h
   · cases h
   · rename_i e he
     cases h
     exact ⟨_, e, hf, rfl, rfl, he, rfl, rfl⟩
theorem tagEnd_ne {k : UInt8} {c : B} (hc : c ≠ []) : tagEnd k c ≠ [] := by
 unfold tagEnd
 split
 · simp
 · split
   · simp
   · exact hc
theorem kindAt_cases (s : B) (i : Nat) (h : i < s.length) : (isKind (s.getD i 0) = true ∧ kindAt s i = s.getD i 0) ∨ (isKind (s.getD i 0) = false ∧ kindAt s i = 0) := by
 unfold kindAt
 by_cases hk : isKind (s.getD i 0) = true
 · exact .inl ⟨hk, if_pos ⟨h, hk⟩⟩
 · exact .inr ⟨by simpa using hk, if_neg (fun x => hk x.2)⟩
theorem isKind_cases {k : UInt8} (h : isKind k = true) : k = 35 ∨ k = 94 ∨ k = 47 ∨ k = 33 ∨ k = 62 ∨ k = 38 ∨ k = 61 ∨ k = 123 := by
 simpa [isKind, or_assoc] using h
def tagText (s : B) (t : Tag) (a2 e : Nat) : B :=
 if t.kind = 0 then t.body else if t.kind = 123 then 123 :: (sub s a2 e ++ [125]) else if t.kind = 61 then 61 :: (sub s a2 e ++ [61]) else t.kind :: trimR spB (sub s a2 e)
theorem find_from {s pat : B} {i j f : Nat} (h : find s pat j = some f) (hij : i ≤ j) (hn : ∀ m, i ≤ m → m < j → ¬ At s pat m) : find s pat i = some f := by
 have h1 := find_some h
 refine find_eq (by omega) h1.2.1 fun m a b => ?_
 rcases Nat.lt_or_ge m j with hm | hm
 · exact hn m a hm
 · exact h1.2.2 m hm b
theorem not_at_head {s : B} {q : UInt8} {l : B} {i : Nat} (h : s.getD i 0 ≠ q) : ¬ At s (q :: l) i := fun ha => h (by have := ha.get 0 (by simp); simpa using this)
theorem mem_sub_getD (s : B) (a b j : Nat) (h1 : a ≤ j) (h2 : j < b) (hb : b ≤ s.length) : s.getD j 0 ∈ sub s a b := by
 rw [← sub_append s a j b h1 (by omega), sub_cons s j b h2 hb]
 simp
theorem tag_found {s o c : B} {p a2 e : Nat} {t : Tag} (F : Found s p o c t a2 e) (hs : signs s) (hp : (o, c) ∈ pairs) (h0 : t.kind = 0 → nameOk t.body = true) (h61 : t.kind = 61 → delim t.body o ≠ none) (u : B) :
 ∃ e', find (s ++ u) (tagPat (s ++ u) (t.at0 + o.length) c) (t.at0 + o.length) = some e' ∧ e' + (tagPat (s ++ u) (t.at0 + o.length) c).length = t.to ∧ t.to ≤ s.length ∧
  trimBy spB (sub (s ++ u) (t.at0 + o.length) (t.to - c.length)) = tagText s t a2 e ∧ tagText s t a2 e ≠ [] ∧ t.at0 + o.length ≤ e ∧ a2 ≤ e ∧ e < t.to := by
 obtain ⟨hon, hcn, -, -⟩ := pairs_ne hp
 obtain ⟨q, l, hq, hqk, hqw, hqs, hq61⟩ := pairs_head hp
 have hcl : 0 < c.length := List.length_pos_iff.2 hcn
 have hte := find_le F.fe (tagEnd_ne hcn)
 have hae := (find_some F.fe).1
 have hto := F.to
 have hlt : t.at0 + o.length < s.length := by
  have : 0 < (tagEnd t.kind c).length := List.length_pos_iff.2 (tagEnd_ne hcn);have := F.ha
  split at this <;> omega
 generalize ha1 : t.at0 + o.length = a1 at *
 have hx : (s ++ u).getD a1 0 = s.getD a1 0 := getD_app s u a1 hlt
 have hpat : tagPat (s ++ u) a1 c = if s.getD a1 0 = 123 then 125 :: c else c := by
  unfold tagPat;rw [hx]
  by_cases h : s.getD a1 0 = 123
  · rw [if_pos ⟨by rw [List.length_append]; omega, h⟩, if_pos h]
  · rw [if_neg (fun x => h x.2), if_neg h]
 rcases kindAt_cases s a1 hlt with ⟨hk, hkk⟩ | ⟨hk, hkk⟩
 ·
   have hkd : t.kind = s.getD a1 0 := by rw [F.kd, ha1, hkk]
   have hk0 : t.kind ≠ 0 := by
    rw [hkd]; intro h;rw [h] at hk; exact absurd hk (by decide)
   have ha2 : a2 = a1 + 1 := by have := F.ha; rw [if_neg hk0, ha1] at this; exact this
   have hqne : s.getD a1 0 ≠ q := by
    intro h;rw [h, hqk] at hk; cases hk
   have hcons : ∀ b, a2 ≤ b → b ≤ s.length → sub s a1 b = t.kind :: sub s a2 b := fun b h1 h2 => by
    rw [sub_cons s a1 b (by omega) h2, ha2, hkd]
   have hsp : spB t.kind = false := by
    rw [hkd]
    rcases isKind_cases hk with h | h | h | h | h | h | h | h <;> rw [h] <;> decide
   by_cases h123 : t.kind = 123
   · have hpat' : tagPat (s ++ u) a1 c = 125 :: c := by rw [hpat, if_pos (by rw [← hkd, h123])]
     have hend : tagEnd t.kind c = 125 :: c := by unfold tagEnd; rw [if_pos h123]
     have hfe := F.fe;rw [hend] at hfe hte;rw [hend] at hto;have hat := (find_some hfe).2.1;have he : s.getD e 0 = 125 := by have := hat.get 0 (by simp); simpa using this
     simp only [List.length_cons] at hto hte
     have hf1 : find s (125 :: c) a1 = some e := by
      rw [find_succ (by rw [← hkd, h123]; decide), ← ha2]; exact hfe
     refine ⟨e, by rw [hpat']; exact find_app u (by simp) hf1, by rw [hpat']; simp only [List.length_cons]; omega, by omega, ?_, ?_, by omega, hae, by omega⟩
     · rw [sub_app _ _ _ _ (by omega), show t.to - c.length = e + 1 by omega, hcons _ (by omega) (by omega), sub_snoc' s a2 e hae (by omega) 125 he, h123, trimBy_both (by decide) (by decide)]
       unfold tagText;rw [if_neg hk0, if_pos h123]
     · unfold tagText; rw [if_neg hk0, if_pos h123]; simp
   · have hpat' : tagPat (s ++ u) a1 c = c := by rw [hpat, if_neg (by rw [← hkd]; exact h123)]
     by_cases hk61 : t.kind = 61
     · have hend : tagEnd t.kind c = 61 :: c := by unfold tagEnd; rw [if_neg h123, if_pos hk61]
       have hfe := F.fe;rw [hend] at hfe hte;rw [hend] at hto;have hat := (find_some hfe).2.1;have he : s.getD e 0 = 61 := by have := hat.get 0 (by simp); simpa using this
       simp only [List.length_cons] at hto hte;obtain ⟨⟨o', c'⟩, hd⟩ := Option.ne_none_iff_exists'.1 (h61 hk61);obtain ⟨hp', hb', hne⟩ := delim_some hd;have hap := pairs_apart hp hp' hne q l hq
       have hnm : ∀ j, a1 ≤ j → j < e + 1 → s.getD j 0 ≠ q := by
        intro j h1 h2 h3
        rcases Nat.lt_or_ge j a2 with h | h
        · have : j = a1 := by omega
          subst this; exact hqne h3
        · rcases Nat.lt_or_ge j e with h' | h'
          · have hm := mem_sub_getD s a2 e j h h' (by omega)
            rw [h3] at hm
            rcases mem_trimBy_or (f := wsB) hm with hw | hw
            · rw [hqw] at hw; cases hw
            · rw [← F.bd, hb'] at hw; exact hap hw
          · have : j = e := by omega
            subst this; rw [he] at h3; exact hq61 h3.symm
       have hatc : At s c (e + 1) := at_of_get (by omega) fun j hj => by
        have := hat.get (j + 1) (by simp; omega);rw [show e + 1 + j = e + (j + 1) by omega, this];simp [List.getD_eq_getElem?_getD]
       have hf1 : find s c a1 = some (e + 1) := find_eq (by omega) hatc fun j h1 h2 => by rw [hq]; exact not_at_head (hnm j h1 h2)
       refine ⟨e + 1, by rw [hpat']; exact find_app u hcn hf1, by rw [hpat']; omega, by omega, ?_, ?_, by omega, hae, by omega⟩
       · rw [sub_app _ _ _ _ (by omega), show t.to - c.length = e + 1 by omega, hcons _ (by omega) (by omega), sub_snoc' s a2 e hae (by omega) 61 he, hk61, trimBy_both (by decide) (by decide)]
         unfold tagText;rw [if_neg hk0, if_neg h123, if_pos hk61]
       · unfold tagText; rw [if_neg hk0, if_neg h123, if_pos hk61]; simp
     · have hend : tagEnd t.kind c = c := by unfold tagEnd; rw [if_neg h123, if_neg hk61]
       have hfe := F.fe;rw [hend] at hfe hte;rw [hend] at hto
       have hf1 : find s c a1 = some e := find_from hfe (by omega) fun m h1 h2 => by
        have : m = a1 := by omega
        subst this; rw [hq]; exact not_at_head hqne
       refine ⟨e, by rw [hpat']; exact find_app u hcn hf1, by rw [hpat']; omega, by omega, ?_, ?_, by omega, hae, by omega⟩
       · rw [sub_app _ _ _ _ (by omega), show t.to - c.length = e by omega, hcons _ hae (by omega), trimBy_cons hsp]
         unfold tagText;rw [if_neg hk0, if_neg h123, if_neg hk61]
       · unfold tagText; rw [if_neg hk0, if_neg h123, if_neg hk61]; simp
 ·
   have hk0 : t.kind = 0 := by rw [F.kd, ha1, hkk]
   have ha2 : a2 = a1 := by have := F.ha; rw [if_pos hk0, ha1] at this; exact this
   have hx123 : s.getD a1 0 ≠ 123 := fun h => by rw [h] at hk; exact absurd hk (by decide)
   have hpat' : tagPat (s ++ u) a1 c = c := by rw [hpat, if_neg hx123]
   have hend : tagEnd t.kind c = c := by unfold tagEnd; rw [hk0]; rfl
   have hfe := F.fe;rw [hend] at hfe hte;rw [hend] at hto;subst ha2;refine ⟨e, by rw [hpat']; exact find_app u hcn hfe, by rw [hpat']; omega, by omega, ?_, ?_, by omega, hae, by omega⟩
   · rw [sub_app _ _ _ _ (by omega), show t.to - c.length = e by omega, trim_signs hs, ← F.bd]
     unfold tagText;rw [if_pos hk0]
   · unfold tagText; rw [if_pos hk0]; exact (nameOk_kind (h0 hk0)).1
theorem tagText_head {s o c : B} {p a2 e : Nat} {t : Tag} (F : Found s p o c t a2 e) : (t.kind ≠ 0 → (tagText s t a2 e).getD 0 0 = t.kind) ∧ (t.kind = 0 → tagText s t a2 e = t.body) := by
 refine ⟨fun h => ?_, fun h => ?_⟩
 · unfold tagText
   rw [if_neg h];split
   · rename_i h'; rw [h']; rfl
   · split
     · rename_i h'; rw [h']; rfl
     · rfl
 · unfold tagText; rw [if_pos h]
structure Step (s u : B) (p : Nat) (o c : B) (t : Tag) (a2 e : Nat) (tr : TextR) (tg : TagR) : Prop where
 rt : rdText (s ++ u) p o = some tr
 rg : rdTag (s ++ u) tr.pos c tr.may = some tg
 tag : tg.tag = tagText s t a2 e
 pos : tg.pos = (alOf s t).2.1
 txt : u = [] → tr.text ++ (if tg.alone then [] else tr.pad) = sub s p (frOf s t p)
 pad : u = [] → t.kind = 62 → tr.pad = sub s (frOf s t p) t.at0
theorem kind_isKind {s o c : B} {p a2 e : Nat} {t : Tag} (F : Found s p o c t a2 e) : t.kind = 0 ∨ isKind t.kind = true := by
 rw [F.kd]
 unfold kindAt
 split
 · rename_i h; exact .inr h.2
 · exact .inl rfl
theorem kinded_skip {k : UInt8} (hk : isKind k = true) (h : kinded k) : isSkip k = true := by
 obtain ⟨h0, h1, h2⟩ := h
 rcases isKind_cases hk with h | h | h | h | h | h | h | h <;> subst h <;> first | decide | exact absurd rfl h1 | exact absurd rfl h2
theorem step_of {s o c : B} {p a2 e : Nat} {t : Tag} (F : Found s p o c t a2 e) (hs : signs s) (hp : (o, c) ∈ pairs) (h0 : t.kind = 0 → nameOk t.body = true) (h61 : t.kind = 61 → delim t.body o ≠ none)
 (hpos : PosOk s p) (hal : (alOf s t).2.2 = false) (u : B) (hu : Tail u) : ∃ tr tg, Step s u p o c t a2 e tr tg := by
 obtain ⟨hon, hcn, -, -⟩ := pairs_ne hp
 obtain ⟨e', hfe, hto, htl, htag, hne, hle1, hle2, hlt⟩ := tag_found F hs hp h0 h61 u
 have hpf := (find_some F.fo).1
 have hfl := find_le F.fo hon
 have hol : 0 < o.length := List.length_pos_iff.2 hon
 have hb := backTo_limit s p t.at0 hpf hpos.2
 have hbl := backTo_le s 0 t.at0
 have hbg : p ≤ backTo s 0 t.at0 := by rw [← hb]; exact backTo_ge s p t.at0 hpf
 generalize ha : backTo s 0 t.at0 = a at *
 have hrt : rdText (s ++ u) p o = some (if a = 0 ∨ s.getD (a - 1) 0 = 10 then ⟨sub s p a, sub s a t.at0, true, t.at0 + o.length⟩ else ⟨sub s p t.at0, [], false, t.at0 + o.length⟩) := by
  unfold rdText;rw [find_app u hon F.fo]
  dsimp only
  rw [backTo_app s u p t.at0 (by omega), hb]
  by_cases h : a = 0 ∨ s.getD (a - 1) 0 = 10
  · have h' : a = 0 ∨ (s ++ u).getD (a - 1) 0 = 10 := by
     rcases h with h | h
     · exact .inl h
     · rcases Nat.eq_zero_or_pos a with h1 | h1
       · exact .inl h1
       · right; rw [getD_app s u _ (by omega)]; exact h
    rw [if_pos h, if_pos h', sub_app _ _ _ _ (by omega), sub_app _ _ _ _ (by omega)]
  · have h' : ¬ (a = 0 ∨ (s ++ u).getD (a - 1) 0 = 10) := by
     intro hc;apply h
     rcases hc with h | h
     · exact .inl h
     · rcases Nat.eq_zero_or_pos a with h1 | h1
       · exact .inl h1
       · right; rw [getD_app s u _ (by omega)] at h; exact h
    rw [if_neg h, if_neg h', sub_app _ _ _ _ (by omega)]
 have hrg : ∀ may, rdTag (s ++ u) (t.at0 + o.length) c may = if may then
  if isSkip ((tagText s t a2 e).getD 0 0) then
   if eow (s ++ u) t.to = (s ++ u).length then some ⟨tagText s t a2 e, true, eow (s ++ u) t.to⟩
   else if (s ++ u).getD (eow (s ++ u) t.to) 0 = 10 then some ⟨tagText s t a2 e, true, eow (s ++ u) t.to + 1⟩
   else if eow (s ++ u) t.to + 1 < (s ++ u).length ∧ (s ++ u).getD (eow (s ++ u) t.to) 0 = 13 ∧ (s ++ u).getD (eow (s ++ u) t.to + 1) 0 = 10 then some ⟨tagText s t a2 e, true, eow (s ++ u) t.to + 2⟩
   else some ⟨tagText s t a2 e, false, t.to⟩
  else some ⟨tagText s t a2 e, false, t.to⟩
  else some ⟨tagText s t a2 e, true, t.to⟩ := by
  intro may;unfold rdTag;rw [hfe]
  dsimp only
  rw [hto, htag, if_neg hne]
 by_cases hmay : a = 0 ∨ s.getD (a - 1) 0 = 10
 · rw [if_pos hmay] at hrt
   by_cases hk : kinded t.kind
   · have hki : isKind t.kind = true := (kind_isKind F).resolve_left hk.1
     have hhead : (tagText s t a2 e).getD 0 0 = t.kind := (tagText_head F).1 hk.1;have hskip : isSkip ((tagText s t a2 e).getD 0 0) = true := by rw [hhead]; exact kinded_skip hki hk
     have hg := hrg true;rw [if_pos rfl, if_pos hskip] at hg;have hal' := hal;unfold alOf at hal';rw [if_pos hk] at hal';unfold alone at hal';rw [ha] at hal';have hfge := fwd_ge s t.to;have hfle := fwd_le s t.to htl
     have hnm : ¬ (0 < a ∧ s.getD (a - 1) 0 ≠ 10) := by
      rintro ⟨h1, h2⟩
      rcases hmay with h | h
      · omega
      · exact h2 h
     by_cases hbe : fwd s t.to < s.length
     ·
       have hfw : fwd (s ++ u) t.to = fwd s t.to := fwd_app s u t.to htl hbe
       have heow : eow (s ++ u) t.to = fwd s t.to := by
        unfold eow; rw [hfw, if_pos (by rw [List.length_append]; omega)]
       have hgd : (s ++ u).getD (fwd s t.to) 0 = s.getD (fwd s t.to) 0 := getD_app s u _ hbe;rw [heow, if_neg (by rw [List.length_append]; omega), hgd] at hg
       by_cases h10 : s.getD (fwd s t.to) 0 = 10
       · rw [if_pos h10] at hg
         have hala : alOf s t = (a, min (fwd s t.to + 1) s.length, decide (fwd s t.to = s.length ∧ t.to < fwd s t.to)) := by
          unfold alOf;rw [if_pos hk];unfold alone;rw [ha, if_neg (by rintro (h | ⟨-, h⟩); exact hnm h; exact h h10)]
         have hfr : frOf s t p = a := by unfold frOf; rw [if_pos hk, hala]; dsimp only; omega
         refine ⟨_, _, hrt, hg, rfl, ?_, fun _ => ?_, fun _ _ => ?_⟩
         · rw [hala]; dsimp only; omega
         · rw [hfr]; simp
         · rw [hfr]
       · rw [if_neg h10, if_neg (fun h => signB_blank (signs_getD hs _ hbe) h.2.1)] at hg
         rw [if_pos (.inr ⟨hbe, h10⟩)] at hal'
         have hala : alOf s t = (t.at0, t.to, (alOf s t).2.2) := by
          unfold alOf;rw [if_pos hk];unfold alone;rw [ha, if_pos (.inr ⟨hbe, h10⟩)]
         have hfr : frOf s t p = t.at0 := by unfold frOf; rw [if_pos hk, hala]; dsimp only; omega
         refine ⟨_, _, hrt, hg, rfl, ?_, fun _ => ?_, fun _ h62 => ?_⟩
         · rw [hala]
         · rw [hfr]
           simp only [Bool.false_eq_true, if_false];exact sub_append s p a t.at0 hbg hbl
         · rw [hfr]
           simp only [h62, beq_self_eq_true, Bool.true_and, Bool.or_eq_false_iff, Bool.and_eq_false_iff, decide_eq_false_iff_not] at hal'
           have : a = t.at0 := by
            rcases hal'.2 with h | h
            · rcases hmay with h' | h'
              · exact absurd h' h.1
              · exact absurd h' h.2
            · omega
           rw [this]
     ·
       have hbe' : fwd s t.to = s.length := by omega
       have hala : alOf s t = (a, min (fwd s t.to + 1) s.length, decide (fwd s t.to = s.length ∧ t.to < fwd s t.to)) := by
        unfold alOf;rw [if_pos hk];unfold alone;rw [ha, if_neg (by rintro (h | ⟨h, -⟩); exact hnm h; omega)]
       have hte : t.to = s.length := by
        rw [hala] at hal;simp only [decide_eq_false_iff_not] at hal;omega
       have hfr : frOf s t p = a := by unfold frOf; rw [if_pos hk, hala]; dsimp only; omega
       have hfu : fwd (s ++ u) t.to = s.length := by rw [hte]; exact fwd_end s u hu
       rcases hu with rfl | ⟨u', rfl⟩
       · have heow : eow (s ++ []) t.to = (s ++ []).length := by
          unfold eow;rw [hfu, List.append_nil, if_neg (by omega), hte]
         rw [if_pos heow] at hg;refine ⟨_, _, hrt, hg, rfl, ?_, fun _ => ?_, fun _ _ => ?_⟩
         · rw [heow, hala, List.append_nil]; dsimp only; omega
         · rw [hfr]; simp
         · rw [hfr]
       · have heow : eow (s ++ 123 :: u') t.to = s.length := by
          unfold eow;rw [hfu, if_pos (by rw [List.length_append]; simp)]
         have hgd : (s ++ 123 :: u').getD s.length 0 = 123 := by simp [List.getD_eq_getElem?_getD]
         rw [heow, if_neg (by rw [List.length_append]; simp), hgd, if_neg (by decide), if_neg (by rintro ⟨-, h, -⟩; exact absurd h (by decide))] at hg;refine ⟨_, _, hrt, hg, rfl, ?_, fun h => ?_, fun h => ?_⟩
         · rw [hala]; dsimp only; omega
         · cases h
         · cases h
   ·
     have hns : isSkip ((tagText s t a2 e).getD 0 0) = false := by
      rcases kind_isKind F with h | h
      · rw [(tagText_head F).2 h]; exact (nameOk_kind (h0 h)).2.2
      · by_cases hk0 : t.kind = 0
        · rw [(tagText_head F).2 hk0]; exact (nameOk_kind (h0 hk0)).2.2
        · rw [(tagText_head F).1 hk0]
          have : t.kind = 38 ∨ t.kind = 123 := by
           by_cases h38 : t.kind = 38
           · exact .inl h38
           · by_cases h123 : t.kind = 123
             · exact .inr h123
             · exact absurd ⟨hk0, h38, h123⟩ hk
          rcases this with h | h <;> rw [h] <;> decide
     have hg := hrg true;rw [if_pos rfl, hns] at hg;simp only [Bool.false_eq_true, if_false] at hg;have hfr : frOf s t p = t.at0 := by unfold frOf; rw [if_neg hk]
     refine ⟨_, _, hrt, hg, rfl, ?_, fun _ => ?_, fun _ h62 => ?_⟩
     · unfold alOf; rw [if_neg hk]
     · rw [hfr]
       simp only [Bool.false_eq_true, if_false];exact sub_append s p a t.at0 hbg hbl
     · exact absurd (by rw [h62]; decide) hk
 · rw [if_neg hmay] at hrt
   have hg := hrg false;simp only [Bool.false_eq_true, if_false] at hg
   have hala : (alOf s t).1 = t.at0 ∧ (alOf s t).2.1 = t.to := by
    unfold alOf;split
    · unfold alone
      rw [ha, if_pos (.inl ⟨by omega, fun h => hmay (.inr h)⟩)];exact ⟨rfl, rfl⟩
    · exact ⟨rfl, rfl⟩
   have hfr : frOf s t p = t.at0 := by
    unfold frOf;split
    · rw [hala.1]; omega
    · rfl
   refine ⟨_, _, hrt, hg, rfl, hala.2.symm, fun _ => ?_, fun _ _ => ?_⟩
   · rw [hfr]; simp
   · rw [hfr, sub_self]
end Go.Proofs.YtfakghnpkdoclaaGreatDoor.Mu
namespace Go.Proofs.YtfakghnpkdoclaaGreatDoor.Mu
def txs (l : List B) : List Elem := l.map .text
def TxOk (s : B) (x : List B) : Prop := x.length ≤ 2 ∧ ∀ y ∈ x, y.length ≤ s.length
def IndOk (s ind : B) : Prop := (∀ b ∈ ind, blankB b = true) ∧ ∃ a b, b ≤ s.length ∧ ind = sub s a b
inductive Rel (s : B) (raw : Bool) : List Node → List Elem → Prop where
 | fin (x : List B) : TxOk s x → Rel s raw (addT x.flatten) (txs x)
 | rem (x : List B) {ns : List Node} {es : List Elem} : TxOk s x → Rel s raw ns es → Rel s raw (addT x.flatten ++ [.mk 6 [] false [] []] ++ ns) (txs x ++ [] ++ es)
 | var (x : List B) (n : B) (r : Bool) {ns : List Node} {es : List Elem} : TxOk s x → nameOk n = true → Rel s raw ns es → Rel s raw (addT x.flatten ++ [.mk 2 n r [] []] ++ ns) (txs x ++ [.var n (r || raw)] ++ es)
 | sect (x : List B) (n : B) (inv : Bool) {ks : List Node} {fs : List Elem} {ns : List Node} {es : List Elem} : TxOk s x → nameOk n = true → Rel s raw ks fs → Rel s raw ns es →
  Rel s raw (addT x.flatten ++ [.mk (if inv then 4 else 3) n false [] ks] ++ ns) (txs x ++ [.sect n inv fs] ++ es)
 | part (x : List B) (n ind : B) {ns : List Node} {es : List Elem} : TxOk s x → wordOk n = true → IndOk s ind → Rel s raw ns es → Rel s raw (addT x.flatten ++ [.mk 5 n false ind []] ++ ns) (txs x ++ [.part n ind] ++ es)
mutual
def wiN (names : List B) : Node → Prop
 | .mk k t _ _ kids => wiL names kids ∧ (k = 5 → t ∈ names)
def wiL (names : List B) : List Node → Prop
 | [] => True
 | n :: l => wiN names n ∧ wiL names l
end
theorem wiL_append {names : List B} : ∀ {l m : List Node}, wiL names (l ++ m) ↔ wiL names l ∧ wiL names m
 | [], m => by simp [wiL]
 | n :: l, m => by
  simp only [List.cons_append, wiL, wiL_append (l := l), and_assoc]
def st1 (s : B) (t : Tag) (st : PSt) : PSt := { st with pos := (alOf s t).2.1, bad := (alOf s t).2.2 }
def tx1 (s : B) (t : Tag) (st : PSt) : List Node := addT (sub s st.pos (frOf s t st.pos))
theorem parts_bad (s : B) (n : Nat) (st : PSt) (name : B) (h : st.bad = true) : (parts s n st name).2.bad = true := by
 cases n with
 | zero => rfl
 | succ n => unfold parts; rw [if_pos h]; exact h
theorem parts_none {s : B} {n : Nat} {st : PSt} {name : B} {b : Bool} (hb : st.bad = false) (hn : snext s st.pos st.o st.c = .none b) :
 parts s (n + 1) st name = (addT (s.drop st.pos), { st with bad := b || !(name == []), pos := s.length }) := by
 simp only [parts, hb, hn, Bool.false_eq_true, if_false]
section
variable {s : B} {n : Nat} {st : PSt} {name : B} {t : Tag} (hb : st.bad = false) (hn : snext s st.pos st.o st.c = .some t)
include hb hn
theorem parts_33 (hk : t.kind = 33) : parts s (n + 1) st name = (tx1 s t st ++ .mk 6 [] false [] [] :: (parts s n (st1 s t st) name).1, (parts s n (st1 s t st) name).2) := by
 rw [parts, if_neg (by rw [hb]; decide), hn]
 simp only [hk, if_true]
 rfl
def st61 (s : B) (t : Tag) (st : PSt) : PSt := match delim t.body st.o with
 | some (o, c) => { st1 s t st with o := o, c := c }
 | none => { st1 s t st with bad := true }
theorem parts_61 (hk : t.kind = 61) : parts s (n + 1) st name = (tx1 s t st ++ .mk 6 [] false [] [] :: (parts s n (st61 s t st) name).1, (parts s n (st61 s t st) name).2) := by
 rw [parts, if_neg (by rw [hb]; decide), hn]
 simp only [hk, if_true, show ¬ (61 : UInt8) = 33 by decide, if_false]
 rfl
theorem parts_47 (hk : t.kind = 47) : parts s (n + 1) st name = (tx1 s t st, { st1 s t st with bad := (st1 s t st).bad || !(t.body == name) || name == [] }) := by
 rw [parts, if_neg (by rw [hb]; decide), hn]
 simp only [hk, if_true, show ¬ (47 : UInt8) = 33 by decide, show ¬ (47 : UInt8) = 61 by decide, if_false]
 rfl
def st35 (s : B) (t : Tag) (st : PSt) : PSt := { st1 s t st with deep := st.deep + 1, bad := (st1 s t st).bad || !nameOk t.body || decide (16 < st.deep + 1) }
def back (st : PSt) : PSt := { st with deep := st.deep - 1 }
theorem parts_35 (hk : t.kind = 35 ∨ t.kind = 94) : parts s (n + 1) st name =
 (tx1 s t st ++ .mk (if t.kind = 94 then 4 else 3) t.body false [] (parts s n (st35 s t st) t.body).1 :: (parts s n (back (parts s n (st35 s t st) t.body).2) name).1, (parts s n (back (parts s n (st35 s t st) t.body).2) name).2) := by
 rw [parts, if_neg (by rw [hb]; decide), hn]
 have h1 : ¬ t.kind = 33 := by rcases hk with h | h <;> rw [h] <;> decide
 have h2 : ¬ t.kind = 61 := by rcases hk with h | h <;> rw [h] <;> decide
 have h3 : ¬ t.kind = 47 := by rcases hk with h | h <;> rw [h] <;> decide
 simp only [h1, h2, h3, hk, if_true, if_false]
 rfl
def st62 (s : B) (t : Tag) (st : PSt) : PSt := { st1 s t st with bad := (st1 s t st).bad || !wordOk t.body }
theorem parts_62 (hk : t.kind = 62) : parts s (n + 1) st name =
 (tx1 s t st ++ .mk 5 t.body false (sub s (frOf s t st.pos) t.at0) [] :: (parts s n (st62 s t st) name).1, (parts s n (st62 s t st) name).2) := by
 rw [parts, if_neg (by rw [hb]; decide), hn]
 simp only [hk, if_true, show ¬ (62 : UInt8) = 33 by decide, show ¬ (62 : UInt8) = 61 by decide, show ¬ (62 : UInt8) = 47 by decide, show ¬ ((62 : UInt8) = 35 ∨ (62 : UInt8) = 94) by decide, if_false]
 rfl
def st2 (s : B) (t : Tag) (st : PSt) : PSt := { st1 s t st with bad := (st1 s t st).bad || !nameOk t.body }
theorem parts_var (hk : ¬ kinded t.kind) : parts s (n + 1) st name =
 (tx1 s t st ++ .mk 2 t.body (!(t.kind == 0)) [] [] :: (parts s n (st2 s t st) name).1, (parts s n (st2 s t st) name).2) := by
 rw [parts, if_neg (by rw [hb]; decide), hn]
 have hne : ∀ k : UInt8, kinded k → ¬ t.kind = k := fun k h e => hk (e ▸ h)
 simp only [hne 33 (by decide), hne 61 (by decide), hne 47 (by decide), hne 62 (by decide), hne 35 (by decide), hne 94 (by decide), or_self, if_false]
 rfl
end
theorem kindAt_app (s u : B) (i : Nat) (h : i < s.length) : kindAt (s ++ u) i = kindAt s i := by
 unfold kindAt
 rw [getD_app s u i h]
 simp only [h, show i < (s ++ u).length by rw [List.length_append]; omega]
theorem snext_app {s o c : B} {p : Nat} {t : Tag} (u : B) (ho : o ≠ []) (hc : c ≠ []) (h : snext s p o c = .some t) : snext (s ++ u) p o c = .some t := by
 obtain ⟨a2, e, F⟩ := snext_some h
 have hfe := F.fe
 have hte := find_le hfe (tagEnd_ne hc)
 have hae := (find_some hfe).1
 have hpos : 0 < (tagEnd t.kind c).length := List.length_pos_iff.2 (tagEnd_ne hc)
 have hlt : t.at0 + o.length < s.length := by
  have := F.ha
  split at this <;> omega
 unfold snext
 rw [find_app u ho F.fo]
 dsimp only
 rw [kindAt_app s u _ hlt, ← F.kd, ← F.ha, find_app u (tagEnd_ne hc) hfe]
 dsimp only
 rw [sub_app _ _ _ _ (by omega), ← F.bd, ← F.to]
theorem alOf_app {s : B} {t : Tag} (u' : B) (hk : t.kind ≠ 62) (h0 : t.at0 ≤ s.length) (h1 : t.to ≤ s.length) (hal : (alOf s t).2.2 = false) :
 (alOf (s ++ 123 :: u') t).2 = (alOf s t).2 := by
 unfold alOf at *
 split
 · rename_i hkk
   rw [if_pos hkk] at hal;have hk62 : (t.kind == 62) = false := by simpa using hk
   rw [hk62] at hal ⊢;unfold alone at *
   dsimp only at *
   rw [backTo_app _ _ _ _ h0];have hbl := backTo_le s 0 t.at0;generalize backTo s 0 t.at0 = a at *
   have hc1 : (0 < a ∧ (s ++ 123 :: u').getD (a - 1) 0 ≠ 10) ↔ (0 < a ∧ s.getD (a - 1) 0 ≠ 10) := by
    constructor
    · rintro ⟨h, h'⟩; exact ⟨h, by rwa [getD_app s _ _ (by omega)] at h'⟩
    · rintro ⟨h, h'⟩; exact ⟨h, by rwa [getD_app s _ _ (by omega)]⟩
   by_cases hbe : fwd s t.to < s.length
   · rw [fwd_app s _ _ h1 hbe, getD_app s _ _ hbe]
     have e1 : decide (fwd s t.to = (s ++ 123 :: u').length ∧ t.to < fwd s t.to) = decide (fwd s t.to = s.length ∧ t.to < fwd s t.to) := by
      rw [decide_eq_decide, List.length_append]; simp; omega
     have e2 : (fwd s t.to < (s ++ 123 :: u').length ∧ s.getD (fwd s t.to) 0 ≠ 10) ↔ (fwd s t.to < s.length ∧ s.getD (fwd s t.to) 0 ≠ 10) := by
      rw [List.length_append]; simp; omega
     rw [e1]
     by_cases hc : (0 < a ∧ s.getD (a - 1) 0 ≠ 10) ∨ (fwd s t.to < s.length ∧ s.getD (fwd s t.to) 0 ≠ 10)
     · rw [if_pos hc, if_pos (hc.imp hc1.2 e2.2)]
       simp
     · rw [if_neg hc, if_neg (fun h => hc (h.imp hc1.1 e2.1))]
       simp only [Prod.mk.injEq, and_true];rw [List.length_append]; simp; omega
   · have hfle := fwd_le s t.to h1
     have hbe' : fwd s t.to = s.length := by omega
     have hto : t.to = s.length := by
      split at hal
      · simp only [Bool.false_and, Bool.or_false, decide_eq_false_iff_not] at hal; omega
      · simp only [decide_eq_false_iff_not] at hal; omega
     have hfu : fwd (s ++ 123 :: u') t.to = s.length := by rw [hto]; exact fwd_end s _ (.inr ⟨u', rfl⟩)
     have hgd : (s ++ 123 :: u').getD s.length 0 = 123 := by simp [List.getD_eq_getElem?_getD]
     rw [hfu, hgd, if_pos (.inr ⟨by rw [List.length_append]; simp, by decide⟩), hbe'];have e1 : decide (s.length = (s ++ 123 :: u').length ∧ t.to < s.length) = false := by rw [hto]; simp
     rw [e1];have e2 : decide (s.length = s.length ∧ t.to < s.length) = false := by rw [hto]; simp
     rw [e2];split
     · simp
     · simp; omega
 · rfl
theorem st1_app {s : B} {t : Tag} {st : PSt} (u' : B) (hk : t.kind ≠ 62) (h0 : t.at0 ≤ s.length) (h1 : t.to ≤ s.length) (hal : (alOf s t).2.2 = false) : st1 (s ++ 123 :: u') t st = st1 s t st := by
 unfold st1
 rw [alOf_app u' hk h0 h1 hal]
def nmOf (name : B) : Option B := if name = [] then none else some name
def CoreSec (s : B) (n : Nat) (st : PSt) (name : B) (ns : List Node) (st' : PSt) : Prop :=
 ∀ u raw, Tail u →
  (∃ es, iparse (s ++ u) raw n st.deep ⟨st.pos, st.o, st.c⟩ (some name) = some (some (es, ⟨st'.pos, st'.o, st'.c⟩)) ∧ (u = [] → Rel s raw ns es)) ∧
  (u ≠ [] → wiL [] ns → ∃ ns2, parts (s ++ u) n st name = (ns2, st'))
def CoreTop (s : B) (n : Nat) (st : PSt) (ns : List Node) : Prop :=
 ∃ n' pe oe ce, PosOk s pe ∧ (oe, ce) ∈ pairs ∧ find s oe pe = none ∧ n + st.pos ≤ n' + pe ∧ 1 ≤ n' ∧ ∀ u raw, Tail u →
  (∃ es, iparse (s ++ u) raw n st.deep ⟨st.pos, st.o, st.c⟩ none = pre es (iparse (s ++ u) raw n' st.deep ⟨pe, oe, ce⟩ none) ∧ (u = [] → Rel s raw ns (es ++ [.text (s.drop pe)]))) ∧
  (u ≠ [] → wiL [] ns → ∃ ns2, parts (s ++ u) n st [] = (ns2 ++ (parts (s ++ u) n' ⟨pe, st.deep, oe, ce, false⟩ []).1, (parts (s ++ u) n' ⟨pe, st.deep, oe, ce, false⟩ []).2))
structure Core (s : B) (n : Nat) (st : PSt) (name : B) (ns : List Node) (st' : PSt) : Prop where
 sec : name ≠ [] → CoreSec s n st name ns st' ∧ PosOk s st'.pos ∧ (st'.o, st'.c) ∈ pairs ∧ st'.deep = st.deep ∧ st.pos ≤ st'.pos
 top : name = [] → CoreTop s n st ns
theorem Core.extend {s : B} {n : Nat} {st sx st' : PSt} {name : B} {N0 ns1 : List Node} (h : Core s n sx name ns1 st') (hpos : st.pos < sx.pos) (hdeep : sx.deep = st.deep)
 (himp : ∀ u raw, Tail u → ∃ es0, iparse (s ++ u) raw (n + 1) st.deep ⟨st.pos, st.o, st.c⟩ (nmOf name) = pre es0 (iparse (s ++ u) raw n sx.deep ⟨sx.pos, sx.o, sx.c⟩ (nmOf name)) ∧ (u = [] → ∀ ns es, Rel s raw ns es → Rel s raw (N0 ++ ns) (es0 ++ es)))
 (hspec : ∀ u, Tail u → u ≠ [] → wiL [] N0 → ∃ N1, parts (s ++ u) (n + 1) st name = (N1 ++ (parts (s ++ u) n sx name).1, (parts (s ++ u) n sx name).2)) :
 Core s (n + 1) st name (N0 ++ ns1) st' := by
 constructor
 · intro hne
   obtain ⟨h1, h2, h3, h4, h5⟩ := h.sec hne;refine ⟨fun u raw hu => ?_, h2, h3, h4.trans hdeep, by omega⟩;obtain ⟨⟨es, a1, a2⟩, a3⟩ := h1 u raw hu;obtain ⟨es0, b1, b2⟩ := himp u raw hu;have hnm : nmOf name = some name := by unfold nmOf; rw [if_neg hne]
   rw [hnm] at b1;refine ⟨⟨es0 ++ es, by rw [b1, a1]; rfl, fun hu0 => b2 hu0 _ _ (a2 hu0)⟩, fun hu0 hw => ?_⟩;obtain ⟨w1, w2⟩ := wiL_append.1 hw;obtain ⟨N1, hN⟩ := hspec u hu hu0 w1;obtain ⟨ns2, hn2⟩ := a3 hu0 w2;exact ⟨N1 ++ ns2, by rw [hN, hn2]⟩
 · intro he
   obtain ⟨n', pe, oe, ce, h1, h2, h3, h4, h4', h5⟩ := h.top he;refine ⟨n', pe, oe, ce, h1, h2, h3, by omega, h4', fun u raw hu => ?_⟩;obtain ⟨⟨es, a1, a2⟩, a3⟩ := h5 u raw hu;obtain ⟨es0, b1, b2⟩ := himp u raw hu;have hnm : nmOf name = none := by unfold nmOf; rw [if_pos he]
   rw [hnm] at b1;refine ⟨⟨es0 ++ es, by rw [b1, a1, pre_pre, hdeep], fun hu0 => by rw [List.append_assoc]; exact b2 hu0 _ _ (a2 hu0)⟩, fun hu0 hw => ?_⟩;obtain ⟨w1, w2⟩ := wiL_append.1 hw;obtain ⟨N1, hN⟩ := hspec u hu hu0 w1;obtain ⟨ns2, hn2⟩ := a3 hu0 w2;subst he;exact ⟨N1 ++ ns2, by rw [hN, hn2, List.append_assoc, hdeep]⟩
theorem txOf_rel {s : B} {u : B} {p : Nat} {o c : B} {t : Tag} {a2 e : Nat} {tr : TextR} {tg : TagR} (S : Step s u p o c t a2 e tr tg) (hu : u = []) (ho : o ≠ []) :
 ∃ x, TxOk s x ∧ txOf tr tg = txs x ∧ x.flatten = sub s p (frOf s t p) := by
 have h := S.txt hu
 have hrt := S.rt
 rw [hu, List.append_nil] at hrt
 have hl := rdText_pos hrt ho
 unfold txOf
 cases hal : tg.alone with
 | true =>
  rw [hal] at h;exact ⟨[tr.text], ⟨by simp, by simpa using hl.2.2.1⟩, rfl, by simpa using h⟩
 | false =>
  rw [hal] at h;refine ⟨[tr.text, tr.pad], ⟨by simp, ?_⟩, rfl, by simpa using h⟩;intro y hy;simp only [List.mem_cons, List.not_mem_nil, or_false] at hy
  rcases hy with rfl | rfl
  · exact hl.2.2.1
  · exact hl.2.2.2
theorem found_to {s o c : B} {p a2 e : Nat} {t : Tag} (F : Found s p o c t a2 e) (hp : (o, c) ∈ pairs) : t.at0 + o.length < t.to ∧ t.to ≤ s.length ∧ p ≤ t.at0 ∧ a2 ≤ e ∧ e ≤ s.length := by
 obtain ⟨hon, hcn, -, -⟩ := pairs_ne hp
 have hte := find_le F.fe (tagEnd_ne hcn)
 have hae := (find_some F.fe).1
 have hpos : 0 < (tagEnd t.kind c).length := List.length_pos_iff.2 (tagEnd_ne hcn)
 have h1 := F.ha
 have h2 := F.to
 have h3 := (find_some F.fo).1
 split at h1 <;> omega
theorem pos_after {s o c : B} {p a2 e : Nat} {t : Tag} (F : Found s p o c t a2 e) (hp : (o, c) ∈ pairs) (hal : (alOf s t).2.2 = false) : PosOk s (alOf s t).2.1 ∧ p < (alOf s t).2.1 := by
 obtain ⟨h1, h2, h3, h4, h5⟩ := found_to F hp
 obtain ⟨hon, hcn, -, -⟩ := pairs_ne hp
 have hol : 0 < o.length := List.length_pos_iff.2 hon
 have hcl : 0 < c.length := List.length_pos_iff.2 hcn
 have hto : PosOk s t.to := by
  refine ⟨h2, .inr ?_⟩;have hat := (find_some F.fe).2.1
  have hx : (tagEnd t.kind c).getD ((tagEnd t.kind c).length - 1) 0 = c.getD (c.length - 1) 0 := by
   unfold tagEnd;split
   · rw [List.length_cons, Nat.add_sub_cancel]
     obtain ⟨m, hm⟩ : ∃ m, c.length = m + 1 := ⟨c.length - 1, by omega⟩
     rw [hm, Nat.add_sub_cancel];rfl
   · split
     · rw [List.length_cons, Nat.add_sub_cancel]
       obtain ⟨m, hm⟩ : ∃ m, c.length = m + 1 := ⟨c.length - 1, by omega⟩
       rw [hm, Nat.add_sub_cancel];rfl
     · rfl
  have hl : 0 < (tagEnd t.kind c).length := List.length_pos_iff.2 (tagEnd_ne hcn);have := hat.get ((tagEnd t.kind c).length - 1) (by omega);rw [hx] at this;rw [F.to, show e + (tagEnd t.kind c).length - 1 = e + ((tagEnd t.kind c).length - 1) by omega, this];exact pairs_last hp
 unfold alOf at *
 split
 · rename_i hk
   rw [if_pos hk] at hal;unfold alone at *
   dsimp only at *
   have hfle := fwd_le s t.to h2;have hfge := fwd_ge s t.to;split
   · exact ⟨hto, by show p < t.to; omega⟩
   · rename_i hc
     rw [if_neg hc] at hal;simp only [decide_eq_false_iff_not] at hal
     dsimp only
     by_cases hbe : fwd s t.to < s.length
     · have h10 : s.getD (fwd s t.to) 0 = 10 := Classical.byContradiction fun h => hc (.inr ⟨hbe, h⟩)
       rw [Nat.min_eq_left (by omega)];refine ⟨⟨by omega, .inr ?_⟩, by omega⟩;rw [Nat.add_sub_cancel, h10];decide
     · have : t.to = s.length := by omega
       have hm : min (fwd s t.to + 1) s.length = t.to := by omega
       rw [hm];exact ⟨hto, by omega⟩
 · exact ⟨hto, by show p < t.to; omega⟩
theorem drop_tagText {s : B} (hs : signs s) {t : Tag} {a2 e : Nat} (hk : t.kind ≠ 0 ∧ t.kind ≠ 123 ∧ t.kind ≠ 61) (hb : t.body = trimBy wsB (sub s a2 e)) : trimBy spB ((tagText s t a2 e).drop 1) = t.body := by
 unfold tagText
 rw [if_neg hk.1, if_neg hk.2.1, if_neg hk.2.2, List.drop_one, List.tail_cons, trimR_signs hs, hb]
theorem indOk_of {s u : B} {p : Nat} {o c : B} {t : Tag} {a2 e : Nat} {tr : TextR} {tg : TagR} (S : Step s u p o c t a2 e tr tg) (F : Found s p o c t a2 e) (hu : u = []) (h62 : t.kind = 62) (hp : (o, c) ∈ pairs) : IndOk s tr.pad := by
 have hfo := (find_some F.fo)
 have h1 := found_to F hp
 have hrt := S.rt
 rw [hu, List.append_nil] at hrt
 unfold rdText at hrt
 rw [F.fo] at hrt
 dsimp only at hrt
 split at hrt
 · cases hrt
   refine ⟨fun b hb => ?_, _, _, by omega, rfl⟩
   dsimp only at hb
   have key : ∀ i b, b ∈ sub s (backTo s p i) i → i ≤ s.length → blankB b = true := by
    intro i
    induction i with
    | zero => intro b hb hi; simp [backTo, sub] at hb
    | succ i ih =>
     intro b hb hi;unfold backTo at hb
     split at hb
     · rename_i hc
       rw [sub_snoc s _ i (backTo_le s p i) (by omega)] at hb
       rcases List.mem_append.1 hb with hb | hb
       · exact ih b hb (by omega)
       · rw [List.mem_singleton.1 hb]; exact hc.2
     · rw [sub_self] at hb; cases hb
   exact key _ b hb (by omega)
 · cases hrt
   exact ⟨fun b hb => absurd hb (by simp), 0, 0, by omega, (sub_self s 0).symm⟩
end Go.Proofs.YtfakghnpkdoclaaGreatDoor.Mu
namespace Go.Proofs.YtfakghnpkdoclaaGreatDoor.Mu
theorem Core.tag {s : B} (hs : signs s) {n : Nat} {st sx st' : PSt} {name : B} {t : Tag} {a2 e : Nat} (F : Found s st.pos st.o st.c t a2 e) (hp : (st.o, st.c) ∈ pairs)
 (h0 : t.kind = 0 → nameOk t.body = true) (h61 : t.kind = 61 → delim t.body st.o ≠ none) (hpos : PosOk s st.pos) (hal : (alOf s t).2.2 = false)
 (hsx : sx.pos = (alOf s t).2.1) (hsd : sx.deep = st.deep) {nd : Node} {ns1 : List Node} (el : TextR → Bool → List Elem) (h : Core s n sx name ns1 st')
 (hI : ∀ u raw tr tg, Step s u st.pos st.o st.c t a2 e tr tg → iparse (s ++ u) raw (n + 1) st.deep ⟨st.pos, st.o, st.c⟩ (nmOf name) = pre (txOf tr tg ++ el tr raw) (iparse (s ++ u) raw n sx.deep ⟨sx.pos, sx.o, sx.c⟩ (nmOf name)))
 (hR : ∀ raw tr tg x ns es, Step s [] st.pos st.o st.c t a2 e tr tg → TxOk s x → Rel s raw ns es → Rel s raw (addT x.flatten ++ [nd] ++ ns) (txs x ++ el tr raw ++ es))
 (hS : wiL [] [nd] → ∀ u', parts (s ++ 123 :: u') (n + 1) st name = (tx1 (s ++ 123 :: u') t st ++ nd :: (parts (s ++ 123 :: u') n sx name).1, (parts (s ++ 123 :: u') n sx name).2)) :
 Core s (n + 1) st name (tx1 s t st ++ nd :: ns1) st' := by
 obtain ⟨hon, hcn, -, -⟩ := pairs_ne hp
 have hpa := pos_after F hp hal
 have := Core.extend (st := st) (N0 := tx1 s t st ++ [nd]) h (by rw [hsx]; exact hpa.2) hsd (fun u raw hu => ?_) (fun u hu hu0 hw => ?_)
 · rw [List.append_assoc] at this; exact this
 · obtain ⟨tr, tg, S⟩ := step_of F hs hp h0 h61 hpos hal u hu
   refine ⟨_, hI u raw tr tg S, fun hu0 ns es hr => ?_⟩;subst hu0;obtain ⟨x, hx, htx, hfl⟩ := txOf_rel S rfl hon;have := hR raw tr tg x ns es S hx hr;rw [htx];unfold tx1;rw [← hfl];exact this
 · rcases hu with rfl | ⟨u', rfl⟩
   · exact absurd rfl hu0
   · obtain ⟨-, w2⟩ := wiL_append.1 hw
     exact ⟨tx1 (s ++ 123 :: u') t st ++ [nd], by rw [hS w2 u', List.append_assoc]; rfl⟩
theorem custom_of {s o o' c' : B} (hs : signs s) {t : Tag} {a2 e : Nat} (hk : t.kind = 61) (hb : t.body = trimBy wsB (sub s a2 e)) (hd : delim t.body o = some (o', c')) : custom (tagText s t a2 e) = some (o', c') := by
 obtain ⟨hp, hbody, -⟩ := delim_some hd
 have htt : tagText s t a2 e = 61 :: (sub s a2 e ++ [61]) := by
  unfold tagText; rw [hk]; rfl
 rw [htt]
 have hm : trimBy spB (sub s a2 e) = o' ++ [32] ++ c' := by rw [trim_signs hs, ← hb, hbody]
 have hlen : 0 < (sub s a2 e).length := by
  have h1 := trimBy_length spB (sub s a2 e);rw [hm] at h1;simp at h1; omega
 unfold custom
 rw [if_neg (by rintro (h | h); · simp at h; omega
                · apply h; rw [← List.cons_append, List.getLast?_append]; rfl)]
 have hin : ((61 :: (sub s a2 e ++ [61])).drop 1).dropLast = sub s a2 e := by simp
 rw [hin, hm]
 rcases pairs_cases hp with ⟨rfl, rfl⟩ | ⟨rfl, rfl⟩ | ⟨rfl, rfl⟩ | ⟨rfl, rfl⟩ <;> rfl
theorem core (s : B) (hs : signs s) : ∀ (n : Nat) (st : PSt) (name : B) (ns : List Node) (st' : PSt), parts s n st name = (ns, st') → st'.bad = false → PosOk s st.pos → (st.o, st.c) ∈ pairs → Core s n st name ns st' := by
 intro n
 induction n with
 | zero =>
  intro st name ns st' h hb;simp only [parts, Prod.mk.injEq] at h;obtain ⟨-, rfl⟩ := h;cases hb
 | succ n ih =>
  intro st name ns st' h hb hpos hp
  have hbs : st.bad = false := by
   cases hsb : st.bad with
   | false => rfl
   | true => have := parts_bad s (n + 1) st name hsb; rw [h] at this; rw [hb] at this; cases this
  have notBad : ∀ sx nm, (parts s n sx nm).2.bad = false → sx.bad = false := by
   intro sx nm hh
   cases hsb : sx.bad with
   | false => rfl
   | true => have := parts_bad s n sx nm hsb; rw [hh] at this; cases this
  obtain ⟨hon, hcn, -, -⟩ := pairs_ne hp;have heta : ∀ x : PSt, x.bad = false → (⟨x.pos, x.deep, x.o, x.c, false⟩ : PSt) = x := fun x hx => by cases x; cases hx; rfl
  cases hn : snext s st.pos st.o st.c with
  | none b =>
   rw [parts_none hbs hn] at h;simp only [Prod.mk.injEq] at h;obtain ⟨rfl, rfl⟩ := h;simp only [Bool.or_eq_false_iff, Bool.not_eq_false', beq_iff_eq] at hb;obtain ⟨rfl, rfl⟩ := hb;refine ⟨fun hne => absurd rfl hne, fun _ => ⟨n + 1, st.pos, st.o, st.c, hpos, hp, ?_, by omega, by omega, fun u raw hu => ⟨⟨[], (pre_nil _).symm, fun _ => ?_⟩, fun _ _ => ⟨[], ?_⟩⟩⟩⟩
   · unfold snext at hn
     split at hn
     · assumption
     · dsimp only at hn
       split at hn
       · cases hn
       · cases hn
   · have := Rel.fin (s := s) (raw := raw) [s.drop st.pos] ⟨by simp, by simp⟩
     simpa [txs] using this
   · rw [heta st hbs]; rfl
  | some t =>
   obtain ⟨a2, e, F⟩ := snext_some hn;obtain ⟨ft1, ft2, ft3, ft4, ft5⟩ := found_to F hp;have hnu : ∀ u, snext (s ++ u) st.pos st.o st.c = .some t := fun u => snext_app u hon hcn hn
   have hst1 : ∀ u', t.kind ≠ 62 → (alOf s t).2.2 = false → st1 (s ++ 123 :: u') t st = st1 s t st := fun u' hk hal => st1_app u' hk (by omega) ft2 hal
   have hkind : ∀ k, k ≠ 0 → t.kind = k → ∀ u tr tg, Step s u st.pos st.o st.c t a2 e tr tg → tg.tag.getD 0 0 = k := fun k hk he u tr tg S => by
    rw [S.tag, (tagText_head F).1 (by rw [he]; exact hk), he]
   by_cases k33 : t.kind = 33
   · rw [parts_33 hbs hn k33] at h
     simp only [Prod.mk.injEq] at h;obtain ⟨rfl, rfl⟩ := h;have hal : (alOf s t).2.2 = false := notBad _ _ hb
     refine Core.tag (sx := st1 s t st) hs F hp (fun h => by rw [k33] at h; cases h) (fun h => by rw [k33] at h; cases h) hpos hal rfl rfl (fun _ _ => []) (ih _ _ _ _ rfl hb (pos_after F hp hal).1 hp) (fun u raw tr tg S => ?_) (fun raw tr tg x ns es S hx hr => .rem x hx hr) (fun _ u' => ?_)
     · rw [step_bang (st := ⟨st.pos, st.o, st.c⟩) S.rt S.rg (hkind 33 (by decide) k33 u tr tg S), S.pos, List.append_nil]; rfl
     · rw [parts_33 hbs (hnu _) k33, hst1 u' (by rw [k33]; decide) hal]
   by_cases k61 : t.kind = 61
   · rw [parts_61 hbs hn k61] at h
     simp only [Prod.mk.injEq] at h;obtain ⟨rfl, rfl⟩ := h;have hb61 := notBad _ _ hb
     cases hd : delim t.body st.o with
     | none => unfold st61 at hb61; rw [hd] at hb61; cases hb61
     | some oc =>
      obtain ⟨o', c'⟩ := oc;have hst61 : st61 s t st = { st1 s t st with o := o', c := c' } := by unfold st61; rw [hd]
      rw [hst61] at hb hb61 ⊢;have hal : (alOf s t).2.2 = false := hb61;refine Core.tag (sx := { st1 s t st with o := o', c := c' }) hs F hp (fun h => by rw [k61] at h; cases h) (fun _ => by rw [hd]; simp) hpos hal rfl rfl (fun _ _ => []) (ih _ _ _ _ rfl hb (pos_after F hp hal).1 (delim_some hd).1) (fun u raw tr tg S => ?_) (fun raw tr tg x ns es S hx hr => .rem x hx hr) (fun _ u' => ?_)
      · rw [step_set (st := ⟨st.pos, st.o, st.c⟩) S.rt S.rg (hkind 61 (by decide) k61 u tr tg S) (by rw [S.tag]; exact custom_of hs k61 F.bd hd), S.pos, List.append_nil]; rfl
      · have : st61 (s ++ 123 :: u') t st = { st1 s t st with o := o', c := c' } := by
         unfold st61; rw [hd, hst1 u' (by rw [k61]; decide) hal]
        rw [parts_61 hbs (hnu _) k61, this]
   by_cases k47 : t.kind = 47
   · rw [parts_47 hbs hn k47] at h
     simp only [Prod.mk.injEq] at h;obtain ⟨rfl, rfl⟩ := h;simp only [Bool.or_eq_false_iff, Bool.not_eq_false', beq_iff_eq] at hb;obtain ⟨⟨hal, hbn⟩, hne⟩ := hb;have hal : (alOf s t).2.2 = false := hal;have hne : name ≠ [] := by intro h; rw [h] at hne; cases hne
     refine ⟨fun _ => ⟨fun u raw hu => ⟨?_, fun hu0 hw => ?_⟩, (pos_after F hp hal).1, hp, rfl, Nat.le_of_lt (pos_after F hp hal).2⟩, fun he => absurd he hne⟩
     · obtain ⟨tr, tg, S⟩ := step_of F hs hp (fun h => by rw [k47] at h; cases h) (fun h => by rw [k47] at h; cases h) hpos hal u hu
       refine ⟨txOf tr tg, ?_, fun hu0 => ?_⟩
       · rw [step_close (st := ⟨st.pos, st.o, st.c⟩) S.rt S.rg (hkind 47 (by decide) k47 u tr tg S), if_pos (by rw [S.tag, drop_tagText hs (by rw [k47]; decide) F.bd, hbn]), S.pos]; rfl
       · subst hu0
         obtain ⟨x, hx, htx, hfl⟩ := txOf_rel S rfl hon;rw [htx];unfold tx1;rw [← hfl];exact .fin x hx
     · rcases hu with rfl | ⟨u', rfl⟩
       · exact absurd rfl hu0
       · refine ⟨tx1 (s ++ 123 :: u') t st, ?_⟩
         rw [parts_47 hbs (hnu _) k47, hst1 u' (by rw [k47]; decide) hal]
   by_cases k35 : t.kind = 35 ∨ t.kind = 94
   · rw [parts_35 hbs hn k35] at h
     simp only [Prod.mk.injEq] at h;obtain ⟨rfl, rfl⟩ := h;have hbk := notBad _ _ hb;generalize hkp : parts s n (st35 s t st) t.body = kp at *;obtain ⟨kids, sk⟩ := kp;have hskb : sk.bad = false := hbk;have hb35 : (st35 s t st).bad = false := notBad _ _ (by rw [hkp]; exact hskb);have hb35' := hb35;unfold st35 at hb35'
     simp only [Bool.or_eq_false_iff, Bool.not_eq_false', decide_eq_false_iff_not] at hb35';obtain ⟨⟨hal, hnm⟩, hdp⟩ := hb35';have hal : (alOf s t).2.2 = false := hal;have hk0 : t.kind ≠ 0 := by rcases k35 with h | h <;> rw [h] <;> decide
     have hk62 : t.kind ≠ 62 := by rcases k35 with h | h <;> rw [h] <;> decide
     have hk61 : t.kind ≠ 61 := by rcases k35 with h | h <;> rw [h] <;> decide
     have hk123 : t.kind ≠ 123 := by rcases k35 with h | h <;> rw [h] <;> decide
     have hC := ih _ _ _ _ hkp hskb (pos_after F hp hal).1 hp;obtain ⟨hsec, hskp, hskpr, hskd, hskl⟩ := hC.sec (nameOk_kind hnm).1;have hskl : (alOf s t).2.1 ≤ sk.pos := hskl;have hskd : sk.deep = st.deep + 1 := hskd;have hC2 := ih (back sk) name _ _ rfl hb hskp hskpr
     have := Core.extend (st := st) (N0 := tx1 s t st ++ [.mk (if t.kind = 94 then 4 else 3) t.body false [] kids]) hC2 (by have := (pos_after F hp hal).2; show st.pos < sk.pos; omega) (by show sk.deep - 1 = _; omega) (fun u raw hu => ?_) (fun u hu hu0 hw => ?_)
     · rw [List.append_assoc] at this; exact this
     · obtain ⟨tr, tg, S⟩ := step_of F hs hp (fun h => absurd h hk0) (fun h => absurd h hk61) hpos hal u hu
       obtain ⟨⟨fs, hfs, hrel⟩, -⟩ := hsec u raw hu;have hkk : tg.tag.getD 0 0 = t.kind := hkind _ hk0 rfl u tr tg S;have hdr : trimBy spB (tg.tag.drop 1) = t.body := by rw [S.tag]; exact drop_tagText hs ⟨hk0, hk123, hk61⟩ F.bd
       have hfs : iparse (s ++ u) raw n (st.deep + 1) ⟨tg.pos, st.o, st.c⟩ (some (trimBy spB (tg.tag.drop 1))) = some (some (fs, ⟨sk.pos, sk.o, sk.c⟩)) := by
        rw [hdr, S.pos]; exact hfs
       refine ⟨txOf tr tg ++ [.sect (trimBy spB (tg.tag.drop 1)) (tg.tag.getD 0 0 == 94) fs], ?_, fun hu0 ns es hr => ?_⟩
       · rw [step_sect (st := ⟨st.pos, st.o, st.c⟩) S.rt S.rg (by rw [hkk]; exact k35) (by omega), hfs]
         show _ = pre _ (iparse (s ++ u) raw n (sk.deep - 1) ⟨sk.pos, sk.o, sk.c⟩ (nmOf name));rw [show sk.deep - 1 = st.deep by omega]
       · subst hu0
         obtain ⟨x, hx, htx, hfl⟩ := txOf_rel S rfl hon;rw [htx, hdr, hkk];unfold tx1;rw [← hfl];have := Rel.sect x t.body (t.kind == 94) hx hnm (hrel rfl) hr
         rcases k35 with hk | hk
         · rw [hk] at this ⊢; exact this
         · rw [hk] at this ⊢; exact this
     · rcases hu with rfl | ⟨u', rfl⟩
       · exact absurd rfl hu0
       · have hwk : wiL [] kids := by
          obtain ⟨-, w2⟩ := wiL_append.1 hw;simp only [wiL, wiN] at w2;exact w2.1.1
         obtain ⟨-, hsp⟩ := hsec (123 :: u') false (.inr ⟨u', rfl⟩);obtain ⟨ns2, hns2⟩ := hsp (by simp) hwk
         have h35 : st35 (s ++ 123 :: u') t st = st35 s t st := by
          unfold st35; rw [hst1 u' hk62 hal]
         refine ⟨tx1 (s ++ 123 :: u') t st ++ [.mk (if t.kind = 94 then 4 else 3) t.body false [] ns2], ?_⟩;rw [parts_35 hbs (hnu _) k35, h35, hns2, List.append_assoc]; rfl
   by_cases k62 : t.kind = 62
   · rw [parts_62 hbs hn k62] at h
     simp only [Prod.mk.injEq] at h;obtain ⟨rfl, rfl⟩ := h;have hb62 := notBad _ _ hb;unfold st62 at hb62;simp only [Bool.or_eq_false_iff, Bool.not_eq_false'] at hb62;obtain ⟨hal, hwd⟩ := hb62;have hal : (alOf s t).2.2 = false := hal
     refine Core.tag (sx := st62 s t st) hs F hp (fun h => by rw [k62] at h; cases h) (fun h => by rw [k62] at h; cases h) hpos hal rfl rfl (fun tr _ => [.part t.body tr.pad]) (ih _ _ _ _ rfl hb (pos_after F hp hal).1 hp) (fun u raw tr tg S => ?_) (fun raw tr tg x ns es S hx hr => ?_) (fun hw u' => ?_)
     · rw [step_part (st := ⟨st.pos, st.o, st.c⟩) S.rt S.rg (hkind 62 (by decide) k62 u tr tg S), S.tag, drop_tagText hs (by rw [k62]; decide) F.bd, S.pos]; rfl
     · have := S.pad rfl k62
       rw [← this];exact .part x t.body tr.pad hx hwd (indOk_of S F rfl k62 hp) hr
     · simp [wiL, wiN] at hw
   · have hkk : ¬ kinded t.kind := by
      rintro ⟨a, b, c⟩
      rcases (kind_isKind F) with h | h
      · exact a h
      · rcases isKind_cases h with h | h | h | h | h | h | h | h
        · exact k35 (.inl h)
        · exact k35 (.inr h)
        · exact k47 h
        · exact k33 h
        · exact k62 h
        · exact b h
        · exact k61 h
        · exact c h
     rw [parts_var hbs hn hkk] at h;simp only [Prod.mk.injEq] at h;obtain ⟨rfl, rfl⟩ := h;have hb2 := notBad _ _ hb;unfold st2 at hb2;simp only [Bool.or_eq_false_iff, Bool.not_eq_false'] at hb2;obtain ⟨hal, hnm⟩ := hb2;have hal : (alOf s t).2.2 = false := hal
     refine Core.tag (sx := st2 s t st) hs F hp (fun _ => hnm) (fun h => absurd h k61) hpos hal rfl rfl (fun _ raw => [.var t.body (!(t.kind == 0) || raw)]) (ih _ _ _ _ rfl hb (pos_after F hp hal).1 hp) (fun u raw tr tg S => ?_) (fun raw tr tg x ns es S hx hr => .var x t.body _ hx hnm hr) (fun _ u' => ?_)
     · by_cases k0 : t.kind = 0
       · have htag : tg.tag = t.body := by rw [S.tag]; exact (tagText_head F).2 k0
         have hkb := nameOk_kind hnm
         rw [step_var (st := ⟨st.pos, st.o, st.c⟩) S.rt S.rg (fun k hk => by
          rw [htag];intro hc;have h2 := hkb.2.1;rw [hc] at h2
          rcases hk with rfl | rfl | rfl | rfl | rfl | rfl | rfl | rfl <;> exact absurd h2 (by decide)), htag, S.pos, k0]; rfl
       · by_cases k38 : t.kind = 38
         · rw [step_amp (st := ⟨st.pos, st.o, st.c⟩) S.rt S.rg (hkind 38 (by decide) k38 u tr tg S), S.tag, drop_tagText hs (by rw [k38]; decide) F.bd, S.pos, k38]; rfl
         · have k123 : t.kind = 123 := Classical.byContradiction fun h => hkk ⟨k0, k38, h⟩
           have htt : tagText s t a2 e = 123 :: (sub s a2 e ++ [125]) := by unfold tagText; rw [k123]; rfl
           have hin : ((123 :: (sub s a2 e ++ [125])).drop 1).dropLast = sub s a2 e := by simp
           rw [step_raw (st := ⟨st.pos, st.o, st.c⟩) S.rt S.rg (hkind 123 (by decide) k123 u tr tg S) (by rw [S.tag, htt, ← List.cons_append, List.getLast?_append]; rfl), S.tag, htt, hin, trim_signs hs, ← F.bd, S.pos, k123]; rfl
     · have : st2 (s ++ 123 :: u') t st = st2 s t st := by
        unfold st2; rw [hst1 u' k62 hal]
       rw [parts_var hbs (hnu _) hkk, this]
end Go.Proofs.YtfakghnpkdoclaaGreatDoor.Mu
namespace Go.Proofs.YtfakghnpkdoclaaGreatDoor.Mu
def OB : B := [123, 123]
def CB : B := [125, 125]
theorem parts_mono (s : B) : ∀ (n : Nat) (st : PSt) (name : B), (parts s n st name).2.bad = false → parts s (n + 1) st name = parts s n st name := by
 intro n
 induction n with
 | zero => intro st name h; cases h
 | succ n ih =>
  intro st name h
  by_cases hb : st.bad = true
  · rw [parts, if_pos hb, parts, if_pos hb]
  · have hb : st.bad = false := by simpa using hb
    have nb : ∀ sx nm, (parts s n sx nm).2.bad = false → sx.bad = false := by
     intro sx nm hh
     cases hsb : sx.bad with
     | false => rfl
     | true => have := parts_bad s n sx nm hsb; rw [hh] at this; cases this
    cases hn : snext s st.pos st.o st.c with
    | none b => rw [parts_none hb hn, parts_none hb hn]
    | some t =>
     by_cases k33 : t.kind = 33
     · rw [parts_33 hb hn k33] at h
       rw [parts_33 hb hn k33, parts_33 hb hn k33, ih _ _ h]
     by_cases k61 : t.kind = 61
     · rw [parts_61 hb hn k61] at h
       rw [parts_61 hb hn k61, parts_61 hb hn k61, ih _ _ h]
     by_cases k47 : t.kind = 47
     · rw [parts_47 hb hn k47, parts_47 hb hn k47]
     by_cases k35 : t.kind = 35 ∨ t.kind = 94
     · rw [parts_35 hb hn k35] at h
       have h2 : (parts s n (st35 s t st) t.body).2.bad = false := nb (back (parts s n (st35 s t st) t.body).2) name h;rw [parts_35 hb hn k35, parts_35 hb hn k35, ih _ _ h2, ih _ _ h]
     by_cases k62 : t.kind = 62
     · rw [parts_62 hb hn k62] at h
       rw [parts_62 hb hn k62, parts_62 hb hn k62, ih _ _ h]
     · obtain ⟨a2, e, F⟩ := snext_some hn
       have hkk : ¬ kinded t.kind := by
        rintro ⟨a, b, c⟩
        rcases (kind_isKind F) with h | h
        · exact a h
        · rcases isKind_cases h with h | h | h | h | h | h | h | h
          · exact k35 (.inl h)
          · exact k35 (.inr h)
          · exact k47 h
          · exact k33 h
          · exact k62 h
          · exact b h
          · exact k61 h
          · exact c h
       rw [parts_var hb hn hkk] at h;rw [parts_var hb hn hkk, parts_var hb hn hkk, ih _ _ h]
theorem parts_more (s : B) (n k : Nat) (st : PSt) (name : B) (h : (parts s n st name).2.bad = false) : parts s (n + k) st name = parts s n st name := by
 induction k with
 | zero => rfl
 | succ k ih =>
  rw [← Nat.add_assoc, parts_mono s (n + k) st name (by rw [ih]; exact h), ih]
theorem parse_core {s : B} (hs : signs s) {ns : List Node} (hp : parse s = (ns, true)) (k : Nat) : CoreTop s (s.length + 4 + k) start ns := by
 unfold parse at hp
 simp only [Prod.mk.injEq, Bool.not_eq_true'] at hp
 have h := parts_more s (s.length + 4) k start [] hp.2
 have hc := core s hs (s.length + 4 + k) start [] ns (parts s (s.length + 4) start []).2 (by rw [h, ← hp.1]) hp.2 ⟨Nat.zero_le _, .inl rfl⟩ (by simp [start, pairs])
 exact hc.top rfl
end Go.Proofs.YtfakghnpkdoclaaGreatDoor.Mu
namespace Go.Proofs.YtfakghnpkdoclaaGreatDoor.Mu
inductive Val where
 | mk (kind : Int) (text : B) (num : Int) (tru : Bool) (keys : List B) (list : List Val)
def Val.kind : Val → Int | .mk k _ _ _ _ _ => k
def Val.text : Val → B | .mk _ t _ _ _ _ => t
def Val.num : Val → Int | .mk _ _ n _ _ _ => n
def Val.tru : Val → Bool | .mk _ _ _ b _ _ => b
def Val.keys : Val → List B | .mk _ _ _ _ ks _ => ks
def Val.list : Val → List Val | .mk _ _ _ _ _ l => l
def Val.zero : Val := .mk 0 [] 0 false [] []
def getKV {α : Type} : List B → List α → B → Option α
 | k :: ks, v :: vs, key => if k = key then some v else getKV ks vs key
 | _, _, _ => none
def fieldV (v : Val) (key : B) : Option Val := if v.kind = 5 then getKV v.keys v.list key else none
def downs : List B → Val → Option Val
 | [], v => some v
 | w :: ws, v => (fieldV v w).bind (downs ws)
def lookL (w : B) (ws : List B) : List Val → Option Val
 | [] => none
 | c :: st => match fieldV c w with
  | none => lookL w ws st
  | some v => downs ws v
def lookS (stack : List Val) (name : B) : Option Val :=
 if name = [46] then stack.head? else
  match words name with
  | [] => none
  | w :: ws => lookL w ws stack
def trueB : B := [116, 114, 117, 101]
def falseB : B := [102, 97, 108, 115, 101]
def shown (v : Val) : B :=
 if v.kind = 1 then v.text else if v.kind = 2 then Lib.itoa v.num else if v.kind = 3 then (if v.tru then trueB else falseB) else []
def escB (b : UInt8) : B :=
 if b = 38 then [38, 97, 109, 112, 59] else if b = 60 then [38, 108, 116, 59] else if b = 62 then [38, 103, 116, 59]
 else if b = 34 then [38, 35, 51, 52, 59] else if b = 39 then [38, 35, 51, 57, 59] else [b]
def esc (l : B) : B := l.flatMap escB
def indL (ind : B) : Bool → B → B
 | _, [] => []
 | start, c :: l => (if start && c != 10 then ind else []) ++ c :: indL ind (c == 10) l
def partOf (ps : List (B × B)) (n : B) : B := match ps.reverse.find? (fun p => p.1 == n) with
 | some p => p.2
 | none => []
structure RS where
 missing : Bool
 pieces : Nat
 asked : Nat
abbrev SRes := Option (B × RS)
def sAll {α : Type} (f : α → RS → SRes) : List α → RS → SRes
 | [], st => some ([], st)
 | x :: xs, st => (f x st).bind fun r => (sAll f xs r.2).map fun q => (r.1 ++ q.1, q.2)
def secOpen (v : Option Val) : Bool := match v with
 | none => false
 | some v => (v.kind == 2 && v.num == 0) || (v.kind == 1 && (trimBy wsB v.text).isEmpty)
def secList (v : Option Val) : List Val := match v with
 | none => []
 | some v => if v.kind = 0 ∨ (v.kind = 3 ∧ v.tru = false) then [] else if v.kind = 4 then v.list else [v]
def varOpen (v : Option Val) : Bool := match v with
 | none => false
 | some v => v.kind == 4 || v.kind == 5 || v.kind == 0
def shownO (v : Option Val) : B := match v with
 | none => []
 | some v => shown v
def sNode (parts : List (B × B)) (raw : Bool) (rec : List Node → List Val → RS → SRes) (stack : List Val) : Node → RS → SRes
 | .mk k t r ind kids, st =>
  if k = 1 then some (t, st)
  else if k = 6 then some ([], st)
  else if k = 2 then
   if varOpen (lookS stack t) then none
   else some (if r || raw then shownO (lookS stack t) else esc (shownO (lookS stack t)), { st with missing := st.missing || (lookS stack t).isNone })
  else if k = 5 then
   if (parse (indL ind true (partOf parts t))).2 then rec (parse (indL ind true (partOf parts t))).1 stack { st with asked := st.asked + 1 } else none
  else if secOpen (lookS stack t) then none
  else if k = 4 then
   if (secList (lookS stack t)).isEmpty then rec kids stack st else some ([], st)
  else sAll (fun x s => rec kids (x :: stack) s) (secList (lookS stack t)) st
def srender (parts : List (B × B)) (raw : Bool) : Nat → List Node → List Val → RS → SRes
 | 0, _, _, _ => none
 | n + 1, l, stack, st =>
  if 1000 < st.pieces + (1 + l.length) ∨ 40 < st.asked then none
  else sAll (sNode parts raw (srender parts raw n) stack) l { st with pieces := st.pieces + (1 + l.length) }
abbrev RRes := Option (List B × Nat × Bool)
def rThen (r : RRes) (f : Nat → RRes) : RRes := match r with
 | none => none
 | some x => if x.2.2 then some x else (f x.2.1).map fun y => (x.1 ++ y.1, y.2)
def rAll {α : Type} (f : α → Nat → RRes) : List α → Nat → RRes
 | [], k => some ([], k, false)
 | x :: xs, k => rThen (f x k) (rAll f xs)
def look1 (name : B) : List (Option Val) → Option Val
 | [] => none
 | none :: ch => look1 name ch
 | some v :: ch => if name = [46] then some v else match fieldV v name with
  | some x => some x
  | none => look1 name ch
def lookW : List B → List (Option Val) → Option Val
 | [], _ => none
 | [w], ch => look1 w ch
 | w :: ws, ch => match look1 w ch with
  | none => none
  | some v => lookW ws [some v]
def lookP (ch : List (Option Val)) (name : B) : Option Val := if name = [46] then look1 name ch else lookW (words name) ch
def emptyP (v : Option Val) : Bool := match v with
 | none => true
 | some v => if v.kind = 0 then true else if v.kind = 4 then v.list.isEmpty else if v.kind = 1 then (trimBy spB v.text).isEmpty
  else if v.kind = 2 then v.num == 0 else if v.kind = 3 then !v.tru else false
def rElem (parts : List (B × B)) (am : Bool) (rec : List Elem → List (Option Val) → Nat → RRes) (ch : List (Option Val)) : Elem → Nat → RRes
 | .text t, k => some ([t], k, false)
 | .var n r, k => match lookP ch n with
  | none => some ([], k, !am)
  | some v => if varOpen (some v) then none else some ([if r then shown v else esc (shown v)], k, false)
 | .sect n inv es, k =>
  if (emptyP (lookP ch n) && !inv) || (!(emptyP (lookP ch n)) && inv) then some ([], k, false)
  else if inv then match ch with
   | [] => none
   | c :: _ => rec es (c :: ch) k
  else match lookP ch n with
   | none => none
   | some v => if v.kind = 4 then rAll (fun x k => rec es (some x :: ch) k) v.list k else rec es (some v :: ch) k
 | .part n ind, k =>
  if (parse (indL ind true (partOf parts n))).2 then
   match iparse (indL ind true (partOf parts n)) false ((indL ind true (partOf parts n)).length + 9) 0 ⟨0, OB, CB⟩ none with
   | some (some x) => rec x.1 ch (k + 1)
   | _ => none
  else none
def rrender (parts : List (B × B)) (am : Bool) : Nat → List Elem → List (Option Val) → Nat → RRes
 | 0, _, _, _ => none
 | n + 1, es, ch, k => rAll (rElem parts am (rrender parts am n) ch) es k
end Go.Proofs.YtfakghnpkdoclaaGreatDoor.Mu
namespace Go.Proofs.YtfakghnpkdoclaaGreatDoor.Mu
theorem indL_nil (b : Bool) : ∀ l : B, indL [] b l = l := by
 intro l
 induction l generalizing b with
 | nil => rfl
 | cons c l ih => simp [indL, ih]
theorem indL_length (ind : B) : ∀ (l : B) (b : Bool), (indL ind b l).length ≤ l.length * (ind.length + 1)
 | [], b => by simp [indL]
 | c :: l, b => by
  have ih := indL_length ind l (c == 10);simp only [indL, List.length_append, List.length_cons, Nat.add_mul, Nat.one_mul]
  split <;> simp <;> omega
theorem indL_mem {ind : B} {x : UInt8} : ∀ {l : B} {b : Bool}, x ∈ indL ind b l → x ∈ ind ∨ x ∈ l
 | [], b, h => by simp [indL] at h
 | c :: l, b, h => by
  simp only [indL, List.mem_append, List.mem_cons] at h
  rcases h with h | h | h
  · split at h
    · exact .inl h
    · simp at h
  · exact .inr (by simp [h])
  · rcases indL_mem h with h | h
    · exact .inl h
    · exact .inr (by simp [h])
theorem indL_signs {ind l : B} (hi : signs ind) (hl : signs l) (b : Bool) : signs (indL ind b l) := fun x hx => by
 rcases indL_mem hx with h | h
 · exact hi x h
 · exact hl x h
theorem run_prefix {ind : B} : ∀ {l : B} {b : Bool} {x : B}, x <+: indL ind b l → (∀ c ∈ x, blankB c = true) → x.length ≤ (if b then ind.length else 0) + l.length
 | [], b, x, h, hb => by
  have : x = [] := by simpa [indL] using h
  subst this; simp
 | c :: l, b, x, h, hb => by
  have hrest : ∀ y : B, y <+: c :: indL ind (c == 10) l → (∀ d ∈ y, blankB d = true) → y.length ≤ (c :: l).length := by
   intro y hy hyb
   cases y with
   | nil => simp
   | cons d y =>
    obtain ⟨rfl, hy⟩ := List.cons_prefix_cons.1 hy;have hd := hyb d (by simp)
    have h10 : (d == 10) = false := by
     rw [beq_eq_false_iff_ne];rintro rfl;exact absurd hd (by decide)
    rw [h10] at hy;have := run_prefix hy (fun e he => hyb e (by simp [he]));simp at this
    simp; omega
  simp only [indL] at h
  split at h
  · rename_i hc
    have hb' : b = true := by simp at hc; exact hc.1
    subst hb'
    rcases Nat.lt_or_ge ind.length x.length with hlt | hge
    · have h1 : ind <+: x := List.prefix_of_prefix_length_le (List.prefix_append _ _) h (by omega)
      obtain ⟨y, rfl⟩ := h1;have h2 : y <+: c :: indL ind (c == 10) l := (List.prefix_append_right_inj ind).1 h;have := hrest y h2 (fun d hd => hb d (by simp [hd]));simp at this ⊢; omega
    · simp; omega
  · have := hrest x (by simpa using h) hb
    simp at this ⊢; omega
theorem run_infix {ind : B} : ∀ {l : B} {b : Bool} {x : B}, x <:+: indL ind b l → (∀ c ∈ x, blankB c = true) → x.length ≤ ind.length + l.length
 | [], b, x, h, hb => by
  have : x = [] := by simpa [indL] using h
  subst this; simp
 | c :: l, b, x, h, hb => by
  have hrest : x <:+: c :: indL ind (c == 10) l → x.length ≤ ind.length + (c :: l).length := by
   intro hx
   rcases List.infix_cons_iff.1 hx with hx | hx
   · have h1 : x <+: indL ind false (c :: l) := by simpa [indL] using hx
     have := run_prefix h1 hb;simp at this ⊢; omega
   · have := run_infix hx hb
     simp; omega
  have hind : ∀ (i : B), i <:+ ind → x <:+: i ++ c :: indL ind (c == 10) l → x.length ≤ ind.length + (c :: l).length := by
   intro i
   induction i with
   | nil => intro _ hx; exact hrest (by simpa using hx)
   | cons d i ih =>
    intro hi hx;rw [List.cons_append] at hx
    rcases List.infix_cons_iff.1 hx with hx | hx
    · rcases Nat.lt_or_ge (d :: i).length x.length with hlt | hge
      · rw [← List.cons_append] at hx
        have h1 : d :: i <+: x := List.prefix_of_prefix_length_le (List.prefix_append _ _) hx (by omega);obtain ⟨y, rfl⟩ := h1;have h2 : y <+: c :: indL ind (c == 10) l := (List.prefix_append_right_inj (d :: i)).1 hx;have h3 : y <+: indL ind false (c :: l) := by simpa [indL] using h2
        have h4 := run_prefix h3 (fun e he => hb e (by simp [he]));have h5 := hi.length_le;simp at h4 h5 ⊢; omega
      · have h5 := hi.length_le
        simp at h5 hge ⊢; omega
    · exact ih ((List.suffix_cons d i).trans hi) hx
  simp only [indL] at h
  split at h
  · exact hind ind (List.suffix_refl _) h
  · exact hrest (by simpa using h)
def RunOk (s : B) (D : Nat) : Prop := ∀ x : B, x <:+: s → (∀ c ∈ x, blankB c = true) → x.length ≤ D
theorem sub_infix (s : B) (a b : Nat) : sub s a b <:+: s := (List.drop_suffix _ _).isInfix.trans (List.take_prefix _ _).isInfix
theorem RunOk.all (s : B) : RunOk s s.length := fun x h _ => h.length_le
theorem RunOk.ind {s ind : B} {D : Nat} (h : RunOk s D) (hi : IndOk s ind) : ind.length ≤ D := by
 obtain ⟨h1, a, b, h2, rfl⟩ := hi
 exact h _ (sub_infix s a b) h1
theorem IndOk.signs {s ind : B} (hs : signs s) (hi : IndOk s ind) : signs ind := by
 obtain ⟨h1, a, b, h2, rfl⟩ := hi
 exact fun x hx => hs x (mem_sub hx)
theorem RunOk.indL {ind l : B} (b : Bool) {D : Nat} (h : ind.length + l.length ≤ D) : RunOk (indL ind b l) D := fun x hx hb => Nat.le_trans (run_infix hx hb) h
theorem parse_rel {s : B} (hs : signs s) (hp : (parse s).2 = true) (raw : Bool) :
 ∃ es st, iparse s raw (s.length + 9) 0 ⟨0, OB, CB⟩ none = some (some (es, st)) ∧ Rel s raw (parse s).1 es := by
 obtain ⟨n', pe, oe, ce, h1, h2, h3, h4, h5, h6⟩ := parse_core hs (ns := (parse s).1) (by rw [← hp]) 5
 obtain ⟨⟨es, h7, h8⟩, -⟩ := h6 [] raw (.inl rfl)
 rw [List.append_nil] at h7
 have h9 : iparse s raw n' start.deep ⟨pe, oe, ce⟩ none = some (some ([.text (s.drop pe)], { (⟨pe, oe, ce⟩ : ISt) with pos := s.length })) := by
  obtain ⟨m, rfl⟩ : ∃ m, n' = m + 1 := ⟨n' - 1, by omega⟩
  exact step_eof_top (by unfold rdText; simp [h3])
 rw [h9, pre_ok] at h7
 exact ⟨_, _, h7, h8 rfl⟩
def VOk (T : Nat) : Nat → Val → Prop
 | 0, _ => False
 | d + 1, v => (0 ≤ v.kind ∧ v.kind ≤ 5) ∧ signs v.text ∧ v.text.length ≤ T ∧ ((v.kind = 5 → v.keys.length = v.list.length ∧ v.keys.Nodup) ∧ v.list.length ≤ 8) ∧ (-9223372036854775808 ≤ v.num ∧ v.num ≤ 9223372036854775807) ∧ ∀ x ∈ v.list, VOk T d x
def VG (T : Nat) (v : Val) : Prop := ∃ d, VOk T d v
theorem VG.list {T : Nat} {v x : Val} (h : VG T v) (hx : x ∈ v.list) : VG T x := by
 obtain ⟨d, h⟩ := h
 cases d with
 | zero => exact h.elim
 | succ d => exact ⟨d, h.2.2.2.2.2 x hx⟩
theorem VG.text {T : Nat} {v : Val} (h : VG T v) : signs v.text ∧ v.text.length ≤ T ∧ 0 ≤ v.kind ∧ v.kind ≤ 5 := by
 obtain ⟨d, h⟩ := h
 cases d with
 | zero => exact h.elim
 | succ d => exact ⟨h.2.1, h.2.2.1, h.1.1, h.1.2⟩
theorem VG.num {T : Nat} {v : Val} (h : VG T v) : -9223372036854775808 ≤ v.num ∧ v.num ≤ 9223372036854775807 := by
 obtain ⟨d, h⟩ := h
 cases d with
 | zero => exact h.elim
 | succ d => exact h.2.2.2.2.1
theorem VG.few {T : Nat} {v : Val} (h : VG T v) : v.list.length ≤ 8 := by
 obtain ⟨d, h⟩ := h
 cases d with
 | zero => exact h.elim
 | succ d => exact h.2.2.2.1.2
theorem getKV_mem {key : B} {x : Val} : ∀ {ks : List B} {vs : List Val}, getKV ks vs key = some x → x ∈ vs
 | k :: ks, v :: vs, h => by
  simp only [getKV] at h
  split at h
  · cases h; simp
  · exact List.mem_cons_of_mem _ (getKV_mem h)
 | [], _, h => by simp [getKV] at h
 | _ :: _, [], h => by simp [getKV] at h
theorem VG.field {T : Nat} {v x : Val} {w : B} (h : VG T v) (hx : fieldV v w = some x) : VG T x := by
 unfold fieldV at hx
 split at hx
 · exact h.list (getKV_mem hx)
 · cases hx
theorem VG.downs {T : Nat} {x : Val} : ∀ {ws : List B} {v : Val}, VG T v → downs ws v = some x → VG T x
 | [], v, h, hx => by
  simp only [Mu.downs] at hx
  cases hx; exact h
 | w :: ws, v, h, hx => by
  simp only [Mu.downs] at hx
  cases hf : fieldV v w with
  | none => simp [hf] at hx
  | some y =>
   simp only [hf, Option.bind_some] at hx;exact VG.downs (h.field hf) hx
theorem VG.lookL {T : Nat} {w : B} {ws : List B} {x : Val} : ∀ {st : List Val}, (∀ v ∈ st, VG T v) → lookL w ws st = some x → VG T x
 | [], h, hx => by simp [Mu.lookL] at hx
 | c :: st, h, hx => by
  simp only [Mu.lookL] at hx
  cases hf : fieldV c w with
  | none =>
   simp only [hf] at hx;exact VG.lookL (fun v hv => h v (by simp [hv])) hx
  | some y =>
   simp only [hf] at hx;exact ((h c (by simp)).field hf).downs hx
theorem VG.lookS {T : Nat} {st : List Val} {n : B} {x : Val} (h : ∀ v ∈ st, VG T v) (hx : lookS st n = some x) : VG T x := by
 unfold Mu.lookS at hx
 split at hx
 · cases st with
   | nil => simp at hx
   | cons v st => simp at hx; subst hx; exact h _ (by simp)
 · split at hx
   · cases hx
   · exact VG.lookL h hx
inductive ChRel : List (Option Val) → List Val → Prop where
 | base (st : List Val) : ChRel (st.map some) st
 | cons (v : Val) {ch : List (Option Val)} {st : List Val} : ChRel ch st → ChRel (some v :: ch) (v :: st)
 | dup (v : Val) {ch : List (Option Val)} {st : List Val} : ChRel (some v :: ch) st → ChRel (some v :: some v :: ch) st
theorem ChRel.head {ch : List (Option Val)} {st : List Val} (h : ChRel ch st) : ch.head? = st.head?.map some := by
 induction h with
 | base st => cases st <;> rfl
 | cons v h ih => rfl
 | dup v h ih => simpa using ih
theorem ChRel.look1 {ch : List (Option Val)} {st : List Val} (h : ChRel ch st) (w : B) (hw : w ≠ [46]) (ws : List B) : lookL w ws st = (look1 w ch).bind (downs ws) := by
 have hone : ∀ (v : Val) (ch : List (Option Val)), Mu.look1 w (some v :: ch) = match fieldV v w with
  | some x => some x
  | none => Mu.look1 w ch := fun v ch => by
   simp only [Mu.look1, if_neg hw]
   all_goals (cases fieldV v w <;> rfl)
 induction h with
 | base st =>
  induction st with
  | nil => rfl
  | cons v st ih =>
   rw [List.map_cons, hone];simp only [Mu.lookL]
   cases fieldV v w with
   | none => exact ih
   | some x => rfl
 | cons v h ih =>
  rw [hone];simp only [Mu.lookL]
  cases fieldV v w with
  | none => exact ih
  | some x => rfl
 | dup v h ih =>
  rw [hone, ih, hone]
  cases fieldV v w with
  | none => rfl
  | some x => rfl
theorem lookW_downs : ∀ (ws : List B), (∀ w ∈ ws, w ≠ [46]) → ws ≠ [] → ∀ v : Val, lookW ws [some v] = downs ws v
 | [], _, h, _ => absurd rfl h
 | [w], hw, _, v => by
  simp only [lookW, look1, if_neg (hw w (by simp)), downs]
  cases fieldV v w <;> rfl
 | w :: w2 :: ws, hw, _, v => by
  have h1 : look1 w [some v] = fieldV v w := by
   simp only [look1, if_neg (hw w (by simp))]
   all_goals (cases fieldV v w <;> rfl)
  simp only [lookW, h1];rw [downs]
  cases hf : fieldV v w with
  | none => rfl
  | some x =>
   simp only [Option.bind_some];exact lookW_downs (w2 :: ws) (fun y hy => hw y (by simp [hy])) (by simp) x
theorem wordOk_ne {w : B} (h : wordOk w = true) : w ≠ [46] := by
 rintro rfl
 exact absurd h (by decide)
theorem words_ne (s : B) : words s ≠ [] := by
 obtain ⟨w, ws, h, -⟩ := wordsL_head [] s
 unfold words
 rw [h]; simp
theorem lookP_eq {ch : List (Option Val)} {st : List Val} (h : ChRel ch st) {n : B} (hn : nameOk n = true) : lookP ch n = lookS st n := by
 unfold lookP lookS
 by_cases h46 : n = [46]
 · rw [if_pos h46, if_pos h46, h46]
   have := h.head
   cases ch with
   | nil =>
    cases st with
    | nil => rfl
    | cons v st => simp at this
   | cons c ch =>
    cases st with
    | nil => simp at this
    | cons v st =>
     simp at this;subst this;simp [look1]
 · rw [if_neg h46, if_neg h46]
   have hw : ∀ w ∈ words n, w ≠ [46] := by
    unfold nameOk at hn;simp only [Bool.or_eq_true, beq_iff_eq, Bool.and_eq_true, List.all_eq_true] at hn
    rcases hn with hn | hn
    · exact absurd hn h46
    · exact fun w hw => wordOk_ne (hn.1 w hw)
   cases hws : words n with
   | nil => exact absurd hws (words_ne n)
   | cons w ws =>
    rw [hws] at hw;show lookW (w :: ws) ch = lookL w ws st;rw [h.look1 w (hw w (by simp)) ws]
    cases ws with
    | nil =>
     simp only [lookW]
     cases look1 w ch <;> rfl
    | cons w2 ws =>
     simp only [lookW]
     cases look1 w ch with
     | none => rfl
     | some v => exact lookW_downs (w2 :: ws) (fun y hy => hw y (by simp [hy])) (by simp) v
structure Good (am : Bool) (st : RS) (out : B) (st' : RS) (k m : Nat) (r : RRes) : Prop where
 pieces : st.pieces ≤ st'.pieces
 missing : st.missing = true → st'.missing = true
 asked : st.asked ≤ st'.asked
 run : am = true ∨ st.missing = false → ∃ ws k' er, r = some (ws, k', er) ∧ ws.flatten <+: out ∧ ws.length ≤ 3 * (st'.pieces - st.pieces) + m ∧ k' + st.asked ≤ k + st'.asked ∧ er = (!am && st'.missing) ∧ (er = false → ws.flatten = out)
theorem Good.then {am : Bool} {st st1 st2 : RS} {o1 o2 : B} {k m1 m2 : Nat} {r : RRes} {f : Nat → RRes} (h : Good am st o1 st1 k m1 r) (g : ∀ k1, Good am st1 o2 st2 k1 m2 (f k1)) : Good am st (o1 ++ o2) st2 k (m1 + m2) (rThen r f) := by
 have hp := (g 0).pieces
 have hq := h.pieces
 have ha := (g 0).asked
 refine ⟨Nat.le_trans h.pieces hp, fun hm => (g 0).missing (h.missing hm), Nat.le_trans h.asked ha, fun hm => ?_⟩
 obtain ⟨ws, k', er, rfl, h2, h3, h4, h5, h6⟩ := h.run hm
 cases er with
 | true =>
  have h7 : (!am && st1.missing) = true := h5.symm;simp only [Bool.and_eq_true, Bool.not_eq_true'] at h7;refine ⟨ws, k', true, by simp [rThen], h2.trans (List.prefix_append _ _), by omega, by omega, ?_, fun h => by cases h⟩;rw [h7.1, (g 0).missing h7.2]; rfl
 | false =>
  have h7 : am = true ∨ st1.missing = false := by
   cases ham : am with
   | true => exact .inl rfl
   | false =>
    right;rw [ham] at h5
    simpa using h5.symm
  obtain ⟨ws2, k2, er2, h8, h9, h10, h11, h12, h13⟩ := (g k').run h7;refine ⟨ws ++ ws2, k2, er2, by simp [rThen, h8], ?_, by simp; omega, by omega, h12, fun h => ?_⟩
  · rw [List.flatten_append, h6 rfl]
    exact (List.prefix_append_right_inj o1).2 h9
  · rw [List.flatten_append, h6 rfl, h13 h]
theorem Good.nil {am : Bool} {st : RS} (k : Nat) : Good am st [] st k 0 (some ([], k, !am && st.missing)) :=
 ⟨Nat.le_refl _, id, Nat.le_refl _, fun _ => ⟨[], k, _, rfl, List.nil_prefix, by simp, Nat.le_refl _, rfl, fun _ => rfl⟩⟩
theorem Good.nil' {am : Bool} {st : RS} (k : Nat) : Good am st [] st k 0 (some ([], k, false)) :=
 ⟨Nat.le_refl _, id, Nat.le_refl _, fun hm => ⟨[], k, _, rfl, List.nil_prefix, by simp, Nat.le_refl _, by rcases hm with hm | hm <;> simp [hm], fun _ => rfl⟩⟩
theorem Good.mono {am : Bool} {st st' : RS} {o : B} {k m m' : Nat} {r : RRes} (h : Good am st o st' k m r) (hm : m ≤ m') : Good am st o st' k m' r :=
 ⟨h.pieces, h.missing, h.asked, fun hx => by
  obtain ⟨ws, k', er, h1, h2, h3, h4⟩ := h.run hx;exact ⟨ws, k', er, h1, h2, by omega, h4⟩⟩
theorem rAll_append {α : Type} (f : α → Nat → RRes) : ∀ (a b : List α) (k : Nat), rAll f (a ++ b) k = rThen (rAll f a k) (rAll f b)
 | [], b, k => by
  simp only [List.nil_append, rAll, rThen]
  cases rAll f b k with
  | none => rfl
  | some q => simp
 | x :: a, b, k => by
  simp only [List.cons_append, rAll]
  cases hx : f x k with
  | none => rfl
  | some q =>
   obtain ⟨qw, qk, qe⟩ := q
   cases qe with
   | true => simp [rThen]
   | false =>
    simp only [rThen, rAll_append f a b qk, Bool.false_eq_true, if_false]
    cases hy : rAll f a qk with
    | none => rfl
    | some q2 =>
     obtain ⟨yw, yk, ye⟩ := q2
     cases ye with
     | true => simp [rThen]
     | false =>
      simp only [rThen, Option.map_some, Bool.false_eq_true, if_false]
      cases rAll f b yk with
      | none => rfl
      | some q3 => simp
theorem sAll_append {α : Type} (f : α → RS → SRes) : ∀ (a b : List α) (st : RS), sAll f (a ++ b) st = (sAll f a st).bind fun r => (sAll f b r.2).map fun q => (r.1 ++ q.1, q.2)
 | [], b, st => by
  simp only [List.nil_append, sAll, Option.bind_some]
  cases sAll f b st <;> rfl
 | x :: a, b, st => by
  simp only [List.cons_append, sAll]
  cases f x st with
  | none => rfl
  | some r =>
   simp only [Option.bind_some, sAll_append f a b r.2]
   cases sAll f a r.2 with
   | none => rfl
   | some q =>
    simp only [Option.bind_some, Option.map_some]
    cases sAll f b q.2 with
    | none => rfl
    | some z => simp
theorem sAll_some {α : Type} {f : α → RS → SRes} {x : α} {xs : List α} {st st' : RS} {out : B} (h : sAll f (x :: xs) st = some (out, st')) : ∃ o1 s1 o2, f x st = some (o1, s1) ∧ sAll f xs s1 = some (o2, st') ∧ out = o1 ++ o2 := by
 simp only [sAll] at h
 cases hx : f x st with
 | none => simp [hx] at h
 | some r =>
  simp only [hx, Option.bind_some] at h
  cases hq : sAll f xs r.2 with
  | none => simp [hq] at h
  | some q =>
   simp only [hq, Option.map_some, Option.some.injEq, Prod.mk.injEq] at h;exact ⟨r.1, r.2, q.1, rfl, by rw [hq, ← h.2], h.1.symm⟩
theorem sAll_append_some {α : Type} {f : α → RS → SRes} {a b : List α} {st st' : RS} {out : B} (h : sAll f (a ++ b) st = some (out, st')) : ∃ o1 s1 o2, sAll f a st = some (o1, s1) ∧ sAll f b s1 = some (o2, st') ∧ out = o1 ++ o2 := by
 rw [sAll_append] at h
 cases hx : sAll f a st with
 | none => simp [hx] at h
 | some r =>
  simp only [hx, Option.bind_some] at h
  cases hq : sAll f b r.2 with
  | none => simp [hq] at h
  | some q =>
   simp only [hq, Option.map_some, Option.some.injEq, Prod.mk.injEq] at h;exact ⟨r.1, r.2, q.1, rfl, by rw [hq, ← h.2], h.1.symm⟩
theorem sAll_one {α : Type} {f : α → RS → SRes} {x : α} {st st' : RS} {out : B} (h : sAll f [x] st = some (out, st')) : f x st = some (out, st') := by
 obtain ⟨o1, s1, o2, h1, h2, rfl⟩ := sAll_some h
 simp only [sAll, Option.some.injEq, Prod.mk.injEq] at h2
 rw [h1, ← h2.1, h2.2, List.append_nil]
theorem rAll_txs (f : Elem → Nat → RRes) (hf : ∀ t k, f (.text t) k = some ([t], k, false)) : ∀ (x : List B) (k : Nat), rAll f (txs x) k = some (x, k, false)
 | [], k => rfl
 | t :: x, k => by
  show rAll f (.text t :: txs x) k = _;simp [rAll, hf, rThen, rAll_txs f hf x k]
theorem good_txs {am : Bool} {f : Node → RS → SRes} {g : Elem → Nat → RRes} (hf : ∀ t st, f (.mk 1 t false [] []) st = some (t, st)) (hg : ∀ t k, g (.text t) k = some ([t], k, false)) {x : List B} (hx : x.length ≤ 2)
 {st st' : RS} {out : B} (h : sAll f (addT x.flatten) st = some (out, st')) (k : Nat) : Good am st out st' k 2 (rAll g (txs x) k) := by
 have h1 : out = x.flatten ∧ st' = st := by
  unfold addT at h
  split at h
  · rename_i h0
    simp only [sAll, Option.some.injEq, Prod.mk.injEq] at h;exact ⟨by rw [h0]; exact h.1.symm, h.2.symm⟩
  · have := sAll_one h
    rw [hf] at this;simp only [Option.some.injEq, Prod.mk.injEq] at this;exact ⟨this.1.symm, this.2.symm⟩
 obtain ⟨rfl, rfl⟩ := h1
 rw [rAll_txs g hg]
 exact ⟨Nat.le_refl _, id, Nat.le_refl _, fun hm => ⟨x, k, false, rfl, List.prefix_refl _, by omega, Nat.le_refl _, by rcases hm with hm | hm <;> simp [hm], fun _ => rfl⟩⟩
theorem good_all {α : Type} {am : Bool} {f : α → RS → SRes} {g : α → Nat → RRes} : ∀ (l : List α), (∀ x ∈ l, ∀ st out st', f x st = some (out, st') → ∀ k, Good am st out st' k 0 (g x k)) →
 ∀ st out st', sAll f l st = some (out, st') → ∀ k, Good am st out st' k 0 (rAll g l k)
 | [], _, st, out, st', h, k => by
  simp only [sAll, Option.some.injEq, Prod.mk.injEq] at h;obtain ⟨rfl, rfl⟩ := h;exact Good.nil' _
 | x :: l, H, st, out, st', h, k => by
  obtain ⟨o1, s1, o2, h1, h2, rfl⟩ := sAll_some h;exact (H x (by simp) _ _ _ h1 k).then (m2 := 0) (good_all l (fun y hy => H y (by simp [hy])) _ _ _ h2)
theorem empty_eq {T : Nat} {v : Option Val} (hv : ∀ x, v = some x → VG T x) (ho : secOpen v = false) : emptyP v = (secList v).isEmpty := by
 cases v with
 | none => rfl
 | some v =>
  have h := (hv v rfl).text;unfold secOpen at ho;simp only [Bool.or_eq_false_iff, Bool.and_eq_false_iff, beq_eq_false_iff_ne] at ho;unfold emptyP secList
  by_cases h0 : v.kind = 0
  · simp [h0]
  · by_cases h4 : v.kind = 4
    · simp [h4]
    · by_cases h1 : v.kind = 1
      · have h2 : (trimBy wsB v.text).isEmpty = false := by
         rcases ho.2 with ho | ho
         · exact absurd h1 ho
         · exact ho
        have h3 : trimBy spB v.text = trimBy wsB v.text := trimBy_congr (fun b hb => signB_sp (h.1 b hb));simp [h1, h3, h2]
      · by_cases h2 : v.kind = 2
        · have h3 : ¬ v.num = 0 := by
           rcases ho.1 with ho | ho
           · exact absurd h2 ho
           · exact ho
          simp [h2, h3]
        · by_cases h3 : v.kind = 3
          · cases hb : v.tru <;> simp [h3, hb]
          · simp [h0, h1, h2, h3, h4]
theorem wiL_one {names : List B} {n : Node} (h : wiL names [n]) : wiN names n := by simp only [wiL] at h; exact h.1
theorem sNode_text (parts : List (B × B)) (raw : Bool) (rec : List Node → List Val → RS → SRes) (stack : List Val) (t : B) (st : RS) : sNode parts raw rec stack (.mk 1 t false [] []) st = some (t, st) := by simp [sNode]
section
variable (parts : List (B × B)) (raw : Bool) (rec : List Node → List Val → RS → SRes) (stack : List Val) (t : B) (r : Bool) (ind : B) (kids : List Node) (st : RS)
theorem sNode_rem : sNode parts raw rec stack (.mk 6 t r ind kids) st = some ([], st) := rfl
theorem sNode_var : sNode parts raw rec stack (.mk 2 t r ind kids) st = if varOpen (lookS stack t) then none
 else some (if r || raw then shownO (lookS stack t) else esc (shownO (lookS stack t)), { st with missing := st.missing || (lookS stack t).isNone }) := rfl
theorem sNode_part : sNode parts raw rec stack (.mk 5 t r ind kids) st = if (parse (indL ind true (partOf parts t))).2 then rec (parse (indL ind true (partOf parts t))).1 stack { st with asked := st.asked + 1 } else none := rfl
theorem sNode_inv : sNode parts raw rec stack (.mk 4 t r ind kids) st = if secOpen (lookS stack t) then none else if (secList (lookS stack t)).isEmpty then rec kids stack st else some ([], st) := rfl
theorem sNode_sec : sNode parts raw rec stack (.mk 3 t r ind kids) st = if secOpen (lookS stack t) then none else sAll (fun x s => rec kids (x :: stack) s) (secList (lookS stack t)) st := rfl
end
theorem run_good (parts : List (B × B)) (hpt : ∀ n, signs (partOf parts n) ∧ (partOf parts n).length ≤ 400) (raw am : Bool) (T : Nat) :
 ∀ (n : Nat) (s : B) (D : Nat) (ns : List Node) (es : List Elem) (stack : List Val) (ch : List (Option Val)) (st st' : RS) (out : B),
  signs s → RunOk s D → Rel s raw ns es → (raw = true → wiL [] ns) → ChRel ch stack → stack ≠ [] → (∀ v ∈ stack, VG T v) →
  srender parts raw n ns stack st = some (out, st') → ∀ k, Good am st out st' k 0 (rrender parts am n es ch k) := by
 intro n
 induction n with
 | zero =>
  intro s D ns es stack ch st st' out hs hD hrel hraw hch hne hvg h k;simp [srender] at h
 | succ n IH =>
  intro s D ns es stack ch st st' out hs hD hrel hraw hch hne hvg h k;simp only [srender] at h
  split at h
  · cases h
  rename_i hbump;show Good am st out st' k 0 (rAll (rElem parts am (rrender parts am n) ch) es k);have hf : ∀ t st, sNode parts raw (srender parts raw n) stack (.mk 1 t false [] []) st = some (t, st) := sNode_text _ _ _ _;have hg : ∀ t k, rElem parts am (rrender parts am n) ch (.text t) k = some ([t], k, false) := fun _ _ => rfl
  have inner : ∀ (ns : List Node) (es : List Elem), Rel s raw ns es → (raw = true → wiL [] ns) → ∀ (st st' : RS) (out : B), sAll (sNode parts raw (srender parts raw n) stack) ns st = some (out, st') →
   ∀ k, Good am st out st' k (3 * ns.length + 2) (rAll (rElem parts am (rrender parts am n) ch) es k) := by
   intro ns es hrel
   induction hrel with
   | fin x hx =>
    intro _ st st' out h k;exact (good_txs hf hg hx.1 h k).mono (by omega)
   | rem x hx hr ih =>
    intro hraw st st' out h k;obtain ⟨o1, s1, o2, h1, h2, rfl⟩ := sAll_append_some h;obtain ⟨o3, s3, o4, h3, h4, rfl⟩ := sAll_append_some h1;have h5 := sAll_one h4
    have h6 : o4 = [] ∧ s1 = s3 := by
     rw [sNode_rem] at h5;simp only [Option.some.injEq, Prod.mk.injEq] at h5;exact ⟨h5.1.symm, h5.2.symm⟩
    obtain ⟨rfl, rfl⟩ := h6;rw [rAll_append, List.append_nil, List.append_nil];refine Good.mono ((good_txs hf hg hx.1 h3 k).then (fun k1 => ih (fun hr => (wiL_append.1 (hraw hr)).2) _ _ _ h2 k1)) ?_;simp only [List.length_append, List.length_singleton]; omega
   | var x m r hx hn hr ih =>
    intro hraw st st' out h k;obtain ⟨o1, s1, o2, h1, h2, rfl⟩ := sAll_append_some h;obtain ⟨o3, s3, o4, h3, h4, rfl⟩ := sAll_append_some h1;have h5 := sAll_one h4
    have hel : ∀ k, Good am s3 o4 s1 k 1 (rElem parts am (rrender parts am n) ch (.var m (r || raw)) k) := by
     intro k;have hlk := lookP_eq hch hn;rw [sNode_var] at h5
     split at h5
     · cases h5
     rename_i hvo;simp only [Option.some.injEq, Prod.mk.injEq] at h5;obtain ⟨rfl, rfl⟩ := h5
     cases hl : lookS stack m with
     | none =>
      simp only [rElem, hlk, hl];refine ⟨Nat.le_refl _, fun h => by simp [h], Nat.le_refl _, fun hm => ⟨[], k, !am, rfl, List.nil_prefix, by simp, Nat.le_refl _, by simp, fun _ => by simp [shownO, esc]⟩⟩
     | some v =>
      rw [hl] at hvo;simp only [rElem, hlk, hl];have hvo' : varOpen (some v) = false := by simpa using hvo
      rw [hvo'];have hfl : [if (r || raw) = true then shown v else esc (shown v)].flatten = if (r || raw) = true then shownO (some v) else esc (shownO (some v)) := by simp [shownO]
      refine ⟨Nat.le_refl _, fun h => by simp [h], Nat.le_refl _, fun hm => ⟨[if (r || raw) = true then shown v else esc (shown v)], k, false, by simp, by rw [hfl]; exact List.prefix_refl _, by simp, Nat.le_refl _, ?_, fun _ => hfl⟩⟩
      rcases hm with hm | hm <;> simp [hm]
    rw [rAll_append, rAll_append];have h7 : rAll (rElem parts am (rrender parts am n) ch) [Elem.var m (r || raw)] = fun k => rThen (rElem parts am (rrender parts am n) ch (.var m (r || raw)) k) (fun k => some ([], k, false)) := rfl
    rw [h7];refine Good.mono (((good_txs hf hg hx.1 h3 k).then (m2 := 1) (fun k1 => ?_)).then (fun k1 => ih (fun hr => (wiL_append.1 (hraw hr)).2) _ _ _ h2 k1)) ?_
    · have := (hel k1).then (m2 := 0) (f := fun k => some ([], k, false)) (fun k2 => Good.nil' _)
      rw [List.append_nil] at this;exact this
    · simp only [List.length_append, List.length_singleton]; omega
   | sect x m inv hx hn hk hr ihk ih =>
    rename_i ks fs ns es;intro hraw st st' out h k;obtain ⟨o1, s1, o2, h1, h2, rfl⟩ := sAll_append_some h;obtain ⟨o3, s3, o4, h3, h4, rfl⟩ := sAll_append_some h1;have h5 := sAll_one h4
    have hrk : raw = true → wiL [] ks := fun hr => by
     have := wiL_one (wiL_append.1 (wiL_append.1 (hraw hr)).1).2
     cases inv <;> (simp only [wiN] at this; exact this.1)
    have hel : ∀ k, Good am s3 o4 s1 k 0 (rElem parts am (rrender parts am n) ch (.sect m inv fs) k) := by
     intro k;have hlk := lookP_eq hch hn;have hvs : ∀ v, lookS stack m = some v → VG T v := fun v hv => VG.lookS hvg hv
     simp only [rElem, hlk]
     cases inv with
     | true =>
      rw [if_pos rfl, sNode_inv] at h5
      split at h5
      · cases h5
      rename_i hso;have hso' : secOpen (lookS stack m) = false := by simpa using hso
      rw [empty_eq hvs hso']
      cases hl : (secList (lookS stack m)).isEmpty with
      | true =>
       rw [if_pos hl] at h5;simp only [Bool.not_true, Bool.and_false, Bool.false_and, Bool.or_false, Bool.false_eq_true, if_false, if_true]
       cases stack with
       | nil => exact absurd rfl hne
       | cons v stack =>
        have hh := hch.head
        cases ch with
        | nil => simp at hh
        | cons c ch =>
         simp at hh;subst hh;exact IH s D ks fs (v :: stack) (some v :: some v :: ch) _ _ _ hs hD hk hrk (ChRel.dup v hch) hne hvg h5 k
      | false =>
       rw [if_neg (by rw [hl]; exact Bool.false_ne_true)] at h5;simp only [Option.some.injEq, Prod.mk.injEq] at h5;obtain ⟨rfl, rfl⟩ := h5;simp only [Bool.not_true, Bool.and_false, Bool.not_false, Bool.true_and, Bool.or_true, if_true];exact Good.nil' _
     | false =>
      rw [if_neg Bool.false_ne_true, sNode_sec] at h5
      split at h5
      · cases h5
      rename_i hso;have hso' : secOpen (lookS stack m) = false := by simpa using hso
      rw [empty_eq hvs hso']
      cases hl : lookS stack m with
      | none =>
       rw [hl] at h5;simp only [secList, sAll, Option.some.injEq, Prod.mk.injEq] at h5;obtain ⟨rfl, rfl⟩ := h5;exact Good.nil' _
      | some v =>
       rw [hl] at h5;have hvv := hvs v hl
       by_cases h0 : v.kind = 0 ∨ (v.kind = 3 ∧ v.tru = false)
       · simp only [secList, if_pos h0] at h5 ⊢
         simp only [sAll, Option.some.injEq, Prod.mk.injEq] at h5;obtain ⟨rfl, rfl⟩ := h5;exact Good.nil' _
       · by_cases h4 : v.kind = 4
         · simp only [secList, if_neg h0, if_pos h4] at h5 ⊢
           cases hvl : v.list with
           | nil =>
            rw [hvl] at h5;simp only [sAll, Option.some.injEq, Prod.mk.injEq] at h5;obtain ⟨rfl, rfl⟩ := h5;exact Good.nil' _
           | cons y ys =>
            rw [← hvl];have he : v.list.isEmpty = false := by rw [hvl]; rfl
            simp only [he, Bool.not_false, Bool.and_true, Bool.not_true, Bool.and_false, Bool.or_false, Bool.false_and, Bool.false_eq_true, if_false]
            exact good_all (f := fun x s => srender parts raw n ks (x :: stack) s) (g := fun x k => rrender parts am n fs (some x :: ch) k) v.list (fun z hz s0 out0 s0' hz0 k0 => IH s D ks fs (z :: stack) (some z :: ch) _ _ _ hs hD hk hrk (ChRel.cons z hch) (by simp) (fun q hq => by
             rcases List.mem_cons.1 hq with rfl | hq
             · exact hvv.list hz
             · exact hvg q hq) hz0 k0) _ _ _ h5 k
         · simp only [secList, if_neg h0, if_neg h4] at h5 ⊢
           have h6 := sAll_one h5;simp only [List.isEmpty_cons, Bool.not_false, Bool.and_true, Bool.false_and, Bool.and_false, Bool.not_true, Bool.or_false, Bool.false_eq_true, if_false]
           exact IH s D ks fs (v :: stack) (some v :: ch) _ _ _ hs hD hk hrk (ChRel.cons v hch) (by simp) (fun q hq => by
            rcases List.mem_cons.1 hq with rfl | hq
            · exact hvv
            · exact hvg q hq) h6 k
    rw [rAll_append, rAll_append];have h7 : rAll (rElem parts am (rrender parts am n) ch) [Elem.sect m inv fs] = fun k => rThen (rElem parts am (rrender parts am n) ch (.sect m inv fs) k) (fun k => some ([], k, false)) := rfl
    rw [h7];refine Good.mono (((good_txs hf hg hx.1 h3 k).then (m2 := 0) (fun k1 => ?_)).then (fun k1 => ih (fun hr => (wiL_append.1 (hraw hr)).2) _ _ _ h2 k1)) ?_
    · have := (hel k1).then (m2 := 0) (f := fun k => some ([], k, false)) (fun k2 => Good.nil' _)
      rw [List.append_nil] at this;exact this
    · simp only [List.length_append, List.length_singleton]; omega
   | part x m ind hx hn hi hr ih =>
    intro hraw st st' out h k;obtain ⟨o1, s1, o2, h1, h2, rfl⟩ := sAll_append_some h;obtain ⟨o3, s3, o4, h3, h4, rfl⟩ := sAll_append_some h1;have h5 := sAll_one h4
    have hr0 : raw = false := by
     cases hr : raw with
     | false => rfl
     | true =>
      have := wiL_one (wiL_append.1 (wiL_append.1 (hraw hr)).1).2;simp [wiN] at this
    have hel : ∀ k, Good am s3 o4 s1 k 0 (rElem parts am (rrender parts am n) ch (.part m ind) k) := by
     intro k;rw [sNode_part] at h5
     split at h5
     · rename_i hp
       have hsg := indL_signs (hi.signs hs) (hpt m).1 true;obtain ⟨fs, sx, h8, h9⟩ := parse_rel hsg hp false;simp only [rElem, h8, hp, if_true];have := IH (indL ind true (partOf parts m)) (D + 400) _ fs stack ch _ _ _ hsg (RunOk.indL true (by have := hD.ind hi; have := (hpt m).2; omega)) (by rw [hr0]; exact h9) (fun h => by rw [hr0] at h; cases h) hch hne hvg h5 (k + 1)
       refine ⟨this.pieces, this.missing, Nat.le_trans (Nat.le_succ _) this.asked, fun hm => ?_⟩;obtain ⟨ws, k', er, h10, h11, h12, h13, h14⟩ := this.run hm;exact ⟨ws, k', er, h10, h11, h12, by simp only at h13; omega, h14⟩
     · cases h5
    rw [rAll_append, rAll_append];have h7 : rAll (rElem parts am (rrender parts am n) ch) [Elem.part m ind] = fun k => rThen (rElem parts am (rrender parts am n) ch (.part m ind) k) (fun k => some ([], k, false)) := rfl
    rw [h7];refine Good.mono (((good_txs hf hg hx.1 h3 k).then (m2 := 0) (fun k1 => ?_)).then (fun k1 => ih (fun hr => (wiL_append.1 (hraw hr)).2) _ _ _ h2 k1)) ?_
    · have := (hel k1).then (m2 := 0) (f := fun k => some ([], k, false)) (fun k2 => Good.nil' _)
      rw [List.append_nil] at this;exact this
    · simp only [List.length_append, List.length_singleton]; omega
  have := inner ns es hrel hraw _ _ _ h k;have hp := this.pieces;refine ⟨by simp only at hp; omega, this.missing, this.asked, fun hm => ?_⟩;obtain ⟨ws, k', er, h10, h11, h12, h13⟩ := this.run hm;exact ⟨ws, k', er, h10, h11, by simp only at h12 hp; omega, h13⟩
end Go.Proofs.YtfakghnpkdoclaaGreatDoor.Mu
namespace Go.Proofs.YtfakghnpkdoclaaGreatDoor.Mu
mutual
def EOk (D : Nat) : Elem → Prop
 | .text _ => True
 | .var n _ => nameOk n = true
 | .sect n _ es => nameOk n = true ∧ es.length ≤ 2147483647 ∧ EsOk D es
 | .part n ind => wordOk n = true ∧ signs ind ∧ ind.length ≤ D
def EsOk (D : Nat) : List Elem → Prop
 | [] => True
 | e :: es => EOk D e ∧ EsOk D es
end
mutual
def ELen (N : Nat) : Elem → Prop
 | .sect _ _ es => es.length ≤ N ∧ EsLen N es
 | _ => True
def EsLen (N : Nat) : List Elem → Prop
 | [] => True
 | e :: es => ELen N e ∧ EsLen N es
end
theorem EsLen.app {N : Nat} : ∀ {a b : List Elem}, EsLen N (a ++ b) ↔ EsLen N a ∧ EsLen N b
 | [], b => by simp [EsLen]
 | e :: a, b => by
  show EsLen N (e :: (a ++ b)) ↔ _;simp only [EsLen, EsLen.app (a := a), and_assoc]
theorem iparse_len {N : Nat} {s : B} {raw : Bool} : ∀ (n depth : Nat) (st : ISt) (name : Option B) (x : List Elem × ISt), 3 * n ≤ N → iparse s raw n depth st name = some (some x) → x.1.length ≤ 3 * n ∧ EsLen N x.1
 | 0, _, _, _, _, _, h => by simp [iparse] at h
 | n + 1, depth, st, name, x, hN, h => by
  have IH := fun depth st name x => iparse_len (N := N) (s := s) (raw := raw) n depth st name x (by omega)
  unfold iparse at h
  split at h
  · split at h
    · simp only [Option.some.injEq] at h
      subst h;simp [EsLen, ELen]; omega
    · simp at h
  · rename_i tr _
    split at h
    · simp at h
    · rename_i tg _
      have htx : ∀ es0 : List Elem, es0.length ≤ 1 → EsLen N es0 → ∀ st2, ((iparse s raw n depth st2 name).map fun r => r.map fun x => (((.text tr.text :: (if tg.alone then [] else [Elem.text tr.pad])) : List Elem) ++ es0 ++ x.1, x.2)) = some (some x) → x.1.length ≤ 3 * (n + 1) ∧ EsLen N x.1 := by
       intro es0 h0 h1 st2 h2
       cases hp : iparse s raw n depth st2 name with
       | none => rw [hp] at h2; simp at h2
       | some r =>
        cases r with
        | none => rw [hp] at h2; simp at h2
        | some y =>
         rw [hp] at h2;simp only [Option.map_some, Option.some.injEq] at h2;have h3 := IH _ _ _ _ hp;subst h2;refine ⟨?_, EsLen.app.2 ⟨EsLen.app.2 ⟨?_, h1⟩, h3.2⟩⟩
         · simp only [List.length_append, List.length_cons]
           split <;> simp <;> omega
         · split <;> simp [EsLen, ELen]
      dsimp only at h
      split at h
      · exact htx _ (by simp) (by simp [EsLen]) _ h
      split at h
      · split at h
        · simp at h
        · split at h
          · simp at h
          · simp at h
          · rename_i y hy
            have h3 := IH _ _ _ _ hy;exact htx _ (by simp) (by simp only [EsLen, ELen, and_true]; exact ⟨by omega, h3.2⟩) _ h
      split at h
      · split at h
        · simp at h
        · split at h
          · simp only [Option.some.injEq] at h
            subst h
            split <;> simp [EsLen, ELen] <;> omega
          · simp at h
      split at h
      · exact htx _ (by simp) (by simp [EsLen, ELen]) _ h
      split at h
      · split at h
        · simp at h
        · exact htx _ (by simp) (by simp [EsLen]) _ h
      split at h
      · exact htx _ (by split <;> simp) (by split <;> simp [EsLen, ELen]) _ h
      split at h
      · exact htx _ (by simp) (by simp [EsLen, ELen]) _ h
      · exact htx _ (by simp) (by simp [EsLen, ELen]) _ h
theorem EsOk.append {D : Nat} : ∀ {a b : List Elem}, EsOk D a → EsOk D b → EsOk D (a ++ b)
 | [], b, _, h => h
 | e :: a, b, h, k => by
  simp only [EsOk] at h;show EsOk D (e :: (a ++ b));simp only [EsOk];exact ⟨h.1, h.2.append k⟩
theorem EsOk.txs (D : Nat) (x : List B) : EsOk D (txs x) := by
 unfold Mu.txs
 induction x with
 | nil => simp only [List.map_nil, EsOk]
 | cons a l ih => simp only [List.map_cons, EsOk, EOk, true_and]; exact ih
theorem EsOk.one {D : Nat} {e : Elem} (h : EOk D e) : EsOk D [e] := by simp only [EsOk]; exact ⟨h, trivial⟩
theorem rel_eok {s : B} {raw : Bool} {D : Nat} (hs : signs s) (hD : RunOk s D) {ns : List Node} {es : List Elem} (h : Rel s raw ns es) : EsLen 2147483647 es → EsOk D es := by
 induction h with
 | fin x hx => exact fun _ => EsOk.txs _ _
 | rem x hx hr ih => exact fun hl => ((EsOk.txs _ _).append (by simp only [EsOk])).append (ih (EsLen.app.1 hl).2)
 | var x n r hx hn hr ih => exact fun hl => ((EsOk.txs _ _).append (EsOk.one (by simp only [EOk]; exact hn))).append (ih (EsLen.app.1 hl).2)
 | sect x n inv hx hn hk hr ihk ih =>
  intro hl;have h1 := (EsLen.app.1 (EsLen.app.1 hl).1).2;simp only [EsLen, ELen, and_true] at h1;exact ((EsOk.txs _ _).append (EsOk.one (by simp only [EOk]; exact ⟨hn, h1.1, ihk h1.2⟩))).append (ih (EsLen.app.1 hl).2)
 | part x n ind hx hn hi hr ih => exact fun hl => ((EsOk.txs _ _).append (EsOk.one (by simp only [EOk]; exact ⟨hn, hi.signs hs, hD.ind hi⟩))).append (ih (EsLen.app.1 hl).2)
theorem EsOk.get {D : Nat} : ∀ {es : List Elem}, EsOk D es → ∀ j (h : j < es.length), EOk D es[j]
 | e :: es, h, j, hj => by
  simp only [EsOk] at h
  cases j with
  | zero => exact h.1
  | succ j => exact h.2.get j (by simpa using hj)
theorem wordsL_sum : ∀ (l acc : B), ((wordsL acc l).map (fun w => w.length + 1)).sum = acc.length + l.length + 1
 | [], acc => by simp [wordsL]
 | c :: l, acc => by
  simp only [wordsL];split
  · simp only [List.map_cons, List.sum_cons, wordsL_sum l [], List.length_nil, List.length_cons]; omega
  · rw [wordsL_sum l (acc ++ [c])]; simp; omega
theorem sum_le9 : ∀ (l : List B), (∀ w ∈ l, w.length ≤ 8) → (l.map (fun w => w.length + 1)).sum ≤ 9 * l.length
 | [], _ => by simp
 | w :: l, h => by
  have h1 := h w (by simp);have h2 := sum_le9 l (fun x hx => h x (by simp [hx]));simp only [List.map_cons, List.sum_cons, List.length_cons]; omega
theorem nameOk_len {n : B} (h : nameOk n = true) : n.length ≤ 26 := by
 unfold nameOk at h
 simp only [Bool.or_eq_true, beq_iff_eq, Bool.and_eq_true, List.all_eq_true, decide_eq_true_eq] at h
 rcases h with rfl | ⟨h1, h2⟩
 · simp
 · have h3 := wordsL_sum n []
   have h4 := sum_le9 (words n) (fun w hw => (wordOk_facts (h1 w hw)).2.2);unfold words at h2 h4;simp only [List.length_nil] at h3;omega
theorem VG.look1 {T : Nat} {n : B} {x : Val} : ∀ {ch : List (Option Val)}, (∀ v, some v ∈ ch → VG T v) → look1 n ch = some x → VG T x
 | [], h, hx => by simp [Mu.look1] at hx
 | none :: ch, h, hx => VG.look1 (ch := ch) (fun v hv => h v (by simp [hv])) (by simpa [Mu.look1] using hx)
 | some v :: ch, h, hx => by
  simp only [Mu.look1] at hx
  split at hx
  · cases hx; exact h _ (by simp)
  · cases hf : fieldV v n with
    | none =>
     rw [hf] at hx;exact VG.look1 (fun u hu => h u (by simp [hu])) hx
    | some y =>
     rw [hf] at hx;cases hx;exact (h v (by simp)).field hf
theorem VG.lookW {T : Nat} {x : Val} : ∀ {ws : List B} {ch : List (Option Val)}, (∀ v, some v ∈ ch → VG T v) → lookW ws ch = some x → VG T x
 | [], ch, h, hx => by simp [Mu.lookW] at hx
 | [w], ch, h, hx => VG.look1 h hx
 | w :: w2 :: ws, ch, h, hx => by
  simp only [Mu.lookW] at hx
  cases h1 : Mu.look1 w ch with
  | none => rw [h1] at hx; cases hx
  | some v =>
   rw [h1] at hx;have hv := VG.look1 h h1
   exact VG.lookW (ch := [some v]) (fun u hu => by
    have : u = v := by simpa using hu
    subst this; exact hv) hx
theorem VG.lookP {T : Nat} {x : Val} {n : B} {ch : List (Option Val)} (h : ∀ v, some v ∈ ch → VG T v) (hx : lookP ch n = some x) : VG T x := by
 unfold Mu.lookP at hx
 split at hx
 · exact VG.look1 h hx
 · exact VG.lookW h hx
theorem shown_signs {T : Nat} {v : Val} (h : VG T v) : ∀ c ∈ shown v, c ≠ 0 := by
 unfold shown
 intro c hc
 split at hc
 · have := h.text.1 c hc
   rintro rfl;exact absurd this (by decide)
 · split at hc
   · have hd : ∀ u : Nat, ∀ c ∈ Lib.decDigits u, c ≠ 0 := by
      intro u
      induction u using Nat.strongRecOn with
      | ind u ih =>
       rw [Lib.decDigits];split
       · intro c hc
         have : c = UInt8.ofNat (48 + u) := by simpa using hc
         subst this;intro h0;have := congrArg UInt8.toNat h0;simp at this; omega
       · intro c hc
         rcases List.mem_append.1 hc with hc | hc
         · exact ih (u / 10) (by omega) c hc
         · have : c = UInt8.ofNat (48 + u % 10) := by simpa using hc
           subst this;intro h0;have := congrArg UInt8.toNat h0;simp at this; omega
     unfold Lib.itoa at hc
     split at hc
     · rcases List.mem_cons.1 hc with rfl | hc
       · decide
       · exact hd _ c hc
     · exact hd _ c hc
   · split at hc
     · split at hc
       · unfold trueB at hc
         simp at hc
         rcases hc with rfl | rfl | rfl | rfl <;> decide
       · unfold falseB at hc
         simp at hc
         rcases hc with rfl | rfl | rfl | rfl | rfl <;> decide
     · simp at hc
end Go.Proofs.YtfakghnpkdoclaaGreatDoor.Mu
namespace Go.Proofs.YtfakghnpkdoclaaGreatDoor.Mu
def shf (j : Nat) (r : RRes) : RRes := r.map fun x => (x.1, x.2.1 + j, x.2.2)
theorem rThen_shf {j : Nat} {r : RRes} {f g : Nat → RRes} (h : ∀ k, g (k + j) = shf j (f k)) : rThen (shf j r) g = shf j (rThen r f) := by
 cases r with
 | none => rfl
 | some x =>
  obtain ⟨a, k, e⟩ := x
  cases e with
  | true => simp [shf, rThen]
  | false =>
   simp only [shf, rThen, Option.map_some, Bool.false_eq_true, if_false, h]
   cases f k <;> simp
theorem rAll_shf {α : Type} {j : Nat} {f g : α → Nat → RRes} (h : ∀ x k, g x (k + j) = shf j (f x k)) : ∀ (l : List α) (k : Nat), rAll g l (k + j) = shf j (rAll f l k)
 | [], k => by simp [rAll, shf]
 | x :: xs, k => by
  simp only [rAll];rw [h, rThen_shf (rAll_shf h xs)]
theorem rElem_shf {parts : List (B × B)} {am : Bool} {j : Nat} {f g : List Elem → List (Option Val) → Nat → RRes} (h : ∀ es ch k, g es ch (k + j) = shf j (f es ch k)) (ch : List (Option Val)) : ∀ (e : Elem) (k : Nat), rElem parts am g ch e (k + j) = shf j (rElem parts am f ch e k)
 | .text t, k => by simp [rElem, shf]
 | .var n r, k => by
  simp only [rElem]
  cases lookP ch n with
  | none => simp [shf]
  | some v => by_cases hv : varOpen (some v) = true <;> simp [hv, shf]
 | .sect n inv es, k => by
  simp only [rElem];split
  · simp [shf]
  split
  · cases ch with
    | nil => rfl
    | cons c ch => exact h _ _ _
  · cases lookP ch n with
    | none => rfl
    | some v =>
     dsimp only
     split
     · exact rAll_shf (fun x k => h _ _ _) _ _
     · exact h _ _ _
 | .part n ind, k => by
  simp only [rElem];split
  · cases iparse (indL ind true (partOf parts n)) false ((indL ind true (partOf parts n)).length + 9) 0 ⟨0, OB, CB⟩ none with
    | none => rfl
    | some r =>
     cases r with
     | none => rfl
     | some x =>
      dsimp only
      rw [show k + j + 1 = k + 1 + j by omega];exact h _ _ _
  · rfl
theorem rrender_shf (parts : List (B × B)) (am : Bool) (j : Nat) : ∀ (n : Nat) (es : List Elem) (ch : List (Option Val)) (k : Nat), rrender parts am n es ch (k + j) = shf j (rrender parts am n es ch k)
 | 0, _, _, _ => rfl
 | n + 1, es, ch, k => by
  simp only [rrender];exact rAll_shf (fun x k => rElem_shf (fun es ch k => rrender_shf parts am j n es ch k) ch x k) es k
def Few (st : RS) : Prop := st.pieces ≤ 1000 ∧ st.asked ≤ 40
theorem sAll_few {α : Type} {f : α → RS → SRes} (h : ∀ x st out st', Few st → f x st = some (out, st') → Few st') : ∀ (l : List α) (st st' : RS) (out : B), Few st → sAll f l st = some (out, st') → Few st'
 | [], st, st', out, hf, hr => by
  simp only [sAll, Option.some.injEq, Prod.mk.injEq] at hr;rw [← hr.2]; exact hf
 | x :: xs, st, st', out, hf, hr => by
  obtain ⟨o1, s1, o2, h1, h2, -⟩ := sAll_some hr;exact sAll_few h xs s1 st' o2 (h x st o1 s1 hf h1) h2
theorem sNode_few {parts : List (B × B)} {raw : Bool} {rec : List Node → List Val → RS → SRes} (hrec : ∀ l stack st out st', rec l stack st = some (out, st') → Few st') (stack : List Val) : ∀ (nd : Node) (st : RS) (out : B) (st' : RS), Few st → sNode parts raw rec stack nd st = some (out, st') → Few st'
 | .mk k t r ind kids, st, out, st', hf, h => by
  simp only [sNode] at h
  split at h
  · simp only [Option.some.injEq, Prod.mk.injEq] at h
    rw [← h.2]; exact hf
  split at h
  · simp only [Option.some.injEq, Prod.mk.injEq] at h
    rw [← h.2]; exact hf
  split at h
  · split at h
    · cases h
    · simp only [Option.some.injEq, Prod.mk.injEq] at h
      rw [← h.2]; exact hf
  split at h
  · split at h
    · exact hrec _ _ _ _ _ h
    · cases h
  split at h
  · cases h
  split at h
  · split at h
    · exact hrec _ _ _ _ _ h
    · simp only [Option.some.injEq, Prod.mk.injEq] at h
      rw [← h.2]; exact hf
  · exact sAll_few (fun x s o s' hs hh => hrec _ _ _ _ _ hh) _ _ _ _ hf h
theorem srender_few (parts : List (B × B)) (raw : Bool) : ∀ (n : Nat) (l : List Node) (stack : List Val) (st : RS) (out : B) (st' : RS), srender parts raw n l stack st = some (out, st') → Few st'
 | 0, _, _, _, _, _, h => by simp [srender] at h
 | n + 1, l, stack, st, out, st', h => by
  simp only [srender] at h
  split at h
  · cases h
  rename_i hb;exact sAll_few (fun x s o s' hs hh => sNode_few (fun l stack st out st' h => srender_few parts raw n l stack st out st' h) stack x s o s' hs hh) l _ st' out ⟨by simp only; omega, by simp only; omega⟩ h
theorem ren_pure (parts : List (B × B)) (hpt : ∀ n, signs (partOf parts n) ∧ (partOf parts n).length ≤ 400) (raw am : Bool) (T : Nat) {s : B} (hs : signs s) (hz : s.length ≤ 400) (hp : (parse s).2 = true) (hraw : raw = true → wiL [] (parse s).1)
 {cs : List Val} (hne : cs ≠ []) (hvg : ∀ v ∈ cs, VG T v) {n : Nat} {out : B} {st' : RS} (h : srender parts raw n (parse s).1 cs ⟨false, 0, 0⟩ = some (out, st')) :
 ∃ es st ws kf, iparse s raw (s.length + 9) 0 ⟨0, OB, CB⟩ none = some (some (es, st)) ∧ EsOk 400 es ∧ rrender parts am n es (cs.map some) 0 = some (ws, kf, !am && st'.missing) ∧ kf ≤ 40 ∧ ws.length ≤ 3000 ∧ ws.flatten.length ≤ out.length ∧ ((!am && st'.missing) = false → ws.flatten = out) := by
 obtain ⟨es, st, h1, h2⟩ := parse_rel hs hp raw
 have hro : RunOk s 400 := fun x hx hb => Nat.le_trans (RunOk.all s x hx hb) hz
 have h3 := run_good parts hpt raw am T n s 400 _ es cs (cs.map some) _ _ _ hs hro h2 hraw (ChRel.base cs) hne hvg h 0
 obtain ⟨ws, kf, er, h4, h5, h6, h7, h8, h9⟩ := h3.run (.inr rfl)
 have hfew := srender_few parts raw n _ _ _ _ _ h
 have hlen := iparse_len (N := 2147483647) _ _ _ _ _ (by omega) h1
 subst h8
 refine ⟨es, st, ws, kf, h1, rel_eok hs hro h2 hlen.2, h4, ?_, ?_, h5.length_le, h9⟩
 · have := hfew.2; simp only at h7; omega
 · have := hfew.1; simp only at h6; omega
end Go.Proofs.YtfakghnpkdoclaaGreatDoor.Mu
namespace Go.Proofs.YtfakghnpkdoclaaGreatDoor.Mu
def Pc : Option RS → Nat
 | some st => st.pieces
 | none => 1001
mutual
def NOk (D : Nat) : Node → Prop
 | .mk k t r ind kids => t.length ≤ 400000000 ∧ (k = 5 → signs ind ∧ ind.length ≤ D) ∧ NsOk D kids
def NsOk (D : Nat) : List Node → Prop
 | [] => True
 | n :: l => NOk D n ∧ NsOk D l
end
theorem NsOk.app {D : Nat} : ∀ {a b : List Node}, NsOk D a → NsOk D b → NsOk D (a ++ b)
 | [], b, _, h => h
 | n :: a, b, h, k => by
  simp only [NsOk] at h;show NsOk D (n :: (a ++ b));simp only [NsOk];exact ⟨h.1, NsOk.app h.2 k⟩
theorem NsOk.get {D : Nat} : ∀ {l : List Node}, NsOk D l → ∀ j (h : j < l.length), NOk D l[j]
 | n :: l, h, j, hj => by
  simp only [NsOk] at h
  cases j with
  | zero => exact h.1
  | succ j => exact NsOk.get h.2 j (by simpa using hj)
theorem NsOk.one {D : Nat} {n : Node} (h : NOk D n) : NsOk D [n] := by simp only [NsOk]; exact ⟨h, trivial⟩
theorem NsOk.addT {D : Nat} {t : B} (h : t.length ≤ 400000000) : NsOk D (addT t) := by
 unfold Mu.addT
 split
 · simp only [NsOk]
 · refine NsOk.one ?_
   simp only [NOk, NsOk];exact ⟨h, (fun h => by cases h), trivial⟩
theorem flat_le {N : Nat} : ∀ (x : List B), x.length ≤ 2 → (∀ y ∈ x, y.length ≤ N) → x.flatten.length ≤ 2 * N
 | [], _, _ => by simp
 | [a], _, h => by have := h a (by simp); simp; omega
 | [a, b], _, h => by
  have h1 := h a (by simp);have h2 := h b (by simp)
  simp; omega
 | a :: b :: c :: l, h, _ => by simp at h
theorem rel_nok {s : B} {raw : Bool} {D : Nat} (hs : signs s) (hz : s.length ≤ 200000000) (hD : RunOk s D) {ns : List Node} {es : List Elem} (h : Rel s raw ns es) : NsOk D ns := by
 have htx : ∀ x : List B, TxOk s x → NsOk D (addT x.flatten) := fun x hx => NsOk.addT (by have := flat_le x hx.1 hx.2; omega)
 have h1 : ∀ {k : Nat} {n : B} {r : Bool} {ks : List Node}, k ≠ 5 → n.length ≤ 400000000 → NsOk D ks → NsOk D [.mk k n r [] ks] := fun hk hn hks => NsOk.one (by
  simp only [NOk];exact ⟨hn, fun h => absurd h hk, hks⟩)
 have h0 : NsOk D ([] : List Node) := by simp only [NsOk]
 induction h with
 | fin x hx => exact htx x hx
 | rem x hx hr ih => exact ((htx x hx).app (h1 (by decide) (by simp) h0)).app ih
 | var x n r hx hn hr ih => exact ((htx x hx).app (h1 (by decide) (by have := nameOk_len hn; omega) h0)).app ih
 | sect x n inv hx hn hk hr ihk ih => exact ((htx x hx).app (h1 (by cases inv <;> decide) (by have := nameOk_len hn; omega) ihk)).app ih
 | part x n ind hx hn hi hr ih =>
  refine ((htx x hx).app (NsOk.one ?_)).app ih;simp only [NOk];exact ⟨by have := (wordOk_facts hn).2.2; omega, fun _ => ⟨hi.signs hs, hD.ind hi⟩, h0⟩
theorem parse_nok {s : B} {D : Nat} (hs : signs s) (hz : s.length ≤ 200000000) (hD : RunOk s D) (hp : (parse s).2 = true) : NsOk D (parse s).1 := by
 obtain ⟨es, st, -, h⟩ := parse_rel hs hp false
 exact rel_nok hs hz hD h
theorem sAll_take {α : Type} {f : α → RS → SRes} (l : List α) (i : Nat) (h : i < l.length) (st : RS) : sAll f (l.take (i + 1)) st = (sAll f (l.take i) st).bind fun r => (f l[i] r.2).map fun q => (r.1 ++ q.1, q.2) := by
 rw [List.take_add_one, List.getElem?_eq_getElem h, Option.toList_some, sAll_append]
 congr 1
 funext r
 simp only [sAll]
 cases f l[i] r.2 with
 | none => rfl
 | some q => simp
theorem sAll_none {α : Type} {f : α → RS → SRes} (l : List α) (i : Nat) (st : RS) (h : sAll f (l.take i) st = none) : sAll f l st = none := by
 have := sAll_append f (l.take i) (l.drop i) st
 rw [List.take_append_drop, h] at this
 exact this
theorem sAll_mono {α : Type} {f : α → RS → SRes} (h : ∀ x st out st', f x st = some (out, st') → st.pieces ≤ st'.pieces) : ∀ (l : List α) (st : RS) (out : B) (st' : RS), sAll f l st = some (out, st') → st.pieces ≤ st'.pieces
 | [], st, out, st', hr => by
  simp only [sAll, Option.some.injEq, Prod.mk.injEq] at hr;rw [← hr.2]; exact Nat.le_refl _
 | x :: xs, st, out, st', hr => by
  obtain ⟨o1, s1, o2, h1, h2, -⟩ := sAll_some hr;exact Nat.le_trans (h x st o1 s1 h1) (sAll_mono h xs s1 o2 st' h2)
theorem sNode_mono {parts : List (B × B)} {raw : Bool} {rec : List Node → List Val → RS → SRes} (hrec : ∀ l stack st out st', rec l stack st = some (out, st') → st.pieces ≤ st'.pieces) (stack : List Val) : ∀ (nd : Node) (st : RS) (out : B) (st' : RS), sNode parts raw rec stack nd st = some (out, st') → st.pieces ≤ st'.pieces
 | .mk k t r ind kids, st, out, st', h => by
  simp only [sNode] at h
  split at h
  · simp only [Option.some.injEq, Prod.mk.injEq] at h
    rw [← h.2]; exact Nat.le_refl _
  split at h
  · simp only [Option.some.injEq, Prod.mk.injEq] at h
    rw [← h.2]; exact Nat.le_refl _
  split at h
  · split at h
    · cases h
    · simp only [Option.some.injEq, Prod.mk.injEq] at h
      rw [← h.2]; exact Nat.le_refl _
  split at h
  · split at h
    · have := hrec _ _ _ _ _ h
      exact this
    · cases h
  split at h
  · cases h
  split at h
  · split at h
    · exact hrec _ _ _ _ _ h
    · simp only [Option.some.injEq, Prod.mk.injEq] at h
      rw [← h.2]; exact Nat.le_refl _
  · exact sAll_mono (fun x s o s' hh => hrec _ _ _ _ _ hh) _ _ _ _ h
theorem srender_mono (parts : List (B × B)) (raw : Bool) : ∀ (n : Nat) (l : List Node) (stack : List Val) (st : RS) (out : B) (st' : RS), srender parts raw n l stack st = some (out, st') → st.pieces ≤ st'.pieces
 | 0, _, _, _, _, _, h => by simp [srender] at h
 | n + 1, l, stack, st, out, st', h => by
  simp only [srender] at h
  split at h
  · cases h
  have := sAll_mono (fun x s o s' hh => sNode_mono (fun l stack st out st' h => srender_mono parts raw n l stack st out st' h) stack x s o s' hh) l _ out st' h;simp only at this;omega
theorem esc_len (l : B) : (esc l).length ≤ 5 * l.length := by
 induction l with
 | nil => simp [esc]
 | cons c l ih =>
  have h1 : (escB c).length ≤ 5 := by
   unfold escB;split
   · simp
   split
   · simp
   split
   · simp
   split
   · simp
   split <;> simp
  simp only [esc, List.flatMap_cons, List.length_append, List.length_cons] at ih ⊢;omega
end Go.Proofs.YtfakghnpkdoclaaGreatDoor.Mu
