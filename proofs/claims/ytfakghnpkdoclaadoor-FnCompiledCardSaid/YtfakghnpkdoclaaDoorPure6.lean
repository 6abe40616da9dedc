/-
  Plain Lean, no program: a template with a broken end is an error of the package's reader.
-/
import Derived.Test.YtfakghnpkdoclaaDoorPure5
set_option linter.unusedVariables false
set_option linter.unusedSimpArgs false
namespace Go.Proofs.YtfakghnpkdoclaaDoor.Mu

/-! ### reading what stands behind -/
theorem drop_sh (s b : B) (i : Nat) : (s ++ b).drop (s.length + i) = b.drop i := by
  rw [List.drop_append, List.drop_of_length_le (by omega), List.nil_append]
  congr 1; omega
theorem find_sh (s b pat : B) (i : Nat) : find (s ++ b) pat (s.length + i) = (find b pat i).map (s.length + ·) := by
  unfold find
  rw [drop_sh, Option.map_map]
  congr 1
  funext k
  simp only [Function.comp]
  omega
theorem getD_sh (s b : B) (i : Nat) : (s ++ b).getD (s.length + i) 0 = b.getD i 0 := by
  rw [List.getD_eq_getElem?_getD, List.getD_eq_getElem?_getD, List.getElem?_append_right (by omega), Nat.add_sub_cancel_left]
theorem sub_sh (s b : B) (i j : Nat) : sub (s ++ b) (s.length + i) (s.length + j) = sub b i j := by
  unfold sub
  rw [List.take_append, List.take_of_length_le (by omega), Nat.add_sub_cancel_left]
  exact drop_sh s (b.take j) i
theorem backTo_self (s : B) (p : Nat) : backTo s p p = p := by
  cases p with
  | zero => rfl
  | succ p => unfold backTo; rw [if_neg (by omega)]
theorem backTo_sh (s b : B) (p i : Nat) (h : p ≤ i) : backTo (s ++ b) (s.length + p) (s.length + i) = s.length + backTo b p i := by
  induction i with
  | zero =>
    obtain rfl : p = 0 := by omega
    rw [backTo_self, backTo_self]
  | succ i ih =>
    by_cases hp : p = i + 1
    · subst hp
      rw [backTo_self, backTo_self]
    · rw [show s.length + (i + 1) = (s.length + i) + 1 by omega]
      unfold backTo
      rw [getD_sh, ih (by omega)]
      by_cases hc : p < i + 1 ∧ blankB (b.getD i 0) = true
      · rw [if_pos hc, if_pos ⟨by omega, hc.2⟩]
      · rw [if_neg hc, if_neg (fun h => hc ⟨by omega, h.2⟩)]; omega
theorem fwd_sh (s b : B) (i : Nat) : fwd (s ++ b) (s.length + i) = s.length + fwd b i := by
  unfold fwd
  rw [drop_sh]; omega
theorem eow_sh (s b : B) (i : Nat) : eow (s ++ b) (s.length + i) = s.length + eow b i := by
  unfold eow
  rw [fwd_sh, List.length_append]
  by_cases h : fwd b i < b.length
  · rw [if_pos h, if_pos (by omega)]
  · rw [if_neg h, if_neg (by omega)]
def shT (k : Nat) (r : TextR) : TextR := { r with pos := k + r.pos }
def shG (k : Nat) (r : TagR) : TagR := { r with pos := k + r.pos }
def shS (k : Nat) (r : IRes) : IRes := r.map fun q => q.map fun x => (x.1, ⟨k + x.2.pos, x.2.o, x.2.c⟩)
theorem rdText_sh (s b o : B) (p : Nat) (hp : 1 ≤ p) : rdText (s ++ b) (s.length + p) o = (rdText b p o).map (shT s.length) := by
  unfold rdText
  rw [find_sh]
  cases hf : find b o p with
  | none => rfl
  | some i =>
    have h1 := (find_some hf).1
    have h2 := backTo_ge b p i h1
    simp only [Option.map_some]
    rw [backTo_sh s b p i h1]
    generalize backTo b p i = j at *
    have e : (s ++ b).getD (s.length + j - 1) 0 = b.getD (j - 1) 0 := by
      rw [show s.length + j - 1 = s.length + (j - 1) by omega, getD_sh]
    rw [e, sub_sh, sub_sh, sub_sh]
    by_cases hc : b.getD (j - 1) 0 = 10
    · rw [if_pos (.inr hc), if_pos (.inr hc)]
      simp only [Option.map_some, shT, Nat.add_assoc]
    · rw [if_neg (by rintro (h | h); omega; exact hc h), if_neg (by rintro (h | h); omega; exact hc h)]
      simp only [Option.map_some, shT, Nat.add_assoc]
theorem tagPat_sh (s b c : B) (p : Nat) : tagPat (s ++ b) (s.length + p) c = tagPat b p c := by
  unfold tagPat
  rw [getD_sh, List.length_append]
  by_cases h : p < b.length ∧ b.getD p 0 = 123
  · rw [if_pos h, if_pos ⟨by omega, h.2⟩]
  · rw [if_neg h, if_neg (fun x => h ⟨by omega, x.2⟩)]
theorem rdTag_sh (s b c : B) (p : Nat) (may : Bool) : rdTag (s ++ b) (s.length + p) c may = (rdTag b p c may).map (shG s.length) := by
  unfold rdTag
  rw [tagPat_sh, find_sh]
  cases hf : find b (tagPat b p c) p with
  | none => rfl
  | some e =>
    have hl : c.length ≤ (tagPat b p c).length := by unfold tagPat; split <;> simp
    simp only [Option.map_some]
    generalize tagPat b p c = pat at *
    rw [show s.length + e + pat.length - c.length = s.length + (e + pat.length - c.length) by omega, sub_sh, show s.length + e + pat.length = s.length + (e + pat.length) by omega, eow_sh, getD_sh, List.length_append,
      show s.length + eow b (e + pat.length) + 1 = s.length + (eow b (e + pat.length) + 1) by omega, getD_sh]
    generalize trimBy spB (sub b p (e + pat.length - c.length)) = tg
    generalize e + pat.length = p1
    by_cases h1 : tg = []
    · rw [if_pos h1, if_pos h1]; rfl
    · rw [if_neg h1, if_neg h1]
      cases may with
      | false => rfl
      | true =>
        simp only [if_true]
        by_cases h2 : isSkip (tg.getD 0 0) = true
        · rw [if_pos h2, if_pos h2]
          by_cases h3 : eow b p1 = b.length
          · rw [if_pos h3, if_pos (by omega)]; rfl
          · rw [if_neg h3, if_neg (by omega)]
            by_cases h4 : b.getD (eow b p1) 0 = 10
            · rw [if_pos h4, if_pos h4]; rfl
            · rw [if_neg h4, if_neg h4]
              by_cases h5 : eow b p1 + 1 < b.length ∧ b.getD (eow b p1) 0 = 13 ∧ b.getD (eow b p1 + 1) 0 = 10
              · rw [if_pos h5, if_pos ⟨by omega, h5.2⟩]; rfl
              · rw [if_neg h5, if_neg (fun h => h5 ⟨by omega, h.2⟩)]; rfl
        · rw [if_neg h2, if_neg h2]; rfl
theorem pre_sh (k : Nat) (l : List Elem) (r : IRes) : pre l (shS k r) = shS k (pre l r) := by
  cases r with
  | none => rfl
  | some q => cases q <;> rfl
theorem txOf_sh (k : Nat) (tr : TextR) (tg : TagR) : txOf (shT k tr) (shG k tg) = txOf tr tg := rfl
/-- the reader never goes back -/
theorem iparse_inv (s : B) (raw : Bool) : ∀ (n d : Nat) (st : ISt) (nm : Option B) (es : List Elem) (st' : ISt), st.pos ≤ s.length → st.o ≠ [] → st.c ≠ [] → iparse s raw n d st nm = some (some (es, st')) → (st.pos ≤ st'.pos ∧ st'.pos ≤ s.length) ∧ st'.o ≠ [] ∧ st'.c ≠ [] := by
  intro n
  induction n with
  | zero => intro d st nm es st' _ _ _ h; cases h
  | succ n ih =>
    intro d st nm es st' hps ho hc h
    cases h1 : rdText s st.pos st.o with
    | none =>
      cases nm with
      | none =>
        rw [step_eof_top h1] at h
        simp only [Option.some.injEq, Prod.mk.injEq] at h
        obtain ⟨-, rfl⟩ := h
        exact ⟨⟨hps, Nat.le_refl _⟩, ho, hc⟩
      | some m => rw [step_eof_sec h1] at h; cases h
    | some tr =>
      have hp1 := (rdText_pos h1 ho).1
      cases h2 : rdTag s tr.pos st.c tr.may with
      | none => rw [step_tag h1 h2] at h; cases h
      | some tg =>
        have hp2 := (rdTag_pos h2 hc).1
        have hp3 := (rdTag_pos h2 hc).2.1
        have go : ∀ (l : List Elem) (x : ISt), st.pos ≤ x.pos ∧ x.pos ≤ s.length → x.o ≠ [] → x.c ≠ [] → pre l (iparse s raw n d x nm) = some (some (es, st')) → (st.pos ≤ st'.pos ∧ st'.pos ≤ s.length) ∧ st'.o ≠ [] ∧ st'.c ≠ [] := by
          intro l x hx hxo hxc hh
          cases hr : iparse s raw n d x nm with
          | none => rw [hr] at hh; cases hh
          | some q =>
            rw [hr] at hh
            cases q with
            | none => cases hh
            | some y =>
              obtain ⟨es1, st1⟩ := y
              simp only [pre_ok, Option.some.injEq, Prod.mk.injEq] at hh
              obtain ⟨-, rfl⟩ := hh
              have := ih d x nm es1 st1 hx.2 hxo hxc hr
              exact ⟨⟨by omega, this.1.2⟩, this.2⟩
        have hlt : st.pos ≤ tg.pos ∧ tg.pos ≤ s.length := ⟨by omega, hp3⟩
        by_cases k33 : tg.tag.getD 0 0 = 33
        · rw [step_bang h1 h2 k33] at h; exact go _ ⟨tg.pos, st.o, st.c⟩ hlt ho hc h
        by_cases k35 : tg.tag.getD 0 0 = 35 ∨ tg.tag.getD 0 0 = 94
        · by_cases hd : 10000 < d + 1
          · rw [step_deep h1 h2 k35 hd] at h; cases h
          · rw [step_sect h1 h2 k35 hd] at h
            cases h3 : iparse s raw n (d + 1) { st with pos := tg.pos } (some (trimBy spB (tg.tag.drop 1))) with
            | none => rw [h3] at h; cases h
            | some q =>
              rw [h3] at h
              cases q with
              | none => cases h
              | some x =>
                obtain ⟨es1, x⟩ := x
                obtain ⟨g1, g2, g3⟩ := ih (d + 1) ⟨tg.pos, st.o, st.c⟩ _ es1 x hp3 ho hc h3
                have g1 : tg.pos ≤ x.pos ∧ x.pos ≤ s.length := g1
                exact go _ x ⟨by omega, g1.2⟩ g2 g3 h
        by_cases k47 : tg.tag.getD 0 0 = 47
        · cases nm with
          | none => rw [step_close_top h1 h2 k47] at h; cases h
          | some m =>
            rw [step_close h1 h2 k47] at h
            split at h
            · simp only [Option.some.injEq, Prod.mk.injEq] at h
              obtain ⟨-, rfl⟩ := h
              exact ⟨hlt, ho, hc⟩
            · cases h
        by_cases k62 : tg.tag.getD 0 0 = 62
        · rw [step_part h1 h2 k62] at h; exact go _ ⟨tg.pos, st.o, st.c⟩ hlt ho hc h
        by_cases k61 : tg.tag.getD 0 0 = 61
        · cases hcu : custom tg.tag with
          | none => rw [step_set_none h1 h2 k61 hcu] at h; cases h
          | some oc =>
            obtain ⟨o', c'⟩ := oc
            have hok := custom_ok hcu
            rw [step_set h1 h2 k61 hcu] at h
            exact go _ ⟨tg.pos, o', c'⟩ hlt (List.length_pos_iff.1 hok.1.1) (List.length_pos_iff.1 hok.2.1) h
        by_cases k123 : tg.tag.getD 0 0 = 123
        · by_cases hl : tg.tag.getLast? = some 125
          · rw [step_raw h1 h2 k123 hl] at h; exact go _ ⟨tg.pos, st.o, st.c⟩ hlt ho hc h
          · rw [step_raw_no h1 h2 k123 hl] at h; exact go _ ⟨tg.pos, st.o, st.c⟩ hlt ho hc h
        by_cases k38 : tg.tag.getD 0 0 = 38
        · rw [step_amp h1 h2 k38] at h; exact go _ ⟨tg.pos, st.o, st.c⟩ hlt ho hc h
        · have hk : ∀ k, k = 33 ∨ k = 35 ∨ k = 94 ∨ k = 47 ∨ k = 62 ∨ k = 61 ∨ k = 123 ∨ k = 38 → tg.tag.getD 0 0 ≠ k := by
            rintro k (rfl | rfl | rfl | rfl | rfl | rfl | rfl | rfl)
            · exact k33
            · exact fun h => k35 (.inl h)
            · exact fun h => k35 (.inr h)
            · exact k47
            · exact k62
            · exact k61
            · exact k123
            · exact k38
          rw [step_var h1 h2 hk] at h; exact go _ ⟨tg.pos, st.o, st.c⟩ hlt ho hc h
theorem iparse_sh (s b : B) (raw : Bool) : ∀ (n d p : Nat) (o c : B) (nm : Option B), 1 ≤ p → o ≠ [] → c ≠ [] → iparse (s ++ b) raw n d ⟨s.length + p, o, c⟩ nm = shS s.length (iparse b raw n d ⟨p, o, c⟩ nm) := by
  intro n
  induction n with
  | zero => intros; rfl
  | succ n ih =>
    intro d p o c nm hp ho hc
    have hrt := rdText_sh s b o p hp
    cases h1 : rdText b p o with
    | none =>
      rw [h1] at hrt
      cases nm with
      | none =>
        rw [step_eof_top (st := ⟨_, _, _⟩) hrt, step_eof_top (st := ⟨_, _, _⟩) h1]
        simp only [shS, Option.map_some, drop_sh, List.length_append]
      | some m => rw [step_eof_sec (st := ⟨_, _, _⟩) hrt, step_eof_sec (st := ⟨_, _, _⟩) h1]; rfl
    | some tr =>
      have hpos := (rdText_pos h1 ho).1
      rw [h1, Option.map_some] at hrt
      have hrg : rdTag (s ++ b) (shT s.length tr).pos c (shT s.length tr).may = (rdTag b tr.pos c tr.may).map (shG s.length) := rdTag_sh s b c tr.pos tr.may
      cases h2 : rdTag b tr.pos c tr.may with
      | none =>
        rw [h2] at hrg
        rw [step_tag (st := ⟨_, _, _⟩) hrt hrg, step_tag (st := ⟨_, _, _⟩) h1 h2]; rfl
      | some tg =>
        have hpos2 := (rdTag_pos h2 hc).1
        rw [h2, Option.map_some] at hrg
        have go : ∀ (l : List Elem), pre l (iparse (s ++ b) raw n d ⟨(shG s.length tg).pos, o, c⟩ nm) = shS s.length (pre l (iparse b raw n d ⟨tg.pos, o, c⟩ nm)) := fun l => by
          rw [← pre_sh]
          show pre l (iparse (s ++ b) raw n d ⟨s.length + tg.pos, o, c⟩ nm) = _
          rw [ih d tg.pos o c nm (by omega) ho hc]
        by_cases k33 : tg.tag.getD 0 0 = 33
        · rw [step_bang (st := ⟨_, _, _⟩) hrt hrg k33, step_bang (st := ⟨_, _, _⟩) h1 h2 k33]; exact go _
        by_cases k35 : tg.tag.getD 0 0 = 35 ∨ tg.tag.getD 0 0 = 94
        · by_cases hd : 10000 < d + 1
          · rw [step_deep (st := ⟨_, _, _⟩) hrt hrg k35 hd, step_deep (st := ⟨_, _, _⟩) h1 h2 k35 hd]; rfl
          · have h4 : iparse (s ++ b) raw n (d + 1) ⟨s.length + tg.pos, o, c⟩ (some (trimBy spB (tg.tag.drop 1))) = shS s.length (iparse b raw n (d + 1) ⟨tg.pos, o, c⟩ (some (trimBy spB (tg.tag.drop 1)))) := ih (d + 1) tg.pos o c _ (by omega) ho hc
            cases h3 : iparse b raw n (d + 1) ⟨tg.pos, o, c⟩ (some (trimBy spB (tg.tag.drop 1))) with
            | none =>
              rw [h3] at h4
              rw [step_sect_none (st := ⟨p, o, c⟩) h1 h2 k35 hd h3, step_sect_none (st := ⟨s.length + p, o, c⟩) hrt hrg k35 hd h4]; rfl
            | some q =>
              rw [h3] at h4
              cases q with
              | none => rw [step_sect_err (st := ⟨p, o, c⟩) h1 h2 k35 hd h3, step_sect_err (st := ⟨s.length + p, o, c⟩) hrt hrg k35 hd h4]; rfl
              | some x =>
                obtain ⟨es, p', o', c'⟩ := x
                obtain ⟨g1, g2, g3⟩ := iparse_inv b raw n (d + 1) ⟨tg.pos, o, c⟩ _ es ⟨p', o', c'⟩ (rdTag_pos h2 hc).2.1 ho hc h3
                have g1 : tg.pos ≤ p' ∧ p' ≤ b.length := g1
                rw [step_sect_ok (st := ⟨p, o, c⟩) h1 h2 k35 hd h3, step_sect_ok (st := ⟨s.length + p, o, c⟩) hrt hrg k35 hd h4, ← pre_sh]
                show pre _ (iparse (s ++ b) raw n d ⟨s.length + p', o', c'⟩ nm) = _
                rw [ih d p' o' c' nm (by omega) g2 g3]
                rfl
        by_cases k47 : tg.tag.getD 0 0 = 47
        · cases nm with
          | none => rw [step_close_top (st := ⟨_, _, _⟩) hrt hrg k47, step_close_top (st := ⟨_, _, _⟩) h1 h2 k47]; rfl
          | some m =>
            rw [step_close (st := ⟨_, _, _⟩) hrt hrg k47, step_close (st := ⟨_, _, _⟩) h1 h2 k47]
            show (if trimBy spB (tg.tag.drop 1) = m then _ else _) = _
            split
            · rfl
            · rfl
        by_cases k62 : tg.tag.getD 0 0 = 62
        · rw [step_part (st := ⟨_, _, _⟩) hrt hrg k62, step_part (st := ⟨_, _, _⟩) h1 h2 k62]; exact go _
        by_cases k61 : tg.tag.getD 0 0 = 61
        · cases hcu : custom tg.tag with
          | none => rw [step_set_none (st := ⟨_, _, _⟩) hrt hrg k61 hcu, step_set_none (st := ⟨_, _, _⟩) h1 h2 k61 hcu]; rfl
          | some oc =>
            obtain ⟨o', c'⟩ := oc
            have hok := custom_ok hcu
            rw [step_set (st := ⟨_, _, _⟩) hrt hrg k61 hcu, step_set (st := ⟨_, _, _⟩) h1 h2 k61 hcu]
            show pre _ (iparse (s ++ b) raw n d ⟨s.length + tg.pos, o', c'⟩ nm) = _
            rw [ih d tg.pos o' c' nm (by omega) (List.length_pos_iff.1 hok.1.1) (List.length_pos_iff.1 hok.2.1), pre_sh]
            rfl
        by_cases k123 : tg.tag.getD 0 0 = 123
        · by_cases hl : tg.tag.getLast? = some 125
          · rw [step_raw (st := ⟨_, _, _⟩) hrt hrg k123 hl, step_raw (st := ⟨_, _, _⟩) h1 h2 k123 hl]; exact go _
          · rw [step_raw_no (st := ⟨_, _, _⟩) hrt hrg k123 hl, step_raw_no (st := ⟨_, _, _⟩) h1 h2 k123 hl]; exact go _
        by_cases k38 : tg.tag.getD 0 0 = 38
        · rw [step_amp (st := ⟨_, _, _⟩) hrt hrg k38, step_amp (st := ⟨_, _, _⟩) h1 h2 k38]; exact go _
        · have hk : ∀ k, k = 33 ∨ k = 35 ∨ k = 94 ∨ k = 47 ∨ k = 62 ∨ k = 61 ∨ k = 123 ∨ k = 38 → tg.tag.getD 0 0 ≠ k := by
            rintro k (rfl | rfl | rfl | rfl | rfl | rfl | rfl | rfl)
            · exact k33
            · exact fun h => k35 (.inl h)
            · exact fun h => k35 (.inr h)
            · exact k47
            · exact k62
            · exact k61
            · exact k123
            · exact k38
          rw [step_var (st := ⟨_, _, _⟩) hrt hrg hk, step_var (st := ⟨_, _, _⟩) h1 h2 hk]; exact go _

/-! ### broken ends -/
def OB : B := [123, 123]
def CB : B := [125, 125]
def bads : List B := [[123, 123, 35, 97, 125, 125, 98], [123, 123, 35, 97, 125, 125, 98, 123, 123, 47, 99, 125, 125], [123, 123, 47, 97, 125, 125], [123, 123, 97], [123, 123, 94, 97, 125, 125],
  [123, 123, 35, 97, 125, 125, 123, 123, 35, 98, 125, 125, 123, 123, 47, 97, 125, 125, 123, 123, 47, 98, 125, 125], [123, 123, 123, 97, 125, 125]]
def xTag : B := [123, 123, 120, 125, 125]
/-- a broken end, read behind a section's opening -/
theorem nested_err (b : B) (h : b = [123, 123, 35, 97, 125, 125, 98] ∨ b = [123, 123, 35, 97, 125, 125, 98, 123, 123, 47, 99, 125, 125] ∨ b = [123, 123, 94, 97, 125, 125] ∨
    b = [123, 123, 35, 97, 125, 125, 123, 123, 35, 98, 125, 125, 123, 123, 47, 97, 125, 125, 123, 123, 47, 98, 125, 125]) (m : Nat) : iparse b false (m + 2) 1 ⟨6, OB, CB⟩ (some [97]) = some none := by
  rcases h with rfl | rfl | rfl | rfl
  · exact step_eof_sec (st := ⟨6, OB, CB⟩) rfl
  · rw [step_close (st := ⟨6, OB, CB⟩) (tr := ⟨[98], [], false, 9⟩) (tg := ⟨[47, 99], true, 13⟩) rfl rfl rfl]
    exact if_neg (by decide)
  · exact step_eof_sec (st := ⟨6, OB, CB⟩) rfl
  · refine step_sect_err (st := ⟨6, OB, CB⟩) (tr := ⟨[], [], false, 8⟩) (tg := ⟨[35, 98], true, 12⟩) rfl rfl (.inl rfl) (by decide) ?_
    show iparse [123, 123, 35, 97, 125, 125, 123, 123, 35, 98, 125, 125, 123, 123, 47, 97, 125, 125, 123, 123, 47, 98, 125, 125] false (m + 1) (1 + 1) ⟨12, OB, CB⟩ (some (trimBy spB ([35, 98].drop 1))) = some none
    rw [step_close (st := ⟨12, OB, CB⟩) (tr := ⟨[], [], false, 14⟩) (tg := ⟨[47, 97], true, 18⟩) rfl rfl rfl]
    exact if_neg (by decide)
/-- a broken end at the top -/
theorem bad_err (s b : B) (hb : b ∈ bads) (m pe : Nat) (tr : TextR) (hrt : rdText (s ++ b) pe OB = some tr) (hpos : tr.pos = s.length + 2) : iparse (s ++ b) false (m + 3) 0 ⟨pe, OB, CB⟩ none = some none := by
  have hrg : rdTag (s ++ b) tr.pos CB tr.may = (rdTag b 2 CB tr.may).map (shG s.length) := by rw [hpos]; exact rdTag_sh s b CB 2 tr.may
  have sec : ∀ (k : UInt8) (al : Bool), (k = 35 ∨ k = 94) → rdTag b 2 CB tr.may = some ⟨[k, 97], al, 6⟩ → (∀ m, iparse b false (m + 2) 1 ⟨6, OB, CB⟩ (some [97]) = some none) → iparse (s ++ b) false (m + 3) 0 ⟨pe, OB, CB⟩ none = some none := by
    intro k al hk h1 h2
    rw [h1, Option.map_some] at hrg
    have h3 : iparse (s ++ b) false (m + 2) (0 + 1) ⟨s.length + 6, OB, CB⟩ (some [97]) = some none := by
      rw [iparse_sh s b false (m + 2) 1 6 OB CB _ (by decide) (by decide) (by decide), h2 m]; rfl
    have h4 : trimBy spB ((shG s.length ⟨[k, 97], al, 6⟩).tag.drop 1) = [97] := by
      show trimBy spB [97] = [97]; decide
    refine step_sect_err (st := ⟨pe, OB, CB⟩) hrt hrg hk (by decide) ?_
    rw [h4]
    exact h3
  simp only [bads, List.mem_cons, List.not_mem_nil, or_false] at hb
  rcases hb with rfl | rfl | rfl | rfl | rfl | rfl | rfl
  · cases hm : tr.may with
    | true => exact sec 35 false (.inl rfl) (by rw [hm]; rfl) (nested_err _ (.inl rfl))
    | false => exact sec 35 true (.inl rfl) (by rw [hm]; rfl) (nested_err _ (.inl rfl))
  · cases hm : tr.may with
    | true => exact sec 35 false (.inl rfl) (by rw [hm]; rfl) (nested_err _ (.inr (.inl rfl)))
    | false => exact sec 35 true (.inl rfl) (by rw [hm]; rfl) (nested_err _ (.inr (.inl rfl)))
  · cases hm : tr.may with
    | true => rw [hm] at hrg; exact step_close_top (st := ⟨pe, OB, CB⟩) hrt (by rw [hm]; exact hrg) rfl
    | false => rw [hm] at hrg; exact step_close_top (st := ⟨pe, OB, CB⟩) hrt (by rw [hm]; exact hrg) rfl
  · exact step_tag (st := ⟨pe, OB, CB⟩) hrt hrg
  · cases hm : tr.may with
    | true => exact sec 94 true (.inr rfl) (by rw [hm]; rfl) (nested_err _ (.inr (.inr (.inl rfl))))
    | false => exact sec 94 true (.inr rfl) (by rw [hm]; rfl) (nested_err _ (.inr (.inr (.inl rfl))))
  · cases hm : tr.may with
    | true => exact sec 35 false (.inl rfl) (by rw [hm]; rfl) (nested_err _ (.inr (.inr (.inr rfl))))
    | false => exact sec 35 true (.inl rfl) (by rw [hm]; rfl) (nested_err _ (.inr (.inr (.inr rfl))))
  · exact step_tag (st := ⟨pe, OB, CB⟩) hrt hrg
theorem bads_head {b : B} (hb : b ∈ bads) : ∃ l, b = 123 :: 123 :: l := by
  simp only [bads, List.mem_cons, List.not_mem_nil, or_false] at hb
  rcases hb with rfl | rfl | rfl | rfl | rfl | rfl | rfl <;> exact ⟨_, rfl⟩

/-- the specification's last part is the variable x: the signs are braces, and the text ahead ends with none -/
theorem last_var {s : B} {n pe : Nat} {oe ce : B} {d : Nat} {ns2 : List Node} (hp : (oe, ce) ∈ pairs) (hpe : pe ≤ s.length) (hf : find s oe pe = none)
    {nd : Node} (hl : (ns2 ++ (parts (s ++ xTag) (n + 1) ⟨pe, d, oe, ce, false⟩ []).1).getLast? = some nd) (hnd : ∀ t, nd ≠ .mk 1 t false [] []) : oe = OB ∧ ce = CB ∧ find (s ++ xTag) OB pe = some s.length := by
  have hlen : (s ++ xTag).length = s.length + 5 := by rw [List.length_append]; rfl
  have hnone : ∀ b, snext (s ++ xTag) pe oe ce = .none b → False := by
    intro b hb
    rw [parts_none (st := ⟨pe, d, oe, ce, false⟩) rfl hb] at hl
    have hne : (s ++ xTag).drop pe ≠ [] := by
      intro h
      have := congrArg List.length h
      rw [List.length_drop, hlen] at this
      simp at this; omega
    have ha : addT ((s ++ xTag).drop pe) = [.mk 1 ((s ++ xTag).drop pe) false [] []] := by unfold addT; rw [if_neg hne]
    simp only [ha, List.getLast?_append, List.getLast?_singleton, Option.some_or, Option.some.injEq] at hl
    exact hnd _ hl.symm
  have hx : ∀ j, (s ++ xTag).getD (s.length + j) 0 = xTag.getD j 0 := fun j => getD_sh s xTag j
  cases hn : snext (s ++ xTag) pe oe ce with
  | none b => exact (hnone b hn).elim
  | some t =>
    obtain ⟨a2, e, F⟩ := snext_some hn
    have hfo := find_some F.fo
    have hol := find_le F.fo (pairs_ne hp).1
    rw [hlen] at hol
    have hlast : s.length < t.at0 + oe.length := by
      rcases Nat.lt_or_ge s.length (t.at0 + oe.length) with h | h
      · exact h
      · exact absurd (at_of_app hfo.2.1 h) (find_none hf _ hfo.1)
    -- the sign's last byte stands in the tag
    have hbyte : ∀ j, j < oe.length → s.length ≤ t.at0 + j → xTag.getD (t.at0 + j - s.length) 0 = oe.getD j 0 := fun j h1 h2 => by
      have := hfo.2.1.get j h1
      rw [show t.at0 + j = s.length + (t.at0 + j - s.length) by omega, hx] at this
      exact this
    have hoe : 0 < oe.length := List.length_pos_iff.2 (pairs_ne hp).1
    have hq : xTag.getD (t.at0 + (oe.length - 1) - s.length) 0 = oe.getD (oe.length - 1) 0 := hbyte _ (by omega) (by omega)
    have hin : t.at0 + (oe.length - 1) - s.length < 5 := by omega
    generalize hi : t.at0 + (oe.length - 1) - s.length = i at *
    rcases pairs_cases hp with ⟨rfl, rfl⟩ | ⟨rfl, rfl⟩ | ⟨rfl, rfl⟩ | ⟨rfl, rfl⟩
    · exfalso
      rcases i with _ | _ | _ | _ | _ | i
      all_goals first | (exact absurd hq (by decide)) | omega
    · exfalso
      rcases i with _ | _ | _ | _ | _ | i
      all_goals first | (exact absurd hq (by decide)) | omega
    · exfalso
      rcases i with _ | _ | _ | _ | _ | i
      all_goals first | (exact absurd hq (by decide)) | omega
    · refine ⟨rfl, rfl, ?_⟩
      have hi' : t.at0 + 1 - s.length = i := hi
      have hlast' : s.length < t.at0 + 2 := hlast
      by_cases h0 : t.at0 = s.length
      · rw [← h0]; exact F.fo
      · exfalso
        by_cases h1 : t.at0 + 1 = s.length
        · -- one brace ahead: a raw tag without its end
          have hk : t.kind = 123 := by
            rw [F.kd]
            show kindAt (s ++ xTag) (t.at0 + 2) = 123
            unfold kindAt
            rw [show t.at0 + 2 = s.length + 1 by omega, hx]
            exact if_pos ⟨by rw [hlen]; omega, by decide⟩
          have ha := F.ha
          rw [hk, if_neg (by decide)] at ha
          have hfe := F.fe
          rw [hk, ha, show t.at0 + ([123, 123] : B).length + 1 = s.length + 2 by simp; omega, find_sh] at hfe
          exact absurd hfe (by simp only [show find xTag (tagEnd 123 [125, 125]) 2 = none by decide]; simp)
        · have hb0 := hbyte 0 (by decide) (by omega)
          have hb1 := hbyte 1 (by decide) (by omega)
          obtain ⟨r, hr⟩ : ∃ r, t.at0 = s.length + r := ⟨t.at0 - s.length, by omega⟩
          rw [show t.at0 + 0 - s.length = r by omega] at hb0
          rw [show t.at0 + 1 - s.length = r + 1 by omega] at hb1
          have hr4 : r < 4 := by simp at hol; omega
          rcases r with _ | _ | _ | _ | r
          · omega
          · exact absurd hb1 (by decide)
          · exact absurd hb0 (by decide)
          · exact absurd hb0 (by decide)
          · omega

/-- more fuel changes nothing -/
theorem parts_mono (s : B) : ∀ (n : Nat) (st : PSt) (name : B), (parts s n st name).2.bad = false → parts s (n + 1) st name = parts s n st name := by
  intro n
  induction n with
  | zero => intro st name h; cases h
  | succ n ih =>
    intro st name h
    by_cases hb : st.bad = true
    · rw [parts, if_pos hb, parts, if_pos hb]
    · have hb : st.bad = false := by simpa using hb
      have nb : ∀ sx nm, (parts s n sx nm).2.bad = false → sx.bad = false := by
        intro sx nm hh
        cases hsb : sx.bad with
        | false => rfl
        | true => have := parts_bad s n sx nm hsb; rw [hh] at this; cases this
      cases hn : snext s st.pos st.o st.c with
      | none b => rw [parts_none hb hn, parts_none hb hn]
      | some t =>
        by_cases k33 : t.kind = 33
        · rw [parts_33 hb hn k33] at h
          rw [parts_33 hb hn k33, parts_33 hb hn k33, ih _ _ h]
        by_cases k61 : t.kind = 61
        · rw [parts_61 hb hn k61] at h
          rw [parts_61 hb hn k61, parts_61 hb hn k61, ih _ _ h]
        by_cases k47 : t.kind = 47
        · rw [parts_47 hb hn k47, parts_47 hb hn k47]
        by_cases k35 : t.kind = 35 ∨ t.kind = 94
        · rw [parts_35 hb hn k35] at h
          have h2 : (parts s n (st35 s t st) t.body).2.bad = false := nb (back (parts s n (st35 s t st) t.body).2) name h
          rw [parts_35 hb hn k35, parts_35 hb hn k35, ih _ _ h2, ih _ _ h]
        by_cases k62 : t.kind = 62
        · rw [parts_62 hb hn k62] at h
          rw [parts_62 hb hn k62, parts_62 hb hn k62, ih _ _ h]
        · obtain ⟨a2, e, F⟩ := snext_some hn
          have hkk : ¬ kinded t.kind := by
            rintro ⟨a, b, c⟩
            rcases (kind_isKind F) with h | h
            · exact a h
            · rcases isKind_cases h with h | h | h | h | h | h | h | h
              · exact k35 (.inl h)
              · exact k35 (.inr h)
              · exact k47 h
              · exact k33 h
              · exact k62 h
              · exact b h
              · exact k61 h
              · exact c h
          rw [parts_var hb hn hkk] at h
          rw [parts_var hb hn hkk, parts_var hb hn hkk, ih _ _ h]
theorem parts_more (s : B) (n k : Nat) (st : PSt) (name : B) (h : (parts s n st name).2.bad = false) : parts s (n + k) st name = parts s n st name := by
  induction k with
  | zero => rfl
  | succ k ih =>
    rw [← Nat.add_assoc, parts_mono s (n + k) st name (by rw [ih]; exact h), ih]
theorem parse_core {s : B} (hs : signs s) {ns : List Node} (hp : parse s = (ns, true)) (k : Nat) : CoreTop s (s.length + 4 + k) start ns := by
  unfold parse at hp
  simp only [Prod.mk.injEq, Bool.not_eq_true'] at hp
  have h := parts_more s (s.length + 4) k start [] hp.2
  have hc := core s hs (s.length + 4 + k) start [] ns (parts s (s.length + 4) start []).2 (by rw [h, ← hp.1]) hp.2 ⟨Nat.zero_le _, .inl rfl⟩ (by simp [start, pairs])
  exact hc.top rfl

/-- with a broken end the package's reader fails; without one it does not -/
theorem compiled_pure {s : B} (hs : signs s) {ns : List Node} (hp : parse s = (ns, true)) (hw : wiL [] ns) {nd : Node} (hl : (parse (s ++ xTag)).1.getLast? = some nd) (hnd : ∀ t, nd ≠ .mk 1 t false [] []) :
    (∀ b ∈ bads, iparse (s ++ b) false (s.length + 9) 0 ⟨0, OB, CB⟩ none = some none) ∧ ∃ x, iparse s false (s.length + 9) 0 ⟨0, OB, CB⟩ none = some (some x) := by
  obtain ⟨n', pe, oe, ce, h1, h2, h3, h4, h5, h6⟩ := parse_core hs hp 5
  have hst : start.pos = 0 := rfl
  have hpe := h1.1
  have hn' : 9 ≤ n' := by rw [hst] at h4; omega
  obtain ⟨m, rfl⟩ : ∃ m, n' = m + 3 := ⟨n' - 3, by omega⟩
  obtain ⟨-, hx⟩ := h6 xTag false (.inr ⟨_, rfl⟩)
  obtain ⟨ns2, hx⟩ := hx (by decide) hw
  have hlen : (s ++ xTag).length = s.length + 5 := by rw [List.length_append]; rfl
  have hpx : (parse (s ++ xTag)).1 = (parts (s ++ xTag) (s.length + 4 + 5) start []).1 := by
    unfold parse
    rw [hlen]
  rw [hpx, hx] at hl
  obtain ⟨rfl, rfl, hf⟩ := last_var (n := m + 2) h2 hpe h3 hl hnd
  refine ⟨fun b hb => ?_, ?_⟩
  · obtain ⟨l, rfl⟩ := bads_head hb
    obtain ⟨⟨es, he, -⟩, -⟩ := h6 (123 :: 123 :: l) false (.inr ⟨_, rfl⟩)
    have he : iparse (s ++ 123 :: 123 :: l) false (s.length + 9) 0 ⟨0, OB, CB⟩ none = pre es (iparse (s ++ 123 :: 123 :: l) false (m + 3) 0 ⟨pe, OB, CB⟩ none) := he
    have hfb : find (s ++ 123 :: 123 :: l) OB pe = some s.length := by
      have hfs := find_some hf
      refine find_eq hpe ?_ fun j h1 h2 ha => ?_
      · unfold At; rw [List.drop_left]; exact ⟨l, rfl⟩
      · have hol : OB.length = 2 := rfl
        by_cases hj : j + OB.length ≤ s.length
        · exact find_none h3 j h1 (at_of_app ha hj)
        · apply hfs.2.2 j h1 h2
          refine at_of_get (by rw [hlen]; omega) fun i hi => ?_
          rw [← ha.get i hi]
          by_cases hi2 : j + i < s.length
          · rw [getD_app _ _ _ hi2, getD_app _ _ _ hi2]
          · rw [show j + i = s.length + 0 by omega, getD_sh, getD_sh]; rfl
    obtain ⟨tr, hrt, hpos⟩ : ∃ tr, rdText (s ++ 123 :: 123 :: l) pe OB = some tr ∧ tr.pos = s.length + 2 := by
      unfold rdText
      rw [hfb]
      dsimp only
      split
      · exact ⟨_, rfl, rfl⟩
      · exact ⟨_, rfl, rfl⟩
    rw [he, bad_err s _ hb m pe tr hrt hpos]
    rfl
  · obtain ⟨⟨es, he, -⟩, -⟩ := h6 [] false (.inl rfl)
    rw [List.append_nil] at he
    have he : iparse s false (s.length + 9) 0 ⟨0, OB, CB⟩ none = pre es (iparse s false (m + 3) 0 ⟨pe, OB, CB⟩ none) := he
    have hrt : rdText s pe OB = none := by unfold rdText; rw [h3]
    rw [he, step_eof_top (st := ⟨pe, OB, CB⟩) hrt]
    exact ⟨_, rfl⟩
end Go.Proofs.YtfakghnpkdoclaaDoor.Mu
