/-
  Plain Lean, no program: the induction over a template: both readers, with any text that begins with a brace behind, too.
-/
import Derived.Test.YtfakghnpkdoclaaDoorPure4
set_option linter.unusedVariables false
set_option linter.unusedSimpArgs false
namespace Go.Proofs.YtfakghnpkdoclaaDoor.Mu

theorem Core.tag {s : B} (hs : signs s) {n : Nat} {st sx st' : PSt} {name : B} {t : Tag} {a2 e : Nat} (F : Found s st.pos st.o st.c t a2 e) (hp : (st.o, st.c) ∈ pairs)
    (h0 : t.kind = 0 → nameOk t.body = true) (h61 : t.kind = 61 → delim t.body st.o ≠ none) (hpos : PosOk s st.pos) (hal : (alOf s t).2.2 = false)
    (hsx : sx.pos = (alOf s t).2.1) (hsd : sx.deep = st.deep) {nd : Node} {ns1 : List Node} (el : TextR → Bool → List Elem) (h : Core s n sx name ns1 st')
    (hI : ∀ u raw tr tg, Step s u st.pos st.o st.c t a2 e tr tg → iparse (s ++ u) raw (n + 1) st.deep ⟨st.pos, st.o, st.c⟩ (nmOf name) = pre (txOf tr tg ++ el tr raw) (iparse (s ++ u) raw n sx.deep ⟨sx.pos, sx.o, sx.c⟩ (nmOf name)))
    (hR : ∀ raw tr tg x ns es, Step s [] st.pos st.o st.c t a2 e tr tg → TxOk s x → Rel s raw ns es → Rel s raw (addT x.flatten ++ [nd] ++ ns) (txs x ++ el tr raw ++ es))
    (hS : wiL [] [nd] → ∀ u', parts (s ++ 123 :: u') (n + 1) st name = (tx1 (s ++ 123 :: u') t st ++ nd :: (parts (s ++ 123 :: u') n sx name).1, (parts (s ++ 123 :: u') n sx name).2)) :
    Core s (n + 1) st name (tx1 s t st ++ nd :: ns1) st' := by
  obtain ⟨hon, hcn, -, -⟩ := pairs_ne hp
  have hpa := pos_after F hp hal
  have := Core.extend (st := st) (N0 := tx1 s t st ++ [nd]) h (by rw [hsx]; exact hpa.2) hsd (fun u raw hu => ?_) (fun u hu hu0 hw => ?_)
  · rw [List.append_assoc] at this; exact this
  · obtain ⟨tr, tg, S⟩ := step_of F hs hp h0 h61 hpos hal u hu
    refine ⟨_, hI u raw tr tg S, fun hu0 ns es hr => ?_⟩
    subst hu0
    obtain ⟨x, hx, htx, hfl⟩ := txOf_rel S rfl hon
    have := hR raw tr tg x ns es S hx hr
    rw [htx]
    unfold tx1
    rw [← hfl]
    exact this
  · rcases hu with rfl | ⟨u', rfl⟩
    · exact absurd rfl hu0
    · obtain ⟨-, w2⟩ := wiL_append.1 hw
      exact ⟨tx1 (s ++ 123 :: u') t st ++ [nd], by rw [hS w2 u', List.append_assoc]; rfl⟩

theorem custom_of {s o o' c' : B} (hs : signs s) {t : Tag} {a2 e : Nat} (hk : t.kind = 61) (hb : t.body = trimBy wsB (sub s a2 e)) (hd : delim t.body o = some (o', c')) : custom (tagText s t a2 e) = some (o', c') := by
  obtain ⟨hp, hbody, -⟩ := delim_some hd
  have htt : tagText s t a2 e = 61 :: (sub s a2 e ++ [61]) := by
    unfold tagText; rw [hk]; rfl
  rw [htt]
  have hm : trimBy spB (sub s a2 e) = o' ++ [32] ++ c' := by rw [trim_signs hs, ← hb, hbody]
  have hlen : 0 < (sub s a2 e).length := by
    have h1 := trimBy_length spB (sub s a2 e)
    rw [hm] at h1
    simp at h1; omega
  unfold custom
  rw [if_neg (by rintro (h | h); · simp at h; omega
                 · apply h; rw [← List.cons_append, List.getLast?_append]; rfl)]
  have hin : ((61 :: (sub s a2 e ++ [61])).drop 1).dropLast = sub s a2 e := by simp
  rw [hin, hm]
  rcases pairs_cases hp with ⟨rfl, rfl⟩ | ⟨rfl, rfl⟩ | ⟨rfl, rfl⟩ | ⟨rfl, rfl⟩ <;> rfl

theorem core (s : B) (hs : signs s) : ∀ (n : Nat) (st : PSt) (name : B) (ns : List Node) (st' : PSt), parts s n st name = (ns, st') → st'.bad = false → PosOk s st.pos → (st.o, st.c) ∈ pairs → Core s n st name ns st' := by
  intro n
  induction n with
  | zero =>
    intro st name ns st' h hb
    simp only [parts, Prod.mk.injEq] at h
    obtain ⟨-, rfl⟩ := h
    cases hb
  | succ n ih =>
    intro st name ns st' h hb hpos hp
    have hbs : st.bad = false := by
      cases hsb : st.bad with
      | false => rfl
      | true => have := parts_bad s (n + 1) st name hsb; rw [h] at this; rw [hb] at this; cases this
    have notBad : ∀ sx nm, (parts s n sx nm).2.bad = false → sx.bad = false := by
      intro sx nm hh
      cases hsb : sx.bad with
      | false => rfl
      | true => have := parts_bad s n sx nm hsb; rw [hh] at this; cases this
    obtain ⟨hon, hcn, -, -⟩ := pairs_ne hp
    have heta : ∀ x : PSt, x.bad = false → (⟨x.pos, x.deep, x.o, x.c, false⟩ : PSt) = x := fun x hx => by cases x; cases hx; rfl
    cases hn : snext s st.pos st.o st.c with
    | none b =>
      rw [parts_none hbs hn] at h
      simp only [Prod.mk.injEq] at h
      obtain ⟨rfl, rfl⟩ := h
      simp only [Bool.or_eq_false_iff, Bool.not_eq_false', beq_iff_eq] at hb
      obtain ⟨rfl, rfl⟩ := hb
      refine ⟨fun hne => absurd rfl hne, fun _ => ⟨n + 1, st.pos, st.o, st.c, hpos, hp, ?_, by omega, by omega, fun u raw hu => ⟨⟨[], (pre_nil _).symm, fun _ => ?_⟩, fun _ _ => ⟨[], ?_⟩⟩⟩⟩
      · unfold snext at hn
        split at hn
        · assumption
        · dsimp only at hn
          split at hn
          · cases hn
          · cases hn
      · have := Rel.fin (s := s) (raw := raw) [s.drop st.pos] ⟨by simp, by simp⟩
        simpa [txs] using this
      · rw [heta st hbs]; rfl
    | some t =>
      obtain ⟨a2, e, F⟩ := snext_some hn
      obtain ⟨ft1, ft2, ft3, ft4, ft5⟩ := found_to F hp
      have hnu : ∀ u, snext (s ++ u) st.pos st.o st.c = .some t := fun u => snext_app u hon hcn hn
      have hst1 : ∀ u', t.kind ≠ 62 → (alOf s t).2.2 = false → st1 (s ++ 123 :: u') t st = st1 s t st := fun u' hk hal => st1_app u' hk (by omega) ft2 hal
      have hkind : ∀ k, k ≠ 0 → t.kind = k → ∀ u tr tg, Step s u st.pos st.o st.c t a2 e tr tg → tg.tag.getD 0 0 = k := fun k hk he u tr tg S => by
        rw [S.tag, (tagText_head F).1 (by rw [he]; exact hk), he]
      by_cases k33 : t.kind = 33
      · rw [parts_33 hbs hn k33] at h
        simp only [Prod.mk.injEq] at h
        obtain ⟨rfl, rfl⟩ := h
        have hal : (alOf s t).2.2 = false := notBad _ _ hb
        refine Core.tag (sx := st1 s t st) hs F hp (fun h => by rw [k33] at h; cases h) (fun h => by rw [k33] at h; cases h) hpos hal rfl rfl (fun _ _ => []) (ih _ _ _ _ rfl hb (pos_after F hp hal).1 hp) (fun u raw tr tg S => ?_) (fun raw tr tg x ns es S hx hr => .rem x hx hr) (fun _ u' => ?_)
        · rw [step_bang (st := ⟨st.pos, st.o, st.c⟩) S.rt S.rg (hkind 33 (by decide) k33 u tr tg S), S.pos, List.append_nil]; rfl
        · rw [parts_33 hbs (hnu _) k33, hst1 u' (by rw [k33]; decide) hal]
      by_cases k61 : t.kind = 61
      · rw [parts_61 hbs hn k61] at h
        simp only [Prod.mk.injEq] at h
        obtain ⟨rfl, rfl⟩ := h
        have hb61 := notBad _ _ hb
        cases hd : delim t.body st.o with
        | none => unfold st61 at hb61; rw [hd] at hb61; cases hb61
        | some oc =>
          obtain ⟨o', c'⟩ := oc
          have hst61 : st61 s t st = { st1 s t st with o := o', c := c' } := by unfold st61; rw [hd]
          rw [hst61] at hb hb61 ⊢
          have hal : (alOf s t).2.2 = false := hb61
          refine Core.tag (sx := { st1 s t st with o := o', c := c' }) hs F hp (fun h => by rw [k61] at h; cases h) (fun _ => by rw [hd]; simp) hpos hal rfl rfl (fun _ _ => []) (ih _ _ _ _ rfl hb (pos_after F hp hal).1 (delim_some hd).1) (fun u raw tr tg S => ?_) (fun raw tr tg x ns es S hx hr => .rem x hx hr) (fun _ u' => ?_)
          · rw [step_set (st := ⟨st.pos, st.o, st.c⟩) S.rt S.rg (hkind 61 (by decide) k61 u tr tg S) (by rw [S.tag]; exact custom_of hs k61 F.bd hd), S.pos, List.append_nil]; rfl
          · have : st61 (s ++ 123 :: u') t st = { st1 s t st with o := o', c := c' } := by
              unfold st61; rw [hd, hst1 u' (by rw [k61]; decide) hal]
            rw [parts_61 hbs (hnu _) k61, this]
      by_cases k47 : t.kind = 47
      · rw [parts_47 hbs hn k47] at h
        simp only [Prod.mk.injEq] at h
        obtain ⟨rfl, rfl⟩ := h
        simp only [Bool.or_eq_false_iff, Bool.not_eq_false', beq_iff_eq] at hb
        obtain ⟨⟨hal, hbn⟩, hne⟩ := hb
        have hal : (alOf s t).2.2 = false := hal
        have hne : name ≠ [] := by intro h; rw [h] at hne; cases hne
        refine ⟨fun _ => ⟨fun u raw hu => ⟨?_, fun hu0 hw => ?_⟩, (pos_after F hp hal).1, hp, rfl, Nat.le_of_lt (pos_after F hp hal).2⟩, fun he => absurd he hne⟩
        · obtain ⟨tr, tg, S⟩ := step_of F hs hp (fun h => by rw [k47] at h; cases h) (fun h => by rw [k47] at h; cases h) hpos hal u hu
          refine ⟨txOf tr tg, ?_, fun hu0 => ?_⟩
          · rw [step_close (st := ⟨st.pos, st.o, st.c⟩) S.rt S.rg (hkind 47 (by decide) k47 u tr tg S), if_pos (by rw [S.tag, drop_tagText hs (by rw [k47]; decide) F.bd, hbn]), S.pos]; rfl
          · subst hu0
            obtain ⟨x, hx, htx, hfl⟩ := txOf_rel S rfl hon
            rw [htx]
            unfold tx1
            rw [← hfl]
            exact .fin x hx
        · rcases hu with rfl | ⟨u', rfl⟩
          · exact absurd rfl hu0
          · refine ⟨tx1 (s ++ 123 :: u') t st, ?_⟩
            rw [parts_47 hbs (hnu _) k47, hst1 u' (by rw [k47]; decide) hal]
      by_cases k35 : t.kind = 35 ∨ t.kind = 94
      · rw [parts_35 hbs hn k35] at h
        simp only [Prod.mk.injEq] at h
        obtain ⟨rfl, rfl⟩ := h
        have hbk := notBad _ _ hb
        generalize hkp : parts s n (st35 s t st) t.body = kp at *
        obtain ⟨kids, sk⟩ := kp
        have hskb : sk.bad = false := hbk
        have hb35 : (st35 s t st).bad = false := notBad _ _ (by rw [hkp]; exact hskb)
        have hb35' := hb35
        unfold st35 at hb35'
        simp only [Bool.or_eq_false_iff, Bool.not_eq_false', decide_eq_false_iff_not] at hb35'
        obtain ⟨⟨hal, hnm⟩, hdp⟩ := hb35'
        have hal : (alOf s t).2.2 = false := hal
        have hk0 : t.kind ≠ 0 := by rcases k35 with h | h <;> rw [h] <;> decide
        have hk62 : t.kind ≠ 62 := by rcases k35 with h | h <;> rw [h] <;> decide
        have hk61 : t.kind ≠ 61 := by rcases k35 with h | h <;> rw [h] <;> decide
        have hk123 : t.kind ≠ 123 := by rcases k35 with h | h <;> rw [h] <;> decide
        have hC := ih _ _ _ _ hkp hskb (pos_after F hp hal).1 hp
        obtain ⟨hsec, hskp, hskpr, hskd, hskl⟩ := hC.sec (nameOk_kind hnm).1
        have hskl : (alOf s t).2.1 ≤ sk.pos := hskl
        have hskd : sk.deep = st.deep + 1 := hskd
        have hC2 := ih (back sk) name _ _ rfl hb hskp hskpr
        have := Core.extend (st := st) (N0 := tx1 s t st ++ [.mk (if t.kind = 94 then 4 else 3) t.body false [] kids]) hC2 (by have := (pos_after F hp hal).2; show st.pos < sk.pos; omega) (by show sk.deep - 1 = _; omega) (fun u raw hu => ?_) (fun u hu hu0 hw => ?_)
        · rw [List.append_assoc] at this; exact this
        · obtain ⟨tr, tg, S⟩ := step_of F hs hp (fun h => absurd h hk0) (fun h => absurd h hk61) hpos hal u hu
          obtain ⟨⟨fs, hfs, hrel⟩, -⟩ := hsec u raw hu
          have hkk : tg.tag.getD 0 0 = t.kind := hkind _ hk0 rfl u tr tg S
          have hdr : trimBy spB (tg.tag.drop 1) = t.body := by rw [S.tag]; exact drop_tagText hs ⟨hk0, hk123, hk61⟩ F.bd
          have hfs : iparse (s ++ u) raw n (st.deep + 1) ⟨tg.pos, st.o, st.c⟩ (some (trimBy spB (tg.tag.drop 1))) = some (some (fs, ⟨sk.pos, sk.o, sk.c⟩)) := by
            rw [hdr, S.pos]; exact hfs
          refine ⟨txOf tr tg ++ [.sect (trimBy spB (tg.tag.drop 1)) (tg.tag.getD 0 0 == 94) fs], ?_, fun hu0 ns es hr => ?_⟩
          · rw [step_sect (st := ⟨st.pos, st.o, st.c⟩) S.rt S.rg (by rw [hkk]; exact k35) (by omega), hfs]
            show _ = pre _ (iparse (s ++ u) raw n (sk.deep - 1) ⟨sk.pos, sk.o, sk.c⟩ (nmOf name))
            rw [show sk.deep - 1 = st.deep by omega]
          · subst hu0
            obtain ⟨x, hx, htx, hfl⟩ := txOf_rel S rfl hon
            rw [htx, hdr, hkk]
            unfold tx1
            rw [← hfl]
            have := Rel.sect x t.body (t.kind == 94) hx hnm (hrel rfl) hr
            rcases k35 with hk | hk
            · rw [hk] at this ⊢; exact this
            · rw [hk] at this ⊢; exact this
        · rcases hu with rfl | ⟨u', rfl⟩
          · exact absurd rfl hu0
          · have hwk : wiL [] kids := by
              obtain ⟨-, w2⟩ := wiL_append.1 hw
              simp only [wiL, wiN] at w2
              exact w2.1.1
            obtain ⟨-, hsp⟩ := hsec (123 :: u') false (.inr ⟨u', rfl⟩)
            obtain ⟨ns2, hns2⟩ := hsp (by simp) hwk
            have h35 : st35 (s ++ 123 :: u') t st = st35 s t st := by
              unfold st35; rw [hst1 u' hk62 hal]
            refine ⟨tx1 (s ++ 123 :: u') t st ++ [.mk (if t.kind = 94 then 4 else 3) t.body false [] ns2], ?_⟩
            rw [parts_35 hbs (hnu _) k35, h35, hns2, List.append_assoc]; rfl
      by_cases k62 : t.kind = 62
      · rw [parts_62 hbs hn k62] at h
        simp only [Prod.mk.injEq] at h
        obtain ⟨rfl, rfl⟩ := h
        have hb62 := notBad _ _ hb
        unfold st62 at hb62
        simp only [Bool.or_eq_false_iff, Bool.not_eq_false'] at hb62
        obtain ⟨hal, hwd⟩ := hb62
        have hal : (alOf s t).2.2 = false := hal
        refine Core.tag (sx := st62 s t st) hs F hp (fun h => by rw [k62] at h; cases h) (fun h => by rw [k62] at h; cases h) hpos hal rfl rfl (fun tr _ => [.part t.body tr.pad]) (ih _ _ _ _ rfl hb (pos_after F hp hal).1 hp) (fun u raw tr tg S => ?_) (fun raw tr tg x ns es S hx hr => ?_) (fun hw u' => ?_)
        · rw [step_part (st := ⟨st.pos, st.o, st.c⟩) S.rt S.rg (hkind 62 (by decide) k62 u tr tg S), S.tag, drop_tagText hs (by rw [k62]; decide) F.bd, S.pos]; rfl
        · have := S.pad rfl k62
          rw [← this]
          exact .part x t.body tr.pad hx hwd (indOk_of S F rfl k62 hp) hr
        · simp [wiL, wiN] at hw
      · have hkk : ¬ kinded t.kind := by
          rintro ⟨a, b, c⟩
          rcases (kind_isKind F) with h | h
          · exact a h
          · rcases isKind_cases h with h | h | h | h | h | h | h | h
            · exact k35 (.inl h)
            · exact k35 (.inr h)
            · exact k47 h
            · exact k33 h
            · exact k62 h
            · exact b h
            · exact k61 h
            · exact c h
        rw [parts_var hbs hn hkk] at h
        simp only [Prod.mk.injEq] at h
        obtain ⟨rfl, rfl⟩ := h
        have hb2 := notBad _ _ hb
        unfold st2 at hb2
        simp only [Bool.or_eq_false_iff, Bool.not_eq_false'] at hb2
        obtain ⟨hal, hnm⟩ := hb2
        have hal : (alOf s t).2.2 = false := hal
        refine Core.tag (sx := st2 s t st) hs F hp (fun _ => hnm) (fun h => absurd h k61) hpos hal rfl rfl (fun _ raw => [.var t.body (!(t.kind == 0) || raw)]) (ih _ _ _ _ rfl hb (pos_after F hp hal).1 hp) (fun u raw tr tg S => ?_) (fun raw tr tg x ns es S hx hr => .var x t.body _ hx hnm hr) (fun _ u' => ?_)
        · by_cases k0 : t.kind = 0
          · have htag : tg.tag = t.body := by rw [S.tag]; exact (tagText_head F).2 k0
            have hkb := nameOk_kind hnm
            rw [step_var (st := ⟨st.pos, st.o, st.c⟩) S.rt S.rg (fun k hk => by
              rw [htag]
              intro hc
              have h2 := hkb.2.1
              rw [hc] at h2
              rcases hk with rfl | rfl | rfl | rfl | rfl | rfl | rfl | rfl <;> exact absurd h2 (by decide)), htag, S.pos, k0]; rfl
          · by_cases k38 : t.kind = 38
            · rw [step_amp (st := ⟨st.pos, st.o, st.c⟩) S.rt S.rg (hkind 38 (by decide) k38 u tr tg S), S.tag, drop_tagText hs (by rw [k38]; decide) F.bd, S.pos, k38]; rfl
            · have k123 : t.kind = 123 := Classical.byContradiction fun h => hkk ⟨k0, k38, h⟩
              have htt : tagText s t a2 e = 123 :: (sub s a2 e ++ [125]) := by unfold tagText; rw [k123]; rfl
              have hin : ((123 :: (sub s a2 e ++ [125])).drop 1).dropLast = sub s a2 e := by simp
              rw [step_raw (st := ⟨st.pos, st.o, st.c⟩) S.rt S.rg (hkind 123 (by decide) k123 u tr tg S) (by rw [S.tag, htt, ← List.cons_append, List.getLast?_append]; rfl), S.tag, htt, hin, trim_signs hs, ← F.bd, S.pos, k123]; rfl
        · have : st2 (s ++ 123 :: u') t st = st2 s t st := by
            unfold st2; rw [hst1 u' k62 hal]
          rw [parts_var hbs (hnu _) hkk, this]
end Go.Proofs.YtfakghnpkdoclaaDoor.Mu
