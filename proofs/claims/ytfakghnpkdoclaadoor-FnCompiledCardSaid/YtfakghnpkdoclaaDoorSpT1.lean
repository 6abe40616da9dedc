/-
  The specification's reader: within, asked, plain and TemplateOk where there are no partials.
-/
import Derived.Test.YtfakghnpkdoclaaDoorSpT0
set_option linter.unusedVariables false
set_option linter.unusedSimpArgs false
namespace Go.Proofs.YtfakghnpkdoclaaDoor
open Go.RowKit

theorem len_nsz : ∀ (l : List Mu.Node), l.length ≤ nszL l
  | [] => Nat.le_refl _
  | .mk k t r i kids :: l => by have := len_nsz l; simp only [nszL, nsz, List.length_cons]; omega
theorem nszL_append : ∀ (l m : List Mu.Node), nszL (l ++ m) = nszL l + nszL m
  | [], m => by simp [nszL]
  | n :: l, m => by simp only [List.cons_append, nszL, nszL_append l m]; omega
theorem nsz_addT (t : Mu.B) : nszL (Mu.addT t) ≤ 1 := by
  unfold Mu.addT
  split <;> simp [nszL, nsz]
/-- parts are not more than twice the bytes -/
theorem parts_nsz (s : Mu.B) : ∀ (g : Nat) (st : Mu.PSt) (name : Mu.B), st.pos ≤ s.length → st.o ≠ [] → st.c ≠ [] → nszL (Mu.parts s g st name).1 + 2 * st.pos ≤ 2 * (Mu.parts s g st name).2.pos + 1 := by
  intro g
  induction g with
  | zero => intro st name h1 h2 h3; simp [Mu.parts, nszL]
  | succ g ih =>
    intro st name h1 h2 h3
    by_cases hb : st.bad = true
    · rw [Mu.parts, if_pos hb]; simp [nszL]
    · have hb : st.bad = false := by simpa using hb
      cases hn : Mu.snext s st.pos st.o st.c with
      | none b =>
        rw [Mu.parts_none hb hn]
        have := nsz_addT (s.drop st.pos)
        show nszL (Mu.addT (s.drop st.pos)) + 2 * st.pos ≤ 2 * s.length + 1
        omega
      | some t =>
        obtain ⟨a2, e, F⟩ := Mu.snext_some hn
        obtain ⟨f1, f2, f3⟩ := found_at F h2 h3
        have hol : 0 < st.o.length := List.length_pos_iff.2 h2
        obtain ⟨a1, a2, -, -⟩ := alOf_bounds (s := s) (t := t) (p := st.pos) (by omega) f2 f3
        have htx : nszL (Mu.tx1 s t st) ≤ 1 := nsz_addT _
        have step : ∀ (sx : Mu.PSt) (nd : Mu.Node), nsz nd = 1 → sx.pos = (Mu.alOf s t).2.1 → sx.o ≠ [] → sx.c ≠ [] →
            nszL (Mu.tx1 s t st ++ nd :: (Mu.parts s g sx name).1) + 2 * st.pos ≤ 2 * (Mu.parts s g sx name).2.pos + 1 := by
          intro sx nd h1 p1 p3 p4
          have := ih sx name (by omega) p3 p4
          rw [nszL_append]
          simp only [nszL]
          omega
        by_cases k33 : t.kind = 33
        · rw [Mu.parts_33 hb hn k33]; exact step _ _ rfl rfl h2 h3
        by_cases k61 : t.kind = 61
        · rw [Mu.parts_61 hb hn k61]
          have : (Mu.st61 s t st).pos = (Mu.alOf s t).2.1 ∧ (Mu.st61 s t st).o ≠ [] ∧ (Mu.st61 s t st).c ≠ [] := by
            unfold Mu.st61
            cases hd : Mu.delim t.body st.o with
            | none => exact ⟨rfl, h2, h3⟩
            | some oc =>
              obtain ⟨o', c'⟩ := oc
              have hp := Mu.pairs_ne (Mu.delim_some hd).1
              exact ⟨rfl, hp.1, hp.2.1⟩
          exact step _ _ rfl this.1 this.2.1 this.2.2
        by_cases k47 : t.kind = 47
        · rw [Mu.parts_47 hb hn k47]
          show nszL (Mu.tx1 s t st) + 2 * st.pos ≤ 2 * (Mu.alOf s t).2.1 + 1
          omega
        by_cases k35 : t.kind = 35 ∨ t.kind = 94
        · rw [Mu.parts_35 hb hn k35]
          obtain ⟨r1, r2, r3, r4, r5⟩ := parts_inv s g (Mu.st35 s t st) t.body a2 h2 h3
          have q1 := ih (Mu.st35 s t st) t.body a2 h2 h3
          have q2 := ih (Mu.back (Mu.parts s g (Mu.st35 s t st) t.body).2) name r2 r4 r5
          have r1 : (Mu.alOf s t).2.1 ≤ (Mu.parts s g (Mu.st35 s t st) t.body).2.pos := r1
          have q1 : nszL (Mu.parts s g (Mu.st35 s t st) t.body).1 + 2 * (Mu.alOf s t).2.1 ≤ 2 * (Mu.parts s g (Mu.st35 s t st) t.body).2.pos + 1 := q1
          have q2 : nszL (Mu.parts s g (Mu.back (Mu.parts s g (Mu.st35 s t st) t.body).2) name).1 + 2 * (Mu.parts s g (Mu.st35 s t st) t.body).2.pos ≤ 2 * (Mu.parts s g (Mu.back (Mu.parts s g (Mu.st35 s t st) t.body).2) name).2.pos + 1 := q2
          dsimp only
          rw [nszL_append]
          simp only [nszL, nsz]
          omega
        by_cases k62 : t.kind = 62
        · rw [Mu.parts_62 hb hn k62]; exact step _ _ rfl rfl h2 h3
        · have hkk : ¬ Mu.kinded t.kind := by
            rintro ⟨a, b, c⟩
            rcases (Mu.kind_isKind F) with h | h
            · exact a h
            · rcases Mu.isKind_cases h with h | h | h | h | h | h | h | h
              · exact k35 (.inl h)
              · exact k35 (.inr h)
              · exact k47 h
              · exact k33 h
              · exact k62 h
              · exact b h
              · exact k61 h
              · exact c h
          rw [Mu.parts_var hb hn hkk]; exact step _ _ rfl rfl h2 h3
theorem parse_nsz (s : Mu.B) : nszL (Mu.parse s).1 ≤ 2 * s.length + 1 := by
  have h1 := parts_nsz s (s.length + 4) Mu.start [] (Nat.zero_le _) (by simp [Mu.start]) (by simp [Mu.start])
  have h2 := (parts_inv s (s.length + 4) Mu.start [] (Nat.zero_le _) (by simp [Mu.start]) (by simp [Mu.start])).2.1
  have h3 : Mu.start.pos = 0 := rfl
  show nszL (Mu.parts s (s.length + 4) Mu.start []).1 ≤ _
  omega

def WiPost (names : List Mu.B) (ns : List Mu.Node) (w : World) (e : Ending) (w' : World) : Prop := ∃ b : Bool, e = .returned (.bool b) ∧ (b = true → Mu.wiL names ns) ∧ F0 w w'
theorem wiL_of {names : List Mu.B} : ∀ {l : List Mu.Node}, (∀ j (h : j < l.length), Mu.wiN names l[j]) → Mu.wiL names l
  | [], _ => by unfold Mu.wiL; trivial
  | n :: l, h => by
    unfold Mu.wiL
    exact ⟨h 0 (by simp), wiL_of fun j hj => h (j + 1) (by simpa using hj)⟩
theorem keep_lt {S : Nat → Prop} {w w' : World} (hf : F0 w w') (hS : ∀ k, S k → k < w.heap.size) : Keep S w w' := fun k hk => hf.block k (hS k hk) id

set_option maxRecDepth 100000 in
set_option maxHeartbeats 4000000 in
theorem within_nil (m : Nat) : ∀ (ns : List Mu.Node) (v : Value) (vs : List Value) (S : Nat → Prop) (w : World), nszL ns ≤ m → m ≤ 85899346000 → RowN w S 5 v ns.length vs → NsAt w S ns vs → (∀ k, S k → k < w.heap.size) →
    Calls Tryd.prog 14 #[v, .slice none 0 0] w (WiPost [] ns w) := by
  induction m using Nat.strongRecOn with
  | _ m ih =>
    have IH := Lib.hid ih
    clear ih
    intro ns v vs S w hm hm2 hrow hns hS
    have hl : ns.length ≤ 85899346000 := by have := len_nsz ns; omega
    obtain ⟨a, c, hv, hnc⟩ : ∃ a c, v = .slice a ns.length c ∧ ns.length ≤ c := by
      obtain ⟨-, a, c, h1, h2, -⟩ := hrow
      exact ⟨a, c, h1, h2⟩
    subst hv
    have HR := Lib.hid hrow
    have HN := Lib.hid hns
    have HS := Lib.hid hS
    clear hrow hns hS
    go_enter Tryd.func14, Tryd.ntmps14
    go_wp2_with fail
    go_loopg [12] ns.length (fun g v12 wr => ∃ k : Nat, v12 = .int .i64 k ∧ k ≤ ns.length ∧ g = ns.length - k ∧ Hid (F0 w wr ∧ ∀ j (h : j < ns.length), j < k → Mu.wiN [] ns[j]))
    case atStart => exact ⟨0, rfl, Nat.zero_le _, rfl, Lib.hid ⟨Fr.refl _ _, fun j _ h => absurd h (by omega)⟩⟩
    case round =>
      obtain ⟨k, rfl, hk, rfl, HI⟩ := hrel
      by_cases hlt : k < ns.length
      · have HK := Lib.hid (keep_lt HI.out.1 HS.out)
        obtain ⟨g, c', kd, raw, tb, ib, sv, kids, us, hv, hSg, -, hnd, n0, n1, n2, n3, n4, hr2, hn2⟩ := (HR.out.keep HK.out (fun _ h => h)).node (NsAt.keep HK.out (fun _ h => h) _ _ HN.out) k hlt
        obtain ⟨rfl, hcc⟩ : a = some ⟨g, 0, none⟩ ∧ c = c' := by
          injection hv with h1 h2 h3
          exact ⟨h1, h3⟩
        have hgl : g < wr.heap.size := by have := HS.out g hSg; have := HI.out.1.size; omega
        have HND := Lib.hid hnd
        have HSZ : Hid (nszL kids < m) := Lib.hid (by
          have h1 := nszL_mem (List.getElem_mem hlt)
          rw [hnd] at h1
          simp only [nsz] at h1; omega)
        have HR2 := Lib.hid hr2
        have HN2 := Lib.hid hn2
        obtain ⟨ka, kc, hsv⟩ : ∃ ka kc, sv = .slice ka kids.length kc := by
          obtain ⟨-, ka, kc, h1, -⟩ := hr2
          exact ⟨ka, kc, h1⟩
        subst hsv
        clear hv hcc hnd hr2 hn2 hSg
        have HKA : Hid (∀ o : Obj, Keep S wr (wr.alloc o)) := Lib.hid (fun o => keep_lt (Fr.alloc No wr o) (fun k hk => by have := HS.out k hk; have := HI.out.1.size; omega))
        go_wp2_with fail
        refine (IH.out (nszL kids) HSZ.out kids _ us S _ (Nat.le_refl _) (by have := HSZ.out; omega) (HR2.out.keep (HKA.out _) (fun _ h => h)) (NsAt.keep (HKA.out _) (fun _ h => h) _ _ HN2.out) (fun k hk => by have := HS.out k hk; have := HI.out.1.size; simp; omega)).mono ?_
        rintro e w2 ⟨b, rfl, hb, hf⟩
        have HF2 : Hid (F0 w w2) := Lib.hid ((HI.out.1.allocA _).trans hf)
        have hnb : w2.heap[wr.heap.size]? = some (.cells #[.int .i64 kd, .string tb, .bool raw, .string ib, .slice ka kids.length kc] 27 (0, 0)) := hf.blk (blk_new wr _) id
        have HB := Lib.hid hb
        have p0 := blk_cell hnb 0
        simp only [List.getElem?_toArray, List.getElem?_cons_zero] at p0
        clear hb hf hnb
        cases b with
        | false =>
          go_wp2_with fail
          go_ret
          exact ⟨false, rfl, (fun h => by cases h), HF2.out⟩
        | true =>
          by_cases h5 : kd = 5
          · have b5 : ((kd : Int) != 5) = false := by subst h5; rfl
            clear h5
            go_wp2_with fail
            go_loopg [7, 26] 0 (fun g v7 v wr2 => v7 = .bool false ∧ v = .int .i64 0 ∧ g = 0 ∧ wr2 = w2)
            case atStart => exact ⟨rfl, rfl, rfl, rfl⟩
            case round =>
              obtain ⟨rfl, rfl, rfl, rfl⟩ := hrel
              go_wp2_with fail
              go_ret
              exact ⟨false, rfl, (fun h => by cases h), HF2.out⟩
          · have b5 : ((kd : Int) != 5) = true := by simp; omega
            have HKK : Hid (∀ j (h : j < ns.length), j < k + 1 → Mu.wiN [] ns[j]) := Lib.hid (fun j hj hjk => by
              rcases Nat.lt_or_ge j k with h | h
              · exact HI.out.2 j hj h
              · obtain rfl : j = k := by omega
                rw [HND.out]
                unfold Mu.wiN
                exact ⟨HB.out rfl, fun e => absurd e h5⟩)
            clear h5
            go_wp2_with fail
            go_roundg (ns.length - (k + 1))
            case rel => exact ⟨k + 1, by go_num, by omega, rfl, Lib.hid ⟨HF2.out, HKK.out⟩⟩
            case measure => omega
      · go_wp2_with fail
        go_ret
        exact ⟨true, rfl, fun _ => wiL_of fun j hj => HI.out.2 j hj (by omega), HI.out.1⟩

def SomePost (w : World) (e : Ending) (w' : World) : Prop := ∃ n : Int, e = .returned (.int .i64 n) ∧ F0 w w'
set_option maxRecDepth 100000 in
set_option maxHeartbeats 4000000 in
theorem asked_nil (m : Nat) : ∀ (ns : List Mu.Node) (v : Value) (vs : List Value) (S : Nat → Prop) (w : World), nszL ns ≤ m → m ≤ 85899346000 → RowN w S 5 v ns.length vs → NsAt w S ns vs → (∀ k, S k → k < w.heap.size) →
    Calls Tryd.prog 8 #[v, .slice none 0 0] w (SomePost w) := by
  induction m using Nat.strongRecOn with
  | _ m ih =>
    have IH := Lib.hid ih
    clear ih
    intro ns v vs S w hm hm2 hrow hns hS
    have hl : ns.length ≤ 85899346000 := by have := len_nsz ns; omega
    obtain ⟨a, c, hv, hnc⟩ : ∃ a c, v = .slice a ns.length c ∧ ns.length ≤ c := by
      obtain ⟨-, a, c, h1, h2, -⟩ := hrow
      exact ⟨a, c, h1, h2⟩
    subst hv
    have HR := Lib.hid hrow
    have HN := Lib.hid hns
    have HS := Lib.hid hS
    clear hrow hns hS
    go_enter Tryd.func8, Tryd.ntmps8
    go_wp2_with fail
    go_loopg [5, 14] ns.length (fun g v5 v14 wr => ∃ (k : Nat) (N : Int), v14 = .int .i64 k ∧ v5 = .int .i64 N ∧ k ≤ ns.length ∧ g = ns.length - k ∧ Hid (F0 w wr))
    case atStart => exact ⟨0, 0, rfl, rfl, Nat.zero_le _, rfl, Lib.hid (Fr.refl _ _)⟩
    case round =>
      obtain ⟨k, N, rfl, rfl, hk, rfl, HI⟩ := hrel
      by_cases hlt : k < ns.length
      · have HK := Lib.hid (keep_lt HI.out HS.out)
        obtain ⟨g, c', kd, raw, tb, ib, sv, kids, us, hv, hSg, -, hnd, n0, n1, n2, n3, n4, hr2, hn2⟩ := (HR.out.keep HK.out (fun _ h => h)).node (NsAt.keep HK.out (fun _ h => h) _ _ HN.out) k hlt
        obtain ⟨rfl, hcc⟩ : a = some ⟨g, 0, none⟩ ∧ c = c' := by
          injection hv with h1 h2 h3
          exact ⟨h1, h3⟩
        have hgl : g < wr.heap.size := by have := HS.out g hSg; have := HI.out.size; omega
        have HSZ : Hid (nszL kids < m) := Lib.hid (by
          have h1 := nszL_mem (List.getElem_mem hlt)
          rw [hnd] at h1
          simp only [nsz] at h1; omega)
        have HR2 := Lib.hid hr2
        have HN2 := Lib.hid hn2
        obtain ⟨ka, kc, hsv⟩ : ∃ ka kc, sv = .slice ka kids.length kc := by
          obtain ⟨-, ka, kc, h1, -⟩ := hr2
          exact ⟨ka, kc, h1⟩
        subst hsv
        clear hv hcc hnd hr2 hn2 hSg
        have HKA : Hid (∀ o : Obj, Keep S wr (wr.alloc o)) := Lib.hid (fun o => keep_lt (Fr.alloc No wr o) (fun k hk => by have := HS.out k hk; have := HI.out.size; omega))
        go_wp2_with fail
        refine (IH.out (nszL kids) HSZ.out kids _ us S _ (Nat.le_refl _) (by have := HSZ.out; omega) (HR2.out.keep (HKA.out _) (fun _ h => h)) (NsAt.keep (HKA.out _) (fun _ h => h) _ _ HN2.out) (fun k hk => by have := HS.out k hk; have := HI.out.size; simp; omega)).mono ?_
        rintro e w2 ⟨M, rfl, hf⟩
        have HF2 : Hid (F0 w w2) := Lib.hid ((HI.out.allocA _).trans hf)
        have hnb : w2.heap[wr.heap.size]? = some (.cells #[.int .i64 kd, .string tb, .bool raw, .string ib, .slice ka kids.length kc] 27 (0, 0)) := hf.blk (blk_new wr _) id
        have p0 := blk_cell hnb 0
        simp only [List.getElem?_toArray, List.getElem?_cons_zero] at p0
        clear hf hnb
        by_cases h5 : kd = 5
        · have b5 : ((kd : Int) != 5) = false := by subst h5; rfl
          clear h5
          cases h40 : decide ((40 : Int) < wrap64 (N + M)) with
          | true =>
            go_wp2_with fail
            go_roundg (ns.length - (k + 1))
            case rel => exact ⟨k + 1, _, by go_num, rfl, by omega, rfl, HF2⟩
            case measure => omega
          | false =>
            go_wp2_with fail
            go_loopg [5, 35] 0 (fun g v5 v wr2 => (∃ q : Int, v5 = .int .i64 q) ∧ v = .int .i64 0 ∧ g = 0 ∧ wr2 = w2)
            case atStart => exact ⟨⟨_, rfl⟩, rfl, rfl, rfl⟩
            case round =>
              obtain ⟨⟨q, rfl⟩, rfl, rfl, rfl⟩ := hrel
              go_wp2_with fail
              go_roundg (ns.length - (k + 1))
              case rel => exact ⟨k + 1, _, by go_num, rfl, by omega, rfl, HF2⟩
              case measure => omega
        · have b5 : ((kd : Int) != 5) = true := by simp; omega
          clear h5
          go_wp2_with fail
          go_roundg (ns.length - (k + 1))
          case rel => exact ⟨k + 1, _, by go_num, rfl, by omega, rfl, HF2⟩
          case measure => omega
      · go_wp2_with fail
        go_ret
        exact ⟨N, rfl, HI.out⟩
end Go.Proofs.YtfakghnpkdoclaaDoor
