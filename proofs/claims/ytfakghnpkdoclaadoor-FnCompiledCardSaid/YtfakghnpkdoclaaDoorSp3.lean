/-
  The specification's reader: words, NameOk.
-/
import Derived.Test.YtfakghnpkdoclaaDoorSp2
import Derived.Test.YtfakghnpkdoclaaDoorElem
set_option linter.unusedVariables false
set_option linter.unusedSimpArgs false
namespace Go.Proofs.YtfakghnpkdoclaaDoor
open Go.RowKit

theorem infoStr : (Tryd.prog.info? 9).map (fun i => (i.zero, i.size, i.bytes)) = some (some (.string ⟨#[]⟩), 1, 16) := by kernel_rfl
theorem one_new0 (w : World) (u : Value) (T : TypeId) {n : Nat} (hn : n = w.heap.size) : ∀ (j : Nat) (v : Value), [u][j]? = some v → (w.alloc (.cells #[u] T)).cell? ((⟨n, 0, none⟩ : Addr).add j) = some v := by
  subst hn
  exact cell_one_new w u T
theorem ownsRow_new (w : World) (e : TypeId) (size : Nat) : (w.alloc (.cells #[] e)).ownsRow w.heap.size e size (.slice (some ⟨w.heap.size, 0, none⟩) 0 0) 0 [] :=
  ⟨by simp, .inr ⟨w.heap.size, 0, #[], rfl, Nat.le_refl _, blk_new _ _, Nat.le_refl _, Nat.zero_le _, by simp, by simp⟩⟩
theorem grown_f0 {w0 w w' : World} {r : Option Nat} (h : F0 w0 w) (hg : w.grownBy w' r) (hr : ∀ k, r = some k → w0.heap.size ≤ k) : F0 w0 w' := by
  have h1 : Fr (fun k => r = some k) w w' := Fr.grown hg (fun k hk => .inl hk)
  exact h.trans' h1 (fun i hi hm => by have := hr i hm; omega)
theorem own_base {w : World} {B e s n : Nat} {v : Value} {xs : List Value} (h : w.ownsRow B e s v n xs) : ∀ k, v.ownBlock = some k → B ≤ k := fun k hk => (h.lt k hk).1

/-- the words gathered -/
def WordsPost (s : ByteArray) (w : World) (e : Ending) (w' : World) : Prop :=
  ∃ (bs : List ByteArray) (v : Value), e = .returned v ∧ bs.map L = Mu.words (L s) ∧ w'.ownsRow w.heap.size 9 1 v bs.length (bs.map .string) ∧ F0 w w'
/-- what words has come to -/
structure WordsInv (s : ByteArray) (w0 : World) (k f : Nat) (bs : List ByteArray) (v : Value) (wr : World) : Prop where
  fk : f ≤ k
  ks : k ≤ s.size + 1
  ln : bs.length ≤ k
  own : wr.ownsRow w0.heap.size 9 1 v bs.length (bs.map .string)
  fr : F0 w0 wr
  go : k ≤ s.size → bs.map L ++ Mu.wordsL (Mu.sub (L s) f k) ((L s).drop k) = Mu.words (L s)
  fin : k = s.size + 1 → bs.map L = Mu.words (L s)

set_option maxRecDepth 100000 in
set_option maxHeartbeats 2000000 in
theorem words_any (s : ByteArray) (w : World) (hs : s.size ≤ 4294967296) :
    Calls Tryd.prog 25 #[.string s] w (WordsPost s w) := by
  obtain ⟨i0, hi, hz0, hz1, hz2⟩ := info_parts infoStr
  go_enter Tryd.func25, Tryd.ntmps25
  go_wp2_with fail
  go_loopg [3, 4, 5] (s.size + 2) (fun g v fv iv wr => ∃ (k f : Nat) (bs : List ByteArray), iv = .int .i64 k ∧ fv = .int .i64 f ∧ g = s.size + 2 - k ∧ k ≤ s.size + 1 ∧ f ≤ k ∧ bs.length ≤ k ∧ Hid (WordsInv s w k f bs v wr))
  case atStart =>
    refine ⟨0, 0, [], rfl, rfl, rfl, by omega, by omega, by simp, Lib.hid ⟨Nat.le_refl _, by omega, by simp, ownsRow_new w _ _, Fr.alloc _ _ _, fun _ => ?_, fun h => by omega⟩⟩
    rw [Mu.sub_self]; rfl
  case round =>
    obtain ⟨k, f, bs, rfl, rfl, rfl, hk, hf, hbl, HI⟩ := hrel
    by_cases hks : k ≤ s.size
    · by_cases he : k = s.size
      · subst he
        have HN : Hid (∀ v' w', w'.ownsRow w.heap.size 9 1 v' (bs.length + 1) (bs.map .string ++ [.string (s.extract f s.size)]) → F0 w w' → WordsInv s w (s.size + 1) (s.size + 1) (bs ++ [s.extract f s.size]) v' w') := Lib.hid (fun v' w' ho hf0 => by
          refine ⟨Nat.le_refl _, by omega, by simp; omega, by simpa using ho, hf0, fun h => by omega, fun _ => ?_⟩
          have h := HI.out.go (Nat.le_refl _)
          rw [← h, List.drop_of_length_le (by rw [L_length]; omega), List.map_append, List.map_singleton, L_extract]
          rfl)
        have hfs : (f : Int) ≤ (s.size : Int) := by omega
        go_wp2_with (at_builtin; refine wpList_append_own_at _ rfl _ _ 28 rfl w.heap.size 9 i0 (.string ⟨#[]⟩) 1 16 Tryd.underlying28 hi hz0 hz1 hz2 rfl (by decide) u3 bs.length (bs.map .string) rfl ?own ⟨_, 0, none⟩ 1 1 [.string (s.extract f s.size)] rfl rfl ?c1 ?c2 ?c3 ?c4 ?c5 ?_)
        case own => exact HI.out.own.alloc _
        case c1 => exact one_new0 _ _ _ rfl
        case c2 => intro v hv; rw [List.mem_singleton.1 hv]; rfl
        case c3 => unfold maxLen; omega
        case c4 => omega
        case c5 => have := HI.out.fr.size; simp; omega
        intro v' w2 hown hgrow _ _
        have HW := Lib.hid (HN.out v' w2 hown (grown_f0 (HI.out.fr.trans (Fr.alloc _ _ _)) hgrow (own_base HI.out.own)))
        clear hown hgrow
        go_wp2_with fail
        go_roundg (s.size + 2 - (s.size + 1))
        case rel => exact ⟨s.size + 1, s.size + 1, _, by go_num, by go_num, rfl, by omega, by omega, by simp; omega, HW⟩
        case measure => omega
      · have hlt : k < s.size := by omega
        have hne : ((k : Int) == (s.size : Int)) = false := by simp; omega
        have hdrop : (L s).drop k = s[k] :: (L s).drop (k + 1) := by
          rw [List.drop_eq_getElem_cons (by rw [L_length]; exact hlt)]; rfl
        by_cases h46 : s[k] = 46
        · have HN : Hid (∀ v' w', w'.ownsRow w.heap.size 9 1 v' (bs.length + 1) (bs.map .string ++ [.string (s.extract f k)]) → F0 w w' → WordsInv s w (k + 1) (k + 1) (bs ++ [s.extract f k]) v' w') := Lib.hid (fun v' w' ho hf0 => by
            refine ⟨Nat.le_refl _, by omega, by simp; omega, by simpa using ho, hf0, fun h => ?_, fun h => by omega⟩
            have h := HI.out.go (by omega)
            rw [← h, hdrop, List.map_append, List.map_singleton, L_extract, Mu.sub_self]
            simp only [Mu.wordsL, h46, if_true, List.append_assoc, List.singleton_append])
          have b46 : ((s[k].toNat : Int) == 46) = true := byte_is (b := 46) h46
          have hfs : (f : Int) ≤ (k : Int) := by omega
          clear h46 hdrop
          go_wp2_with (at_builtin; refine wpList_append_own_at _ rfl _ _ 28 rfl w.heap.size 9 i0 (.string ⟨#[]⟩) 1 16 Tryd.underlying28 hi hz0 hz1 hz2 rfl (by decide) u3 bs.length (bs.map .string) rfl ?own ⟨_, 0, none⟩ 1 1 [.string (s.extract f k)] rfl rfl ?c1 ?c2 ?c3 ?c4 ?c5 ?_)
          case own => exact HI.out.own.alloc _
          case c1 => exact one_new0 _ _ _ rfl
          case c2 => intro v hv; rw [List.mem_singleton.1 hv]; rfl
          case c3 => unfold maxLen; omega
          case c4 => omega
          case c5 => have := HI.out.fr.size; simp; omega
          intro v' w2 hown hgrow _ _
          have HW := Lib.hid (HN.out v' w2 hown (grown_f0 (HI.out.fr.trans (Fr.alloc _ _ _)) hgrow (own_base HI.out.own)))
          clear hown hgrow
          go_wp2_with fail
          go_roundg (s.size + 2 - (k + 1))
          case rel => exact ⟨k + 1, k + 1, _, by go_num, by go_num, rfl, by omega, by omega, by simp; omega, HW⟩
          case measure => omega
        · have HN : Hid (WordsInv s w (k + 1) f bs u3 wr) := Lib.hid (by
            refine ⟨by omega, by omega, by omega, HI.out.own, HI.out.fr, fun h => ?_, fun h => by omega⟩
            have h := HI.out.go (by omega)
            rw [← h, hdrop]
            simp only [Mu.wordsL, h46, if_false]
            rw [Mu.sub_snoc _ _ _ hf (by rw [L_length]; exact hlt), L_get _ _ hlt])
          have b46 : ((s[k].toNat : Int) == 46) = false := byte_isnt (b := 46) h46
          clear h46 hdrop
          go_wp2_with fail
          go_roundg (s.size + 2 - (k + 1))
          case rel => exact ⟨k + 1, f, bs, by go_num, rfl, rfl, by omega, by omega, by omega, HN⟩
          case measure => omega
    · go_wp2_with fail
      go_ret
      exact ⟨bs, _, rfl, HI.out.fin (by omega), HI.out.own, HI.out.fr⟩

theorem words_pos (l : Mu.B) : 0 < (Mu.words l).length := by
  obtain ⟨w, ws, h, -⟩ := Mu.wordsL_head [] l
  unfold Mu.words
  rw [h]; simp
theorem words_mem {acc l x : Mu.B} : x ∈ Mu.wordsL acc l → x.length ≤ acc.length + l.length := by
  induction l generalizing acc with
  | nil => intro h; simp [Mu.wordsL] at h; subst h; simp
  | cons c l ih =>
    intro h
    unfold Mu.wordsL at h
    split at h
    · rcases List.mem_cons.1 h with rfl | h
      · omega
      · have := ih h; simp at this ⊢; omega
    · have := ih h; simp at this ⊢; omega
theorem own_read {w : World} {B e n : Nat} {v : Value} {xs : List Value} (h : w.ownsRow B e 1 v n xs) (hn : 0 < n) : ∃ g c, v = .slice (some ⟨g, 0, none⟩) n c ∧ B ≤ g ∧ n ≤ c ∧ ∀ j (hj : j < xs.length), w.cell? ⟨g, j, none⟩ = some xs[j] := by
  rcases h.2 with ⟨_, h0⟩ | ⟨g, cap, cur, h1, h2, _, h4, _⟩
  · omega
  · refine ⟨g, cap, h1, h2, h4, fun j hj => ?_⟩
    have := h.cells (g := g) (by rw [h1]; rfl) j _ (List.getElem?_eq_getElem hj)
    have ha : (⟨g, 0, none⟩ : Addr).add j = ⟨g, j, none⟩ := by unfold Addr.add; split <;> simp_all
    rwa [ha] at this
def BoolPost0 (b : Bool) (w : World) (e : Ending) (w' : World) : Prop := e = .returned (.bool b) ∧ F0 w w'

set_option maxRecDepth 100000 in
set_option maxHeartbeats 2000000 in
theorem nameOk_any (s : ByteArray) (w : World) (hs : s.size ≤ 4294967296) :
    Calls Tryd.prog 19 #[.string s] w (BoolPost0 (Mu.nameOk (L s)) w) := by
  by_cases hp : L s = [46]
  · have hb : (s.toList == [46]) = true := by rw [beq_iff_eq, ByteArray.toList_eq]; exact hp
    have HF : Hid (Mu.nameOk (L s) = true) := Lib.hid (by unfold Mu.nameOk; rw [hp]; rfl)
    clear hp
    go_enter Tryd.func19, Tryd.ntmps19
    go_wp2_with fail
    go_ret
    unfold BoolPost0
    rw [HF.out]
    exact ⟨rfl, Fr.refl _ _⟩
  · have hb : (s.toList == [46]) = false := by rw [beq_eq_false_iff_ne, ByteArray.toList_eq]; exact hp
    have HF : Hid (Mu.nameOk (L s) = ((Mu.words (L s)).all Mu.wordOk && decide ((Mu.words (L s)).length ≤ 3))) := Lib.hid (by
      unfold Mu.nameOk
      rw [beq_eq_false_iff_ne.2 hp, Bool.false_or])
    clear hp
    go_enter Tryd.func19, Tryd.ntmps19
    go_wp2_with fail
    refine (words_any s _ hs).mono ?_
    rintro e w1 ⟨bs, v, rfl, hbs, hown, hf⟩
    have hlen : 0 < bs.length := by
      have := words_pos (L s); rw [← hbs] at this; simpa using this
    have hsz : ∀ (j : Nat) (hj : j < bs.length), bs[j].size ≤ 4294967296 := fun j hj => by
      have hm : L bs[j] ∈ Mu.words (L s) := by rw [← hbs]; exact List.mem_map_of_mem (List.getElem_mem hj)
      have := words_mem hm
      rw [L_length, L_length] at this; simp at this; omega
    have hl2 : bs.length ≤ 4294967298 := by
      have : ∀ acc l, (Mu.wordsL acc l).length ≤ l.length + 1 := by
        intro acc l
        induction l generalizing acc with
        | nil => simp [Mu.wordsL]
        | cons c l ih =>
          unfold Mu.wordsL
          split
          · have := ih []; simp; omega
          · have := ih (acc ++ [c]); simp; omega
      have h := this [] (L s)
      rw [show Mu.wordsL [] (L s) = Mu.words (L s) from rfl, ← hbs, List.length_map, L_length] at h
      omega
    obtain ⟨g, cp, rfl, hg, hcp, hcell⟩ := own_read hown hlen
    have HB := Lib.hid hbs
    have HC : Hid (∀ (j : Nat) (hj : j < bs.length), w1.cell? ⟨g, j, none⟩ = some (.string bs[j])) := Lib.hid (fun j hj => by
      have := hcell j (by simpa using hj)
      rw [this, List.getElem_map])
    have HFR := Lib.hid hf
    have HSZ := Lib.hid hsz
    clear hbs hown hf hcell hsz hg
    go_wp2_with fail
    go_loopg [12] bs.length (fun g v wr => ∃ k : Nat, v = .int .i64 k ∧ k ≤ bs.length ∧ g = bs.length - k ∧ wr = w1 ∧ Hid (∀ j (hj : j < bs.length), j < k → Mu.wordOk (L bs[j]) = true))
    case atStart => exact ⟨0, rfl, Nat.zero_le _, rfl, rfl, Lib.hid (fun j _ h => absurd h (by omega))⟩
    case round =>
      obtain ⟨k, rfl, hk, rfl, rfl, HK⟩ := hrel
      by_cases hlt : k < bs.length
      · have hc := HC.out k hlt
        have hz := HSZ.out k hlt
        cases hw : Mu.wordOk (L bs[k]) with
        | true =>
          have HK' : Hid (∀ j (hj : j < bs.length), j < k + 1 → Mu.wordOk (L bs[j]) = true) := Lib.hid (fun j hj hj2 => by
            rcases Nat.lt_or_ge j k with h | h
            · exact HK.out j hj h
            · obtain rfl : j = k := by omega
              exact hw)
          have HW := Lib.hid hw
          clear hw
          go_wp2_with fail
          refine (wordOk_any _ _ hz).mono ?_
          intro e w' hpost
          unfold BoolPost at hpost
          rw [HW.out] at hpost
          obtain ⟨rfl, rfl⟩ := hpost
          go_wp2_with fail
          go_roundg (bs.length - (k + 1))
          case rel => exact ⟨k + 1, by go_num, by omega, rfl, rfl, HK'⟩
          case measure => omega
        | false =>
          have HFF : Hid (Mu.nameOk (L s) = false) := Lib.hid (by
            rw [HF.out, List.all_eq_false.2 ⟨L bs[k], by rw [← HB.out]; exact List.mem_map_of_mem (List.getElem_mem hlt), by rw [hw]; decide⟩]; rfl)
          have HW := Lib.hid hw
          clear hw
          go_wp2_with fail
          refine (wordOk_any _ _ hz).mono ?_
          intro e w' hpost
          unfold BoolPost at hpost
          rw [HW.out] at hpost
          obtain ⟨rfl, rfl⟩ := hpost
          go_wp2_with fail
          go_ret
          unfold BoolPost0
          rw [HFF.out]
          exact ⟨rfl, HFR.out⟩
      · have HFF : Hid (Mu.nameOk (L s) = decide ((bs.length : Int) ≤ 3)) := Lib.hid (by
          rw [HF.out, ← HB.out]
          have : (bs.map L).all Mu.wordOk = true := by
            rw [List.all_eq_true]
            intro x hx
            obtain ⟨b, hb, rfl⟩ := List.mem_map.1 hx
            obtain ⟨j, hj, rfl⟩ := List.getElem_of_mem hb
            exact HK.out j hj (by omega)
          rw [this, Bool.true_and, List.length_map]
          simp; omega)
        go_wp2_with fail
        go_ret
        unfold BoolPost0
        rw [HFF.out]
        exact ⟨rfl, HFR.out⟩
end Go.Proofs.YtfakghnpkdoclaaDoor
