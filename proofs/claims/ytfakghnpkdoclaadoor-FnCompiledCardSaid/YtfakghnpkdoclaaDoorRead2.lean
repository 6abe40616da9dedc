/-
  The package's reader: readTag.
-/
import Derived.Test.YtfakghnpkdoclaaDoorRead1
import Derived.Test.YtfakghnpkdoclaaDoorStr
import Derived.Test.YtfakghnpkdoclaaDoorErr
import Derived.Deep.CutBlock
set_option linter.unusedVariables false
set_option linter.unusedSimpArgs false
namespace Go.Proofs.YtfakghnpkdoclaaDoor
open Go.RowKit

def tagPatB (x : Tm) : ByteArray := if x.p < x.s.size ∧ (L x.s).getD x.p 0 = 123 then ⟨#[125]⟩ ++ x.c else x.c
theorem L_tagPatB (x : Tm) : L (tagPatB x) = Mu.tagPat (L x.s) x.p (L x.c) := by
  unfold tagPatB Mu.tagPat
  rw [L_length]
  split
  · simp [L]
  · rfl

/-- what readTag hands back -/
def RgPost (x : Tm) (t : Nat) (may : Bool) (w : World) (e : Ending) (w' : World) : Prop :=
  match Mu.rdTag (L x.s) x.p (L x.c) may with
  | none => ∃ T v, e = .returned (.tuple #[.pointer none, .iface T v]) ∧ Fr (· = t) w w'
  | some q => ∃ (r : Nat) (tg : ByteArray), e = .returned (.tuple #[.pointer (some ⟨r, 0, none⟩), .nilIface]) ∧ w.heap.size ≤ r ∧
      w'.heap[r]? = some (.cells #[.string tg, .bool q.alone] 91 (0, 0)) ∧ L tg = q.tag ∧ Fr (· = t) w w' ∧ ∃ l, TmAt w' t { x with p := q.pos, line := l }

theorem rg_open {x : Tm} {t : Nat} {may : Bool} {w w' : World} (hf : Mu.find (L x.s) (L (tagPatB x)) x.p = none) (hfr : Fr (· = t) w w') (T : TypeId) (v : Value) {e : Ending}
    (he : e = .returned (.tuple #[.pointer none, .iface T v])) : RgPost x t may w e w' := by
  unfold RgPost Mu.rdTag
  rw [← L_tagPatB, hf]
  exact ⟨T, v, he, hfr⟩

theorem rg_tag {x : Tm} {may : Bool} {k p1 : Nat} {r : ByteArray} (hf : Mu.find (L x.s) (L (tagPatB x)) x.p = some k) (hp : p1 = k + (tagPatB x).size)
    (htg : L r = Mu.trimBy Mu.spB (Mu.sub (L x.s) x.p (p1 - x.c.size))) : Mu.rdTag (L x.s) x.p (L x.c) may =
      (if L r = [] then none else if may then if Mu.isSkip ((L r).getD 0 0) then
        if Mu.eow (L x.s) p1 = x.s.size then some ⟨L r, true, Mu.eow (L x.s) p1⟩
        else if (L x.s).getD (Mu.eow (L x.s) p1) 0 = 10 then some ⟨L r, true, Mu.eow (L x.s) p1 + 1⟩
        else if Mu.eow (L x.s) p1 + 1 < x.s.size ∧ (L x.s).getD (Mu.eow (L x.s) p1) 0 = 13 ∧ (L x.s).getD (Mu.eow (L x.s) p1 + 1) 0 = 10 then some ⟨L r, true, Mu.eow (L x.s) p1 + 2⟩
        else some ⟨L r, false, p1⟩
        else some ⟨L r, false, p1⟩ else some ⟨L r, true, p1⟩) := by
  have e : k + (Mu.tagPat (L x.s) x.p (L x.c)).length = p1 := by rw [hp, ← L_tagPatB, L_length]
  unfold Mu.rdTag
  rw [← L_tagPatB, hf]
  simp only [L_tagPatB, e, L_length]
  rw [← htg]
theorem rg_empty {x : Tm} {t : Nat} {may : Bool} {w w' : World} {k p1 : Nat} {r : ByteArray} (hf : Mu.find (L x.s) (L (tagPatB x)) x.p = some k) (hp : p1 = k + (tagPatB x).size)
    (htg : L r = Mu.trimBy Mu.spB (Mu.sub (L x.s) x.p (p1 - x.c.size))) (he0 : L r = []) (hfr : Fr (· = t) w w') (T : TypeId) (v : Value) {e : Ending}
    (he : e = .returned (.tuple #[.pointer none, .iface T v])) : RgPost x t may w e w' := by
  unfold RgPost
  rw [rg_tag hf hp htg, if_pos he0]
  exact ⟨T, v, he, hfr⟩
theorem rg_done {x : Tm} {t : Nat} {may : Bool} {w w1 w' : World} {q : Mu.TagR} {r : ByteArray} {l : Int} (hq : Mu.rdTag (L x.s) x.p (L x.c) may = some q) (ht : L r = q.tag)
    (hfr : Fr (· = t) w w1) (htm : TmAt w1 t { x with p := q.pos, line := l }) (hw : w' = w1.alloc (.cells #[.string r, .bool q.alone] 91)) {b : Nat} (hb : b = w1.heap.size) {e : Ending}
    (he : e = .returned (.tuple #[.pointer (some ⟨b, 0, none⟩), .nilIface])) : RgPost x t may w e w' := by
  subst hw hb
  unfold RgPost
  rw [hq]
  exact ⟨w1.heap.size, r, he, hfr.size, blk_new _ _, ht, hfr.trans (Fr.alloc _ _ _), l, blk_alloc _ htm⟩
theorem setCell_size (w : World) (a : Addr) (v : Value) : w.heap.size = (w.setCell a v).heap.size := by simp [World.setCell]
theorem setCell_size2 (w : World) (a b : Addr) (u v : Value) : w.heap.size = ((w.setCell a u).setCell b v).heap.size := by simp [World.setCell]
theorem getD_mem {l : Mu.B} {k : Nat} (h : k < l.length) : l.getD k 0 ∈ l := by
  rw [List.getD_eq_getElem?_getD, List.getElem?_eq_getElem h]
  exact List.getElem_mem h
/-- '#^/<>=!' -/
def skipB : ByteArray := ⟨#[35, 94, 47, 60, 62, 61, 33]⟩
theorem skip_no (r : ByteArray) (hr : L r ≠ []) (h : ¬ Mu.isSkip ((L r).getD 0 0) = true) : Mu.find (L skipB) (L (r.extract 0 1)) 0 = none := by
  rw [L_extract]
  cases hl : L r with
  | nil => exact absurd hl hr
  | cons c l =>
    rw [hl] at h
    have e : Mu.sub (c :: l) 0 1 = [c] := by simp [Mu.sub]
    rw [e]
    refine Mu.find_eq_none fun j _ ha => h ?_
    have := (ha.subset : [c] ⊆ (L skipB).drop j) (List.mem_singleton.2 rfl)
    have hm : c ∈ L skipB := List.mem_of_mem_drop this
    simp only [L, skipB, List.mem_cons, List.not_mem_nil, or_false] at hm
    rcases hm with rfl | rfl | rfl | rfl | rfl | rfl | rfl <;> rfl
theorem skip_yes (r : ByteArray) (h : Mu.isSkip ((L r).getD 0 0) = true) : ∃ k, Mu.find (L skipB) (L (r.extract 0 1)) 0 = some k := by
  rw [L_extract]
  cases hl : L r with
  | nil => rw [hl] at h; cases h
  | cons c l =>
    rw [hl] at h
    have e : Mu.sub (c :: l) 0 1 = [c] := by simp [Mu.sub]
    rw [e]
    have hc : c = 35 ∨ c = 94 ∨ c = 47 ∨ c = 60 ∨ c = 62 ∨ c = 61 ∨ c = 33 := by
      simpa [Mu.isSkip, Bool.or_eq_true, beq_iff_eq, or_assoc] using h
    rcases hc with rfl | rfl | rfl | rfl | rfl | rfl | rfl
    · exact ⟨0, rfl⟩
    · exact ⟨1, rfl⟩
    · exact ⟨2, rfl⟩
    · exact ⟨3, rfl⟩
    · exact ⟨4, rfl⟩
    · exact ⟨5, rfl⟩
    · exact ⟨6, rfl⟩
theorem ret2 {a b c d : Value} (h : Ending.returned (.tuple #[a, b]) = .returned (.tuple #[c, d])) : a = c ∧ b = d := by
  injection h with h
  injection h with h
  simp at h
  exact h
theorem tagPatB_size (x : Tm) : x.c.size ≤ (tagPatB x).size := by
  unfold tagPatB
  split
  · rw [ByteArray.size_append]; omega
  · omega
theorem rs_ret {x : Tm} {pat : ByteArray} {t : Nat} {eof : Value} {w w' : World} {e : Ending} (h : RsPost x pat t eof w e w') : ∃ a b, e = .returned (.tuple #[a, b]) := by
  unfold RsPost at h
  split at h
  · exact ⟨_, _, h.1⟩
  · exact ⟨_, _, h.1⟩

set_option maxRecDepth 100000 in
set_option maxHeartbeats 1500000 in
theorem readTag_any (B t : Nat) (eb : Addr) (x : Tm) (may : Bool) (w : World) (hs : x.s.size ≤ 2147483647) (hp : x.p ≤ x.s.size) (hc : 0 < x.c.size) (hc2 : x.c.size ≤ 2147483) (ha : ∀ b ∈ L x.s, b.toNat < 128) (hr : ∀ b ∈ L x.s, b ≠ 13) (ht : TmAt w t x) (hg : Gl B eb w) (hB : B ≤ t) :
    Calls Tryd.prog 31 #[.pointer (some ⟨t, 0, none⟩), .bool may] w (RgPost x t may w) := by
  have HA := Lib.hid ha
  have HRR := Lib.hid hr
  clear ha hr
  have hz0 : (ByteArray.mk #[125] ++ x.c).size = 1 + x.c.size := by rw [ByteArray.size_append]; rfl
  have hz1 : 0 < (ByteArray.mk #[125] ++ x.c).size := by omega
  have hz2 : (ByteArray.mk #[125] ++ x.c).size ≤ 2147483647 := by omega
  clear hz0
  have HT := Lib.hid ht
  have HG := Lib.hid hg
  have heof := hg.eof
  clear hg
  obtain ⟨h0, -, h2, h3, -⟩ := ht.cells
  clear ht
  go_enter Tryd.func31, Tryd.ntmps31
  go_upto_region 3 with fail
  go_cut [33] (fun v wr => v = .bool (decide (x.p < x.s.size ∧ (L x.s).getD x.p 0 = 123)) ∧ Hid (Sm w wr))
  case first =>
    by_cases hlt : x.p < x.s.size
    · have hlt' : (x.p : Int) < (x.s.size : Int) := by omega
      by_cases hb : x.s[x.p] = 123
      · have b1 : ((x.s[x.p].toNat : Int) == 123) = true := byte_is hb
        have hv : (Value.bool true) = .bool (decide (x.p < x.s.size ∧ (L x.s).getD x.p 0 = 123)) := by
          rw [decide_eq_true ⟨hlt, by rw [L_get _ _ hlt]; exact hb⟩]
        have HV := Lib.hid hv
        clear hb hv
        go_quiet (fail)
        go_wp2_with fail
        go_meet
        case rel => exact ⟨HV.out, Lib.hid (by first | exact Sm.refl _ | exact Sm.mk _ _)⟩
      · have b1 : ((x.s[x.p].toNat : Int) == 123) = false := byte_isnt hb
        have hv : (Value.bool false) = .bool (decide (x.p < x.s.size ∧ (L x.s).getD x.p 0 = 123)) := by
          rw [decide_eq_false (fun h => hb (by rw [← L_get _ _ hlt]; exact h.2))]
        have HV := Lib.hid hv
        clear hb hv
        go_quiet (fail)
        go_wp2_with fail
        go_meet
        case rel => exact ⟨HV.out, Lib.hid (by first | exact Sm.refl _ | exact Sm.mk _ _)⟩
    · have hlt' : decide ((x.p : Int) < (x.s.size : Int)) = false := by simp; omega
      have hv : (Value.bool false) = .bool (decide (x.p < x.s.size ∧ (L x.s).getD x.p 0 = 123)) := by
        rw [decide_eq_false (fun h => hlt h.1)]
      have HV := Lib.hid hv
      clear hv
      go_quiet (fail)
      go_wp2_with fail
      go_meet
      case rel => exact ⟨HV.out, Lib.hid (by first | exact Sm.refl _ | exact Sm.mk _ _)⟩
  case rest =>
    obtain ⟨rfl, HS⟩ := hcut
    have HT1 := Lib.hid (HT.out.sm HS.out)
    have HR1 := Lib.hid (HS.out.fr (· = t))
    have heof1 := (HS.out.cell _).trans heof
    obtain ⟨h0, -, h2, h3, -⟩ := HT1.out.cells
    clear heof HS
    go_upto_if 33 with fail
    go_cut [6, 7] (fun a b wr => Hid (RsPost x (tagPatB x) t (.iface 140 (.pointer (some eb))) wc (.returned (.tuple #[a, b])) wr))
    case first =>
      by_cases hb : x.p < x.s.size ∧ (L x.s).getD x.p 0 = 123
      · have hd : decide (x.p < x.s.size ∧ (L x.s).getD x.p 0 = 123) = true := decide_eq_true hb
        have HB := Lib.hid hb
        clear hb
        go_wp2_with fail
        refine (readString_any t x (ByteArray.mk #[125] ++ x.c) _ _ hs hp hz1 hz2 HT1.out heof1).mono ?_
        intro e w1 hpost
        obtain ⟨a, b, rfl⟩ := rs_ret hpost
        have HP := Lib.hid hpost
        clear hpost
        go_wp2_with fail
        go_meet
        case rel =>
          have e1 : tagPatB x = ⟨#[125]⟩ ++ x.c := if_pos HB.out
          rw [e1]
          exact HP
      · have hd : decide (x.p < x.s.size ∧ (L x.s).getD x.p 0 = 123) = false := decide_eq_false hb
        have HB := Lib.hid hb
        clear hb
        go_wp2_with fail
        refine (readString_any t x x.c _ _ hs hp hc (by omega) HT1.out heof1).mono ?_
        intro e w1 hpost
        obtain ⟨a, b, rfl⟩ := rs_ret hpost
        have HP := Lib.hid hpost
        clear hpost
        go_wp2_with fail
        go_meet
        case rel =>
          have e1 : tagPatB x = x.c := if_neg HB.out
          rw [e1]
          exact HP
    case rest =>
      have hpost := hcut.out
      clear hcut
      unfold RsPost at hpost
      cases hf : Mu.find (L x.s) (L (tagPatB x)) x.p with
      | none =>
        rw [hf] at hpost
        obtain ⟨he, hfr, ht2⟩ := hpost
        obtain ⟨rfl, rfl⟩ := ret2 he
        have HF := Lib.hid hf
        have HR2 := Lib.hid (HR1.out.trans hfr)
        have heof2 := (HG.out.fr HR2.out (fun k hk => by omega)).eof
        obtain ⟨-, -, -, -, h4, -⟩ := ht2.cells
        have e1 := eq_eof_eof eb
        clear hf hfr ht2 he
        go_wp2_with fail
        refine (newError_any _ _ _).mono ?_
        rintro e w2 ⟨rfl, hf⟩
        have HR3 := Lib.hid (HR2.out.trans0 hf)
        clear hf
        go_wp2_with fail
        go_ret2
        exact rg_open HF.out HR3.out _ _ rfl
      | some k =>
        rw [hf] at hpost
        obtain ⟨he, hfr, l, ht2⟩ := hpost
        obtain ⟨ha, hb⟩ := ret2 he
        have hone : L (tagPatB x) ≠ [] := fun h => by have := L_length (tagPatB x); rw [h] at this; simp at this; have := tagPatB_size x; omega
        have hk1 := (Mu.find_some hf).1
        have hk2 := Mu.find_le hf hone
        rw [L_length, L_length] at hk2
        have hcs := tagPatB_size x
        have HF := Lib.hid hf
        clear hf hone he
        obtain ⟨T, hT⟩ : ∃ T, T = x.s.extract x.p (k + (tagPatB x).size) := ⟨_, rfl⟩
        obtain ⟨p1, hp1⟩ : ∃ p1, p1 = k + (tagPatB x).size := ⟨_, rfl⟩
        rw [← hT] at ha
        subst ha hb
        rw [← hp1] at hk2 ht2 hT
        have hTs : T.size = p1 - x.p := by rw [hT, ByteArray.size_extract, Nat.min_eq_left hk2]
        have HR2 := Lib.hid (HR1.out.trans hfr)
        have HT2 := Lib.hid ht2
        have HG2 := HG.out.fr HR2.out (fun k hk => by omega)
        have heof2 := HG2.eof
        obtain ⟨h0, -, h2, h3, h4, -⟩ := ht2.cells
        simp only at h0 h2 h3 h4
        have e1 := eq_nil_eof (.pointer (some eb))
        obtain ⟨m, hm⟩ : ∃ m, m = T.size - x.c.size := ⟨_, rfl⟩
        have hm1 : x.c.size ≤ T.size := by omega
        have hTb : T.size ≤ 2147483647 := by omega
        have z1' : ((T.size : Int) - (x.c.size : Int)) = (m : Int) := by omega
        have z2 : (m : Int) ≤ (T.size : Int) := by omega
        have HTX : Hid (L (T.extract 0 m) = Mu.sub (L x.s) x.p (p1 - x.c.size)) := Lib.hid (by
          rw [L_extract, hT, L_extract, hm, hTs]
          unfold Mu.sub
          rw [List.drop_zero, List.take_drop, List.take_take]
          congr 2
          omega)
        have HAX : Hid (∀ b ∈ L (T.extract 0 m), b.toNat < 128) := Lib.hid (fun b hb => HA.out b (Mu.mem_sub (by rw [← HTX.out]; exact hb)))
        have hxs : (T.extract 0 m).size ≤ 2147483647 := by rw [ByteArray.size_extract]; omega
        have HM := Lib.hid hm
        have HTT := Lib.hid hT
        have HTS := Lib.hid hTs
        have HP1 := Lib.hid hp1
        have hp1s : p1 ≤ x.s.size := hk2
        have HGG := Lib.hid HG2
        clear hm hT hTs hp1 hfr ht2 HG2 hk2
        go_wp2_with fail
        refine (trimSpace_any (T.extract 0 m) _ hxs HAX.out HGG.out).mono ?_
        rintro e w2 ⟨r, rfl, hr, hf⟩
        have HR3 := Lib.hid (HR2.out.trans0 hf)
        have HT3 := Lib.hid (HT2.out.fr0 hf)
        have HG3 := Lib.hid (HGG.out.fr0 hf)
        have HTG : Hid (L r = Mu.trimBy Mu.spB (Mu.sub (L x.s) x.p (p1 - x.c.size))) := Lib.hid (by rw [hr, HTX.out])
        have hrb : r.size ≤ 2147483647 := by
          have := Mu.trimBy_length Mu.spB (L (T.extract 0 m))
          rw [← hr, L_length, L_length] at this; omega
        obtain ⟨h0, -, h2, h3, h4, -⟩ := HT3.out.cells
        simp only at h0 h2 h3 h4
        clear hr hf HTX HAX heof2 heof1 HGG HR1 HT1 hm1 z1' z2 hxs
        by_cases hre : r.size = 0
        · have b1 : ((r.size : Int) == 0) = true := by simp [hre]
          have HE : Hid (L r = []) := Lib.hid (List.eq_nil_of_length_eq_zero hre)
          clear hre
          go_wp2_with fail
          refine (newError_any _ _ _).mono ?_
          rintro e w3 ⟨rfl, hf⟩
          have HR4 := Lib.hid (HR3.out.trans0 hf)
          clear hf
          go_wp2_with fail
          go_ret2
          exact rg_empty HF.out HP1.out HTG.out HE.out HR4.out _ _ rfl
        · have b1 : ((r.size : Int) == 0) = false := by simp [hre]
          have HE : Hid (L r ≠ []) := Lib.hid (fun h => hre (by rw [← L_length, h]; rfl))
          have hr1 : 1 ≤ r.size := by omega
          have hr1' : (1 : Int) ≤ (r.size : Int) := by omega
          clear hre
          go_upto_block 0 with fail
          go_cut [9] (fun v wr => v = .int .i64 (Mu.eow (L x.s) p1) ∧ Hid (Sm w2 wr))
          case first =>
            go_wp2_with fail
            go_loopg [9, 10] (x.s.size + 1 - p1) (fun g v i wr => ∃ (j : Nat), v = .int .i64 p1 ∧ i = .int .i64 j ∧ p1 ≤ j ∧ j ≤ x.s.size ∧ g = x.s.size + 1 - j ∧ wr = w2 ∧ Hid (∀ q, p1 ≤ q → q < j → Mu.blankB ((L x.s).getD q 0) = true))
            case atStart => exact ⟨p1, rfl, rfl, by omega, by omega, by omega, rfl, Lib.hid (fun q h1 h2 => absurd h1 (by omega))⟩
            case round =>
              obtain ⟨j, rfl, rfl, hj1, hj2, rfl, rfl, HJ⟩ := hrel
              by_cases hlt : j < x.s.size
              · have hlt' : (j : Int) < (x.s.size : Int) := by omega
                by_cases hbl : Mu.blankB x.s[j] = true
                · have HJ' : Hid (∀ q, p1 ≤ q → q < j + 1 → Mu.blankB ((L x.s).getD q 0) = true) := Lib.hid (fun q h1 h2 => by
                    rcases Nat.lt_or_ge q j with h | h
                    · exact HJ.out q h1 h
                    · obtain rfl : q = j := by omega
                      rw [L_get _ _ hlt]; exact hbl)
                  by_cases h32 : x.s[j] = 32
                  · have b2 : ((x.s[j].toNat : Int) == 32) = true := byte_is h32
                    clear h32 hbl HJ
                    go_wp2_with fail
                    go_roundg (x.s.size + 1 - (j + 1))
                    case rel => exact ⟨j + 1, rfl, by go_num, by omega, by omega, by omega, rfl, HJ'⟩
                    case measure => omega
                  · have h9 : x.s[j] = 9 := by simpa [Mu.blankB, h32] using hbl
                    have b2 : ((x.s[j].toNat : Int) == 32) = false := byte_isnt h32
                    have b3 : ((x.s[j].toNat : Int) == 9) = true := byte_is h9
                    clear h32 h9 hbl HJ
                    go_wp2_with fail
                    go_roundg (x.s.size + 1 - (j + 1))
                    case rel => exact ⟨j + 1, rfl, by go_num, by omega, by omega, by omega, rfl, HJ'⟩
                    case measure => omega
                · have b2 : ((x.s[j].toNat : Int) == 32) = false := byte_isnt (b := 32) (fun h => hbl (by rw [h]; rfl))
                  have b3 : ((x.s[j].toNat : Int) == 9) = false := byte_isnt (b := 9) (fun h => hbl (by rw [h]; rfl))
                  have HW : Hid (Mu.eow (L x.s) p1 = j) := Lib.hid (Mu.eow_at (L x.s) p1 j hj1 hlt HJ.out (by rw [L_get _ _ hlt]; simpa using hbl))
                  clear hbl HJ
                  go_wp2_with fail
                  go_meet
                  case rel => exact ⟨by rw [HW.out], Lib.hid (Sm.refl _)⟩
              · have hd : decide ((j : Int) < (x.s.size : Int)) = false := by simp; omega
                have HW : Hid (Mu.eow (L x.s) p1 = p1) := Lib.hid (Mu.eow_all (L x.s) p1 hp1s (fun q h1 (h2 : q < x.s.size) => HJ.out q h1 (by omega)))
                clear HJ
                go_wp2_with fail
                go_meet
                case rel => exact ⟨by rw [HW.out], Lib.hid (Sm.refl _)⟩
          case rest =>
            obtain ⟨rfl, HS⟩ := hcut
            have HT4 := Lib.hid (HT3.out.sm HS.out)
            have HR4 := Lib.hid (HR3.out.trans (HS.out.fr (· = t)))
            have HG4 := Lib.hid (HG3.out.fr (HS.out.fr (· = t)) (fun k hk => by omega))
            have hwe := Mu.eow_le (L x.s) p1 hp1s
            rw [L_length] at hwe
            have HQ := Lib.hid (rg_tag (may := may) HF.out HP1.out HTG.out)
            obtain ⟨v, hv⟩ : ∃ v, v = Mu.eow (L x.s) p1 := ⟨_, rfl⟩
            rw [← hv] at hwe HQ ⊢
            obtain ⟨h0, -, h2, h3, h4, -⟩ := HT4.out.cells
            have f3 := HT4.out.free 3
            have f4 := HT4.out.free 4
            simp only at h0 h2 h3 h4
            clear HS hv HR3 HT3 HG3
            cases may with
            | false =>
              have HQ' : Hid (Mu.rdTag (L x.s) x.p (L x.c) false = some ⟨L r, true, p1⟩) := Lib.hid (by rw [HQ.out, if_neg HE.out]; first | done | rfl)
              clear HQ
              go_wp2_with fail
              go_ret2
              exact rg_done (q := ⟨L r, true, p1⟩) HQ'.out rfl HR4.out HT4.out rfl rfl rfl
            | true =>
              go_wp2_with fail
              have hsl : (r.extract 0 1).size ≤ 2147483647 := by rw [ByteArray.size_extract]; omega
              refine (zzIndex_any _ _ _ (by decide) hsl).mono ?_
              intro e w5 hpost
              unfold IdxPost at hpost
              obtain ⟨rfl, rfl⟩ := hpost
              by_cases hsk : Mu.isSkip ((L r).getD 0 0) = true
              · have hw1 : (v : Int) ≤ (x.s.size : Int) := by omega
                obtain ⟨ix, hix⟩ := skip_yes r hsk
                unfold skipB at hix
                rw [hix]
                simp only [idxVal]
                clear hix
                by_cases hve : v = x.s.size
                · have b2 : ((v : Int) == (x.s.size : Int)) = true := by rw [hve]; simp
                  have HQ' : Hid (Mu.rdTag (L x.s) x.p (L x.c) true = some ⟨L r, true, v⟩) := Lib.hid (by rw [HQ.out, if_neg HE.out, if_pos trivial, if_pos hsk, if_pos hve])
                  clear HQ hve hsk
                  go_wp2_with fail
                  go_ret2
                  exact rg_done (q := ⟨L r, true, v⟩) HQ'.out rfl (HR4.out.trans (Fr.setCell (M := (· = t)) _ _ _ (.inl rfl))) (HT4.out.set3 v) rfl (setCell_size _ _ _) rfl
                · have b2 : ((v : Int) == (x.s.size : Int)) = false := by rw [beq_eq_false_iff_ne]; omega
                  have hvl : v < x.s.size := by omega
                  have hvl' : (v : Int) < (x.s.size : Int) := by omega
                  by_cases h10 : x.s[v] = 10
                  · have b3 : ((x.s[v].toNat : Int) == 10) = true := byte_is (b := 10) h10
                    have hg10 : (L x.s).getD v 0 = 10 := by rw [L_get _ _ hvl]; exact h10
                    have HQ' : Hid (Mu.rdTag (L x.s) x.p (L x.c) true = some ⟨L r, true, v + 1⟩) := Lib.hid (by rw [HQ.out, if_neg HE.out, if_pos trivial, if_pos hsk, if_neg hve, if_pos hg10])
                    clear HQ hve h10 hg10 hsk
                    go_wp2_with fail
                    go_ret2
                    exact rg_done (q := ⟨L r, true, v + 1⟩) HQ'.out rfl ((HR4.out.trans (Fr.setCell (M := (· = t)) _ _ _ (.inl rfl))).trans (Fr.setCell (M := (· = t)) _ _ _ (.inl rfl))) ((HT4.out.set3 (v + 1)).set4 _) rfl (setCell_size2 _ _ _ _ _) rfl
                  · have b3 : ((x.s[v].toNat : Int) == 10) = false := byte_isnt (b := 10) h10
                    have h13 : x.s[v] ≠ 13 := HRR.out _ (by rw [← L_get _ _ hvl]; exact getD_mem hvl)
                    have b4 : ((x.s[v].toNat : Int) == 13) = false := byte_isnt (b := 13) h13
                    have hg10 : ¬ (L x.s).getD v 0 = 10 := by rw [L_get _ _ hvl]; exact h10
                    have hg13 : ¬ (v + 1 < x.s.size ∧ (L x.s).getD v 0 = 13 ∧ (L x.s).getD (v + 1) 0 = 10) := fun h => h13 (by rw [← L_get _ _ hvl]; exact h.2.1)
                    have HQ' : Hid (Mu.rdTag (L x.s) x.p (L x.c) true = some ⟨L r, false, p1⟩) := Lib.hid (by rw [HQ.out, if_neg HE.out, if_pos trivial, if_pos hsk, if_neg hve, if_neg hg10, if_neg hg13])
                    clear HQ hve h10 h13 hg10 hg13 hsk
                    by_cases hv1 : v + 1 < x.s.size
                    · have b5 : (v : Int) + 1 < (x.s.size : Int) := by omega
                      go_wp2_with fail
                      go_ret2
                      exact rg_done (q := ⟨L r, false, p1⟩) HQ'.out rfl HR4.out HT4.out rfl rfl rfl
                    · have b5 : decide ((v : Int) + 1 < (x.s.size : Int)) = false := by simp; omega
                      go_wp2_with fail
                      go_ret2
                      exact rg_done (q := ⟨L r, false, p1⟩) HQ'.out rfl HR4.out HT4.out rfl rfl rfl
              · have HQ' : Hid (Mu.rdTag (L x.s) x.p (L x.c) true = some ⟨L r, false, p1⟩) := Lib.hid (by rw [HQ.out, if_neg HE.out, if_pos trivial, if_neg hsk])
                have hix := skip_no r HE.out hsk
                unfold skipB at hix
                rw [hix]
                simp only [idxVal]
                clear HQ hsk hix
                go_wp2_with fail
                go_ret2
                exact rg_done (q := ⟨L r, false, p1⟩) HQ'.out rfl HR4.out HT4.out rfl rfl rfl
end Go.Proofs.YtfakghnpkdoclaaDoor
