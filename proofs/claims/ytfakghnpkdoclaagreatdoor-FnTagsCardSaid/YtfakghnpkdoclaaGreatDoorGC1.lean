/-
  The tables; texts of values. (Joined by wip/pack.py.)
-/
import Derived.Test.YtfakghnpkdoclaaGreatDoorGCA
import Derived.Test.YtfakghnpkdoclaaGreatDoorGB1
import Derived.Test.YtfakghnpkdoclaaGreatDoorShelfQ
import Derived.Lib.PrintData
import Derived.Lib.AppendIntMem
set_option linter.unusedVariables false
set_option linter.unusedSimpArgs false
set_option maxRecDepth 100000
set_option maxHeartbeats 8000000
namespace Go.Proofs.YtfakghnpkdoclaaGreatDoor
open Go.RowKit
open Go.Lib (hid)
structure GlT (W : World) : Prop where
 pow : Lib.TabIs Tryz.prog W "internal/strconv.uint64pow10" .u64 Lib.pow10Tab
 prt : Lib.PrintTabsAt 6 7 8 9 Lib.goPrintTabs W
 utf : Lib.Utf8Tabs 3 4 W
theorem powNamed : Tryz.prog.globalNamed "internal/strconv.uint64pow10" = some 5 := by kernel_rfl
theorem tabSlice_below {W w : World} {g : Nat} {k : IntKind} {t : List Nat} (h : Lib.TabSlice g k t W) (hb : Below W.heap.size W w) : Lib.TabSlice g k t w := by
 obtain ⟨R, o, c, h1, h2⟩ := h
 exact ⟨R, o, c, (hb.cell (World.block_lt_of_cell? W _ h1)).trans h1, fun j hj => (hb.cell (World.block_lt_of_cell? W _ (h2 j hj))).trans (h2 j hj)⟩
theorem GlT.below {W w : World} (h : GlT W) (hb : Below W.heap.size W w) : GlT w where
 pow := by
  have hc := h.pow.cell powNamed 0 (by decide);exact var?_below hb powNamed (World.block_lt_of_cell? W _ hc) h.pow
 prt := by
  obtain ⟨h1, h2, h3, h4, h5⟩ := h.prt;exact ⟨tabSlice_below h1 hb, tabSlice_below h2 hb, tabSlice_below h3 hb, tabSlice_below h4 hb, h5⟩
 utf := by
  obtain ⟨h1, h2⟩ := h.utf;exact ⟨fun c hc => (hb.cell (World.block_lt_of_cell? W _ (h1 c hc))).trans (h1 c hc), fun i hi => ⟨(hb.cell (World.block_lt_of_cell? W _ (h2 i hi).1)).trans (h2 i hi).1, (hb.cell (World.block_lt_of_cell? W _ (h2 i hi).2)).trans (h2 i hi).2⟩⟩
theorem PsAt.below {W w : World} {v : Value} {ps : List (ByteArray × ByteArray)} (h : PsAt W v ps) (hb : Below W.heap.size W w) : PsAt w v ps := by
 obtain ⟨a, c, h1, h2, h3⟩ := h
 exact ⟨a, c, h1, h2, fun h0 => by
  obtain ⟨b, o, h4, h5⟩ := h3 h0;exact ⟨b, o, h4, fun k hk => ⟨(hb.cell (World.block_lt_of_cell? W _ (h5 k hk).1)).trans (h5 k hk).1, (hb.cell (World.block_lt_of_cell? W _ (h5 k hk).2)).trans (h5 k hk).2⟩⟩⟩
def Ba (B : Nat) (eb : Addr) (pv : Value) (ps : List (ByteArray × ByteArray)) (w : World) : Prop := ∃ W : World, W.heap.size = B ∧ GlF W eb ∧ GlT W ∧ PsAt W pv ps ∧ Below B W w
theorem Ba.fr {B : Nat} {eb : Addr} {pv : Value} {ps : List (ByteArray × ByteArray)} {M : Nat → Prop} {w w' : World} (h : Ba B eb pv ps w) (hf : Fr M w w') (hM : ∀ k, k < B → ¬ M k) : Ba B eb pv ps w' := by
 obtain ⟨W, h1, h2, h3, h4, h5⟩ := h
 exact ⟨W, h1, h2, h3, h4, h5.trans (hf.below (by have := h5.size; omega) hM)⟩
theorem Ba.fr0 {B : Nat} {eb : Addr} {pv : Value} {ps : List (ByteArray × ByteArray)} {w w' : World} (h : Ba B eb pv ps w) (hf : F0 w w') : Ba B eb pv ps w' := h.fr hf (fun _ _ h => h)
theorem Ba.size {B : Nat} {eb : Addr} {pv : Value} {ps : List (ByteArray × ByteArray)} {w : World} (h : Ba B eb pv ps w) : B ≤ w.heap.size := by
 obtain ⟨W, h1, h2, h3, h4, h5⟩ := h
 have := h5.size; omega
theorem Ba.gl {B : Nat} {eb : Addr} {pv : Value} {ps : List (ByteArray × ByteArray)} {w : World} (h : Ba B eb pv ps w) : Gl B eb w := by
 obtain ⟨W, h1, h2, h3, h4, h5⟩ := h
 exact ⟨W, h1, h2, h5⟩
theorem Ba.tabs {B : Nat} {eb : Addr} {pv : Value} {ps : List (ByteArray × ByteArray)} {w : World} (h : Ba B eb pv ps w) : GlT w := by
 obtain ⟨W, rfl, h2, h3, h4, h5⟩ := h
 exact h3.below h5
theorem Ba.ps {B : Nat} {eb : Addr} {pv : Value} {ps : List (ByteArray × ByteArray)} {w : World} (h : Ba B eb pv ps w) : PsAt w pv ps := by
 obtain ⟨W, rfl, h2, h3, h4, h5⟩ := h
 exact h4.below h5
def SprPost (v : Mu.Val) (w : World) (e : Ending) (w' : World) : Prop := ∃ o : ByteArray, e = .returned (.string o) ∧ L o = Mu.shown v ∧ F0 w w'
theorem true_utf : (Lib.formatBool true) = Mu.trueB := by decide +kernel
theorem false_utf : (Lib.formatBool false) = Mu.falseB := by decide +kernel
theorem zzSprint_any (T : Nat) (v : Mu.Val) (x : Value) (S : Nat → Prop) (w : World) (hv : Mu.VG T v) (ho : Mu.varOpen (some v) = false) (hx : CAt w S v x) (hg : GlT w) :
 Calls Tryz.prog 103 #[x] w (SprPost v w) := by
 have hn := hv.num
 have hpow := hg.pow
 obtain ⟨k, t, n, b, ks, l⟩ := v
 unfold CAt at hx
 unfold Mu.varOpen at ho
 simp only [Mu.Val.kind, Bool.or_eq_false_iff, beq_eq_false_iff_ne] at ho
 obtain ⟨⟨h4, h5⟩, h0⟩ := ho
 obtain ⟨hn1, hn2⟩ := hn
 simp only [Mu.Val.num] at hn1 hn2
 rcases hx with ⟨rfl, -⟩ | ⟨rfl, tb, rfl, htb⟩ | ⟨rfl, rfl⟩ | ⟨rfl, rfl⟩ | ⟨rfl, -⟩ | ⟨rfl, -⟩
 · exact absurd rfl h0
 · have HTB : Hid (L tb = Mu.shown (.mk 1 t n b ks l)) := hid (by rw [htb]; rfl)
   clear htb hv hg hpow;have a0 := fun (v : Value) (w : World) => isStr w v
   go_enter Tryz.func103, Tryz.ntmps103;go_wp2_with fail;go_ret;exact ⟨tb, rfl, HTB.out, Fr.refl _ _⟩
 · have HP := hid hpow
   clear hv hg hpow h0 h4 h5;have a0 := fun (v : Value) (w : World) => notStr w 2 v (by decide)
   have a1 := fun (v : Value) (w : World) => isInt w v
   go_enter Tryz.func103, Tryz.ntmps103;go_wp2_with fail;refine (Tryz.strconv_FormatInt_10 n hn1 hn2 w HP.out).mono ?_;rintro e w1 ⟨rfl, q, os, hw⟩;have HF : Hid (F0 w w1) := hid (by rw [hw]; exact Fr.ofBelow (Lib.below_grow _ w (Nat.le_refl _) q os));clear hw;go_wp2_with fail;go_ret;exact ⟨_, rfl, by rw [L_mk]; rfl, HF.out⟩
 · clear hv hg hpow h0 h4 h5
   have a0 := fun (v : Value) (w : World) => notStr w 4 v (by decide)
   have a1 := fun (v : Value) (w : World) => notInt w 4 v (by decide)
   have a2 := fun (v : Value) (w : World) => isBool w v
   go_enter Tryz.func103, Tryz.ntmps103;go_wp2_with fail;refine (Tryz.strconv_FormatBool b w).mono ?_;rintro e w1 ⟨rfl, hw⟩;have HF : Hid (F0 w w1) := hid (by rw [hw]; exact Fr.refl _ _);clear hw;go_wp2_with fail;go_ret;refine ⟨_, rfl, ?_, HF.out⟩;rw [L_mk];cases b
   · exact false_utf
   · exact true_utf
 · exact absurd rfl h4
 · exact absurd rfl h5
theorem errorsNew_any (s : ByteArray) (w : World) : Calls Tryz.prog 110 #[.string s] w (fun e w' => e = .returned (.iface 219 (.pointer (some ⟨w.heap.size, 0, none⟩))) ∧ F0 w w') := by
 go_enter Tryz.func110, Tryz.ntmps110
 go_wp2_with fail
 go_ret
 exact ⟨rfl, Fr.alloc _ _ _⟩
def pL (ps : List (ByteArray × ByteArray)) : List (Mu.B × Mu.B) := ps.map fun p => (L p.1, L p.2)
theorem partOf_snoc (l : List (Mu.B × Mu.B)) (p : Mu.B × Mu.B) (n : Mu.B) : Mu.partOf (l ++ [p]) n = if p.1 = n then p.2 else Mu.partOf l n := by
 unfold Mu.partOf
 rw [List.reverse_append, List.reverse_singleton, List.singleton_append, List.find?_cons]
 by_cases h : p.1 = n
 · simp [h]
 · have h2 : (p.1 == n) = false := by simpa using h
   rw [h2, if_neg h]
theorem pL_take {ps : List (ByteArray × ByteArray)} {k : Nat} (h : k < ps.length) : pL (ps.take (k + 1)) = pL (ps.take k) ++ [(L ps[k].1, L ps[k].2)] := by
 unfold pL
 rw [List.take_succ_eq_append_getElem h, List.map_append]
 rfl
def ProvAt (w : World) (b : Nat) (pv : Value) (asked : Nat) : Prop := w.heap[b]? = some (.cells #[pv, .int .i64 asked] 59 (0, 0))
def GetPost (ps : List (ByteArray × ByteArray)) (n : Mu.B) (b asked : Nat) (pv : Value) (w : World) (e : Ending) (w' : World) : Prop :=
 ∃ o : ByteArray, e = .returned (.tuple #[.string o, .nilIface]) ∧ L o = Mu.partOf (pL ps) n ∧ ProvAt w' b pv (asked + 1) ∧ Fr (· = b) w w'
theorem get_any (b asked : Nat) (pv : Value) (ps : List (ByteArray × ByteArray)) (nm : ByteArray) (w : World) (hp : ProvAt w b pv asked) (hps : PsAt w pv ps) (hpl : ps.length ≤ 2147483647) (ha : asked < 100) (hbb : ∀ c o k, pv = .slice (some ⟨c, o, none⟩) ps.length k → 0 < ps.length → c ≠ b) :
 Calls Tryz.prog 161 #[.pointer (some ⟨b, 0, none⟩), .string nm] w (GetPost ps (L nm) b asked pv w) := by
 obtain ⟨pa, pc, rfl, hpc⟩ : ∃ pa pc, pv = .slice pa ps.length pc ∧ ps.length ≤ pc := by
  obtain ⟨a, c, h1, h2, -⟩ := hps;exact ⟨a, c, h1, h2⟩
 have hfr : Fr (· = b) w (w.setCell ⟨b, 1, none⟩ (.int .i64 ((asked + 1 : Nat) : Int))) := (Fr.refl _ w).setA _ _ (.inl rfl)
 have hp1 : ProvAt (w.setCell ⟨b, 1, none⟩ (.int .i64 ((asked + 1 : Nat) : Int))) b (.slice pa ps.length pc) (asked + 1) := blk_set _ hp
 have hps1 : PsAt (w.setCell ⟨b, 1, none⟩ (.int .i64 ((asked + 1 : Nat) : Int))) (.slice pa ps.length pc) ps := by
  obtain ⟨a, c, h1, h2, h3⟩ := hps;refine ⟨a, c, h1, h2, fun h0 => ?_⟩;obtain ⟨c', o, rfl, h5⟩ := h3 h0;have hne : c' ≠ b := hbb c' o c h1 h0;have hc : ∀ j, (w.setCell ⟨b, 1, none⟩ (.int .i64 ((asked + 1 : Nat) : Int))).cell? ⟨c', j, none⟩ = w.cell? ⟨c', j, none⟩ := fun j => World.cell?_of_block (a := ⟨c', j, none⟩) (Below.heap_setCell w ⟨b, 1, none⟩ _ c' hne)
  exact ⟨c', o, rfl, fun k hk => ⟨(hc _).trans (h5 k hk).1, (hc _).trans (h5 k hk).2⟩⟩
 have c0 := blk_cell hp 0
 have c1 := blk_cell hp 1
 have f1 := blk_free hp 1
 have d0 := blk_cell hp1 0
 have d1 := blk_cell hp1 1
 simp only [List.getElem?_toArray, List.getElem?_cons_zero, List.getElem?_cons_succ] at c0 c1 d0 d1
 have HFR := hid hfr
 have HP1 := hid hp1
 have HPS := hid hps1
 have q1 : decide ((100 : Int) < ((asked : Int) + 1)) = false := by simp; omega
 have q2 : ((asked + 1 : Nat) : Int) = (asked : Int) + 1 := by omega
 rw [q2] at d0 d1 HFR HP1 HPS
 have HT0 : Hid (Mu.partOf (pL ps) (L nm) = Mu.partOf (pL (ps.take ps.length)) (L nm)) := hid (by rw [List.take_length])
 clear hfr hp1 hps1 hp hps hbb q2
 go_enter Tryz.func161, Tryz.ntmps161
 go_wp2_with fail
 obtain ⟨W, hW⟩ : ∃ W, W = w.setCell ⟨b, 1, none⟩ (.int .i64 ((asked : Int) + 1)) := ⟨_, rfl⟩
 rw [← hW] at d0 d1 HFR HP1 HPS ⊢
 clear hW
 go_loopg [6] ps.length (fun g v wr => ∃ k : Nat, (k = 0 ∧ v = .int .i64 (-1) ∨ ∃ j : Nat, k = j + 1 ∧ v = .int .i64 j) ∧ k ≤ ps.length ∧ g = k ∧ wr = W ∧ Hid (Mu.partOf (pL ps) (L nm) = Mu.partOf (pL (ps.take k)) (L nm)))
 case atStart =>
  refine ⟨ps.length, ?_, Nat.le_refl _, rfl, rfl, HT0⟩
  cases h : ps.length with
  | zero => exact .inl ⟨rfl, by simp⟩
  | succ j => exact .inr ⟨j, rfl, by congr 1; omega⟩
 case round =>
  obtain ⟨k, hv, hk, rfl, rfl, HT⟩ := hrel
  rcases hv with ⟨rfl, rfl⟩ | ⟨j, rfl, rfl⟩
  · have HZ : Hid (Mu.partOf (pL ps) (L nm) = []) := hid (by rw [HT.out]; rfl)
    go_wp2_with fail
    go_ret2
    exact ⟨⟨#[]⟩, rfl, HZ.out.symm, HP1.out, HFR.out⟩
  · obtain ⟨pb, po, pn, pt, rfl, hpe, e0, e1, hpb⟩ := HPS.out.at (show j < ps.length by omega)
    have HS : Hid (Mu.partOf (pL ps) (L nm) = if L pn = L nm then L pt else Mu.partOf (pL (ps.take j)) (L nm)) := hid (by
     rw [HT.out, pL_take (by omega), partOf_snoc, hpe])
    clear hpe
    by_cases hq : L pn = L nm
    · have q2 : (pn.toList == nm.toList) = true := by rw [beq_iff_eq, ByteArray.toList_eq, ByteArray.toList_eq]; exact hq
      have HZ : Hid (Mu.partOf (pL ps) (L nm) = L pt) := hid (by rw [HS.out, if_pos hq]);clear hq;go_wp2_with fail
      go_ret2
      exact ⟨pt, rfl, HZ.out.symm, HP1.out, HFR.out⟩
    · have q2 : (pn.toList == nm.toList) = false := by rw [beq_eq_false_iff_ne, ByteArray.toList_eq, ByteArray.toList_eq]; exact hq
      have HZ : Hid (Mu.partOf (pL ps) (L nm) = Mu.partOf (pL (ps.take j)) (L nm)) := hid (by rw [HS.out, if_neg hq]);clear hq;go_wp2_with fail
      go_roundg j
      case rel =>
       refine ⟨j, ?_, by omega, rfl, rfl, HZ⟩
       cases j with
       | zero => exact .inl ⟨rfl, by simp⟩
       | succ j => exact .inr ⟨j, rfl, by congr 1; omega⟩
      case measure => omega
def CntAt (w : World) (b n m : Nat) : Prop := w.heap[b]? = some (.cells #[.int .i64 n, .int .i64 m] 107 (0, 0))
def CntPost (b n m t : Nat) (w : World) (e : Ending) (w' : World) : Prop := e = .returned (.tuple #[.int .i64 t, .nilIface]) ∧ CntAt w' b (n + 1) (m + t) ∧ Fr (· = b) w w'
theorem counterWrite_any (b n m t c : Nat) (a : Option Addr) (w : World) (hc : CntAt w b n m) (hn : n + 1 ≤ 20000) (hm : m + t ≤ 65536) :
 Calls Tryz.prog 162 #[.pointer (some ⟨b, 0, none⟩), .slice a t c] w (CntPost b n m t w) := by
 have c0 := blk_cell hc 0
 have c1 := blk_cell hc 1
 have f0 := blk_free hc 0
 have f1 := blk_free hc 1
 simp only [List.getElem?_toArray, List.getElem?_cons_zero, List.getElem?_cons_succ] at c0 c1
 have HF : Hid (∀ W, W = (w.setCell ⟨b, 0, none⟩ (.int .i64 ((n : Int) + 1))).setCell ⟨b, 1, none⟩ (.int .i64 ((m : Int) + (t : Int))) → CntAt W b (n + 1) (m + t) ∧ Fr (· = b) w W) := hid (fun W hW => by
  refine ⟨?_, by rw [hW]; exact ((Fr.refl (· = b) w).setA ⟨b, 0, none⟩ _ (.inl rfl)).setA ⟨b, 1, none⟩ _ (.inl rfl)⟩;rw [hW];have := blk_set (i := 1) (.int .i64 ((m : Int) + (t : Int))) (blk_set (i := 0) (.int .i64 ((n : Int) + 1)) hc);unfold CntAt;rw [this]
  simp)
 have q1 : decide ((20000 : Int) < ((n : Int) + 1)) = false := by simp; omega
 have q2 : decide ((65536 : Int) < ((m : Int) + (t : Int))) = false := by simp; omega
 clear hc
 go_enter Tryz.func162, Tryz.ntmps162
 go_wp2_with fail
 go_region
 all_goals
  go_wp2_with fail
  go_ret2
  obtain ⟨h1, h2⟩ := HF.out _ rfl;exact ⟨rfl, h1, h2.drewA⟩
end Go.Proofs.YtfakghnpkdoclaaGreatDoor
