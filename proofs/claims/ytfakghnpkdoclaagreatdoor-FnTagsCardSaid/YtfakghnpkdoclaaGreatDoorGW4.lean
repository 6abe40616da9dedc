/-
  The two writers. (Joined by wip/pack.py.)
-/
import Derived.Test.YtfakghnpkdoclaaGreatDoorGW1
import Derived.Test.YtfakghnpkdoclaaGreatDoorShelf
import Derived.Laws.CopyRow
import Derived.Laws.IdiomCopy
import Derived.Laws.MakeOwn
import Derived.Lib.BufferMore
import Derived.Deep.RegionWith
import Derived.Deep.RegionHeld3
import Derived.BigQuiet
import Derived.Lib.BufferWrite
set_option linter.unusedVariables false
set_option linter.unusedSimpArgs false
set_option maxRecDepth 100000
set_option maxHeartbeats 8000000
namespace Go.Proofs.YtfakghnpkdoclaaGreatDoor
open Go.RowKit
open Go.Lib (hid)
def CounterAt (b : Nat) (w : World) (own : Nat → Prop) (ws : List Mu.B) : Prop := (∀ k, own k ↔ k = b) ∧ CntAt w b ws.length ws.flatten.length
theorem cnt_writer (b : Nat) : Writer 105 b 162 (CounterAt b) where
 nila w := by kernel_rfl
 meth w := by kernel_rfl
 ent args w := by kernel_rfl
 write w own ws S sv t h ht hS hft := by
  obtain ⟨h1, h2⟩ := h;obtain ⟨g, c, rfl, -, -, -⟩ := ht;obtain ⟨f1, f2⟩ := hft;simp only [List.length_append, List.length_cons, List.length_nil, List.flatten_append, List.flatten_cons, List.flatten_nil, List.append_nil] at f1 f2;refine (counterWrite_any b ws.length ws.flatten.length t.length c (some ⟨g, 0, none⟩) w h2 f1 f2).mono ?_;rintro e w1 ⟨rfl, h3, h4⟩
  refine ⟨own, rfl, ⟨h1, by simpa using h3⟩, h4.mono (fun i _ hi => (h1 i).2 hi), fun k hk => .inl hk⟩
 lt w own ws h k hk := by
  obtain ⟨h1, h2⟩ := h;rw [(h1 k).1 hk];exact blk_lt h2
 fr w w' M own ws h hf hM := by
  obtain ⟨h1, h2⟩ := h;exact ⟨h1, hf.blk h2 (hM b ((h1 b).2 rfl))⟩
def GrEnd (b l n : Nat) (lr : Int) (bs : List Value) (w w' : World) : Prop :=
 ∃ g2 cap2 cells, w'.heap[b]? = some (.cells #[.slice (some ⟨g2, 0, none⟩) (l + n) cap2, .int .i64 0, .int .i8 lr] 125 (0, 0)) ∧ w'.heap[g2]? = some (.cells cells 5 (0, 0)) ∧ cells.size = cap2 ∧ l + n ≤ cap2 ∧ cap2 ≤ maxLen ∧ cells.toList.take l = bs ∧ Fr (· = b) w w' ∧ w.heap.size ≤ g2 ∧ g2 ≠ b
theorem buf_len (b l cap : Nat) (ao : Option Addr) (w : World) (c0 : w.cell? ⟨b, 0, none⟩ = some (.slice ao l cap)) (c1 : w.cell? ⟨b, 1, none⟩ = some (.int .i64 0)) (hl : l ≤ 9223372036854775807) :
 Calls Tryz.prog 167 #[.pointer (some ⟨b, 0, none⟩)] w (fun e w' => e = .returned (.int .i64 l) ∧ Sm w w') := by
 go_enter Tryz.func167, Tryz.ntmps167
 go_wp2_with fail
 go_quiet (fail)
 go_wp2_with fail
 go_ret
 exact ⟨rfl, Sm.mk _ _⟩
theorem gr_row {b l n g2 cap2 : Nat} {lr : Int} {bs : List Value} {cells : Array Value} {w w2 : World} {x : Value} (hf : Fr (· = b) w w2) (hb : w2.heap[b]? = some (.cells #[x, .int .i64 0, .int .i8 lr] 125 (0, 0)))
 (hg : w2.heap[g2]? = some (.cells cells 5 (0, 0))) (hs : w.heap.size ≤ g2) (hne : g2 ≠ b) (h1 : cells.size = cap2) (h2 : l + n ≤ cap2) (h3 : cap2 ≤ maxLen) (h4 : cells.toList.take l = bs) :
 GrEnd b l n lr bs w (((w2.setCell ⟨b, 0, none⟩ (.slice (some ⟨g2, 0, none⟩) l cap2)).setCell ⟨b, 1, none⟩ (.int .i64 0)).setCell ⟨b, 0, none⟩ (.slice (some ⟨g2, 0, none⟩) (l + n) cap2)) := by
 have e1 := blk_set (i := 0) (.slice (some ⟨g2, 0, none⟩) (l + n) cap2) (blk_set (i := 1) (.int .i64 0) (blk_set (i := 0) (.slice (some ⟨g2, 0, none⟩) l cap2) hb))
 refine ⟨g2, cap2, cells, by rw [e1]; simp, ?_, h1, h2, h3, h4, ((hf.setA ⟨b, 0, none⟩ _ (.inl rfl)).setA ⟨b, 1, none⟩ _ (.inl rfl)).setA ⟨b, 0, none⟩ _ (.inl rfl), hs, hne⟩
 rw [Below.heap_setCell _ ⟨b, 0, none⟩ _ g2 hne, Below.heap_setCell _ ⟨b, 1, none⟩ _ g2 hne, Below.heap_setCell _ ⟨b, 0, none⟩ _ g2 hne]
 exact hg
theorem gr_row0 {b n g2 cap2 : Nat} {lr : Int} {cells : Array Value} {w w2 : World} {x : Value} (hf : Fr (· = b) w w2) (hb : w2.heap[b]? = some (.cells #[x, .int .i64 0, .int .i8 lr] 125 (0, 0)))
 (hg : w2.heap[g2]? = some (.cells cells 5 (0, 0))) (hs : w.heap.size ≤ g2) (hne : g2 ≠ b) (h1 : cells.size = cap2) (h2 : n ≤ cap2) (h3 : cap2 ≤ maxLen) :
 GrEnd b 0 n lr [] w (((w2.setCell ⟨b, 0, none⟩ (.slice (some ⟨g2, 0, none⟩) 0 cap2)).setCell ⟨b, 1, none⟩ (.int .i64 0)).setCell ⟨b, 0, none⟩ (.slice (some ⟨g2, 0, none⟩) n cap2)) := by
 have := gr_row (l := 0) (n := n) (bs := []) hf hb hg hs hne h1 (by omega) h3 (by simp)
 rwa [Nat.zero_add] at this
theorem gr_small {b n : Nat} {lr : Int} {cells : Array Value} {w w2 : World} {x : Value} (hf : Fr (· = b) w w2) (hb : w2.heap[b]? = some (.cells #[x, .int .i64 0, .int .i8 lr] 125 (0, 0)))
 (h1 : cells.size = 64) (h2 : n ≤ 64) :
 GrEnd b 0 n lr [] w ((w2.setCell ⟨b, 0, none⟩ (.slice (some ⟨w2.heap.size, 0, none⟩) n 64)).alloc (.cells cells 5)) := by
 have e1 := blk_set (i := 0) (.slice (some ⟨w2.heap.size, 0, none⟩) n 64) hb
 have lb := blk_lt hb
 have hs := hf.size
 have hz : (w2.setCell ⟨b, 0, none⟩ (.slice (some ⟨w2.heap.size, 0, none⟩) n 64)).heap.size = w2.heap.size := by simp [World.setCell]
 have hn := blk_new (w2.setCell ⟨b, 0, none⟩ (.slice (some ⟨w2.heap.size, 0, none⟩) n 64)) (.cells cells 5)
 rw [hz] at hn
 exact ⟨w2.heap.size, 64, cells, by rw [blk_alloc _ e1]; simp, hn, h1, by omega, by unfold maxLen; omega, by simp, (hf.setA ⟨b, 0, none⟩ _ (.inl rfl)).allocA _, hs, by omega⟩
theorem infoU8w : (Tryz.prog.info? 5).map (fun i => (i.zero, i.size, i.bytes)) = some (some (.int .u8 0), 1, 1) := by kernel_rfl
theorem grow_small (b n : Nat) (lr : Int) (w : World) (hb : w.heap[b]? = some (.cells #[.slice none 0 0, .int .i64 0, .int .i8 lr] 125 (0, 0))) (hn : 1 ≤ n) (h64 : n ≤ 64) :
 Calls Tryz.prog 166 #[.pointer (some ⟨b, 0, none⟩), .int .i64 n] w (fun e w' => e = .returned (.int .i64 0) ∧ GrEnd b 0 n lr [] w w') := by
 obtain ⟨i0, hi, hz0, hz1, hz2⟩ := info_parts infoU8w
 obtain ⟨M, hM⟩ : ∃ M, M = madeCells (Value.int .u8 0).cells ((64 : Int).toNat * i0.size) := ⟨_, rfl⟩
 have hMs : M.size = 64 := by rw [hM, size_madeCells, hz1]; rfl
 have hmk : ∀ W : World, (Instr.makeSlice 121 (.int .i64 (n : Int)) (.int .i64 64)).run Tryz.prog W = .ok (.slice (some ⟨W.heap.size, 0, none⟩) n 64) (W.alloc (.cells M 5)) := fun W => by
  have h := run_makeSlice (P := Tryz.prog) W 121 5 i0 (.int .u8 0) Tryz.underlying121 hi hz0 .i64 .i64 (n : Int) 64 (by omega) (by omega) (by rw [hz1]; decide) (by rw [hz2]; decide) (by decide);rw [← hM] at h;simpa using h
 clear hM hi hz0 hz1 hz2
 have hnil : ∀ W, (binOp .eql 121 (.slice none 0 0) (.slice none 0 0)).run Tryz.prog W = .ok (.bool true) W := fun W => Lib.run_eql_slice_nil_nil W _ _ Tryz.underlying121
 have c0 := blk_cell hb 0
 have c1 := blk_cell hb 1
 simp only [List.getElem?_toArray, List.getElem?_cons_zero, List.getElem?_cons_succ] at c0 c1
 have HB := hid hb
 clear hb
 go_enter Tryz.func166, Tryz.ntmps166
 go_wp2_with fail
 refine (buf_len b 0 0 none w c0 c1 (by omega)).mono ?_
 rintro e W0 ⟨rfl, hsm⟩
 have hb0 : W0.heap[b]? = some (.cells #[.slice none 0 0, .int .i64 0, .int .i8 lr] 125 (0, 0)) := by rw [hsm.heap]; exact HB.out
 have k0 := blk_cell hb0 0
 have k1 := blk_cell hb0 1
 have f0 := blk_free hb0 0
 have f1 := blk_free hb0 1
 have lb := blk_lt hb0
 simp only [List.getElem?_toArray, List.getElem?_cons_zero, List.getElem?_cons_succ] at k0 k1
 have HB0 := hid hb0
 have HSM := hid hsm
 clear hb0 hsm c0 c1
 go_wp2_with fail
 refine (Tryz.Buffer_tryGrow_none b none 0 0 n W0 k0 (Nat.le_refl _) (Nat.zero_le _) (by omega)).mono ?_
 rintro e w1 ⟨rfl, rfl⟩
 go_wp2_with fail
 go_ret
 have hs : w.heap.size = w1.heap.size := by rw [HSM.out.heap]
 exact ⟨rfl, gr_small (HSM.out.fr _) HB0.out hMs h64⟩
theorem grow_big (b n : Nat) (lr : Int) (w : World) (hb : w.heap[b]? = some (.cells #[.slice none 0 0, .int .i64 0, .int .i8 lr] 125 (0, 0))) (h64 : 64 < n) (hlim : n ≤ 140737488355328) :
 Calls Tryz.prog 166 #[.pointer (some ⟨b, 0, none⟩), .int .i64 n] w (fun e w' => e = .returned (.int .i64 0) ∧ GrEnd b 0 n lr [] w w') := by
 have hnil : ∀ W, (binOp .eql 121 (.slice none 0 0) (.slice none 0 0)).run Tryz.prog W = .ok (.bool true) W := fun W => Lib.run_eql_slice_nil_nil W _ _ Tryz.underlying121
 have c0 := blk_cell hb 0
 have c1 := blk_cell hb 1
 simp only [List.getElem?_toArray, List.getElem?_cons_zero, List.getElem?_cons_succ] at c0 c1
 have HB := hid hb
 clear hb
 go_enter Tryz.func166, Tryz.ntmps166
 go_wp2_with fail
 refine (buf_len b 0 0 none w c0 c1 (by omega)).mono ?_
 rintro e W0 ⟨rfl, hsm⟩
 have hb0 : W0.heap[b]? = some (.cells #[.slice none 0 0, .int .i64 0, .int .i8 lr] 125 (0, 0)) := by rw [hsm.heap]; exact HB.out
 have k0 := blk_cell hb0 0
 have k1 := blk_cell hb0 1
 have f0 := blk_free hb0 0
 have f1 := blk_free hb0 1
 have lb := blk_lt hb0
 simp only [List.getElem?_toArray, List.getElem?_cons_zero, List.getElem?_cons_succ] at k0 k1
 have HB0 := hid hb0
 have HSM := hid hsm
 clear hb0 hsm c0 c1
 go_wp2_with fail
 refine (Tryz.Buffer_tryGrow_none b none 0 0 n W0 k0 (Nat.le_refl _) (Nat.zero_le _) (by omega)).mono ?_
 rintro e w1 ⟨rfl, rfl⟩
 have hwn : IntKind.i64.wrap (0 + (n : Int)) = n := by rw [IntKind.wrap_i64]; omega
 have hwn2 : IntKind.i64.wrap (n : Int) = n := by rw [IntKind.wrap_i64]; omega
 go_wp2_with fail
 go_region_with (
  go_at_call 168
  refine (Tryz.bytes_growSlice_nil n _ (by omega) hlim).mono ?_;rintro e w2 ⟨cap2, cells, rfl, hN, hcsz, hcap2, hcm2, hbel⟩;have hbk2 : w2.heap[b]? = some (.cells #[.slice none 0 0, .int .i64 0, .int .i8 lr] 125 (0, 0)) := (hbel.block b lb).trans HB0.out;have d0 := blk_cell hbk2 0;have d1 := blk_cell hbk2 1;have e0 := blk_free hbk2 0;have e1 := blk_free hbk2 1
  simp only [List.getElem?_toArray, List.getElem?_cons_zero, List.getElem?_cons_succ] at d0 d1)
 all_goals
  go_wp2_with fail;go_ret
  refine ⟨rfl, gr_row0 (((HSM.out.drew).fr _).trans (Fr.of0 (Fr.ofBelow hbel))) hbk2 hN ?_ ?_ hcsz hcap2 hcm2⟩
  · show w.heap.size ≤ w1.heap.size
    rw [HSM.out.heap]; exact Nat.le_refl _
  · exact Nat.ne_of_gt lb
end Go.Proofs.YtfakghnpkdoclaaGreatDoor
namespace Go.Proofs.YtfakghnpkdoclaaGreatDoor
open Go.RowKit
open Go.Lib (hid)
theorem gr_row00 {b n g2 cap2 : Nat} {lr : Int} {bs : List Value} {cells : Array Value} {w w2 : World} {x : Value} (hf : Fr (· = b) w w2) (hb : w2.heap[b]? = some (.cells #[x, .int .i64 0, .int .i8 lr] 125 (0, 0)))
 (hg : w2.heap[g2]? = some (.cells cells 5 (0, 0))) (hs : w.heap.size ≤ g2) (hne : g2 ≠ b) (h1 : cells.size = cap2) (h2 : 0 + n ≤ cap2) (h3 : cap2 ≤ maxLen) (h4 : cells.toList.take 0 = bs) :
 GrEnd b 0 n lr bs w (((w2.setCell ⟨b, 0, none⟩ (.slice (some ⟨g2, 0, none⟩) 0 cap2)).setCell ⟨b, 1, none⟩ (.int .i64 0)).setCell ⟨b, 0, none⟩ (.slice (some ⟨g2, 0, none⟩) n cap2)) := by
 have := gr_row (l := 0) (n := n) (bs := bs) hf hb hg hs hne h1 h2 h3 h4
 rwa [Nat.zero_add] at this
theorem grow_row0_ (b g cap n : Nat) (lr : Int) (cur : Array Value) (w : World) (hb : w.heap[b]? = some (.cells #[.slice (some ⟨g, 0, none⟩) 0 cap, .int .i64 0, .int .i8 lr] 125 (0, 0))) (hg : w.heap[g]? = some (.cells cur 5 (0, 0))) (hcs : cur.size = cap) (hlc : 0 ≤ cap) (hroom : cap - 0 < n) (hlim : 0 + n ≤ 140737488355328) (h1 : ∀ v ∈ cur.toList.take 0, v.oneCell' = true) :
 Calls Tryz.prog 166 #[.pointer (some ⟨b, 0, none⟩), .int .i64 n] w (fun e w' => e = .returned (.int .i64 0) ∧ GrEnd b 0 n lr (cur.toList.take 0) w w') := by
 have hnil : ∀ W, (binOp .eql 121 (.slice (some ⟨g, 0, none⟩) 0 cap) (.slice none 0 0)).run Tryz.prog W = .ok (.bool false) W := fun W => Lib.run_eql_slice_some_nil W _ _ _ Tryz.underlying121
 have c0 := blk_cell hb 0
 have c1 := blk_cell hb 1
 simp only [List.getElem?_toArray, List.getElem?_cons_zero, List.getElem?_cons_succ] at c0 c1
 have HB := hid hb
 have HG := hid hg
 have hcl : cap ≤ 140737488355328 := by omega
 have hn1 : 1 ≤ n := by omega
 clear hb hg
 go_enter Tryz.func166, Tryz.ntmps166
 go_wp2_with fail
 refine (buf_len b 0 cap (some ⟨g, 0, none⟩) w c0 c1 (by omega)).mono ?_
 rintro e W0 ⟨rfl, hsm⟩
 have hb0 : W0.heap[b]? = some (.cells #[.slice (some ⟨g, 0, none⟩) 0 cap, .int .i64 0, .int .i8 lr] 125 (0, 0)) := by rw [hsm.heap]; exact HB.out
 have hg0 : W0.heap[g]? = some (.cells cur 5 (0, 0)) := by rw [hsm.heap]; exact HG.out
 have k0 := blk_cell hb0 0
 have k1 := blk_cell hb0 1
 have f0 := blk_free hb0 0
 have f1 := blk_free hb0 1
 have lb := blk_lt hb0
 simp only [List.getElem?_toArray, List.getElem?_cons_zero, List.getElem?_cons_succ] at k0 k1
 have HB0 := hid hb0
 have HG0 := hid hg0
 have HSM := hid hsm
 clear hb0 hg0 hsm c0 c1
 go_wp2_with fail
 refine (Tryz.Buffer_tryGrow_none b (some ⟨g, 0, none⟩) 0 cap n W0 k0 hlc (by unfold maxLen; omega) hroom).mono ?_
 rintro e w1 ⟨rfl, rfl⟩
 have hwn : IntKind.i64.wrap (0 + (n : Int)) = n := by rw [IntKind.wrap_i64]; omega
 have hwn2 : IntKind.i64.wrap (n : Int) = n := by rw [IntKind.wrap_i64]; omega
 go_wp2_with fail
 go_region_with (
  go_at_call 168
  refine (Tryz.bytes_growSlice_row g 0 cap n cur _ ?_ hcs hlc hn1 hlim hcl h1).mono ?_;exact HG0.out;rintro e w2 ⟨cap2, cells, rfl, hN, hcsz, htk, hcap2, hcm2, hbel⟩;have hbk2 : w2.heap[b]? = some (.cells #[.slice (some ⟨g, 0, none⟩) 0 cap, .int .i64 0, .int .i8 lr] 125 (0, 0)) := (hbel.block b lb).trans HB0.out;have d0 := blk_cell hbk2 0;have d1 := blk_cell hbk2 1;have e0 := blk_free hbk2 0
  have e1 := blk_free hbk2 1;simp only [List.getElem?_toArray, List.getElem?_cons_zero, List.getElem?_cons_succ] at d0 d1)
 all_goals
  go_wp2_with fail;go_ret
  refine ⟨rfl, gr_row00 (((HSM.out.drew).fr _).trans (Fr.of0 (Fr.ofBelow hbel))) hbk2 hN ?_ ?_ hcsz hcap2 hcm2 htk⟩
  · show w.heap.size ≤ w1.heap.size
    rw [HSM.out.heap]; exact Nat.le_refl _
  · exact Nat.ne_of_gt lb
theorem grow_row_ (b g l cap n : Nat) (lr : Int) (cur : Array Value) (w : World) (hb : w.heap[b]? = some (.cells #[.slice (some ⟨g, 0, none⟩) l cap, .int .i64 0, .int .i8 lr] 125 (0, 0))) (hg : w.heap[g]? = some (.cells cur 5 (0, 0))) (hcs : cur.size = cap) (hlc : l ≤ cap) (hl0 : ¬ l = 0) (hroom : cap - l < n) (hlim : l + n ≤ 140737488355328) (h1 : ∀ v ∈ cur.toList.take l, v.oneCell' = true) :
 Calls Tryz.prog 166 #[.pointer (some ⟨b, 0, none⟩), .int .i64 n] w (fun e w' => e = .returned (.int .i64 l) ∧ GrEnd b l n lr (cur.toList.take l) w w') := by
 have hnil : ∀ W, (binOp .eql 121 (.slice (some ⟨g, 0, none⟩) l cap) (.slice none 0 0)).run Tryz.prog W = .ok (.bool false) W := fun W => Lib.run_eql_slice_some_nil W _ _ _ Tryz.underlying121
 have c0 := blk_cell hb 0
 have c1 := blk_cell hb 1
 simp only [List.getElem?_toArray, List.getElem?_cons_zero, List.getElem?_cons_succ] at c0 c1
 have HB := hid hb
 have HG := hid hg
 have hcl : cap ≤ 140737488355328 := by omega
 have hn1 : 1 ≤ n := by omega
 clear hb hg
 go_enter Tryz.func166, Tryz.ntmps166
 go_wp2_with fail
 refine (buf_len b l cap (some ⟨g, 0, none⟩) w c0 c1 (by omega)).mono ?_
 rintro e W0 ⟨rfl, hsm⟩
 have hb0 : W0.heap[b]? = some (.cells #[.slice (some ⟨g, 0, none⟩) l cap, .int .i64 0, .int .i8 lr] 125 (0, 0)) := by rw [hsm.heap]; exact HB.out
 have hg0 : W0.heap[g]? = some (.cells cur 5 (0, 0)) := by rw [hsm.heap]; exact HG.out
 have k0 := blk_cell hb0 0
 have k1 := blk_cell hb0 1
 have f0 := blk_free hb0 0
 have f1 := blk_free hb0 1
 have lb := blk_lt hb0
 simp only [List.getElem?_toArray, List.getElem?_cons_zero, List.getElem?_cons_succ] at k0 k1
 have HB0 := hid hb0
 have HG0 := hid hg0
 have HSM := hid hsm
 clear hb0 hg0 hsm c0 c1
 go_wp2_with fail
 refine (Tryz.Buffer_tryGrow_none b (some ⟨g, 0, none⟩) l cap n W0 k0 hlc (by unfold maxLen; omega) hroom).mono ?_
 rintro e w1 ⟨rfl, rfl⟩
 have hwn : IntKind.i64.wrap (0 + (n : Int)) = n := by rw [IntKind.wrap_i64]; omega
 have hwn2 : IntKind.i64.wrap (n : Int) = n := by rw [IntKind.wrap_i64]; omega
 go_wp2_with fail
 go_region_with (
  go_at_call 168
  refine (Tryz.bytes_growSlice_row g l cap n cur _ ?_ hcs hlc hn1 hlim hcl h1).mono ?_;exact HG0.out;rintro e w2 ⟨cap2, cells, rfl, hN, hcsz, htk, hcap2, hcm2, hbel⟩;have hbk2 : w2.heap[b]? = some (.cells #[.slice (some ⟨g, 0, none⟩) l cap, .int .i64 0, .int .i8 lr] 125 (0, 0)) := (hbel.block b lb).trans HB0.out;have d0 := blk_cell hbk2 0;have d1 := blk_cell hbk2 1;have e0 := blk_free hbk2 0
  have e1 := blk_free hbk2 1;simp only [List.getElem?_toArray, List.getElem?_cons_zero, List.getElem?_cons_succ] at d0 d1)
 all_goals
  go_wp2_with fail;go_ret
  refine ⟨rfl, gr_row (((HSM.out.drew).fr _).trans (Fr.of0 (Fr.ofBelow hbel))) hbk2 hN ?_ ?_ hcsz hcap2 hcm2 htk⟩
  · show w.heap.size ≤ w1.heap.size
    rw [HSM.out.heap]; exact Nat.le_refl _
  · exact Nat.ne_of_gt lb
theorem grow_row (b g l cap n : Nat) (lr : Int) (cur : Array Value) (w : World) (hb : w.heap[b]? = some (.cells #[.slice (some ⟨g, 0, none⟩) l cap, .int .i64 0, .int .i8 lr] 125 (0, 0))) (hg : w.heap[g]? = some (.cells cur 5 (0, 0))) (hcs : cur.size = cap) (hlc : l ≤ cap) (hroom : cap - l < n) (hlim : l + n ≤ 140737488355328) (h1 : ∀ v ∈ cur.toList.take l, v.oneCell' = true) :
 Calls Tryz.prog 166 #[.pointer (some ⟨b, 0, none⟩), .int .i64 n] w (fun e w' => e = .returned (.int .i64 l) ∧ GrEnd b l n lr (cur.toList.take l) w w') := by
 by_cases h0 : l = 0
 · subst h0
   exact grow_row0_ b g cap n lr cur w hb hg hcs hlc hroom hlim h1
 · exact grow_row_ b g l cap n lr cur w hb hg hcs hlc h0 hroom hlim h1
theorem grow_nil (b n : Nat) (lr : Int) (w : World) (hb : w.heap[b]? = some (.cells #[.slice none 0 0, .int .i64 0, .int .i8 lr] 125 (0, 0))) (hn : 1 ≤ n) (hlim : n ≤ 140737488355328) :
 Calls Tryz.prog 166 #[.pointer (some ⟨b, 0, none⟩), .int .i64 n] w (fun e w' => e = .returned (.int .i64 0) ∧ GrEnd b 0 n lr [] w w') := by
 by_cases h : n ≤ 64
 · exact grow_small b n lr w hb hn h
 · exact grow_big b n lr w hb (by omega) hlim
def BufAt (b : Nat) (w : World) (own : Nat → Prop) (ws : List Mu.B) : Prop :=
 (ws.flatten = [] ∧ (∀ k, own k ↔ k = b) ∧ ∃ lr, w.heap[b]? = some (.cells #[.slice none 0 0, .int .i64 0, .int .i8 lr] 125 (0, 0))) ∨
 ∃ g cap cur lr, (∀ k, own k ↔ k = b ∨ k = g) ∧ w.heap[b]? = some (.cells #[.slice (some ⟨g, 0, none⟩) ws.flatten.length cap, .int .i64 0, .int .i8 lr] 125 (0, 0)) ∧ g ≠ b ∧ w.heap[g]? = some (.cells cur 5 (0, 0)) ∧ cur.size = cap ∧ ws.flatten.length ≤ cap ∧ cap ≤ maxLen ∧ cur.toList.take ws.flatten.length = Lib.byteCells ws.flatten
theorem BufAt.is {b : Nat} {w : World} {own : Nat → Prop} {ws : List Mu.B} (h : BufAt b w own ws) : Lib.IsBuffer 125 5 0 b (Lib.byteCells ws.flatten) w := by
 rcases h with ⟨h1, -, lr, h2⟩ | ⟨g, cap, cur, lr, -, h2, h3, h4, h5, h6, h7, h8⟩
 · rw [h1]
   exact ⟨Nat.zero_le _, _, lr, h2, World.ownsRow_nil _ _ _ _, by simp [Value.ownBlock]⟩
 · have hl : (Lib.byteCells ws.flatten).length = ws.flatten.length := Lib.byteCells_length _
   refine ⟨Nat.zero_le _, _, lr, h2, ⟨by rw [Nat.mul_one], .inr ⟨g, cap, cur, by rw [hl], Nat.zero_le _, h4, by rw [hl]; exact h6, h7, by omega, ?_⟩⟩, by simpa [Value.ownBlock] using h3⟩;rw [Nat.mul_one, hl]; exact h8
theorem fr_setRow {M : Nat → Prop} {w w' : World} (h : Fr M w w') {g : Nat} (hg : M g ∨ w.heap.size ≤ g) (cs : Array Value) : Fr M w (w'.setRow g cs) :=
 ⟨h.os, h.tape, h.output, by rw [setRow_size]; exact h.size, fun i hi hm => (setRow_other w' g i cs (fun e => by
  subst e
  rcases hg with hg | hg
  · exact hm hg
  · omega)).trans (h.block i hi hm)⟩
theorem buf_done {b g cap : Nat} {cur : Array Value} {lr : Int} {w w1 : World} {own : Nat → Prop} {ws : List Mu.B} {t : Mu.B} (hf : Fr own w w1) (ho : own b) (hog : own g ∨ w.heap.size ≤ g)
 (hb : w1.heap[b]? = some (.cells #[.slice (some ⟨g, 0, none⟩) (ws.flatten.length + t.length) cap, .int .i64 0, .int .i8 lr] 125 (0, 0))) (hne : g ≠ b) (hg : w1.heap[g]? = some (.cells cur 5 (0, 0))) (hcs : cur.size = cap) (hl : ws.flatten.length + t.length ≤ cap) (hcm : cap ≤ maxLen) (htk : cur.toList.take ws.flatten.length = Lib.byteCells ws.flatten) :
 ∃ own', BufAt b (w1.setRow g (cur.toList.take ws.flatten.length ++ Lib.byteCells t ++ cur.toList.drop (ws.flatten.length + t.length)).toArray) own' (ws ++ [t]) ∧ Fr own w (w1.setRow g (cur.toList.take ws.flatten.length ++ Lib.byteCells t ++ cur.toList.drop (ws.flatten.length + t.length)).toArray) ∧ ∀ k, own' k → own k ∨ (w.heap.size ≤ k ∧ k < (w1.setRow g (cur.toList.take ws.flatten.length ++ Lib.byteCells t ++ cur.toList.drop (ws.flatten.length + t.length)).toArray).heap.size) := by
 have hlen : (ws ++ [t]).flatten = ws.flatten ++ t := by simp
 have hbl : (Lib.byteCells ws.flatten).length = ws.flatten.length := Lib.byteCells_length _
 have htl : (Lib.byteCells t).length = t.length := Lib.byteCells_length _
 refine ⟨fun k => k = b ∨ k = g, .inr ⟨g, cap, _, lr, fun k => Iff.rfl, ?_, hne, setRow_heap w1 g cur _ _ _ hg, ?_, ?_, hcm, ?_⟩, fr_setRow hf hog _, ?_⟩
 · rw [setRow_other _ _ _ _ (Ne.symm hne), hlen, List.length_append]; exact hb
 · rw [List.size_toArray, List.length_append, List.length_append, htl, List.length_take, List.length_drop, Array.length_toList (xs := cur)]; omega
 · rw [hlen, List.length_append]; exact hl
 · rw [hlen, List.length_append, htk]
   rw [List.take_append_of_le_length (by rw [List.length_append, hbl, htl]; exact Nat.le_refl _), List.take_of_length_le (by rw [List.length_append, hbl, htl]; exact Nat.le_refl _)];simp [Lib.byteCells]
 · rintro k (rfl | rfl)
   · exact .inl ho
   · rcases hog with h | h
     · exact .inl h
     · exact .inr ⟨h, by rw [setRow_size]; exact blk_lt hg⟩
theorem infoU8s : (Tryz.prog.info? 5).map (·.size) = some 1 := by kernel_rfl
end Go.Proofs.YtfakghnpkdoclaaGreatDoor
namespace Go.Proofs.YtfakghnpkdoclaaGreatDoor
open Go.RowKit
open Go.Lib (hid)
theorem write_none (b : Nat) (w : World) (own : Nat → Prop) (ws : List Mu.B) (gs c : Nat) (h : BufAt b w own ws) :
 Calls Tryz.prog 164 #[.pointer (some ⟨b, 0, none⟩), .slice (some ⟨gs, 0, none⟩) 0 c] w (WPost (BufAt b) own ws [] w) := by
 have hce : ∀ d dLen dCap W, (Builtin.copy_ #[121, 121] 3 #[.slice d dLen dCap, .slice (some ⟨gs, 0, none⟩) 0 c]).run Tryz.prog W = .ok (goInt 0) W := fun d dLen dCap W => run_copy_none W 121 121 3 5 d (some ⟨gs, 0, none⟩) dLen dCap 0 c Tryz.underlying121 infoU8s (by simp)
 obtain ⟨ao, l, cap, lr, hb, hlc, hcm, hao, HF⟩ : ∃ ao l cap lr, w.heap[b]? = some (.cells #[.slice ao l cap, .int .i64 0, .int .i8 lr] 125 (0, 0)) ∧ l ≤ cap ∧ cap ≤ maxLen ∧ (ao = none ∧ l = 0 ∧ cap = 0 ∨ ∃ g, ao = some ⟨g, 0, none⟩) ∧ Hid (∀ W, W = (w.setCell ⟨b, 2, none⟩ (.int .i8 0)).setCell ⟨b, 0, none⟩ (.slice ao l cap) → WPost (BufAt b) own ws [] w (.returned (.tuple #[.int .i64 0, .nilIface])) W) := by
  have hfl : (ws ++ [[]]).flatten = ws.flatten := by simp
  rcases h with ⟨h1, h2, lr, h3⟩ | ⟨g, cap, cur, lr, h2, h3, h4, h5, h6, h7, h8, h9⟩
  · refine ⟨none, 0, 0, lr, h3, Nat.le_refl _, Nat.zero_le _, .inl ⟨rfl, rfl, rfl⟩, hid (fun W hW => ?_)⟩
    have e1 := blk_set (i := 0) (.slice none 0 0) (blk_set (i := 2) (.int .i8 0) h3);refine ⟨own, rfl, .inl ⟨by rw [hfl]; exact h1, h2, 0, by rw [hW, e1]; simp⟩, by rw [hW]; exact ((Fr.refl own w).setA ⟨b, 2, none⟩ _ (.inl ((h2 b).2 rfl))).setA ⟨b, 0, none⟩ _ (.inl ((h2 b).2 rfl)), fun k hk => .inl hk⟩
  · refine ⟨some ⟨g, 0, none⟩, ws.flatten.length, cap, lr, h3, h7, h8, .inr ⟨g, rfl⟩, hid (fun W hW => ?_)⟩
    have e1 := blk_set (i := 0) (.slice (some ⟨g, 0, none⟩) ws.flatten.length cap) (blk_set (i := 2) (.int .i8 0) h3)
    refine ⟨own, rfl, .inr ⟨g, cap, cur, 0, h2, by rw [hW, e1, hfl]; simp, h4, ?_, h6, by rw [hfl]; exact h7, h8, by rw [hfl]; exact h9⟩, by rw [hW]; exact ((Fr.refl own w).setA ⟨b, 2, none⟩ _ (.inl ((h2 b).2 (.inl rfl)))).setA ⟨b, 0, none⟩ _ (.inl ((h2 b).2 (.inl rfl))), fun k hk => .inl hk⟩;rw [hW, Below.heap_setCell _ ⟨b, 0, none⟩ _ g h4, Below.heap_setCell _ ⟨b, 2, none⟩ _ g h4];exact h5
 clear h
 have c0 := blk_cell hb 0
 have c2 := blk_cell hb 2
 have f0 := blk_free hb 0
 have f2 := blk_free hb 2
 have lb := blk_lt hb
 simp only [List.getElem?_toArray, List.getElem?_cons_zero, List.getElem?_cons_succ] at c0 c2
 have hb2 := blk_set (i := 2) (.int .i8 0) hb
 have k0 := blk_cell hb2 0
 have g0 := blk_free hb2 0
 simp at k0
 have HT : Hid (Calls Tryz.prog 165 #[.pointer (some ⟨b, 0, none⟩), .int .i64 0] (w.setCell ⟨b, 2, none⟩ (.int .i8 0)) _) := hid (Tryz.Buffer_tryGrow_room b ao l cap 0 _ k0 g0 hlc hcm (Nat.zero_le _))
 have HJ : Hid (((w.setCell ⟨b, 2, none⟩ (.int .i8 0)).setCell ⟨b, 0, none⟩ (.slice ao (l + 0) cap)).cell? ⟨b, 0, none⟩ = some (.slice ao l cap)) := hid (by
  have := blk_cell (blk_set (i := 0) (.slice ao (l + 0) cap) hb2) 0;simpa using this)
 clear hb hb2
 unfold maxLen at hcm
 go_enter Tryz.func164, Tryz.ntmps164
 go_wp2_with fail
 refine HT.out.mono ?_
 rintro e w1 ⟨rfl, hw1⟩
 have HW := hid hw1
 have j0 : w1.cell? ⟨b, 0, none⟩ = some (.slice ao l cap) := by
  rw [hw1]; exact HJ.out
 clear hw1
 rcases hao with ⟨rfl, rfl, rfl⟩ | ⟨g, rfl⟩
 all_goals
  go_wp2_with fail
  all_goals
   go_ret2
   exact HF.out _ HW.out
theorem write_some (b : Nat) (w : World) (own : Nat → Prop) (ws : List Mu.B) (gs c : Nat) (t : Mu.B) (h : BufAt b w own ws) (ht : t ≠ []) (hsrc : ∀ j v, (Lib.byteCells t)[j]? = some v → w.cell? ⟨gs, j, none⟩ = some v) (hgs : gs < w.heap.size ∧ ¬ own gs) (hft : ws.flatten.length + t.length ≤ 65536) :
 Calls Tryz.prog 164 #[.pointer (some ⟨b, 0, none⟩), .slice (some ⟨gs, 0, none⟩) t.length c] w (WPost (BufAt b) own ws t w) := by
 have htl : 0 < t.length := List.length_pos_iff.2 ht
 obtain ⟨ao, cap, lr, hob, hb, hlc, hcm, HX⟩ : ∃ ao cap lr, own b ∧ w.heap[b]? = some (.cells #[.slice ao ws.flatten.length cap, .int .i64 0, .int .i8 lr] 125 (0, 0)) ∧ ws.flatten.length ≤ cap ∧ cap ≤ maxLen ∧ Hid ((ao = none ∧ ws.flatten = [] ∧ cap = 0) ∨ ∃ g cur, ao = some ⟨g, 0, none⟩ ∧ own g ∧ g ≠ b ∧ w.heap[g]? = some (.cells cur 5 (0, 0)) ∧ cur.size = cap ∧ cur.toList.take ws.flatten.length = Lib.byteCells ws.flatten) := by
  rcases h with ⟨h1, h2, lr, h3⟩ | ⟨g, cap, cur, lr, h2, h3, h4, h5, h6, h7, h8, h9⟩
  · exact ⟨none, 0, lr, (h2 b).2 rfl, by rw [h1]; exact h3, by rw [h1]; exact Nat.le_refl _, Nat.zero_le _, hid (.inl ⟨rfl, h1, rfl⟩)⟩
  · exact ⟨some ⟨g, 0, none⟩, cap, lr, (h2 b).2 (.inl rfl), h3, h7, h8, hid (.inr ⟨g, cur, rfl, (h2 g).2 (.inr rfl), h4, h5, h6, h9⟩)⟩
 clear h
 have hgb : gs ≠ b := fun e => hgs.2 (e ▸ hob)
 have c0 := blk_cell hb 0
 have c2 := blk_cell hb 2
 have f0 := blk_free hb 0
 have f2 := blk_free hb 2
 have lb := blk_lt hb
 simp only [List.getElem?_toArray, List.getElem?_cons_zero, List.getElem?_cons_succ] at c0 c2
 obtain ⟨wA, hwA⟩ : ∃ wA, wA = w.setCell ⟨b, 2, none⟩ (.int .i8 0) := ⟨_, rfl⟩
 have hbA : wA.heap[b]? = some (.cells #[.slice ao ws.flatten.length cap, .int .i64 0, .int .i8 0] 125 (0, 0)) := by
  rw [hwA, blk_set _ hb]; simp
 have hfA : Fr (· = b) w wA := by rw [hwA]; exact (Fr.refl (· = b) w).setA ⟨b, 2, none⟩ _ (.inl rfl)
 have HDONE : Hid (∀ (w1 : World) (g cap1 : Nat) (cur1 : Array Value), Fr (· = b) w w1 → w1.heap[b]? = some (.cells #[.slice (some ⟨g, 0, none⟩) (ws.flatten.length + t.length) cap1, .int .i64 0, .int .i8 0] 125 (0, 0)) → (own g ∨ w.heap.size ≤ g) → g ≠ b → w1.heap[g]? = some (.cells cur1 5 (0, 0)) → cur1.size = cap1 → ws.flatten.length + t.length ≤ cap1 → cap1 ≤ maxLen → cur1.toList.take ws.flatten.length = Lib.byteCells ws.flatten →
  w1.cell? ⟨b, 0, none⟩ = some (.slice (some ⟨g, 0, none⟩) (ws.flatten.length + t.length) cap1) ∧ ∃ W, (Builtin.copy_ #[121, 121] 3 #[.slice (some ⟨g, ws.flatten.length, none⟩) t.length (cap1 - ws.flatten.length), .slice (some ⟨gs, 0, none⟩) t.length c]).run Tryz.prog w1 = .ok (goInt t.length) W ∧ Hid (WPost (BufAt b) own ws t w (.returned (.tuple #[.int .i64 t.length, .nilIface])) W)) := hid (by
  intro w1 g cap1 cur1 hf1 hb1 hog hne hg1 hcs1 hl1 hcm1 htk1;have d0 := blk_cell hb1 0;simp only [List.getElem?_toArray, List.getElem?_cons_zero] at d0
  have hsrc1 : ∀ j v, (Lib.byteCells t)[j]? = some v → w1.cell? ((⟨gs, 0, none⟩ : Addr).add j) = some v := fun j v hj => by
   have e1 : (⟨gs, 0, none⟩ : Addr).add j = ⟨gs, j, none⟩ := by unfold Addr.add; split <;> simp_all
   rw [e1];exact (World.cell?_of_block (w := w) (a := ⟨gs, j, none⟩) (hf1.block gs hgs.1 hgb)).trans (hsrc j v hj)
  have hcp := run_copy_row (P := Tryz.prog) w1 121 121 3 5 g ws.flatten.length t.length (cap1 - ws.flatten.length) ⟨gs, 0, none⟩ t.length c cur1 5 (Lib.byteCells t) Tryz.underlying121 infoU8s hg1 (by rw [Lib.byteCells_length]; exact (Nat.min_self _).symm) hsrc1 (by rw [Lib.byteCells_length]; omega) (Lib.byteCells_one t);rw [Lib.byteCells_length] at hcp
  obtain ⟨own', h1, h2, h3⟩ := buf_done (hf1.mono (fun i _ hi => by rw [hi]; exact hob)) hob hog hb1 hne hg1 hcs1 hl1 hcm1 htk1;exact ⟨d0, _, hcp, hid ⟨own', rfl, h1, h2, h3⟩⟩)
 have k0 := blk_cell hbA 0
 have g0 := blk_free hbA 0
 simp only [List.getElem?_toArray, List.getElem?_cons_zero] at k0
 have HBA := hid hbA
 have HFA := hid hfA
 have HWA := hid hwA
 obtain ⟨l, hl⟩ : ∃ l, l = ws.flatten.length := ⟨_, rfl⟩
 rw [← hl] at HDONE k0 hlc hft c0 HBA
 have HL := hid hl
 clear hb hbA hfA hsrc hgs hgb
 have hcm' := hcm
 unfold maxLen at hcm'
 go_enter Tryz.func164, Tryz.ntmps164
 go_wp2_with fail
 rw [← HWA.out]
 clear hwA hl
 by_cases hroom : t.length ≤ cap - l
 · refine (Tryz.Buffer_tryGrow_room b ao l cap t.length wA k0 g0 hlc hcm hroom).mono ?_
   rintro e w1 ⟨rfl, hw1⟩
   obtain ⟨g, hd0, W, hcp, HP, rfl⟩ : ∃ g, w1.cell? ⟨b, 0, none⟩ = some (.slice (some ⟨g, 0, none⟩) (l + t.length) cap) ∧ ∃ W, (Builtin.copy_ #[121, 121] 3 #[.slice (some ⟨g, l, none⟩) t.length (cap - l), .slice (some ⟨gs, 0, none⟩) t.length c]).run Tryz.prog w1 = .ok (goInt t.length) W ∧ Hid (WPost (BufAt b) own ws t w (.returned (.tuple #[.int .i64 t.length, .nilIface])) W) ∧ ao = some ⟨g, 0, none⟩ := by
    rcases HX.out with ⟨h1, h2, h3⟩ | ⟨g, cur, h1, h2, h3, h4, h5, h6⟩
    · omega
    · subst h1
      have e1 := blk_set (i := 0) (.slice (some ⟨g, 0, none⟩) (l + t.length) cap) HBA.out;have hfw : Fr (· = b) w w1 := by rw [hw1]; exact HFA.out.setA ⟨b, 0, none⟩ _ (.inl rfl)
      obtain ⟨r1, W, r2, r3⟩ := HDONE.out w1 g cap cur hfw (by rw [hw1, e1]; simp) (.inl h2) h3 (by rw [hw1, Below.heap_setCell _ ⟨b, 0, none⟩ _ g h3, HWA.out, Below.heap_setCell _ ⟨b, 2, none⟩ _ g h3]; exact h4) h5 (by omega) hcm (by rw [HL.out]; exact h6);exact ⟨g, r1, W, r2, r3, rfl⟩
   clear hw1;go_wp2_with fail
   all_goals
    go_ret2
    exact HP.out
 · refine (Tryz.Buffer_tryGrow_none b ao l cap t.length wA k0 hlc hcm (by omega)).mono ?_
   rintro e w1 ⟨rfl, hw1⟩
   have HG : Hid (Calls Tryz.prog 166 #[.pointer (some ⟨b, 0, none⟩), .int .i64 t.length] wA (fun e w' => e = .returned (.int .i64 l) ∧ GrEnd b l t.length 0 (Lib.byteCells ws.flatten) wA w')) := hid (by
    rcases HX.out with ⟨h1, h2, h3⟩ | ⟨g, cur, h1, h2, h3, h4, h5, h6⟩
    · have hl0 : l = 0 := by rw [HL.out, h2]; rfl
      have hbA := HBA.out;subst h1 h3 hl0;rw [h2];exact grow_nil b t.length 0 wA hbA htl (by omega)
    · subst h1
      have := grow_row b g l cap t.length 0 cur wA HBA.out (by rw [HWA.out, Below.heap_setCell _ ⟨b, 2, none⟩ _ g h3]; exact h4) h5 hlc (by omega) (by omega) (by rw [HL.out, h6]; exact Lib.byteCells_one _);rw [HL.out, h6] at this;rw [HL.out];exact this)
   subst hw1;go_wp2_with fail;refine HG.out.mono ?_;rintro e w2 ⟨rfl, hge⟩
   obtain ⟨g, cap1, hd0, hlc1, hcm1, W, hcp, HP⟩ : ∃ g cap1, w2.cell? ⟨b, 0, none⟩ = some (.slice (some ⟨g, 0, none⟩) (l + t.length) cap1) ∧ l + t.length ≤ cap1 ∧ cap1 ≤ maxLen ∧ ∃ W, (Builtin.copy_ #[121, 121] 3 #[.slice (some ⟨g, l, none⟩) t.length (cap1 - l), .slice (some ⟨gs, 0, none⟩) t.length c]).run Tryz.prog w2 = .ok (goInt t.length) W ∧ Hid (WPost (BufAt b) own ws t w (.returned (.tuple #[.int .i64 t.length, .nilIface])) W) := by
    obtain ⟨g2, cap2, cells, q1, q2, q3, q4, q5, q6, q7, q8, q9⟩ := hge;obtain ⟨r1, W, r2, r3⟩ := HDONE.out w2 g2 cap2 cells (HFA.out.trans q7) q1 (.inr (by have := HFA.out.size; omega)) q9 q2 q3 q4 q5 q6;exact ⟨g2, cap2, r1, q4, q5, W, r2, r3⟩
   clear hge;unfold maxLen at hcm1;go_wp2_with fail
   all_goals
    go_ret2
    exact HP.out
theorem buf_writer (b : Nat) : Writer 127 b 164 (BufAt b) where
 nila w := by kernel_rfl
 meth w := by kernel_rfl
 ent args w := by kernel_rfl
 write w own ws S sv t h ht hS hft := by
  obtain ⟨g, c, rfl, hSg, hc, hcell⟩ := ht
  by_cases h0 : t = []
  · subst h0
    exact write_none b w own ws g c h
  · refine write_some b w own ws g c t h h0 (fun j v hj => ?_) (hS g hSg) (by have := hft.2; simpa using this)
    have hj2 : j < t.length := by
     have := (List.getElem?_eq_some_iff.1 hj).1
     rwa [Lib.byteCells_length] at this
    rw [hcell j hj2, ← hj];simp [Lib.byteCells, List.getD_eq_getElem?_getD, List.getElem?_eq_getElem hj2]
 lt w own ws h k hk := by
  rcases h with ⟨h1, h2, lr, h3⟩ | ⟨g, cap, cur, lr, h2, h3, h4, h5, h6, h7, h8, h9⟩
  · rw [(h2 k).1 hk]; exact blk_lt h3
  · rcases (h2 k).1 hk with rfl | rfl
    · exact blk_lt h3
    · exact blk_lt h5
 fr w w' M own ws h hf hM := by
  rcases h with ⟨h1, h2, lr, h3⟩ | ⟨g, cap, cur, lr, h2, h3, h4, h5, h6, h7, h8, h9⟩
  · exact .inl ⟨h1, h2, lr, hf.blk h3 (hM b ((h2 b).2 rfl))⟩
  · exact .inr ⟨g, cap, cur, lr, h2, hf.blk h3 (hM b ((h2 b).2 (.inl rfl))), h4, hf.blk h5 (hM g ((h2 g).2 (.inr rfl))), h6, h7, h8, h9⟩
end Go.Proofs.YtfakghnpkdoclaaGreatDoor
