/-
  The specification's render, a round. (Joined by wip/pack.py.)
-/
import Derived.Test.YtfakghnpkdoclaaGreatDoorGV2
import Derived.Test.YtfakghnpkdoclaaGreatDoorGC2
import Derived.Test.YtfakghnpkdoclaaGreatDoorGT1
import Derived.Test.YtfakghnpkdoclaaGreatDoorGP2
import Derived.Test.YtfakghnpkdoclaaGreatDoorGC1
set_option linter.unusedVariables false
set_option linter.unusedSimpArgs false
set_option maxRecDepth 100000
set_option maxHeartbeats 8000000
namespace Go.Proofs.YtfakghnpkdoclaaGreatDoor
open Go.RowKit
open Go.Lib (hid)
def RuAt (w : World) (r : Nat) (pv : Value) (raw : Bool) : Option Mu.RS → Prop
 | some st => w.heap[r]? = some (.cells #[pv, .bool raw, .bool false, .bool st.missing, .int .i64 (st.pieces : Nat), .int .i64 (st.asked : Nat)] 54 (0, 0))
 | none => ∃ (m : Bool) (p a : Int), w.heap[r]? = some (.cells #[pv, .bool raw, .bool true, .bool m, .int .i64 p, .int .i64 a] 54 (0, 0))
def RnPost (K r : Nat) (pv : Value) (raw : Bool) (s0 : Option Mu.RS) (R : Option (Mu.B × Mu.RS)) (w : World) (e : Ending) (w' : World) : Prop :=
 ∃ o : ByteArray, e = .returned (.string o) ∧ Hid (RuAt w' r pv raw (R.map (·.2)) ∧ (∀ x, R = some x → L o = x.1) ∧ o.size + K * Mu.Pc s0 ≤ K * Mu.Pc (R.map (·.2)) ∧ Fr (· = r) w w')
def StAt (w : World) (r T : Nat) (sv : Value) (stack : List Mu.Val) : Prop :=
 stack ≠ [] ∧ (∀ v ∈ stack, Mu.VW T v) ∧ ∃ S us, VsAt w S sv us ∧ DsAt w S stack us ∧ ∀ k, S k → k < w.heap.size ∧ k ≠ r
def NdAt (w : World) (r : Nat) (v : Value) (ns : List Mu.Node) : Prop := ∃ S vs, RowN w S 5 v ns.length vs ∧ NsAt w S ns vs ∧ ∀ k, S k → k < w.heap.size ∧ k ≠ r
def PvAt (w : World) (r : Nat) (pv : Value) (ps : List (ByteArray × ByteArray)) : Prop := ∃ W, PsAt W pv ps ∧ Below W.heap.size W w ∧ W.heap.size ≤ r
theorem StAt.fr {w w' : World} {r T : Nat} {sv : Value} {stack : List Mu.Val} (h : StAt w r T sv stack) (hf : Fr (· = r) w w') : StAt w' r T sv stack := by
 obtain ⟨h1, h2, S, us, h3, h4, h5⟩ := h
 have hk : Keep S w w' := fun k hk => hf.block k (h5 k hk).1 (h5 k hk).2
 exact ⟨h1, h2, S, us, h3.keep hk (fun _ h => h), DsAt.keep hk (fun _ h => h) _ _ h4, fun k hk => ⟨Nat.lt_of_lt_of_le (h5 k hk).1 hf.size, (h5 k hk).2⟩⟩
theorem NdAt.fr {w w' : World} {r : Nat} {v : Value} {ns : List Mu.Node} (h : NdAt w r v ns) (hf : Fr (· = r) w w') : NdAt w' r v ns := by
 obtain ⟨S, vs, h3, h4, h5⟩ := h
 have hk : Keep S w w' := fun k hk => hf.block k (h5 k hk).1 (h5 k hk).2
 exact ⟨S, vs, h3.keep hk (fun _ h => h), NsAt.keep hk (fun _ h => h) _ _ h4, fun k hk => ⟨Nat.lt_of_lt_of_le (h5 k hk).1 hf.size, (h5 k hk).2⟩⟩
theorem PvAt.fr {w w' : World} {r : Nat} {pv : Value} {ps : List (ByteArray × ByteArray)} (h : PvAt w r pv ps) (hf : Fr (· = r) w w') : PvAt w' r pv ps := by
 obtain ⟨W, h1, h2, h3⟩ := h
 exact ⟨W, h1, h2.trans (hf.below h2.size (fun k hk h => by omega)), h3⟩
theorem PvAt.ps {w : World} {r : Nat} {pv : Value} {ps : List (ByteArray × ByteArray)} (h : PvAt w r pv ps) : PsAt w pv ps := by
 obtain ⟨W, h1, h2, h3⟩ := h
 exact h1.below h2
theorem NdAt.one {w : World} {r : Nat} {a : Option Addr} {c : Nat} {ns : List Mu.Node} (h : NdAt w r (.slice a ns.length c) ns) (k : Nat) (hk : k < ns.length) : ∃ (g kd : Nat) (raw : Bool) (tb ib : ByteArray) (ka : Option Addr) (kids : List Mu.Node) (kc : Nat),
 a = some ⟨g, 0, none⟩ ∧ g < w.heap.size ∧ g ≠ r ∧ ns[k] = .mk kd (L tb) raw (L ib) kids ∧ w.cell? ⟨g, k * 5, none⟩ = some (.int .i64 kd) ∧ w.cell? ⟨g, k * 5 + 1, none⟩ = some (.string tb) ∧ w.cell? ⟨g, k * 5 + 2, none⟩ = some (.bool raw) ∧ w.cell? ⟨g, k * 5 + 3, none⟩ = some (.string ib) ∧ w.cell? ⟨g, k * 5 + 4, none⟩ = some (.slice ka kids.length kc) ∧
 NdAt w r (.slice ka kids.length kc) kids := by
 obtain ⟨S, vs, h1, h2, h3⟩ := h
 obtain ⟨g, c', kd, raw, tb, ib, sv, kids, us, hv, hSg, -, hnd, n0, n1, n2, n3, n4, hr2, hn2⟩ := h1.node h2 k hk
 injection hv with hv1 hv2 hv3
 obtain ⟨-, ka, kc, rfl, -⟩ := id hr2
 exact ⟨g, kd, raw, tb, ib, ka, kids, kc, hv1, (h3 g hSg).1, (h3 g hSg).2, hnd, n0, n1, n2, n3, n4, S, us, hr2, hn2, h3⟩
theorem NdAt.form {w : World} {r : Nat} {v : Value} {ns : List Mu.Node} (h : NdAt w r v ns) : ∃ a c, v = .slice a ns.length c := by
 obtain ⟨S, vs, ⟨-, a, c, h1, -⟩, -⟩ := h
 exact ⟨a, c, h1⟩
theorem RuAt.lt {w : World} {r : Nat} {pv : Value} {raw : Bool} {s : Option Mu.RS} (h : RuAt w r pv raw s) : r < w.heap.size := by
 cases s with
 | none => obtain ⟨m, p, a, h⟩ := h; exact blk_lt h
 | some st => exact blk_lt h
theorem RuAt.keep {w w' : World} {r : Nat} {pv : Value} {raw : Bool} {s : Option Mu.RS} (h : RuAt w r pv raw s) (hk : w'.heap[r]? = w.heap[r]?) : RuAt w' r pv raw s := by
 cases s with
 | none => obtain ⟨m, p, a, h⟩ := h; exact ⟨m, p, a, hk.trans h⟩
 | some st => exact hk.trans h
theorem RuAt.f0 {w w' : World} {r : Nat} {pv : Value} {raw : Bool} {s : Option Mu.RS} (h : RuAt w r pv raw s) (hf : F0 w w') : RuAt w' r pv raw s := h.keep (hf.block r h.lt id)
def RoC (K r : Nat) (pv : Value) (raw : Bool) : Prop := ∀ (ns : List Mu.Node) (nv sv : Value) (w : World), ns.length ≤ 85899346000 → NdAt w r nv ns → RuAt w r pv raw none →
 Calls Tryz.prog 32 #[.pointer (some ⟨r, 0, none⟩), nv, sv] w (RnPost K r pv raw none none w)
def RnC (K r T : Nat) (pv : Value) (ps : List (ByteArray × ByteArray)) (raw : Bool) (n : Nat) : Prop := ∀ (D : Nat) (ns : List Mu.Node) (stack : List Mu.Val) (nv sv : Value) (st : Mu.RS) (w : World), D + 400 * n ≤ 402000 → Mu.NsOk D ns → nszL ns ≤ 85899346000 → NdAt w r nv ns → StAt w r T sv stack → stack.length + n ≤ 3000 → PvAt w r pv ps → RuAt w r pv raw (some st) → st.pieces ≤ 1000 → 1002 ≤ n + st.pieces → st.asked ≤ 41 →
 Calls Tryz.prog 32 #[.pointer (some ⟨r, 0, none⟩), nv, sv] w (RnPost K r pv raw (some st) (Mu.srender (pL ps) raw n ns stack st) w)
theorem rn_empty {K r : Nat} {pv : Value} {raw : Bool} {s0 : Option Mu.RS} {w w' : World} (hp : Mu.Pc s0 ≤ 1001) (h : RuAt w' r pv raw none) (hf : Fr (· = r) w w') : RnPost K r pv raw s0 none w (.returned (.string ⟨#[]⟩)) w' :=
 ⟨_, rfl, hid ⟨h, (fun _ h => by cases h), by show 0 + K * Mu.Pc s0 ≤ K * 1001; rw [Nat.zero_add]; exact Nat.mul_le_mul_left _ hp, hf⟩⟩
theorem render_open (K r : Nat) (pv : Value) (raw : Bool) : RoC K r pv raw := by
 intro ns nv sv w hnl hnd hru
 obtain ⟨a, c, rfl⟩ := hnd.form
 obtain ⟨m, p, q, hb⟩ := hru
 have HND := hid hnd
 have HB := hid hb
 have c4 := blk_cell hb 4
 have c5 := blk_cell hb 5
 have c2 := blk_cell hb 2
 have f4 := blk_free hb 4
 have f2 := blk_free hb 2
 have hl := blk_lt hb
 simp only [List.getElem?_toArray, List.getElem?_cons_zero, List.getElem?_cons_succ] at c4 c5 c2
 have hw0 : IntKind.i64.wrap (1 + (ns.length : Int)) = 1 + (ns.length : Int) := by rw [IntKind.wrap_i64]; omega
 obtain ⟨P, hP⟩ : ∃ P, IntKind.i64.wrap (p + (1 + (ns.length : Int))) = P := ⟨_, rfl⟩
 obtain ⟨w1, hw1⟩ : ∃ w1, w1 = w.setCell ⟨r, 4, none⟩ (.int .i64 P) := ⟨_, rfl⟩
 have hb1 : w1.heap[r]? = some (.cells #[pv, .bool raw, .bool true, .bool m, .int .i64 P, .int .i64 q] 54 (0, 0)) := by
  rw [hw1];have := blk_set (i := 4) (.int .i64 P) hb;simpa using this
 have hf1 : Fr (· = r) w w1 := by rw [hw1]; exact (Fr.refl _ _).setA _ _ (.inl rfl)
 obtain ⟨w2, hw2⟩ : ∃ w2, w2 = w1.setCell ⟨r, 2, none⟩ (.bool true) := ⟨_, rfl⟩
 have hb2 : w2.heap[r]? = some (.cells #[pv, .bool raw, .bool true, .bool m, .int .i64 P, .int .i64 q] 54 (0, 0)) := by
  rw [hw2];have := blk_set (i := 2) (.bool true) hb1;simpa using this
 have hf2 : Fr (· = r) w w2 := by rw [hw2]; exact hf1.setA _ _ (.inl rfl)
 have HW1 := hid hw1
 have HW2 := hid hw2
 have HB1 := hid hb1
 have HB2 := hid hb2
 have HF1 := hid hf1
 have HF2 := hid hf2
 clear hnd hb hw1 hw2 hb1 hb2 hf1 hf2
 have key : ∀ (wq : World) (HQ : Hid (wq.heap[r]? = some (.cells #[pv, .bool raw, .bool true, .bool m, .int .i64 P, .int .i64 q] 54 (0, 0)))) (HFQ : Hid (Fr (· = r) w wq)), True := fun _ _ _ => trivial
 clear key
 cases h1 : decide ((1000 : Int) < P) with
 | true =>
  go_enter Tryz.func32, Tryz.ntmps32;go_wp2_with fail;rw [← HW1.out, ← HW2.out]
  go_loopg [7, 40] 0 (fun g v7 v wr => v7 = .string ⟨#[]⟩ ∧ v = .int .i64 0 ∧ g = 0 ∧ w2 = wr)
  case atStart => exact ⟨rfl, rfl, rfl, rfl⟩
  case round =>
   obtain ⟨rfl, rfl, rfl, rfl⟩ := hrel;have hbq := HB2.out;have d2 := blk_cell hbq 2;have hlq := blk_lt hbq;simp only [List.getElem?_toArray, List.getElem?_cons_zero, List.getElem?_cons_succ] at d2;clear hbq
   by_cases hlt : 0 < ns.length
   · obtain ⟨g, kd, nraw, tb, ib, ka, kids, kc, rfl, hgl, hgr, -, n0, n1, n2, n3, n4, -⟩ := (HND.out.fr HF2.out).one 0 hlt
     simp only [Nat.zero_mul, Nat.zero_add] at n0 n1 n2 n3 n4;go_wp2_with fail;go_ret;exact rn_empty (s0 := none) (Nat.le_refl 1001) (RuAt.f0 ⟨m, P, q, HB2.out⟩ (Fr.alloc _ _ _)) (HF2.out.allocA _)
   · go_wp2_with fail
     go_ret;exact rn_empty (s0 := none) (Nat.le_refl 1001) ⟨m, P, q, HB2.out⟩ HF2.out
 | false =>
  cases h2 : decide ((40 : Int) < q) with
  | true =>
   go_enter Tryz.func32, Tryz.ntmps32;go_wp2_with fail;rw [← HW1.out, ← HW2.out]
   go_loopg [7, 40] 0 (fun g v7 v wr => v7 = .string ⟨#[]⟩ ∧ v = .int .i64 0 ∧ g = 0 ∧ w2 = wr)
   case atStart => exact ⟨rfl, rfl, rfl, rfl⟩
   case round =>
    obtain ⟨rfl, rfl, rfl, rfl⟩ := hrel;have hbq := HB2.out;have d2 := blk_cell hbq 2;have hlq := blk_lt hbq;simp only [List.getElem?_toArray, List.getElem?_cons_zero, List.getElem?_cons_succ] at d2;clear hbq
    by_cases hlt : 0 < ns.length
    · obtain ⟨g, kd, nraw, tb, ib, ka, kids, kc, rfl, hgl, hgr, -, n0, n1, n2, n3, n4, -⟩ := (HND.out.fr HF2.out).one 0 hlt
      simp only [Nat.zero_mul, Nat.zero_add] at n0 n1 n2 n3 n4;go_wp2_with fail;go_ret;exact rn_empty (s0 := none) (Nat.le_refl 1001) (RuAt.f0 ⟨m, P, q, HB2.out⟩ (Fr.alloc _ _ _)) (HF2.out.allocA _)
    · go_wp2_with fail
      go_ret;exact rn_empty (s0 := none) (Nat.le_refl 1001) ⟨m, P, q, HB2.out⟩ HF2.out
  | false =>
   go_enter Tryz.func32, Tryz.ntmps32;go_wp2_with fail;rw [← HW1.out]
   go_loopg [7, 40] 0 (fun g v7 v wr => v7 = .string ⟨#[]⟩ ∧ v = .int .i64 0 ∧ g = 0 ∧ w1 = wr)
   case atStart => exact ⟨rfl, rfl, rfl, rfl⟩
   case round =>
    obtain ⟨rfl, rfl, rfl, rfl⟩ := hrel;have hbq := HB1.out;have d2 := blk_cell hbq 2;have hlq := blk_lt hbq;simp only [List.getElem?_toArray, List.getElem?_cons_zero, List.getElem?_cons_succ] at d2;clear hbq
    by_cases hlt : 0 < ns.length
    · obtain ⟨g, kd, nraw, tb, ib, ka, kids, kc, rfl, hgl, hgr, -, n0, n1, n2, n3, n4, -⟩ := (HND.out.fr HF1.out).one 0 hlt
      simp only [Nat.zero_mul, Nat.zero_add] at n0 n1 n2 n3 n4;go_wp2_with fail;go_ret;exact rn_empty (s0 := none) (Nat.le_refl 1001) (RuAt.f0 ⟨m, P, q, HB1.out⟩ (Fr.alloc _ _ _)) (HF1.out.allocA _)
    · go_wp2_with fail
      go_ret;exact rn_empty (s0 := none) (Nat.le_refl 1001) ⟨m, P, q, HB1.out⟩ HF1.out
end Go.Proofs.YtfakghnpkdoclaaGreatDoor
namespace Go.Proofs.YtfakghnpkdoclaaGreatDoor
open Go.RowKit
open Go.Lib (hid)
def NdC (f : FuncId) (ok : Nat → Prop) (K r T : Nat) (pv : Value) (ps : List (ByteArray × ByteArray)) (raw : Bool) (n : Nat) : Prop := ∀ (D kd : Nat) (tb ib : ByteArray) (nraw : Bool) (kids : List Mu.Node) (ka : Option Addr) (kc : Nat) (stack : List Mu.Val) (sv : Value) (st : Mu.RS) (w : World), ok kd → D + 400 * (n + 1) ≤ 402000 → Mu.NOk D (.mk kd (L tb) nraw (L ib) kids) → nszL kids ≤ 85899346000 → NdAt w r (.slice ka kids.length kc) kids → StAt w r T sv stack → stack.length + (n + 1) ≤ 3000 → PvAt w r pv ps → RuAt w r pv raw (some st) → Mu.Few st → 1002 ≤ n + st.pieces →
 Calls Tryz.prog f #[.pointer (some ⟨r, 0, none⟩), .agg #[.int .i64 kd, .string tb, .bool nraw, .string ib, .slice ka kids.length kc], sv] w (RnPost K r pv raw (some st) (Mu.sNode (pL ps) raw (Mu.srender (pL ps) raw n) stack (.mk kd (L tb) nraw (L ib) kids) st) w)
def isSec (k : Nat) : Prop := k ≠ 1 ∧ k ≠ 6 ∧ k ≠ 2 ∧ k ≠ 5
def LuPost (r : Nat) (o : Option Mu.Val) (w : World) (e : Ending) (w' : World) : Prop := ∃ S, (∀ k, S k → k < w.heap.size ∧ k ≠ r) ∧ FdPost S o w e w'
structure VaAt (w wq : World) (r nb vb : Nat) (pv : Value) (raw op mi : Bool) (st : Mu.RS) (node six : Array Value) (x : Mu.Val) : Prop where
 ru : wq.heap[r]? = some (.cells #[pv, .bool raw, .bool op, .bool mi, .int .i64 (st.pieces : Nat), .int .i64 (st.asked : Nat)] 54 (0, 0))
 nd : wq.heap[nb]? = some (.cells node 38 (0, 0))
 va : wq.heap[vb]? = some (.cells six 25 (0, 0))
 fr : Fr (· = r) w wq
 da : ∃ S, (∀ k, S k → k ≠ r) ∧ DAt wq S x (.agg six)
theorem VaAt.set3 {w wq : World} {r nb vb : Nat} {pv : Value} {raw op mi : Bool} {st : Mu.RS} {node six : Array Value} {x : Mu.Val} (h : VaAt w wq r nb vb pv raw op mi st node six x) (h1 : nb ≠ r) (h2 : vb ≠ r) (b : Bool) : VaAt w (wq.setCell ⟨r, 3, none⟩ (.bool b)) r nb vb pv raw op b st node six x := by
 obtain ⟨S, s1, s2⟩ := h.da
 exact ⟨by have := blk_set (i := 3) (.bool b) h.ru; simpa using this, blk_set_ne _ _ h.nd h1, blk_set_ne _ _ h.va h2, h.fr.setA _ _ (.inl rfl), S, s1, DAt.keep (fun k hk => Below.heap_setCell _ _ _ _ (s1 k hk)) (fun _ h => h) _ _ s2⟩
theorem VaAt.set2 {w wq : World} {r nb vb : Nat} {pv : Value} {raw op mi : Bool} {st : Mu.RS} {node six : Array Value} {x : Mu.Val} (h : VaAt w wq r nb vb pv raw op mi st node six x) (h1 : nb ≠ r) (h2 : vb ≠ r) (b : Bool) : VaAt w (wq.setCell ⟨r, 2, none⟩ (.bool b)) r nb vb pv raw b mi st node six x := by
 obtain ⟨S, s1, s2⟩ := h.da
 exact ⟨by have := blk_set (i := 2) (.bool b) h.ru; simpa using this, blk_set_ne _ _ h.nd h1, blk_set_ne _ _ h.va h2, h.fr.setA _ _ (.inl rfl), S, s1, DAt.keep (fun k hk => Below.heap_setCell _ _ _ _ (s1 k hk)) (fun _ h => h) _ _ s2⟩
theorem VaAt.f0 {w wq w' : World} {r nb vb : Nat} {pv : Value} {raw op mi : Bool} {st : Mu.RS} {node six : Array Value} {x : Mu.Val} (h : VaAt w wq r nb vb pv raw op mi st node six x) (hf : F0 wq w') : wq.heap.size ≤ w'.heap.size ∧ w'.heap[r]? = some (.cells #[pv, .bool raw, .bool op, .bool mi, .int .i64 (st.pieces : Nat), .int .i64 (st.asked : Nat)] 54 (0, 0)) ∧ w'.heap[nb]? = some (.cells node 38 (0, 0)) ∧ Fr (· = r) w w' :=
 ⟨hf.size, hf.blk h.ru id, hf.blk h.nd id, h.fr.trans0 hf⟩
theorem DAt.kind {w : World} {S : Nat → Prop} {x : Mu.Val} {k1 : Int} {a1 a2 a3 a4 a5 : Value} (h : DAt w S x (.agg #[.int .i64 k1, a1, a2, a3, a4, a5])) : x.kind = k1 := by
 obtain ⟨k, t, n, b, ks, l⟩ := x
 unfold DAt at h
 obtain ⟨tb, kv, lv, kbs, us, h1, -⟩ := h
 simp only [Value.agg.injEq, Array.mk.injEq, List.cons.injEq, Value.int.injEq, true_and] at h1
 exact h1.1.symm
theorem shown_len {T : Nat} {v : Mu.Val} (h : Mu.VW T v) : (Mu.shown v).length ≤ T + 24 := by
 unfold Mu.shown
 split
 · have := h.text.2.1; omega
 split
 · have hn := h.num
   unfold Lib.itoa;split
   · have := dec_len2 19 v.num.natAbs (by
      have : (10 : Nat) ^ (19 + 1) = 100000000000000000000 := by decide
      omega)
     simp only [List.length_cons]; omega
   · have := dec_len20 v.num.toNat (by omega)
     omega
 split
 · split
   · simp [Mu.trueB]
   · simp [Mu.falseB]
 · simp
def RnAt (K : Nat) (w : World) (r : Nat) (pv : Value) (raw : Bool) (p0 len i : Nat) (R : Option (Mu.B × Mu.RS)) (ob : ByteArray) (wr : World) : Prop :=
 RuAt wr r pv raw (R.map (·.2)) ∧ (∀ x, R = some x → L ob = x.1) ∧ ob.size + K * (p0 + 1 + len) ≤ K * (Mu.Pc (R.map (·.2)) + i) ∧ Fr (· = r) w wr ∧ Mu.Pc (R.map (·.2)) ≤ 1001
theorem rn_next {w wr w' : World} {K r : Nat} {pv : Value} {raw : Bool} {p0 len i : Nat} {f : Mu.Node → Mu.RS → Mu.SRes} {ns : List Mu.Node} {st1 sti : Mu.RS} {x : Mu.B} {ob ob' : ByteArray} {q : Option (Mu.B × Mu.RS)} (hi : i < ns.length) (hR : Mu.sAll f (ns.take i) st1 = some (x, sti))
 (h : RnAt K w r pv raw p0 len i (some (x, sti)) ob wr) (hq : f ns[i] sti = q) (hru : RuAt w' r pv raw (q.map (·.2))) (ho : ∀ z, q = some z → L ob' = L ob ++ z.1) (hz : ob'.size + K * sti.pieces ≤ ob.size + K * (Mu.Pc (q.map (·.2)) + 1)) (hp : Mu.Pc (q.map (·.2)) ≤ 1001) (hf : Fr (· = r) w w') :
 RnAt K w r pv raw p0 len (i + 1) (Mu.sAll f (ns.take (i + 1)) st1) ob' w' := by
 have h1 : Mu.sAll f (ns.take (i + 1)) st1 = q.map fun q => (x ++ q.1, q.2) := by
  rw [Mu.sAll_take ns i hi, hR];simp only [Option.bind_some, hq]
 have h2 : (Mu.sAll f (ns.take (i + 1)) st1).map (·.2) = q.map (·.2) := by
  rw [h1]
  cases q <;> rfl
 refine ⟨by rw [h2]; exact hru, fun y hy => ?_, ?_, hf, by rw [h2]; exact hp⟩
 · rw [h1] at hy
   cases q with
   | none => cases hy
   | some z =>
    simp only [Option.map_some, Option.some.injEq] at hy;rw [← hy, ho z rfl, h.2.1 _ rfl]
 · rw [h2]
   have := h.2.2.1;simp only [Option.map_some, Mu.Pc] at this;simp only [Nat.mul_add, Nat.mul_one] at this hz ⊢;omega
theorem render_succ (K r T : Nat) (hK : K ≤ 3000000000000 ∧ 400000000 ≤ K ∧ 5 * (T + 24) ≤ K) (pv : Value) (ps : List (ByteArray × ByteArray)) (raw : Bool) (n : Nat) (HSC : NdC 60 isSec K r T pv ps raw n) (HPC : NdC 59 (· = 5) K r T pv ps raw n) : RnC K r T pv ps raw (n + 1) := by
 intro D ns stack nv sv st w hD hns hnz hnd hst hsl hpv hru hp1 hp2 hask
 obtain ⟨a, c, rfl⟩ := hnd.form
 have HKK := hid hK
 clear hK
 have hnl : ns.length ≤ 85899346000 := by have := len_nsz ns; omega
 have hb : w.heap[r]? = some (.cells #[pv, .bool raw, .bool false, .bool st.missing, .int .i64 (st.pieces : Nat), .int .i64 (st.asked : Nat)] 54 (0, 0)) := hru
 have HND := hid hnd
 have HST := hid hst
 have HPV := hid hpv
 have HNS := hid hns
 obtain ⟨P, hP⟩ : ∃ P, P = st.pieces + (1 + ns.length) := ⟨_, rfl⟩
 have c4 := blk_cell hb 4
 have c5 := blk_cell hb 5
 have c2 := blk_cell hb 2
 have f4 := blk_free hb 4
 have f2 := blk_free hb 2
 have hl := blk_lt hb
 simp only [List.getElem?_toArray, List.getElem?_cons_zero, List.getElem?_cons_succ] at c4 c5 c2
 obtain ⟨wA, hwA⟩ : ∃ wA, wA = w.setCell ⟨r, 4, none⟩ (.int .i64 ((st.pieces : Int) + (1 + (ns.length : Int)))) := ⟨_, rfl⟩
 have hbA : wA.heap[r]? = some (.cells #[pv, .bool raw, .bool false, .bool st.missing, .int .i64 ((st.pieces : Int) + (1 + (ns.length : Int))), .int .i64 (st.asked : Nat)] 54 (0, 0)) := by
  rw [hwA];have := blk_set (i := 4) (.int .i64 ((st.pieces : Int) + (1 + (ns.length : Int)))) hb;simpa using this
 have hfA : Fr (· = r) w wA := by rw [hwA]; exact (Fr.refl _ _).setA _ _ (.inl rfl)
 obtain ⟨wB, hwB⟩ : ∃ wB, wB = wA.setCell ⟨r, 2, none⟩ (.bool true) := ⟨_, rfl⟩
 have hbB : wB.heap[r]? = some (.cells #[pv, .bool raw, .bool true, .bool st.missing, .int .i64 ((st.pieces : Int) + (1 + (ns.length : Int))), .int .i64 (st.asked : Nat)] 54 (0, 0)) := by
  rw [hwB];have := blk_set (i := 2) (.bool true) hbA;simpa using this
 have hfB : Fr (· = r) w wB := by rw [hwB]; exact hfA.setA _ _ (.inl rfl)
 have HWA := hid hwA
 have HWB := hid hwB
 have HBA := hid hbA
 have HBB := hid hbB
 have HFA := hid hfA
 have HFB := hid hfB
 have hpc : Mu.Pc (some st) ≤ 1001 := by show st.pieces ≤ 1001; omega
 clear hnd hst hpv hns hru hb hwA hwB hbA hbB hfA hfB
 have HP := hid hP
 clear hP
 by_cases h1 : 1000 < P
 · have q1 : decide ((1000 : Int) < (st.pieces : Int) + (1 + (ns.length : Int))) = true := decide_eq_true (by have := HP.out; omega)
   have HRN : Hid (Mu.srender (pL ps) raw (n + 1) ns stack st = none) := hid (by simp only [Mu.srender]; rw [if_pos (by have := HP.out; omega)]);rw [HRN.out];go_enter Tryz.func32, Tryz.ntmps32;go_wp2_with fail;rw [← HWA.out, ← HWB.out]
   go_loopg [7, 40] 0 (fun g v7 v wr => v7 = .string ⟨#[]⟩ ∧ v = .int .i64 0 ∧ g = 0 ∧ wB = wr)
   case atStart => exact ⟨rfl, rfl, rfl, rfl⟩
   case round =>
    obtain ⟨rfl, rfl, rfl, rfl⟩ := hrel;have hbq := HBB.out;have d2 := blk_cell hbq 2;have hlq := blk_lt hbq;simp only [List.getElem?_toArray, List.getElem?_cons_zero, List.getElem?_cons_succ] at d2;clear hbq
    by_cases hlt : 0 < ns.length
    · obtain ⟨g, kd, nraw, tb, ib, ka, kids, kc, rfl, hgl, hgr, -, n0, n1, n2, n3, n4, -⟩ := (HND.out.fr HFB.out).one 0 hlt
      simp only [Nat.zero_mul, Nat.zero_add] at n0 n1 n2 n3 n4;go_wp2_with fail;go_ret;exact rn_empty hpc (RuAt.f0 ⟨_, _, _, HBB.out⟩ (Fr.alloc _ _ _)) (HFB.out.allocA _)
    · go_wp2_with fail
      go_ret;exact rn_empty hpc ⟨_, _, _, HBB.out⟩ HFB.out
 have q1 : decide ((1000 : Int) < (st.pieces : Int) + (1 + (ns.length : Int))) = false := decide_eq_false (by have := HP.out; omega)
 by_cases h2 : 40 < st.asked
 · have q2 : decide ((40 : Int) < (st.asked : Int)) = true := decide_eq_true (by omega)
   have HRN : Hid (Mu.srender (pL ps) raw (n + 1) ns stack st = none) := hid (by simp only [Mu.srender]; rw [if_pos (by have := HP.out; omega)]);rw [HRN.out];go_enter Tryz.func32, Tryz.ntmps32;go_wp2_with fail;rw [← HWA.out, ← HWB.out]
   go_loopg [7, 40] 0 (fun g v7 v wr => v7 = .string ⟨#[]⟩ ∧ v = .int .i64 0 ∧ g = 0 ∧ wB = wr)
   case atStart => exact ⟨rfl, rfl, rfl, rfl⟩
   case round =>
    obtain ⟨rfl, rfl, rfl, rfl⟩ := hrel;have hbq := HBB.out;have d2 := blk_cell hbq 2;have hlq := blk_lt hbq;simp only [List.getElem?_toArray, List.getElem?_cons_zero, List.getElem?_cons_succ] at d2;clear hbq
    by_cases hlt : 0 < ns.length
    · obtain ⟨g, kd, nraw, tb, ib, ka, kids, kc, rfl, hgl, hgr, -, n0, n1, n2, n3, n4, -⟩ := (HND.out.fr HFB.out).one 0 hlt
      simp only [Nat.zero_mul, Nat.zero_add] at n0 n1 n2 n3 n4;go_wp2_with fail;go_ret;exact rn_empty hpc (RuAt.f0 ⟨_, _, _, HBB.out⟩ (Fr.alloc _ _ _)) (HFB.out.allocA _)
    · go_wp2_with fail
      go_ret;exact rn_empty hpc ⟨_, _, _, HBB.out⟩ HFB.out
 have q2 : decide ((40 : Int) < (st.asked : Int)) = false := decide_eq_false (by omega)
 obtain ⟨st1, hst1⟩ : ∃ st1 : Mu.RS, st1 = { st with pieces := st.pieces + (1 + ns.length) } := ⟨_, rfl⟩
 obtain ⟨f, hf⟩ : ∃ f, f = Mu.sNode (pL ps) raw (Mu.srender (pL ps) raw n) stack := ⟨_, rfl⟩
 have HRN : Hid (Mu.srender (pL ps) raw (n + 1) ns stack st = Mu.sAll f ns st1) := hid (by simp only [Mu.srender]; rw [if_neg (by have := HP.out; omega), hf, hst1])
 have HFW1 : Hid (Mu.Few st1) := hid ⟨by rw [hst1]; show st.pieces + (1 + ns.length) ≤ 1000; have := HP.out; omega, by rw [hst1]; show st.asked ≤ 40; omega⟩
 have HFN : Hid (∀ (nd : Mu.Node) (s : Mu.RS) (o : Mu.B) (s' : Mu.RS), Mu.Few s → f nd s = some (o, s') → Mu.Few s') := hid (fun nd s o s' h1 h2 => Mu.sNode_few (fun l stack st out st' h => Mu.srender_few _ _ n l stack st out st' h) stack nd s o s' h1 (by rw [← hf]; exact h2))
 have HPM : Hid (∀ (i : Nat) (x : Mu.B) (s : Mu.RS), Mu.sAll f (ns.take i) st1 = some (x, s) → P ≤ s.pieces) := hid (fun i x s h => by
  have hmono : ∀ (l : List Mu.Node) (s0 : Mu.RS) (o : Mu.B) (s' : Mu.RS), Mu.sAll f l s0 = some (o, s') → s0.pieces ≤ s'.pieces := Mu.sAll_mono (fun nd s0 o s' h => by rw [hf] at h; exact Mu.sNode_mono (fun l stk s1 o1 s2 h => Mu.srender_mono _ _ n l stk s1 o1 s2 h) stack nd s0 o s' h);have := hmono _ _ _ _ h;rw [hst1] at this;simp only at this;have := HP.out
  omega)
 have HF := hid hf
 have HP1 : Hid (st1.pieces = P ∧ st1.missing = st.missing ∧ st1.asked = st.asked) := hid (by rw [hst1, HP.out]; exact ⟨rfl, rfl, rfl⟩)
 rw [HRN.out]
 have hlen9 : ns.length ≤ 1000 := by have := HP.out; omega
 clear hst1 hf h1 h2
 have HR0 : Hid (RnAt K w r pv raw st.pieces ns.length 0 (Mu.sAll f (ns.take 0) st1) ⟨#[]⟩ wA) := hid (by
  refine ⟨?_, fun x hx => ?_, ?_, HFA.out, ?_⟩
  · show wA.heap[r]? = _
    rw [HP1.out.1, HP1.out.2.1, HP1.out.2.2, HP.out];have : ((st.pieces + (1 + ns.length) : Nat) : Int) = (st.pieces : Int) + (1 + (ns.length : Int)) := by omega
    rw [this];exact HBA.out
  · simp only [List.take_zero, Mu.sAll, Option.some.injEq] at hx
    rw [← hx]; rfl
  · show 0 + K * (st.pieces + 1 + ns.length) ≤ K * (st1.pieces + 0)
    rw [Nat.zero_add];refine Nat.mul_le_mul_left _ ?_;rw [HP1.out.1]; have := HP.out; omega
  · show st1.pieces ≤ 1001
    have := HFW1.out.1; omega)
 go_enter Tryz.func32, Tryz.ntmps32
 go_wp2_with fail
 rw [← HWA.out]
 go_loopg [7, 40] ns.length (fun g v7 v40 wr => ∃ (i : Nat) (ob : ByteArray), v40 = .int .i64 i ∧ v7 = .string ob ∧ i ≤ ns.length ∧ g = ns.length - i ∧ Hid (RnAt K w r pv raw st.pieces ns.length i (Mu.sAll f (ns.take i) st1) ob wr))
 case atStart => exact ⟨0, _, rfl, rfl, Nat.zero_le _, rfl, HR0⟩
 case round =>
  obtain ⟨i, ob, rfl, rfl, hi0, rfl, HI⟩ := hrel
  by_cases hlt : i < ns.length
  · obtain ⟨g, kd, nraw, tb, ib, ka, kids, kc, rfl, hgl, hgr, hnd, n0, n1, n2, n3, n4, hkd⟩ := (HND.out.fr HI.out.2.2.2.1).one i hlt
    have HNK := hid hkd;have HNE := hid hnd;have hrl := HI.out.1.lt
    cases hR : Mu.sAll f (ns.take i) st1 with
    | none =>
     have HIN := HI.out;rw [hR] at HIN;obtain ⟨m, p, q, hbq⟩ := HIN.1;have HBQ := hid hbq;have HFI := hid HIN.2.2.2.1
     have HZ : Hid (RnPost K r pv raw (some st) (Mu.sAll f ns st1) w (.returned (.string ob)) (wr.alloc (.cells #[.int .i64 kd, .string tb, .bool nraw, .string ib, .slice ka kids.length kc] 38))) := hid (by
      rw [Mu.sAll_none ns i st1 hR];refine ⟨_, rfl, hid ⟨RuAt.f0 ⟨m, p, q, hbq⟩ (Fr.alloc _ _ _), (fun _ h => by cases h), ?_, HIN.2.2.2.1.allocA _⟩⟩;have := HIN.2.2.1;have h9 : K * i ≤ K * ns.length := Nat.mul_le_mul_left _ (by omega);simp only [Option.map_none, Mu.Pc, Nat.mul_add, Nat.mul_one] at this ⊢
      omega)
     have d2 := blk_cell hbq 2;simp only [List.getElem?_toArray, List.getElem?_cons_zero, List.getElem?_cons_succ] at d2;clear hbq HIN hkd hnd hR;go_wp2_with fail;go_ret;exact HZ.out
    | some y =>
     obtain ⟨x, sti⟩ := y;have HIN := HI.out;rw [hR] at HIN;have HFS : Hid (Mu.Few sti) := hid (Mu.sAll_few (fun nd s o s' h1 h2 => HFN.out nd s o s' h1 h2) _ _ _ _ HFW1.out hR);have HPS : Hid (P ≤ sti.pieces) := hid (HPM.out i x sti hR);have HIS := hid HIN;have HRR := hid hR
     have hbq : wr.heap[r]? = some (.cells #[pv, .bool raw, .bool false, .bool sti.missing, .int .i64 (sti.pieces : Nat), .int .i64 (sti.asked : Nat)] 54 (0, 0)) := HIN.1
     have hobs : ob.size ≤ 3000000000000 * 2001 := by
      have h3 := HIN.2.2.1;have h5 := HIN.2.2.2.2;exact Nat.le_trans (Nat.le_trans (Nat.le_add_right _ _) h3) (Nat.mul_le_mul HKK.out.1 (by omega))
     have hnok := HNS.out.get i hlt;rw [hnd] at hnok;have HNO := hid hnok
     have HKZ : Hid (nszL kids ≤ 85899346000) := hid (by
      have h1 := nszL_mem (List.getElem_mem hlt);rw [hnd] at h1;simp only [nsz] at h1; omega)
     have hts : tb.size ≤ 400000000 := by
      simp only [Mu.NOk] at hnok;have := hnok.1
      rwa [L_length] at this
     have HBQ := hid hbq;have HFI := hid HIN.2.2.2.1;have d2 := blk_cell hbq 2;simp only [List.getElem?_toArray, List.getElem?_cons_zero, List.getElem?_cons_succ] at d2;obtain ⟨nb, hnb⟩ : ∃ nb, nb = wr.heap.size := ⟨_, rfl⟩
     obtain ⟨w1, hw1⟩ : ∃ w1, w1 = wr.alloc (.cells #[.int .i64 kd, .string tb, .bool nraw, .string ib, .slice ka kids.length kc] 38) := ⟨_, rfl⟩
     have HN1 : Hid (w1.heap[nb]? = some (.cells #[.int .i64 kd, .string tb, .bool nraw, .string ib, .slice ka kids.length kc] 38 (0, 0))) := hid (by rw [hw1, hnb]; exact blk_new _ _);have HF1 : Hid (Fr (· = r) w w1) := hid (by rw [hw1]; exact HIN.2.2.2.1.allocA _)
     have HB1 : Hid (w1.heap[r]? = some (.cells #[pv, .bool raw, .bool false, .bool sti.missing, .int .i64 (sti.pieces : Nat), .int .i64 (sti.asked : Nat)] 54 (0, 0))) := hid (by rw [hw1]; exact blk_alloc _ hbq);have HNR : Hid (nb ≠ r) := hid (by omega)
     have HE1 : Hid (w1 = wr.alloc (.cells #[.int .i64 kd, .string tb, .bool nraw, .string ib, .slice ka kids.length kc] 38) ∧ nb = wr.heap.size) := hid ⟨hw1, hnb⟩;clear hbq HIN hkd hnd hR hnok hnb hw1 HBQ
     by_cases e1 : kd = 1
     · subst e1
       have HX : Hid (RnAt K w r pv raw st.pieces ns.length (i + 1) (Mu.sAll f (ns.take (i + 1)) st1) (ob ++ tb) w1) := hid (rn_next hlt HRR.out HIS.out (q := some (L tb, sti)) (by rw [HNE.out, HF.out]; simp [Mu.sNode]) HB1.out (fun z hz => by cases hz; exact L_add _ _) (by
        show (ob ++ tb).size + K * sti.pieces ≤ ob.size + K * (sti.pieces + 1);have := HKK.out.2.1;rw [ByteArray.size_append, Nat.mul_add, Nat.mul_one]; omega) (by show sti.pieces ≤ 1001; have := HFS.out.1; omega) HF1.out)
       have hcat : ¬ 9223372036854775807 < ob.size + tb.size := by omega
       go_wp2_with fail;rw [← (show w1 = wr.alloc (.cells #[.int .i64 1, .string tb, .bool nraw, .string ib, .slice ka kids.length kc] 38) from HE1.out.1)]
       go_roundg (ns.length - (i + 1))
       case rel => exact ⟨i + 1, _, by go_num, rfl, by omega, rfl, HX⟩
       case measure => omega
     by_cases e6 : kd = 6
     · subst e6
       have HX : Hid (RnAt K w r pv raw st.pieces ns.length (i + 1) (Mu.sAll f (ns.take (i + 1)) st1) ob w1) := hid (rn_next hlt HRR.out HIS.out (q := some ([], sti)) (by rw [HNE.out, HF.out]; simp [Mu.sNode]) HB1.out (fun z hz => by cases hz; simp) (by
        show ob.size + K * sti.pieces ≤ ob.size + K * (sti.pieces + 1);rw [Nat.mul_add]; omega) (by show sti.pieces ≤ 1001; have := HFS.out.1; omega) HF1.out)
       go_wp2_with fail;rw [← (show w1 = wr.alloc (.cells #[.int .i64 6, .string tb, .bool nraw, .string ib, .slice ka kids.length kc] 38) from HE1.out.1)]
       go_roundg (ns.length - (i + 1))
       case rel => exact ⟨i + 1, _, by go_num, rfl, by omega, rfl, HX⟩
       case measure => omega
     have r1 : ((kd : Int) == 1) = false := by rw [beq_eq_false_iff_ne]; omega
     have r6 : ((kd : Int) == 6) = false := by rw [beq_eq_false_iff_ne]; omega
     by_cases e2 : kd = 2
     · subst e2
       have HLU : Hid (∀ w', Fr (· = r) w w' → Calls Tryz.prog 56 #[sv, .string tb] w' (LuPost r (Mu.lookS stack (L tb)) w')) := hid (fun w' hf => by
        obtain ⟨h1, h2, S, us, h3, h4, h5⟩ := HST.out.fr hf;exact (look_any T stack tb w' S sv us h3 h4 (fun k hk => (h5 k hk).1) h2 h1 (by omega) (by omega)).mono (fun e w'' h => ⟨S, h5, h⟩))
       obtain ⟨o, ho⟩ : ∃ o, o = Mu.lookS stack (L tb) := ⟨_, rfl⟩
       have HVG : Hid (∀ v, o = some v → Mu.VW T v) := hid (fun v hv => Mu.VW.lookS HST.out.2.1 (ho.symm.trans hv));rw [← ho] at HLU;have HLO := hid ho;have HE2 : Hid (w1 = wr.alloc (.cells #[.int .i64 2, .string tb, .bool nraw, .string ib, .slice ka kids.length kc] 38) ∧ nb = wr.heap.size) := hid HE1.out
       have HN2 : Hid (w1.heap[nb]? = some (.cells #[.int .i64 2, .string tb, .bool nraw, .string ib, .slice ka kids.length kc] 38 (0, 0))) := hid HN1.out;clear ho HE1 HN1;go_wp2_with fail;rw [← HE2.out.1, ← HE2.out.2];refine (HLU.out w1 HF1.out).mono ?_;rintro e w2 ⟨S2, hS2, k3, t3, n3, b3, a3, l3, c3, a4, l4, c4, rfl, HX⟩
       obtain ⟨w4, hw4⟩ : ∃ w4, w4 = w2.alloc (.cells #[.int .i64 k3, .string t3, .int .i64 n3, .bool b3, .slice a3 l3 c3, .slice a4 l4 c4] 25) := ⟨_, rfl⟩
       obtain ⟨vb, hvb⟩ : ∃ vb, vb = w2.heap.size := ⟨_, rfl⟩
       have HVR : Hid (vb ≠ r) := hid (by have := HX.out.1.size; have := blk_lt HB1.out; omega)
       have HVA : Hid (VaAt w w4 r nb vb pv raw false sti.missing sti #[.int .i64 2, .string tb, .bool nraw, .string ib, .slice ka kids.length kc] #[.int .i64 k3, .string t3, .int .i64 n3, .bool b3, .slice a3 l3 c3, .slice a4 l4 c4] (o.getD Mu.Val.zero)) := hid (by
        rw [hw4, hvb];exact ⟨blk_alloc _ (HX.out.1.blk HB1.out id), blk_alloc _ (HX.out.1.blk HN2.out id), blk_new _ _, (HF1.out.trans0 HX.out.1).allocA _, S2, fun k hk => (hS2 k hk).2, DAt.keep (fun k hk => Below.heap_alloc _ _ _ (by have := (hS2 k hk).1; have := HX.out.1.size; omega)) (fun _ h => h) _ _ HX.out.2⟩)
       have HKO : Hid (Mu.varOpen o = ((k3 == 4) || (k3 == 5) || (o.isSome && (k3 == 0)))) := hid (by
        have hk := DAt.kind HX.out.2
        cases o with
        | none =>
         have : k3 = 0 := hk.symm;subst this; rfl
        | some v =>
         have : v.kind = k3 := hk;simp [Mu.varOpen, this])
       have HW4 : Hid (w4 = w2.alloc (.cells #[.int .i64 k3, .string t3, .int .i64 n3, .bool b3, .slice a3 l3 c3, .slice a4 l4 c4] 25) ∧ vb = w2.heap.size) := hid ⟨hw4, hvb⟩;clear hw4 hvb hS2
       go_upto_region 17 with fail
       rw [← HW4.out.1, ← HW4.out.2];have hvr := HVA.out.ru;have e1 := blk_cell hvr 1;have e2' := blk_cell hvr 2;have e3 := blk_cell hvr 3;have g3 := blk_free hvr 3;have g2 := blk_free hvr 2;have hl4 := blk_lt hvr;simp only [List.getElem?_toArray, List.getElem?_cons_zero, List.getElem?_cons_succ] at e1 e2' e3;clear hvr
       go_cut [] (fun wq => Hid (VaAt w wq r nb vb pv raw false (sti.missing || o.isNone) sti #[.int .i64 2, .string tb, .bool nraw, .string ib, .slice ka kids.length kc] #[.int .i64 k3, .string t3, .int .i64 n3, .bool b3, .slice a3 l3 c3, .slice a4 l4 c4] (o.getD Mu.Val.zero)))
       case first =>
        have HV0 : Hid (VaAt w (w4.setCell ⟨r, 3, none⟩ (.bool (sti.missing || o.isNone))) r nb vb pv raw false (sti.missing || o.isNone) sti #[.int .i64 2, .string tb, .bool nraw, .string ib, .slice ka kids.length kc] #[.int .i64 k3, .string t3, .int .i64 n3, .bool b3, .slice a3 l3 c3, .slice a4 l4 c4] (o.getD Mu.Val.zero)) := hid (HVA.out.set3 HNR.out HVR.out _)
        obtain ⟨ms, hms⟩ : ∃ ms, ms = sti.missing := ⟨_, rfl⟩
        rw [← hms] at e3 HV0;have HMS := hid hms;clear hms;cases ms
        · cases o
          all_goals
           go_wp2_with fail
           go_meet
           case rel =>
            rw [← HMS.out];exact HV0
        · go_wp2_with fail
          go_meet
          case rel =>
           rw [← HMS.out];exact HV0
       case rest =>
        clear e1 e2' e3 g3 g2 hl4;obtain ⟨mi, hmi⟩ : ∃ mi, mi = (sti.missing || o.isNone) := ⟨_, rfl⟩
        rw [← hmi] at hcut;have HMI := hid hmi;have hvr := hcut.out.ru;have e2' := blk_cell hvr 2;have g2 := blk_free hvr 2;have hl4 := blk_lt hvr;have v0 := blk_cell hcut.out.va 0;have hl5 := blk_lt hcut.out.va;simp only [List.getElem?_toArray, List.getElem?_cons_zero, List.getElem?_cons_succ] at e2' v0;have HCU := hid hcut.out;clear hvr hmi hcut
        obtain ⟨opv, hopv⟩ : ∃ opv, opv = Mu.varOpen o := ⟨_, rfl⟩
        have HOP := hid hopv;clear hopv
        go_upto_region 18 with fail
        go_cut [] (fun wq => Hid (VaAt w wq r nb vb pv raw opv mi sti #[.int .i64 2, .string tb, .bool nraw, .string ib, .slice ka kids.length kc] #[.int .i64 k3, .string t3, .int .i64 n3, .bool b3, .slice a3 l3 c3, .slice a4 l4 c4] (o.getD Mu.Val.zero)))
        case first =>
         have HV0 : Hid (∀ b, b = opv → VaAt w (wc.setCell ⟨r, 2, none⟩ (.bool b)) r nb vb pv raw opv mi sti #[.int .i64 2, .string tb, .bool nraw, .string ib, .slice ka kids.length kc] #[.int .i64 k3, .string t3, .int .i64 n3, .bool b3, .slice a3 l3 c3, .slice a4 l4 c4] (o.getD Mu.Val.zero)) := hid (fun b hb => by rw [hb]; exact HCU.out.set2 HNR.out HVR.out _)
         have HOK := hid (HOP.out.trans HKO.out)
         cases q4 : (k3 == 4) with
         | true =>
          go_wp2_with fail
          go_meet
          case rel => exact hid (HV0.out _ (by rw [HOK.out, q4]; rfl))
         | false =>
          cases q5 : (k3 == 5) with
          | true =>
           go_wp2_with fail
           go_meet
           case rel => exact hid (HV0.out _ (by rw [HOK.out, q4, q5]; rfl))
          | false =>
           cases o with
           | none =>
            go_wp2_with fail
            go_meet
            case rel => exact hid (HV0.out _ (by rw [HOK.out, q4, q5]; rfl))
           | some vv =>
            cases q0 : (k3 == 0)
            all_goals
             go_wp2_with fail
             go_meet
             case rel => exact hid (HV0.out _ (by rw [HOK.out, q4, q5, q0]; rfl))
        case rest =>
         clear e2' g2 hl4 v0 hl5;have HCX := hid hcut.out;have hva := hcut.out.va;have v0 := blk_cell hva 0;have v1 := blk_cell hva 1;have v2 := blk_cell hva 2;have v3 := blk_cell hva 3;have v4 := blk_cell hva 4;have v5 := blk_cell hva 5;have hl5 := blk_lt hva;simp only [List.getElem?_toArray, List.getElem?_cons_zero, List.getElem?_cons_succ] at v0 v1 v2 v3 v4 v5
         have HNX : Hid (∀ (w6 : World) (tx : ByteArray), F0 wc w6 → (opv = false → L tx = if nraw || raw then Mu.shownO o else Mu.esc (Mu.shownO o)) → tx.size ≤ K → RnAt K w r pv raw st.pieces ns.length (i + 1) (Mu.sAll f (ns.take (i + 1)) st1) (ob ++ tx) w6) := hid (fun w6 tx hf6 htx hz => by
          have h6 := HCX.out.f0 hf6
          have hq : f ns[i] sti = if opv then none else some (if nraw || raw then Mu.shownO o else Mu.esc (Mu.shownO o), { sti with missing := sti.missing || o.isNone }) := by
           rw [HNE.out, HF.out, HOP.out, HLO.out]; rfl
          cases hop : opv with
          | true =>
           rw [hop] at hq h6;refine rn_next hlt HRR.out HIS.out (q := none) hq ⟨_, _, _, h6.2.1⟩ (fun z hz => by cases hz) ?_ (Nat.le_refl _) h6.2.2.2;show (ob ++ tx).size + K * sti.pieces ≤ ob.size + K * (1001 + 1);have h7 : K * sti.pieces ≤ K * 1001 := Nat.mul_le_mul_left _ (by have := HFS.out.1; omega);rw [ByteArray.size_append, Nat.mul_add, Nat.mul_one]; omega
          | false =>
           rw [hop] at hq h6;refine rn_next hlt HRR.out HIS.out (q := some (if nraw || raw then Mu.shownO o else Mu.esc (Mu.shownO o), { sti with missing := sti.missing || o.isNone })) hq ?_ (fun z hz => by cases hz; rw [L_add, htx hop]) ?_ ?_ h6.2.2.2
           · have := h6.2.1
             rw [HMI.out] at this;exact this
           · show (ob ++ tx).size + K * sti.pieces ≤ ob.size + K * (sti.pieces + 1)
             rw [ByteArray.size_append, Nat.mul_add, Nat.mul_one]; omega
           · show sti.pieces ≤ 1001
             have := HFS.out.1; omega)
         have HSH : Hid (Calls Tryz.prog 57 #[.agg #[.int .i64 k3, .string t3, .int .i64 n3, .bool b3, .slice a3 l3 c3, .slice a4 l4 c4]] wc (TxPost (Mu.shownO o) wc)) := hid (by
          obtain ⟨S3, s1, s2⟩ := HCX.out.da
          have h := shown_any (o.getD Mu.Val.zero) wc S3 _ s2 (by
           cases o with
           | none => exact ⟨by show (-9223372036854775808 : Int) ≤ 0; omega, by show (0 : Int) ≤ 9223372036854775807; omega⟩
           | some v => exact (HVG.out v rfl).num)
          cases o <;> exact h)
         have HSL : Hid ((Mu.shownO o).length ≤ T + 24) := hid (by
          cases o with
          | none => exact Nat.zero_le _
          | some v => exact shown_len (HVG.out v rfl))
         clear hcut hva;go_wp2_with fail;refine HSH.out.mono ?_;rintro e w5 ⟨so, rfl, HSO⟩;have h5 := HCX.out.f0 HSO.out.2
         have hss : so.size ≤ T + 24 := by
          have := HSL.out;rw [← HSO.out.1, L_length] at this;exact this
         have n2 := blk_cell h5.2.2.1 2;have r1' := blk_cell h5.2.1 1;have hln := blk_lt h5.2.2.1;have hlr := blk_lt h5.2.1;simp only [List.getElem?_toArray, List.getElem?_cons_zero, List.getElem?_cons_succ] at n2 r1';clear h5
         by_cases hrw : (nraw || raw) = true
         · have HXX := hid (HNX.out w5 so HSO.out.2 (fun _ => by rw [if_pos hrw, HSO.out.1]) (by have := HKK.out; omega))
           have hcat : ¬ 9223372036854775807 < ob.size + so.size := by have := HKK.out; omega
           cases nraw with
           | true =>
            clear hrw;go_wp2_with fail
            go_roundg (ns.length - (i + 1))
            case rel => exact ⟨i + 1, _, by go_num, rfl, by omega, rfl, HXX⟩
            case measure => omega
           | false =>
            cases raw with
            | true =>
             clear hrw;go_wp2_with fail
             go_roundg (ns.length - (i + 1))
             case rel => exact ⟨i + 1, _, by go_num, rfl, by omega, rfl, HXX⟩
             case measure => omega
            | false => cases hrw
         · obtain ⟨rfl, rfl⟩ : nraw = false ∧ raw = false := by
            cases nraw <;> cases raw <;> first | exact ⟨rfl, rfl⟩ | exact absurd rfl hrw
           clear hrw;go_wp2_with fail;refine (escaped_any so w5 (by have := HKK.out; omega)).mono ?_;rintro e w6 ⟨eo, rfl, HEO⟩
           have hes : eo.size ≤ 5 * so.size := by
            have h := Mu.esc_len (L so);rw [← HEO.out.1, L_length, L_length] at h;exact h
           have HXX := hid (HNX.out w6 eo (HSO.out.2.trans HEO.out.2) (fun _ => by rw [HEO.out.1, HSO.out.1]; rfl) (by have := HKK.out; omega));have hcat : ¬ 9223372036854775807 < ob.size + eo.size := by have := HKK.out; omega
           go_wp2_with fail
           go_roundg (ns.length - (i + 1))
           case rel => exact ⟨i + 1, _, by go_num, rfl, by omega, rfl, HXX⟩
           case measure => omega
     have r2 : ((kd : Int) == 2) = false := by rw [beq_eq_false_iff_ne]; omega
     have HST1 : Hid (StAt w1 r T sv stack) := hid (HST.out.fr HF1.out);have HNK1 : Hid (NdAt w1 r (.slice ka kids.length kc) kids) := hid (by rw [HE1.out.1]; exact HNK.out.fr (Fr.alloc _ _ _));have hfuel : 1002 ≤ n + sti.pieces := by have := HPS.out; have := HP.out; omega
     have HQ : Hid (∀ q, f ns[i] sti = q → Mu.Pc (q.map (·.2)) ≤ 1001) := hid (fun q hq => by
      cases q with
      | none => exact Nat.le_refl _
      | some z =>
       have := (HFN.out _ _ z.1 z.2 HFS.out hq).1;show z.2.pieces ≤ 1001
       omega)
     have HFQ : Hid (f ns[i] sti = Mu.sNode (pL ps) raw (Mu.srender (pL ps) raw n) stack (.mk kd (L tb) nraw (L ib) kids) sti) := hid (by rw [HNE.out, HF.out])
     have HGO : Hid (∀ (o : ByteArray) (w3 : World), RuAt w3 r pv raw ((f ns[i] sti).map (·.2)) → (∀ x, f ns[i] sti = some x → L o = x.1) → o.size + K * sti.pieces ≤ K * Mu.Pc ((f ns[i] sti).map (·.2)) → Fr (· = r) w1 w3 → RnAt K w r pv raw st.pieces ns.length (i + 1) (Mu.sAll f (ns.take (i + 1)) st1) (ob ++ o) w3) := hid (fun o w3 h1 h2 h3 h4 => rn_next hlt HRR.out HIS.out rfl h1 (fun z hz => by rw [L_add, h2 z hz]) (by rw [ByteArray.size_append, Nat.mul_add]; omega) (HQ.out _ rfl) (HF1.out.trans h4))
     by_cases e5 : kd = 5
     · have r5 : ((kd : Int) == 5) = true := by rw [beq_iff_eq]; omega
       have HCALL := hid (HPC D kd tb ib nraw kids ka kc stack sv sti w1 e5 (by omega) HNO.out HKZ.out HNK1.out HST1.out (by omega) (HPV.out.fr HF1.out) HB1.out HFS.out hfuel);clear e1 e2 e5 e6;go_wp2_with fail;rw [← HE1.out.1];refine HCALL.out.mono ?_;rw [← HFQ.out];rintro e w3 ⟨o, rfl, HO⟩
       have hcat : ¬ 9223372036854775807 < ob.size + o.size := by
        have h1 := HO.out.2.2.1;have h2 := HQ.out _ rfl;have h3 := Nat.le_trans (Nat.le_trans (Nat.le_add_right _ _) h1) (Nat.mul_le_mul HKK.out.1 h2);clear h1;omega
       have HX := hid (HGO.out o w3 HO.out.1 HO.out.2.1 HO.out.2.2.1 HO.out.2.2.2);go_wp2_with fail
       go_roundg (ns.length - (i + 1))
       case rel => exact ⟨i + 1, _, by go_num, rfl, by omega, rfl, HX⟩
       case measure => omega
     · have r5 : ((kd : Int) == 5) = false := by rw [beq_eq_false_iff_ne]; omega
       have HCALL := hid (HSC D kd tb ib nraw kids ka kc stack sv sti w1 ⟨e1, e6, e2, e5⟩ (by omega) HNO.out HKZ.out HNK1.out HST1.out (by omega) (HPV.out.fr HF1.out) HB1.out HFS.out hfuel);clear e1 e2 e5 e6;go_wp2_with fail;rw [← HE1.out.1];refine HCALL.out.mono ?_;rw [← HFQ.out];rintro e w3 ⟨o, rfl, HO⟩
       have hcat : ¬ 9223372036854775807 < ob.size + o.size := by
        have h1 := HO.out.2.2.1;have h2 := HQ.out _ rfl;have h3 := Nat.le_trans (Nat.le_trans (Nat.le_add_right _ _) h1) (Nat.mul_le_mul HKK.out.1 h2);clear h1;omega
       have HX := hid (HGO.out o w3 HO.out.1 HO.out.2.1 HO.out.2.2.1 HO.out.2.2.2);go_wp2_with fail
       go_roundg (ns.length - (i + 1))
       case rel => exact ⟨i + 1, _, by go_num, rfl, by omega, rfl, HX⟩
       case measure => omega
  · have HZ : Hid (RnPost K r pv raw (some st) (Mu.sAll f ns st1) w (.returned (.string ob)) wr) := hid (by
     have h := HI.out;rw [List.take_of_length_le (by omega)] at h;refine ⟨_, rfl, hid ⟨h.1, h.2.1, ?_, h.2.2.2.1⟩⟩;have := h.2.2.1;have h9 : K * i ≤ K * ns.length := Nat.mul_le_mul_left _ (by omega);simp only [Nat.mul_add, Nat.mul_one] at this;show ob.size + K * st.pieces ≤ _
     omega)
    go_wp2_with fail;go_ret
    exact HZ.out
end Go.Proofs.YtfakghnpkdoclaaGreatDoor
