/-
  What a statement's walk is given. (Joined by wip/pack.py.)
-/
import Derived.Test.YtfakghnpkdoclaaGreatDoorGT1
import Derived.Test.YtfakghnpkdoclaaGreatDoorGV1
import Derived.Test.YtfakghnpkdoclaaGreatDoorGD1
import Derived.Test.YtfakghnpkdoclaaGreatDoorGP2
set_option linter.unusedVariables false
set_option linter.unusedSimpArgs false
set_option maxRecDepth 100000
set_option maxHeartbeats 8000000
namespace Go.Proofs.YtfakghnpkdoclaaGreatDoor
open Go.RowKit
theorem partOf_ok2 (ps : List (ByteArray × ByteArray)) (hps : ∀ p ∈ ps, p.2.size ≤ 400 ∧ Mu.signs (L p.2)) (n : Mu.B) : Mu.signs (Mu.partOf (pL ps) n) ∧ (Mu.partOf (pL ps) n).length ≤ 400 := by
 unfold Mu.partOf
 cases hf : (pL ps).reverse.find? (fun p => p.1 == n) with
 | none => exact ⟨fun _ h => (by cases h), Nat.zero_le _⟩
 | some p =>
  have hm := List.mem_of_find?_eq_some hf;rw [List.mem_reverse] at hm;obtain ⟨q, hq, rfl⟩ := List.mem_map.1 hm;exact ⟨(hps q hq).2, (hps q hq).1⟩
theorem PlOk.self {s : ByteArray} {ps : List (ByteArray × ByteArray)} (h : PlOk s ps) : s.size ≤ 400 ∧ Mu.signs (L s) ∧ (Mu.parse (L s)).2 = true := by
 have := signsB_true h.2.1
 exact ⟨by rw [← L_length]; exact this.2, this.1, h.1⟩
theorem TplOk.parts {s : ByteArray} {ps : List (ByteArray × ByteArray)} (h : TplOk s ps) : ∀ p ∈ ps, p.1.size ≤ 4096 ∧ p.2.size ≤ 400 ∧ Mu.signs (L p.2) := by
 intro p hp
 obtain ⟨i, hi, rfl⟩ := List.mem_iff_getElem.1 hp
 obtain ⟨h1, h2, -⟩ := h.2.2 i hi
 have h3 := h2.self
 have h4 := (Mu.wordOk_facts h1).2.2
 rw [L_length] at h4
 exact ⟨by omega, h3.1, h3.2.1⟩
theorem CxOk.vg {x : Mu.Val} (h : CxOk x) : Mu.VG 40 x := ⟨5, h.1⟩
theorem ren_of {s : ByteArray} {ps : List (ByteArray × ByteArray)} (ht : TplOk s ps) (raw am : Bool) (hraw : raw = true → ps = []) {cs : List Mu.Val} (hne : cs ≠ []) (T : Nat) (hT : T ≤ 16777216) (hvg : ∀ v ∈ cs, Mu.VG T v) {n : Nat} (hn : n ≤ 1004) {out : Mu.B} {st' : Mu.RS}
 (h : Mu.srender (pL ps) raw n (Mu.parse (L s)).1 cs ⟨false, 0, 0⟩ = some (out, st')) (hout : out.length ≤ 16384) :
 ∃ wsr, Ren ps raw am T s cs wsr (!am && st'.missing) ∧ ((!am && st'.missing) = false → wsr.flatten = out) := by
 have hs := ht.2.1.self
 obtain ⟨es, st, ws, kf, h1, h2, h3, h4, h5, h6, h7⟩ := Mu.ren_pure (pL ps) (partOf_ok2 ps (fun p hp => (ht.parts p hp).2)) raw am T hs.2.1 (by rw [L_length]; exact hs.1) hs.2.2 (fun hr => by
  have := ht.2.1.2.2;rw [hraw hr] at this;exact this) hne hvg h
 exact ⟨ws, ⟨by omega, hs.2.1, ⟨n, es, st, 400, kf, h1, h2, by omega, by omega, h3, by omega⟩, ⟨by omega, by omega⟩, ht.parts, ht.1, hT⟩, h7⟩
theorem srender_text (ps : List (Mu.B × Mu.B)) (raw : Bool) (t : Mu.B) (r : Bool) (ind : Mu.B) (kids : List Mu.Node) (cs : List Mu.Val) : Mu.srender ps raw 2 [.mk 1 t r ind kids] cs ⟨false, 0, 0⟩ = some (t, ⟨false, 2, 0⟩) := by
 simp [Mu.srender, Mu.sAll, Mu.sNode]
theorem ren_text {s : ByteArray} {ps : List (ByteArray × ByteArray)} (ht : TplOk s ps) {r : Bool} {ind : Mu.B} {kids : List Mu.Node} (hp : (Mu.parse (L s)).1 = [.mk 1 (L s) r ind kids]) {cs : List Mu.Val} (hne : cs ≠ []) (hvg : ∀ v ∈ cs, Mu.VG 40 v) :
 ∃ wsr, Ren ps false true 40 s cs wsr false ∧ wsr.flatten = L s := by
 have hs := ht.2.1.self
 obtain ⟨wsr, h1, h2⟩ := ren_of ht false true (fun h => (by cases h)) hne 40 (by omega) hvg (n := 2) (by omega) (out := L s) (st' := ⟨false, 2, 0⟩) (by rw [hp]; exact srender_text _ _ _ _ _ _ _) (by rw [L_length]; omega)
 exact ⟨wsr, h1, h2 rfl⟩
def eTpl : ByteArray := ⟨#[97]⟩
def eCtx : Mu.Val := .mk 5 [] 0 false [] []
theorem eTpl_ok : TplOk eTpl [] := by
 refine ⟨by simp, ⟨by decide +kernel, by decide +kernel, ?_⟩, fun i h => absurd h (by simp)⟩
 have : (Mu.parse (L eTpl)).1 = [.mk 1 [97] false [] []] := by rfl
 rw [this]
 simp [Mu.wiL, Mu.wiN]
theorem eCtx_ok : Mu.VOk 40 1 eCtx := by
 simp [Mu.VOk, eCtx, Mu.Val.kind, Mu.Val.text, Mu.Val.keys, Mu.Val.list, Mu.Val.num, Mu.signs]
theorem ren_empty : ∃ wsr, Ren [] false true 40 eTpl [eCtx] wsr false ∧ wsr.flatten = L eTpl :=
 ren_text eTpl_ok (r := false) (ind := []) (kids := []) (by rfl) (by simp) (fun v hv => ⟨1, by rw [List.mem_singleton.1 hv]; exact eCtx_ok⟩)
end Go.Proofs.YtfakghnpkdoclaaGreatDoor
namespace Go.Proofs.YtfakghnpkdoclaaGreatDoor
open Go.RowKit
open Go.Lib (hid)
theorem Ba.nil {B : Nat} {eb : Addr} {pv : Value} {ps : List (ByteArray × ByteArray)} {w : World} (h : Ba B eb pv ps w) : Ba B eb (.slice none 0 0) [] w := by
 obtain ⟨W, h1, h2, h3, h4, h5⟩ := h
 exact ⟨W, h1, h2, h3, ⟨none, 0, rfl, Nat.le_refl _, fun h => absurd h (by simp)⟩, h5⟩
theorem eCtx_at (w : World) : DAt w (fun _ => False) eCtx (.agg #[.int .i64 5, .string ⟨#[]⟩, .int .i64 0, .bool false, .slice none 0 0, .slice none 0 0]) := by
 unfold eCtx DAt
 exact ⟨⟨#[]⟩, _, _, [], [], rfl, rfl, ⟨none, 0, rfl, Nat.le_refl _, fun h => absurd h (by simp)⟩, rfl, ⟨none, 0, rfl, Nat.le_refl _, fun h => absurd h (by simp)⟩, by unfold DsAt; rfl⟩
theorem empty_any (B : Nat) (eb : Addr) (w : World) (hba : Ba B eb (.slice none 0 0) [] w) : Calls Tryz.prog 18 #[] w (fun e w' => e = .returned (.bool false) ∧ F0 w w') := by
 have HC : Hid (Calls Tryz.prog 20 #[.string ⟨#[97]⟩, .slice none 0 0, .agg #[.int .i64 5, .string ⟨#[]⟩, .int .i64 0, .bool false, .slice none 0 0, .slice none 0 0]] w (fun e w' => e = .returned (.tuple #[.string ⟨#[97]⟩, .bool true]) ∧ F0 w w')) := hid (by
  obtain ⟨wsr, h1, h2⟩ := ren_empty;have h3 := render_any B 40 1 eb (.slice none 0 0) [] eTpl eCtx wsr false w (fun _ => False) _ h1 hba ⟨eCtx_at w, fun _ h => h.elim, eCtx_ok, by omega, by simp [Mu.vsz, Mu.vszL, eCtx], by simp [eCtx, Mu.Val.kind]⟩;refine h3.mono ?_;rintro e w' ⟨⟨o, rfl, ho⟩, hf⟩;have h4 := ho rfl;rw [h2] at h4
  have h5 : o = eTpl := by
   have h6 : o.data.toList = eTpl.data.toList := h4;have h7 := Array.ext' h6;cases o;cases h7;rfl
  subst h5;exact ⟨rfl, hf⟩)
 clear hba
 go_enter Tryz.func18, Tryz.ntmps18
 go_wp2_with fail
 refine HC.out.mono ?_
 rintro e w1 ⟨rfl, hf⟩
 have HF := hid hf
 clear hf
 go_wp2_with fail
 go_ret
 exact ⟨rfl, HF.out⟩
def TruePost (w : World) (e : Ending) (w' : World) : Prop := e = .returned (.bool true) ∧ F0 w w'
def RiPost (s : ByteArray) (ps : List (ByteArray × ByteArray)) (x : Mu.Val) (w : World) (e : Ending) (w' : World) : Prop := ∃ b : Bool, e = .returned (.bool b) ∧ Hid (F0 w w' ∧ (b = true → TplOk s ps ∧ CxOk x))
theorem DAt.f0 {w w' : World} {S : Nat → Prop} {x : Mu.Val} {u : Value} (h : DAt w S x u) (hS : ∀ k, S k → k < w.heap.size) (hf : F0 w w') : DAt w' S x u := DAt.keep (fun k hk => hf.block k (hS k hk) id) (fun _ h => h) _ _ h
theorem right_any (s : ByteArray) (pv : Value) (ps : List (ByteArray × ByteArray)) (x : Mu.Val) (u : Value) (w : World) (S : Nat → Prop) (hs : s.size ≤ 2147483647) (hpl : ps.length ≤ 2147483647) (hpt : ∀ p ∈ ps, p.1.size ≤ 2147483647 ∧ p.2.size ≤ 2147483647) (hps : PsAt w pv ps)
 (hd : DAt w S x u) (hS : ∀ k, S k → k < w.heap.size) (hrg : Mu.Rg x) : Calls Tryz.prog 15 #[.string s, pv, u] w (RiPost s ps x w) := by
 obtain ⟨k1, t1, n1, b1, a1, l1, c1, a2, l2, c2, rfl⟩ := hd.form
 have HT : Hid (∀ w', F0 w w' → Calls Tryz.prog 27 #[.string s, pv] w' (TplPost s ps w')) := hid (fun w' hf => templateOk_any s pv ps w' hs hpl hpt (hps.f0 hf))
 have HX : Hid (∀ w', F0 w w' → Calls Tryz.prog 31 #[.agg #[.int .i64 k1, .string t1, .int .i64 n1, .bool b1, .slice a1 l1 c1, .slice a2 l2 c2]] w' (CxPost x w')) := hid (fun w' hf => contextOk_any x w' S _ (hd.f0 hS hf) (fun k hk => Nat.lt_of_lt_of_le (hS k hk) hf.size) hrg)
 clear hps hd hS hrg hpt
 go_enter Tryz.func15, Tryz.ntmps15
 go_wp2_with fail
 refine (HT.out _ (Fr.alloc _ _ _)).mono ?_
 rintro e w1 ⟨b, rfl, hf, hb⟩
 have hnb := (hf).blk (blk_new w (.cells #[.int .i64 k1, .string t1, .int .i64 n1, .bool b1, .slice a1 l1 c1, .slice a2 l2 c2] 25)) id
 have p0 := blk_cell hnb 0
 have p1 := blk_cell hnb 1
 have p2 := blk_cell hnb 2
 have p3 := blk_cell hnb 3
 have p4 := blk_cell hnb 4
 have p5 := blk_cell hnb 5
 simp only [List.getElem?_toArray, List.getElem?_cons_zero, List.getElem?_cons_succ] at p0 p1 p2 p3 p4 p5
 clear hnb
 have HB := hid (And.intro ((Fr.alloc _ _ _).trans hf : F0 w w1) hb)
 clear hf hb
 cases b with
 | false =>
  go_wp2_with fail;go_ret
  exact ⟨false, rfl, hid ⟨HB.out.1, fun h => (by cases h)⟩⟩
 | true =>
  go_wp2_with fail;refine (HX.out _ HB.out.1).mono ?_
  rintro e w2 ⟨b2, rfl, HC⟩;go_wp2_with fail;go_ret;exact ⟨b2, rfl, hid ⟨HB.out.1.trans HC.out.1, fun h => ⟨HB.out.2 (by first | rfl | trivial), HC.out.2 h⟩⟩⟩
end Go.Proofs.YtfakghnpkdoclaaGreatDoor
