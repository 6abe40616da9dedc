/-
  The specification's reader: next. PRINTED BY wip/gen_next.py OF THIS REPOSITORY.
-/
import Derived.Test.YtfakghnpkdoclaaDoorSp4
set_option linter.unusedVariables false
set_option linter.unusedSimpArgs false
namespace Go.Proofs.YtfakghnpkdoclaaDoor
open Go.RowKit

theorem find_quiet (b p : Nat) (x : Pa) (pat : ByteArray) (w : World) (n : Nat) (hs : x.s.size ≤ 4294967296) (hx : PaAt w b x) (hp : p ≤ x.s.size) (hpat : 0 < pat.size) (hpat2 : pat.size ≤ 4294967296) {v : Int} (hv : idxV (Mu.find (L x.s) (L pat) p) = v) :
    Calls Tryd.prog 22 #[.pointer (some ⟨b, 0, none⟩), .int .i64 p, .string pat] (w.drewN n) (fun e w' => e = .returned (.int .i64 v) ∧ ∃ m, w' = w.drewN m) :=
  (find_any b p x pat (w.drewN n) hs (hx.sm ⟨n, rfl⟩) hp hpat hpat2).mono fun _ _ h => ⟨by rw [h.1, hv], n, h.2.symm⟩
theorem L_append (a b : ByteArray) : L (a ++ b) = L a ++ L b := by
  unfold L
  rw [ByteArray.data_append, Array.toList_append]
/-- a tag in memory -/
def TagAt (w : World) (b : Nat) (k : UInt8) (body : ByteArray) (f t : Nat) : Prop := w.heap[b]? = some (.cells #[.int .u8 k.toNat, .string body, .int .i64 f, .int .i64 t] 51 (0, 0))
theorem tag_new (w : World) (o o2 : Obj) (n : Nat) : (((w.alloc o).drewN n).alloc o2).heap[w.heap.size + 1]? = some o2 := by
  have := blk_new ((w.alloc o).drewN n) o2
  simpa using this
theorem tag_old (w : World) (o o2 : Obj) (n : Nat) : (((w.alloc o).drewN n).alloc o2).heap[w.heap.size]? = some o := blk_alloc o2 (blk_new w o)
def NextPost (x : Pa) (b : Nat) (w : World) (e : Ending) (w' : World) : Prop :=
  match Mu.snext (L x.s) x.p (L x.o) (L x.c) with
  | .none bad => e = .returned (.tuple #[.agg #[.int .u8 0, .string ⟨#[]⟩, .int .i64 0, .int .i64 0], .bool false]) ∧ Fr (· = b) w w' ∧ PaAt w' b { x with bad := x.bad || bad }
  | .some t => ∃ bd : ByteArray, e = .returned (.tuple #[.agg #[.int .u8 t.kind.toNat, .string bd, .int .i64 t.at0, .int .i64 t.to], .bool true]) ∧ L bd = t.body ∧ F0 w w'
theorem blk_cells4 {w : World} {b : Nat} {u0 u1 u2 u3 : Value} {T : TypeId} (h : w.heap[b]? = some (.cells #[u0, u1, u2, u3] T (0, 0))) :
    w.cell? ⟨b, 0, none⟩ = some u0 ∧ w.cell? ⟨b, 1, none⟩ = some u1 ∧ w.cell? ⟨b, 2, none⟩ = some u2 ∧ w.cell? ⟨b, 3, none⟩ = some u3 ∧ (∀ i, w.frozen? ⟨b, i, none⟩ = false) :=
  ⟨blk_cell h 0, blk_cell h 1, blk_cell h 2, blk_cell h 3, fun i => blk_free h i⟩

theorem next_none_close {b : Nat} {x : Pa} {w wc : World} (hfr : F0 w wc) (hx : PaAt wc b x) (hbl : b < w.heap.size) (v0 v1 v2 v3 : Value) :
    Fr (· = b) w (((((wc.setCell ⟨b, 5, none⟩ (.bool true)).setCell ⟨w.heap.size, 0, none⟩ v0).setCell ⟨w.heap.size, 1, none⟩ v1).setCell ⟨w.heap.size, 2, none⟩ v2).setCell ⟨w.heap.size, 3, none⟩ v3) ∧
    PaAt (((((wc.setCell ⟨b, 5, none⟩ (.bool true)).setCell ⟨w.heap.size, 0, none⟩ v0).setCell ⟨w.heap.size, 1, none⟩ v1).setCell ⟨w.heap.size, 2, none⟩ v2).setCell ⟨w.heap.size, 3, none⟩ v3) b { x with bad := x.bad || true } := by
  have hne : b ≠ w.heap.size := by omega
  refine ⟨(((((Fr.of0 (M := (· = b)) hfr).setA _ _ (.inl rfl)).setA _ _ (.inr (Nat.le_refl _))).setA _ _ (.inr (Nat.le_refl _))).setA _ _ (.inr (Nat.le_refl _))).setA _ _ (.inr (Nat.le_refl _)), ?_⟩
  rw [Bool.or_true]
  exact blk_set_ne _ _ (blk_set_ne _ _ (blk_set_ne _ _ (blk_set_ne _ _ (hx.set5 true) hne) hne) hne) hne
theorem next_some_close {w wc : World} (hfr : F0 w wc) (u1 u3 v0 v1 v2 v3 : Value) :
    F0 w ((((((wc.setCell ⟨w.heap.size + 1, 1, none⟩ u1).setCell ⟨w.heap.size + 1, 3, none⟩ u3).setCell ⟨w.heap.size, 0, none⟩ v0).setCell ⟨w.heap.size, 1, none⟩ v1).setCell ⟨w.heap.size, 2, none⟩ v2).setCell ⟨w.heap.size, 3, none⟩ v3) :=
  (((((hfr.setA _ _ (.inr (by simp))).setA _ _ (.inr (by simp))).setA _ _ (.inr (Nat.le_refl _))).setA _ _ (.inr (Nat.le_refl _))).setA _ _ (.inr (Nat.le_refl _))).setA _ _ (.inr (Nat.le_refl _))
theorem next_ret {k : UInt8} {bd : ByteArray} {f : Nat} {a b : Int} (h : a = b) : Ending.returned (.tuple #[.agg #[.int .u8 k.toNat, .string bd, .int .i64 f, .int .i64 a], .bool true]) = .returned (.tuple #[.agg #[.int .u8 k.toNat, .string bd, .int .i64 f, .int .i64 b], .bool true]) := by rw [h]

set_option maxRecDepth 100000 in
set_option maxHeartbeats 4000000 in
theorem next_any (b : Nat) (x : Pa) (w : World) (hs : x.s.size ≤ 4294967296) (hx : PaAt w b x) (hp : x.p ≤ x.s.size) (ho : 0 < x.o.size ∧ x.o.size ≤ 1000) (hc : 0 < x.c.size ∧ x.c.size ≤ 1000) :
    Calls Tryd.prog 16 #[.pointer (some ⟨b, 0, none⟩)] w (NextPost x b w) := by
  have hbl : b < w.heap.size := blk_lt hx
  have HX := Lib.hid hx
  obtain ⟨h0, h1, -, h3, h4, -⟩ := hx.cells
  clear hx
  obtain ⟨ho1, ho2⟩ := ho
  obtain ⟨hc1, hc2⟩ := hc
  cases hf : Mu.find (L x.s) (L x.o) x.p with
  | none =>
    have HF : Hid (idxV (Mu.find (L x.s) (L x.o) x.p) = -1) := Lib.hid (by rw [hf]; rfl)
    have HS : Hid (Mu.snext (L x.s) x.p (L x.o) (L x.c) = .none false) := Lib.hid (by unfold Mu.snext; rw [hf])
    clear hf
    go_enter Tryd.func16, Tryd.ntmps16
    go_wp2_with fail
    go_quiet ((go_at_call 22; exact find_quiet b x.p x x.o _ _ hs ((HX.out).fr0 (Fr.alloc _ _ _)) hp ho1 (by omega) HF.out))
    go_wp2_with fail
    refine bodyPost_ret (v := .tuple #[.agg #[.int .u8 0, .string ⟨#[]⟩, .int .i64 0, .int .i64 0], .bool false]) (by simp [results, Tryd.results16, go_sem]) rfl ?_
    unfold NextPost
    rw [HS.out]
    have hfr : ∀ (n : Nat) (v0 v1 v2 v3 : Value), F0 w (((((((w.alloc (.cells #[.int .u8 0, .string ⟨#[]⟩, .int .i64 0, .int .i64 0] 51)).drewN n).setCell ⟨w.heap.size, 0, none⟩ v0).setCell ⟨w.heap.size, 1, none⟩ v1).setCell ⟨w.heap.size, 2, none⟩ v2).setCell ⟨w.heap.size, 3, none⟩ v3)) := fun n v0 v1 v2 v3 =>
      ((((((Fr.alloc _ _ _).drewNA n).setA _ _ (.inr (Nat.le_refl _))).setA _ _ (.inr (Nat.le_refl _))).setA _ _ (.inr (Nat.le_refl _))).setA _ _ (.inr (Nat.le_refl _)))
    exact ⟨rfl, Fr.of0 (hfr _ _ _ _ _), by rw [Bool.or_false]; exact HX.out.fr0 (hfr _ _ _ _ _)⟩
  | some f =>
    have hfl := Mu.find_le hf (by intro h; rw [← L_length, h] at ho1; exact absurd ho1 (by simp))
    rw [L_length, L_length] at hfl
    have HF : Hid (idxV (Mu.find (L x.s) (L x.o) x.p) = (f : Int)) := Lib.hid (by rw [hf]; rfl)
    have HFO := Lib.hid hf
    clear hf
    have z0 : decide ((f : Int) < 0) = false := by simp
    go_enter Tryd.func16, Tryd.ntmps16
    go_wp2_with fail
    go_quiet ((go_at_call 22; exact find_quiet b x.p x x.o _ _ hs ((HX.out).fr0 (Fr.alloc _ _ _)) hp ho1 (by omega) HF.out))
    obtain ⟨a1, ha1⟩ : ∃ a1, a1 = f + x.o.size := ⟨_, rfl⟩
    have ha1l : a1 ≤ x.s.size := by omega
    have za : ((f : Int) + (x.o.size : Int)) = (a1 : Int) := by omega
    have HA1 := Lib.hid ha1
    clear ha1
    go_upto_if 42 with fail
    obtain ⟨k, hk⟩ : ∃ k, k = Mu.kindAt (L x.s) a1 := ⟨_, rfl⟩
    obtain ⟨a2, ha2⟩ : ∃ a2, a2 = if k = 0 then a1 else a1 + 1 := ⟨_, rfl⟩
    have HK := Lib.hid hk
    have HA2 := Lib.hid ha2
    clear hk ha2
    go_cut [6] (fun v wr => v = .int .i64 a2 ∧ Fr No w wr ∧ TagAt wr (w.heap.size + 1) k ⟨#[]⟩ f 0 ∧ TagAt wr w.heap.size 0 ⟨#[]⟩ 0 0)
    case first =>
      by_cases hlt : a1 < x.s.size
      · rcases Mu.kindAt_cases (L x.s) a1 hlt with ⟨hkind, hke⟩ | ⟨hkind, hke⟩
        · rw [L_get _ _ hlt] at hkind hke
          have hkq : k = x.s[a1] := by rw [HK.out, hke]
          have ha2q : a2 = a1 + 1 := by rw [HA2.out, if_neg (by rw [hkq]; intro h; rw [h] at hkind; exact absurd hkind (by decide))]
          subst hkq ha2q
          have hcs := Mu.isKind_cases hkind
          have HCS := Lib.hid hcs
          clear hcs hkind hke HA2
          rcases HCS.out with kk | kk | kk | kk | kk | kk | kk | kk
          · have b35 : ((x.s[a1].toNat : Int) == 35) = true := byte_is (b := 35) kk
            clear kk HCS
            go_wp2_with fail
            go_meet
            case rel => exact ⟨by go_num, ((Fr.alloc _ _ _).drewNA _).allocA _, tag_new _ _ _ _, tag_old _ _ _ _⟩
          · have b35 : ((x.s[a1].toNat : Int) == 35) = false := byte_isnt (b := 35) (by rw [kk]; decide)
            have b94 : ((x.s[a1].toNat : Int) == 94) = true := byte_is (b := 94) kk
            clear kk HCS
            go_wp2_with fail
            go_meet
            case rel => exact ⟨by go_num, ((Fr.alloc _ _ _).drewNA _).allocA _, tag_new _ _ _ _, tag_old _ _ _ _⟩
          · have b35 : ((x.s[a1].toNat : Int) == 35) = false := byte_isnt (b := 35) (by rw [kk]; decide)
            have b94 : ((x.s[a1].toNat : Int) == 94) = false := byte_isnt (b := 94) (by rw [kk]; decide)
            have b47 : ((x.s[a1].toNat : Int) == 47) = true := byte_is (b := 47) kk
            clear kk HCS
            go_wp2_with fail
            go_meet
            case rel => exact ⟨by go_num, ((Fr.alloc _ _ _).drewNA _).allocA _, tag_new _ _ _ _, tag_old _ _ _ _⟩
          · have b35 : ((x.s[a1].toNat : Int) == 35) = false := byte_isnt (b := 35) (by rw [kk]; decide)
            have b94 : ((x.s[a1].toNat : Int) == 94) = false := byte_isnt (b := 94) (by rw [kk]; decide)
            have b47 : ((x.s[a1].toNat : Int) == 47) = false := byte_isnt (b := 47) (by rw [kk]; decide)
            have b33 : ((x.s[a1].toNat : Int) == 33) = true := byte_is (b := 33) kk
            clear kk HCS
            go_wp2_with fail
            go_meet
            case rel => exact ⟨by go_num, ((Fr.alloc _ _ _).drewNA _).allocA _, tag_new _ _ _ _, tag_old _ _ _ _⟩
          · have b35 : ((x.s[a1].toNat : Int) == 35) = false := byte_isnt (b := 35) (by rw [kk]; decide)
            have b94 : ((x.s[a1].toNat : Int) == 94) = false := byte_isnt (b := 94) (by rw [kk]; decide)
            have b47 : ((x.s[a1].toNat : Int) == 47) = false := byte_isnt (b := 47) (by rw [kk]; decide)
            have b33 : ((x.s[a1].toNat : Int) == 33) = false := byte_isnt (b := 33) (by rw [kk]; decide)
            have b62 : ((x.s[a1].toNat : Int) == 62) = true := byte_is (b := 62) kk
            clear kk HCS
            go_wp2_with fail
            go_meet
            case rel => exact ⟨by go_num, ((Fr.alloc _ _ _).drewNA _).allocA _, tag_new _ _ _ _, tag_old _ _ _ _⟩
          · have b35 : ((x.s[a1].toNat : Int) == 35) = false := byte_isnt (b := 35) (by rw [kk]; decide)
            have b94 : ((x.s[a1].toNat : Int) == 94) = false := byte_isnt (b := 94) (by rw [kk]; decide)
            have b47 : ((x.s[a1].toNat : Int) == 47) = false := byte_isnt (b := 47) (by rw [kk]; decide)
            have b33 : ((x.s[a1].toNat : Int) == 33) = false := byte_isnt (b := 33) (by rw [kk]; decide)
            have b62 : ((x.s[a1].toNat : Int) == 62) = false := byte_isnt (b := 62) (by rw [kk]; decide)
            have b38 : ((x.s[a1].toNat : Int) == 38) = true := byte_is (b := 38) kk
            clear kk HCS
            go_wp2_with fail
            go_meet
            case rel => exact ⟨by go_num, ((Fr.alloc _ _ _).drewNA _).allocA _, tag_new _ _ _ _, tag_old _ _ _ _⟩
          · have b35 : ((x.s[a1].toNat : Int) == 35) = false := byte_isnt (b := 35) (by rw [kk]; decide)
            have b94 : ((x.s[a1].toNat : Int) == 94) = false := byte_isnt (b := 94) (by rw [kk]; decide)
            have b47 : ((x.s[a1].toNat : Int) == 47) = false := byte_isnt (b := 47) (by rw [kk]; decide)
            have b33 : ((x.s[a1].toNat : Int) == 33) = false := byte_isnt (b := 33) (by rw [kk]; decide)
            have b62 : ((x.s[a1].toNat : Int) == 62) = false := byte_isnt (b := 62) (by rw [kk]; decide)
            have b38 : ((x.s[a1].toNat : Int) == 38) = false := byte_isnt (b := 38) (by rw [kk]; decide)
            have b61 : ((x.s[a1].toNat : Int) == 61) = true := byte_is (b := 61) kk
            clear kk HCS
            go_wp2_with fail
            go_meet
            case rel => exact ⟨by go_num, ((Fr.alloc _ _ _).drewNA _).allocA _, tag_new _ _ _ _, tag_old _ _ _ _⟩
          · have b35 : ((x.s[a1].toNat : Int) == 35) = false := byte_isnt (b := 35) (by rw [kk]; decide)
            have b94 : ((x.s[a1].toNat : Int) == 94) = false := byte_isnt (b := 94) (by rw [kk]; decide)
            have b47 : ((x.s[a1].toNat : Int) == 47) = false := byte_isnt (b := 47) (by rw [kk]; decide)
            have b33 : ((x.s[a1].toNat : Int) == 33) = false := byte_isnt (b := 33) (by rw [kk]; decide)
            have b62 : ((x.s[a1].toNat : Int) == 62) = false := byte_isnt (b := 62) (by rw [kk]; decide)
            have b38 : ((x.s[a1].toNat : Int) == 38) = false := byte_isnt (b := 38) (by rw [kk]; decide)
            have b61 : ((x.s[a1].toNat : Int) == 61) = false := byte_isnt (b := 61) (by rw [kk]; decide)
            have b123 : ((x.s[a1].toNat : Int) == 123) = true := byte_is (b := 123) kk
            clear kk HCS
            go_wp2_with fail
            go_meet
            case rel => exact ⟨by go_num, ((Fr.alloc _ _ _).drewNA _).allocA _, tag_new _ _ _ _, tag_old _ _ _ _⟩
        · rw [L_get _ _ hlt] at hkind
          have hkq : k = 0 := by rw [HK.out, hke]
          have ha2q : a1 = a2 := by rw [HA2.out, if_pos hkq]
          subst hkq ha2q
          have b35 : ((x.s[a1].toNat : Int) == 35) = false := byte_isnt (b := 35) (fun h => by rw [h] at hkind; exact absurd hkind (by decide))
          have b94 : ((x.s[a1].toNat : Int) == 94) = false := byte_isnt (b := 94) (fun h => by rw [h] at hkind; exact absurd hkind (by decide))
          have b47 : ((x.s[a1].toNat : Int) == 47) = false := byte_isnt (b := 47) (fun h => by rw [h] at hkind; exact absurd hkind (by decide))
          have b33 : ((x.s[a1].toNat : Int) == 33) = false := byte_isnt (b := 33) (fun h => by rw [h] at hkind; exact absurd hkind (by decide))
          have b62 : ((x.s[a1].toNat : Int) == 62) = false := byte_isnt (b := 62) (fun h => by rw [h] at hkind; exact absurd hkind (by decide))
          have b38 : ((x.s[a1].toNat : Int) == 38) = false := byte_isnt (b := 38) (fun h => by rw [h] at hkind; exact absurd hkind (by decide))
          have b61 : ((x.s[a1].toNat : Int) == 61) = false := byte_isnt (b := 61) (fun h => by rw [h] at hkind; exact absurd hkind (by decide))
          have b123 : ((x.s[a1].toNat : Int) == 123) = false := byte_isnt (b := 123) (fun h => by rw [h] at hkind; exact absurd hkind (by decide))
          clear hkind hke HA2
          go_wp2_with fail
          go_meet
          case rel => exact ⟨rfl, ((Fr.alloc _ _ _).drewNA _).allocA _, tag_new _ _ _ _, tag_old _ _ _ _⟩
      · have hkq : k = 0 := by rw [HK.out]; unfold Mu.kindAt; rw [if_neg (fun h => hlt h.1)]
        have ha2q : a1 = a2 := by rw [HA2.out, if_pos hkq]
        subst hkq ha2q
        clear HA2
        go_wp2_with fail
        go_meet
        case rel => exact ⟨rfl, ((Fr.alloc _ _ _).drewNA _).allocA _, tag_new _ _ _ _, tag_old _ _ _ _⟩
    case rest =>
      obtain ⟨rfl, hfr, htag, hres⟩ := hcut
      obtain ⟨r0, r1, r2, r3, rf⟩ := blk_cells4 hres
      have rf0 := rf 0
      have rf1 := rf 1
      have rf2 := rf 2
      have rf3 := rf 3
      have HRES := Lib.hid hres
      have hsz := hfr.size
      have hx2 := HX.out.fr0 hfr
      obtain ⟨g0, -, -, -, g4, g5⟩ := hx2.cells
      have gf := hx2.free 5
      obtain ⟨t0, t1, t2, t3, tf⟩ := blk_cells4 htag
      have tf1 := tf 1
      have tf3 := tf 3
      have hw1 := blk_lt htag
      have HX2 := Lib.hid hx2
      have HFR := Lib.hid hfr
      have HTAG := Lib.hid htag
      have ha2l : a2 ≤ a1 + 1 := by rw [HA2.out]; split <;> omega
      have ha2s : a2 ≤ x.s.size := by
        have h := HA2.out
        split at h
        · omega
        · rename_i hk0
          rw [HK.out] at hk0
          unfold Mu.kindAt at hk0
          split at hk0
          · rename_i h2; have := h2.1; rw [L_length] at this; omega
          · exact absurd rfl hk0
      have HEND : Hid (∀ (eb : ByteArray), L eb = Mu.tagEnd k (L x.c) → Mu.snext (L x.s) x.p (L x.o) (L x.c) = match Mu.find (L x.s) (L eb) a2 with
          | none => .none true
          | some e => .some ⟨k, Mu.trimBy Mu.wsB (Mu.sub (L x.s) a2 e), f, e + eb.size⟩) := Lib.hid (fun eb heb => by
        unfold Mu.snext
        rw [HFO.out]
        dsimp only
        rw [L_length, ← HA1.out, ← HK.out, ← HA2.out, ← heb, L_length]
        cases Mu.find (L x.s) (L eb) a2 <;> rfl)
      have hca : ∀ (c : UInt8) (y : ByteArray), L (⟨#[c]⟩ ++ y) = c :: L y := fun c y => L_append ⟨#[c]⟩ y
      have HCA := Lib.hid hca
      clear hfr htag hx2 tf hca hres rf h0 h1 h3 h4 HX HF HFO HA1
      by_cases k123 : k = 123
      · have HEB : Hid (L (⟨#[125]⟩ ++ x.c) = Mu.tagEnd k (L x.c)) := Lib.hid (by rw [HCA.out, k123]; rfl)
        have c1 : ((k.toNat : Int) == 123) = true := byte_is (b := 123) k123
        clear k123
        have hsz1 : (⟨#[125]⟩ ++ x.c : ByteArray).size = x.c.size + 1 := by rw [← L_length, HCA.out, List.length_cons, L_length]
        have HSZ1 := Lib.hid hsz1
        clear hsz1
        have hes : (⟨#[125]⟩ ++ x.c).size ≤ 1001 := by rw [HSZ1.out]; omega
        have hes0 : 0 < (⟨#[125]⟩ ++ x.c).size := by rw [HSZ1.out]; omega
        cases hfe : Mu.find (L x.s) (L (⟨#[125]⟩ ++ x.c)) a2 with
        | none =>
          have HN : Hid (Mu.snext (L x.s) x.p (L x.o) (L x.c) = .none true) := Lib.hid (by rw [HEND.out (⟨#[125]⟩ ++ x.c) HEB.out, hfe])
          have HV : Hid (idxV (Mu.find (L x.s) (L (⟨#[125]⟩ ++ x.c)) a2) = -1) := Lib.hid (by rw [hfe]; rfl)
          clear hfe
          go_wp2_with fail
          refine (find_any b a2 x _ _ hs HX2.out ha2s hes0 (by omega)).mono ?_
          intro e w' hpost
          unfold FindPost at hpost
          rw [HV.out] at hpost
          obtain ⟨rfl, rfl⟩ := hpost
          go_wp2_with fail
          refine bodyPost_ret (v := .tuple #[.agg #[.int .u8 0, .string ⟨#[]⟩, .int .i64 0, .int .i64 0], .bool false]) (by simp [results, Tryd.results16, go_sem, r0, r1, r2, r3]) rfl ?_
          unfold NextPost
          rw [HN.out]
          exact ⟨rfl, next_none_close HFR.out HX2.out hbl _ _ _ _⟩
        | some e =>
          have hle := Mu.find_le hfe (by intro h; rw [← L_length, h] at hes0; exact absurd hes0 (by simp))
          have hge := (Mu.find_some hfe).1
          rw [L_length, L_length] at hle
          have HN : Hid (Mu.snext (L x.s) x.p (L x.o) (L x.c) = .some ⟨k, Mu.trimBy Mu.wsB (Mu.sub (L x.s) a2 e), f, e + (⟨#[125]⟩ ++ x.c).size⟩) := Lib.hid (by rw [HEND.out (⟨#[125]⟩ ++ x.c) HEB.out, hfe])
          have HV : Hid (idxV (Mu.find (L x.s) (L (⟨#[125]⟩ ++ x.c)) a2) = (e : Int)) := Lib.hid (by rw [hfe]; rfl)
          clear hfe
          have z1 : decide ((e : Int) < 0) = false := by simp
          have z2 : (a2 : Int) ≤ (e : Int) := by omega
          have z3 : (e : Int) ≤ (x.s.size : Int) := by omega
          have hsl : (x.s.extract a2 e).size ≤ 4294967296 := by rw [ByteArray.size_extract]; omega
          go_wp2_with fail
          refine (find_any b a2 x _ _ hs HX2.out ha2s hes0 (by omega)).mono ?_
          intro e' w' hpost
          unfold FindPost at hpost
          rw [HV.out] at hpost
          obtain ⟨rfl, rfl⟩ := hpost
          go_wp2_with fail
          refine (trimmed_any (x.s.extract a2 e) _ hsl).mono ?_
          rintro e' w' ⟨bd, rfl, hbd, rfl⟩
          have HBD := Lib.hid hbd
          clear hbd
          go_wp2_with fail
          refine bodyPost_ret (v := .tuple #[.agg #[.int .u8 k.toNat, .string bd, .int .i64 f, .int .i64 ((e : Int) + (1 + (x.c.size : Int)))], .bool true]) (by simp [results, Tryd.results16, go_sem, r0, r1, r2, r3]) rfl ?_
          unfold NextPost
          rw [HN.out]
          exact ⟨bd, next_ret (by show _ = ((e + (⟨#[125]⟩ ++ x.c).size : Nat) : Int); rw [HSZ1.out]; omega), by rw [HBD.out, L_extract], next_some_close HFR.out _ _ _ _ _ _⟩
      · by_cases k61 : k = 61
        · have HEB : Hid (L (⟨#[61]⟩ ++ x.c) = Mu.tagEnd k (L x.c)) := Lib.hid (by rw [HCA.out, k61]; rfl)
          have c1 : ((k.toNat : Int) == 123) = false := byte_isnt (b := 123) k123
          have c2 : ((k.toNat : Int) == 61) = true := byte_is (b := 61) k61
          clear k61 k123
          have hsz1 : (⟨#[61]⟩ ++ x.c : ByteArray).size = x.c.size + 1 := by rw [← L_length, HCA.out, List.length_cons, L_length]
          have HSZ1 := Lib.hid hsz1
          clear hsz1
          have hes : (⟨#[61]⟩ ++ x.c).size ≤ 1001 := by rw [HSZ1.out]; omega
          have hes0 : 0 < (⟨#[61]⟩ ++ x.c).size := by rw [HSZ1.out]; omega
          cases hfe : Mu.find (L x.s) (L (⟨#[61]⟩ ++ x.c)) a2 with
          | none =>
            have HN : Hid (Mu.snext (L x.s) x.p (L x.o) (L x.c) = .none true) := Lib.hid (by rw [HEND.out (⟨#[61]⟩ ++ x.c) HEB.out, hfe])
            have HV : Hid (idxV (Mu.find (L x.s) (L (⟨#[61]⟩ ++ x.c)) a2) = -1) := Lib.hid (by rw [hfe]; rfl)
            clear hfe
            go_wp2_with fail
            refine (find_any b a2 x _ _ hs HX2.out ha2s hes0 (by omega)).mono ?_
            intro e w' hpost
            unfold FindPost at hpost
            rw [HV.out] at hpost
            obtain ⟨rfl, rfl⟩ := hpost
            go_wp2_with fail
            refine bodyPost_ret (v := .tuple #[.agg #[.int .u8 0, .string ⟨#[]⟩, .int .i64 0, .int .i64 0], .bool false]) (by simp [results, Tryd.results16, go_sem, r0, r1, r2, r3]) rfl ?_
            unfold NextPost
            rw [HN.out]
            exact ⟨rfl, next_none_close HFR.out HX2.out hbl _ _ _ _⟩
          | some e =>
            have hle := Mu.find_le hfe (by intro h; rw [← L_length, h] at hes0; exact absurd hes0 (by simp))
            have hge := (Mu.find_some hfe).1
            rw [L_length, L_length] at hle
            have HN : Hid (Mu.snext (L x.s) x.p (L x.o) (L x.c) = .some ⟨k, Mu.trimBy Mu.wsB (Mu.sub (L x.s) a2 e), f, e + (⟨#[61]⟩ ++ x.c).size⟩) := Lib.hid (by rw [HEND.out (⟨#[61]⟩ ++ x.c) HEB.out, hfe])
            have HV : Hid (idxV (Mu.find (L x.s) (L (⟨#[61]⟩ ++ x.c)) a2) = (e : Int)) := Lib.hid (by rw [hfe]; rfl)
            clear hfe
            have z1 : decide ((e : Int) < 0) = false := by simp
            have z2 : (a2 : Int) ≤ (e : Int) := by omega
            have z3 : (e : Int) ≤ (x.s.size : Int) := by omega
            have hsl : (x.s.extract a2 e).size ≤ 4294967296 := by rw [ByteArray.size_extract]; omega
            go_wp2_with fail
            refine (find_any b a2 x _ _ hs HX2.out ha2s hes0 (by omega)).mono ?_
            intro e' w' hpost
            unfold FindPost at hpost
            rw [HV.out] at hpost
            obtain ⟨rfl, rfl⟩ := hpost
            go_wp2_with fail
            refine (trimmed_any (x.s.extract a2 e) _ hsl).mono ?_
            rintro e' w' ⟨bd, rfl, hbd, rfl⟩
            have HBD := Lib.hid hbd
            clear hbd
            go_wp2_with fail
            refine bodyPost_ret (v := .tuple #[.agg #[.int .u8 k.toNat, .string bd, .int .i64 f, .int .i64 ((e : Int) + (1 + (x.c.size : Int)))], .bool true]) (by simp [results, Tryd.results16, go_sem, r0, r1, r2, r3]) rfl ?_
            unfold NextPost
            rw [HN.out]
            exact ⟨bd, next_ret (by show _ = ((e + (⟨#[61]⟩ ++ x.c).size : Nat) : Int); rw [HSZ1.out]; omega), by rw [HBD.out, L_extract], next_some_close HFR.out _ _ _ _ _ _⟩
        · have HEB : Hid (L x.c = Mu.tagEnd k (L x.c)) := Lib.hid (by unfold Mu.tagEnd; rw [if_neg k123, if_neg k61])
          have c1 : ((k.toNat : Int) == 123) = false := byte_isnt (b := 123) k123
          have c2 : ((k.toNat : Int) == 61) = false := byte_isnt (b := 61) k61
          clear k123 k61
          have hes : (x.c).size ≤ 1001 := by rw [show x.c.size = x.c.size from rfl]; omega
          have hes0 : 0 < (x.c).size := by rw [show x.c.size = x.c.size from rfl]; omega
          cases hfe : Mu.find (L x.s) (L (x.c)) a2 with
          | none =>
            have HN : Hid (Mu.snext (L x.s) x.p (L x.o) (L x.c) = .none true) := Lib.hid (by rw [HEND.out (x.c) HEB.out, hfe])
            have HV : Hid (idxV (Mu.find (L x.s) (L (x.c)) a2) = -1) := Lib.hid (by rw [hfe]; rfl)
            clear hfe
            go_wp2_with fail
            refine (find_any b a2 x _ _ hs HX2.out ha2s hes0 (by omega)).mono ?_
            intro e w' hpost
            unfold FindPost at hpost
            rw [HV.out] at hpost
            obtain ⟨rfl, rfl⟩ := hpost
            go_wp2_with fail
            refine bodyPost_ret (v := .tuple #[.agg #[.int .u8 0, .string ⟨#[]⟩, .int .i64 0, .int .i64 0], .bool false]) (by simp [results, Tryd.results16, go_sem, r0, r1, r2, r3]) rfl ?_
            unfold NextPost
            rw [HN.out]
            exact ⟨rfl, next_none_close HFR.out HX2.out hbl _ _ _ _⟩
          | some e =>
            have hle := Mu.find_le hfe (by intro h; rw [← L_length, h] at hes0; exact absurd hes0 (by simp))
            have hge := (Mu.find_some hfe).1
            rw [L_length, L_length] at hle
            have HN : Hid (Mu.snext (L x.s) x.p (L x.o) (L x.c) = .some ⟨k, Mu.trimBy Mu.wsB (Mu.sub (L x.s) a2 e), f, e + (x.c).size⟩) := Lib.hid (by rw [HEND.out (x.c) HEB.out, hfe])
            have HV : Hid (idxV (Mu.find (L x.s) (L (x.c)) a2) = (e : Int)) := Lib.hid (by rw [hfe]; rfl)
            clear hfe
            have z1 : decide ((e : Int) < 0) = false := by simp
            have z2 : (a2 : Int) ≤ (e : Int) := by omega
            have z3 : (e : Int) ≤ (x.s.size : Int) := by omega
            have hsl : (x.s.extract a2 e).size ≤ 4294967296 := by rw [ByteArray.size_extract]; omega
            go_wp2_with fail
            refine (find_any b a2 x _ _ hs HX2.out ha2s hes0 (by omega)).mono ?_
            intro e' w' hpost
            unfold FindPost at hpost
            rw [HV.out] at hpost
            obtain ⟨rfl, rfl⟩ := hpost
            go_wp2_with fail
            refine (trimmed_any (x.s.extract a2 e) _ hsl).mono ?_
            rintro e' w' ⟨bd, rfl, hbd, rfl⟩
            have HBD := Lib.hid hbd
            clear hbd
            go_wp2_with fail
            refine bodyPost_ret (v := .tuple #[.agg #[.int .u8 k.toNat, .string bd, .int .i64 f, .int .i64 ((e : Int) + (x.c.size : Int))], .bool true]) (by simp [results, Tryd.results16, go_sem, r0, r1, r2, r3]) rfl ?_
            unfold NextPost
            rw [HN.out]
            exact ⟨bd, next_ret (by show _ = ((e + (x.c).size : Nat) : Int); rw [show x.c.size = x.c.size from rfl]; omega), by rw [HBD.out, L_extract], next_some_close HFR.out _ _ _ _ _ _⟩
end Go.Proofs.YtfakghnpkdoclaaDoor
