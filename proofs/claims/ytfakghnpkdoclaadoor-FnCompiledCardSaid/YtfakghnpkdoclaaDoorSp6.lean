/-
  The specification's reader: delimited. PRINTED BY wip/gen_delim.py OF THIS REPOSITORY.
-/
import Derived.Test.YtfakghnpkdoclaaDoorSp5
set_option linter.unusedVariables false
set_option linter.unusedSimpArgs false
namespace Go.Proofs.YtfakghnpkdoclaaDoor
open Go.RowKit

def iv (k : Nat) : Value := match k with | 0 => .int .i64 0 | 1 => .int .i64 1 | 2 => .int .i64 2 | 3 => .int .i64 3 | _ => .int .i64 4
def fits (body o : Mu.B) (l : Mu.B × Mu.B) : Bool := (body == l.1 ++ [32] ++ l.2) && !(l.1 == o)
theorem delim_fits (body o : Mu.B) : Mu.delim body o = Mu.pairs.find? (fits body o) := rfl
def DelimPost (x : Pa) (b : Nat) (body : ByteArray) (w : World) (e : Ending) (w' : World) : Prop :=
  e = .returned (.tuple #[]) ∧ Fr (· = b) w w' ∧ match Mu.delim (L body) (L x.o) with
    | some (o, c) => ∃ ob cb : ByteArray, L ob = o ∧ L cb = c ∧ PaAt w' b { x with o := ob, c := cb }
    | none => PaAt w' b { x with bad := true }
theorem str_is {a b : ByteArray} (h : L a = L b) : (a.toList == b.toList) = true := by rw [beq_iff_eq, ByteArray.toList_eq, ByteArray.toList_eq]; exact h
theorem str_isnt {a b : ByteArray} (h : ¬ L a = L b) : (a.toList == b.toList) = false := by rw [beq_eq_false_iff_ne, ByteArray.toList_eq, ByteArray.toList_eq]; exact h
theorem lit_is {l : List UInt8} {b : ByteArray} (h : l = L b) : (l == b.toList) = true := by rw [beq_iff_eq, ByteArray.toList_eq]; exact h
theorem lit_isnt {l : List UInt8} {b : ByteArray} (h : ¬ l = L b) : (l == b.toList) = false := by rw [beq_eq_false_iff_ne, ByteArray.toList_eq]; exact h

set_option maxRecDepth 100000 in
set_option maxHeartbeats 8000000 in
theorem delimited_any (b : Nat) (x : Pa) (body : ByteArray) (w : World) (hx : PaAt w b x) (hs : body.size ≤ 4294967296) (ho : x.o.size ≤ 1000) :
    Calls Tryd.prog 18 #[.pointer (some ⟨b, 0, none⟩), .string body] w (DelimPost x b body w) := by
  have hbl : b < w.heap.size := blk_lt hx
  have HX := Lib.hid hx
  clear hx
  go_enter Tryd.func18, Tryd.ntmps18
  go_wp2_with fail
  go_loopg [12] 4 (fun g v wr => ∃ k, k ≤ 4 ∧ v = iv k ∧ g = 4 - k ∧ Hid (Fr No w wr ∧ wr.heap[w.heap.size]? = some (.cells #[.string ⟨#[60, 37]⟩, .string ⟨#[37, 62]⟩, .string ⟨#[91, 91]⟩, .string ⟨#[93, 93]⟩, .string ⟨#[124]⟩, .string ⟨#[124]⟩, .string ⟨#[123, 123]⟩, .string ⟨#[125, 125]⟩] 62 (0, 0)) ∧ (Mu.pairs.drop k).find? (fits (L body) (L x.o)) = Mu.delim (L body) (L x.o)))
  case atStart => exact ⟨0, by omega, rfl, rfl, Lib.hid ⟨Fr.alloc _ _ _, blk_new _ _, rfl⟩⟩
  case round =>
    obtain ⟨k, hk, rfl, rfl, HI⟩ := hrel
    have hfr := HI.out.1
    have hsz := hfr.size
    have hbr : b < wr.heap.size := by omega
    have hne : b ≠ wr.heap.size := by omega
    have hblk := HI.out.2.1
    have hx2 := HX.out.fr0 hfr
    obtain ⟨-, -, -, g3, g4, g5⟩ := hx2.cells
    have gf3 := hx2.free 3
    have gf4 := hx2.free 4
    have gf5 := hx2.free 5
    have HX2 := Lib.hid hx2
    have HFR := Lib.hid hfr
    have HB := Lib.hid hblk
    clear hfr hblk hx2
    rcases k with _ | _ | _ | _ | k
    · have hv : iv 0 = .int .i64 0 := rfl
      rw [show iv (0) = .int .i64 0 from rfl]
      clear hv
      have d0 := blk_cell HB.out 0
      have d1 := blk_cell HB.out 1
      simp only [List.getElem?_toArray, List.getElem?_cons_zero, List.getElem?_cons_succ] at d0 d1
      have HT : Hid (Mu.delim (L body) (L x.o) = if fits (L body) (L x.o) ([60, 37], [37, 62]) = true then some ([60, 37], [37, 62]) else (Mu.pairs.drop 1).find? (fits (L body) (L x.o))) := Lib.hid (by
        rw [← HI.out.2.2]
        show List.find? (fits (L body) (L x.o)) (([60, 37], [37, 62]) :: Mu.pairs.drop 1) = _
        rw [List.find?_cons]
        cases fits (L body) (L x.o) ([60, 37], [37, 62]) <;> rfl)
      by_cases hb : L body = [60, 37, 32, 37, 62]
      · have q1 : (body.toList == (⟨#[60, 37]⟩ ++ ⟨#[32]⟩ ++ ⟨#[37, 62]⟩ : ByteArray).toList) = true := str_is (by rw [hb]; rfl)
        by_cases hoo : [60, 37] = L x.o
        · have q2 : (([60, 37] : List UInt8) == x.o.toList) = true := lit_is hoo
          have q3 : (([60, 37] : List UInt8) != x.o.toList) = false := by rw [bne, q2]; rfl
          have HD : Hid ((Mu.pairs.drop 1).find? (fits (L body) (L x.o)) = Mu.delim (L body) (L x.o)) := Lib.hid (by
            rw [HT.out, if_neg (by unfold fits; rw [show (([60, 37], [37, 62]) : Mu.B × Mu.B).1 = [60, 37] from rfl, hoo]; simp)])
          clear hb hoo HT
          go_wp2_with fail
          go_quiet (fail)
          go_wp2_with fail
          go_roundg 3
          case rel => exact ⟨1, by omega, rfl, rfl, Lib.hid ⟨(HFR.out.allocA _).drewNA _, blk_alloc _ HB.out, HD.out⟩⟩
          case measure => omega
        · have q2 : (([60, 37] : List UInt8) == x.o.toList) = false := lit_isnt hoo
          have q3 : (([60, 37] : List UInt8) != x.o.toList) = true := by rw [bne, q2]; rfl
          have HD : Hid (Mu.delim (L body) (L x.o) = some ([60, 37], [37, 62])) := Lib.hid (by
            rw [HT.out, if_pos (by unfold fits; rw [hb]; simp; exact hoo)])
          clear hb hoo HT
          go_wp2_with fail
          go_quiet (fail)
          go_wp2_with fail
          go_region
          go_wp2_with fail
          first | go_end0 | refine bodyPost_ret (v := .tuple #[]) rfl rfl ?_
          unfold DelimPost
          rw [HD.out]
          exact ⟨rfl, ((((Fr.of0 (M := (· = b)) HFR.out).allocA _).drewNA _).setA _ _ (.inl rfl)).setA _ _ (.inl rfl), ⟨#[60, 37]⟩, ⟨#[37, 62]⟩, rfl, rfl, ((HX2.out.fr0 (Fr.alloc _ _ _)).sm ⟨_, rfl⟩).set3 _ |>.set4 _⟩
      · have q1 : (body.toList == (⟨#[60, 37]⟩ ++ ⟨#[32]⟩ ++ ⟨#[37, 62]⟩ : ByteArray).toList) = false := str_isnt (fun h => hb (h.trans rfl))
        have HD : Hid ((Mu.pairs.drop 1).find? (fits (L body) (L x.o)) = Mu.delim (L body) (L x.o)) := Lib.hid (by
          rw [HT.out, if_neg (by unfold fits; simp; intro h; exact absurd h hb)])
        clear hb HT
        go_wp2_with fail
        go_quiet (fail)
        go_wp2_with fail
        go_roundg 3
        case rel => exact ⟨1, by omega, rfl, rfl, Lib.hid ⟨(HFR.out.allocA _).drewNA _, blk_alloc _ HB.out, HD.out⟩⟩
        case measure => omega
    · have hv : iv 1 = .int .i64 1 := rfl
      rw [show iv (0 + 1) = .int .i64 1 from rfl]
      clear hv
      have d0 := blk_cell HB.out 2
      have d1 := blk_cell HB.out 3
      simp only [List.getElem?_toArray, List.getElem?_cons_zero, List.getElem?_cons_succ] at d0 d1
      have HT : Hid (Mu.delim (L body) (L x.o) = if fits (L body) (L x.o) ([91, 91], [93, 93]) = true then some ([91, 91], [93, 93]) else (Mu.pairs.drop 2).find? (fits (L body) (L x.o))) := Lib.hid (by
        rw [← HI.out.2.2]
        show List.find? (fits (L body) (L x.o)) (([91, 91], [93, 93]) :: Mu.pairs.drop 2) = _
        rw [List.find?_cons]
        cases fits (L body) (L x.o) ([91, 91], [93, 93]) <;> rfl)
      by_cases hb : L body = [91, 91, 32, 93, 93]
      · have q1 : (body.toList == (⟨#[91, 91]⟩ ++ ⟨#[32]⟩ ++ ⟨#[93, 93]⟩ : ByteArray).toList) = true := str_is (by rw [hb]; rfl)
        by_cases hoo : [91, 91] = L x.o
        · have q2 : (([91, 91] : List UInt8) == x.o.toList) = true := lit_is hoo
          have q3 : (([91, 91] : List UInt8) != x.o.toList) = false := by rw [bne, q2]; rfl
          have HD : Hid ((Mu.pairs.drop 2).find? (fits (L body) (L x.o)) = Mu.delim (L body) (L x.o)) := Lib.hid (by
            rw [HT.out, if_neg (by unfold fits; rw [show (([91, 91], [93, 93]) : Mu.B × Mu.B).1 = [91, 91] from rfl, hoo]; simp)])
          clear hb hoo HT
          go_wp2_with fail
          go_quiet (fail)
          go_wp2_with fail
          go_roundg 2
          case rel => exact ⟨2, by omega, rfl, rfl, Lib.hid ⟨(HFR.out.allocA _).drewNA _, blk_alloc _ HB.out, HD.out⟩⟩
          case measure => omega
        · have q2 : (([91, 91] : List UInt8) == x.o.toList) = false := lit_isnt hoo
          have q3 : (([91, 91] : List UInt8) != x.o.toList) = true := by rw [bne, q2]; rfl
          have HD : Hid (Mu.delim (L body) (L x.o) = some ([91, 91], [93, 93])) := Lib.hid (by
            rw [HT.out, if_pos (by unfold fits; rw [hb]; simp; exact hoo)])
          clear hb hoo HT
          go_wp2_with fail
          go_quiet (fail)
          go_wp2_with fail
          go_region
          go_wp2_with fail
          first | go_end0 | refine bodyPost_ret (v := .tuple #[]) rfl rfl ?_
          unfold DelimPost
          rw [HD.out]
          exact ⟨rfl, ((((Fr.of0 (M := (· = b)) HFR.out).allocA _).drewNA _).setA _ _ (.inl rfl)).setA _ _ (.inl rfl), ⟨#[91, 91]⟩, ⟨#[93, 93]⟩, rfl, rfl, ((HX2.out.fr0 (Fr.alloc _ _ _)).sm ⟨_, rfl⟩).set3 _ |>.set4 _⟩
      · have q1 : (body.toList == (⟨#[91, 91]⟩ ++ ⟨#[32]⟩ ++ ⟨#[93, 93]⟩ : ByteArray).toList) = false := str_isnt (fun h => hb (h.trans rfl))
        have HD : Hid ((Mu.pairs.drop 2).find? (fits (L body) (L x.o)) = Mu.delim (L body) (L x.o)) := Lib.hid (by
          rw [HT.out, if_neg (by unfold fits; simp; intro h; exact absurd h hb)])
        clear hb HT
        go_wp2_with fail
        go_quiet (fail)
        go_wp2_with fail
        go_roundg 2
        case rel => exact ⟨2, by omega, rfl, rfl, Lib.hid ⟨(HFR.out.allocA _).drewNA _, blk_alloc _ HB.out, HD.out⟩⟩
        case measure => omega
    · have hv : iv 2 = .int .i64 2 := rfl
      rw [show iv (0 + 1 + 1) = .int .i64 2 from rfl]
      clear hv
      have d0 := blk_cell HB.out 4
      have d1 := blk_cell HB.out 5
      simp only [List.getElem?_toArray, List.getElem?_cons_zero, List.getElem?_cons_succ] at d0 d1
      have HT : Hid (Mu.delim (L body) (L x.o) = if fits (L body) (L x.o) ([124], [124]) = true then some ([124], [124]) else (Mu.pairs.drop 3).find? (fits (L body) (L x.o))) := Lib.hid (by
        rw [← HI.out.2.2]
        show List.find? (fits (L body) (L x.o)) (([124], [124]) :: Mu.pairs.drop 3) = _
        rw [List.find?_cons]
        cases fits (L body) (L x.o) ([124], [124]) <;> rfl)
      by_cases hb : L body = [124, 32, 124]
      · have q1 : (body.toList == (⟨#[124]⟩ ++ ⟨#[32]⟩ ++ ⟨#[124]⟩ : ByteArray).toList) = true := str_is (by rw [hb]; rfl)
        by_cases hoo : [124] = L x.o
        · have q2 : (([124] : List UInt8) == x.o.toList) = true := lit_is hoo
          have q3 : (([124] : List UInt8) != x.o.toList) = false := by rw [bne, q2]; rfl
          have HD : Hid ((Mu.pairs.drop 3).find? (fits (L body) (L x.o)) = Mu.delim (L body) (L x.o)) := Lib.hid (by
            rw [HT.out, if_neg (by unfold fits; rw [show (([124], [124]) : Mu.B × Mu.B).1 = [124] from rfl, hoo]; simp)])
          clear hb hoo HT
          go_wp2_with fail
          go_quiet (fail)
          go_wp2_with fail
          go_roundg 1
          case rel => exact ⟨3, by omega, rfl, rfl, Lib.hid ⟨(HFR.out.allocA _).drewNA _, blk_alloc _ HB.out, HD.out⟩⟩
          case measure => omega
        · have q2 : (([124] : List UInt8) == x.o.toList) = false := lit_isnt hoo
          have q3 : (([124] : List UInt8) != x.o.toList) = true := by rw [bne, q2]; rfl
          have HD : Hid (Mu.delim (L body) (L x.o) = some ([124], [124])) := Lib.hid (by
            rw [HT.out, if_pos (by unfold fits; rw [hb]; simp; exact hoo)])
          clear hb hoo HT
          go_wp2_with fail
          go_quiet (fail)
          go_wp2_with fail
          go_region
          go_wp2_with fail
          first | go_end0 | refine bodyPost_ret (v := .tuple #[]) rfl rfl ?_
          unfold DelimPost
          rw [HD.out]
          exact ⟨rfl, ((((Fr.of0 (M := (· = b)) HFR.out).allocA _).drewNA _).setA _ _ (.inl rfl)).setA _ _ (.inl rfl), ⟨#[124]⟩, ⟨#[124]⟩, rfl, rfl, ((HX2.out.fr0 (Fr.alloc _ _ _)).sm ⟨_, rfl⟩).set3 _ |>.set4 _⟩
      · have q1 : (body.toList == (⟨#[124]⟩ ++ ⟨#[32]⟩ ++ ⟨#[124]⟩ : ByteArray).toList) = false := str_isnt (fun h => hb (h.trans rfl))
        have HD : Hid ((Mu.pairs.drop 3).find? (fits (L body) (L x.o)) = Mu.delim (L body) (L x.o)) := Lib.hid (by
          rw [HT.out, if_neg (by unfold fits; simp; intro h; exact absurd h hb)])
        clear hb HT
        go_wp2_with fail
        go_quiet (fail)
        go_wp2_with fail
        go_roundg 1
        case rel => exact ⟨3, by omega, rfl, rfl, Lib.hid ⟨(HFR.out.allocA _).drewNA _, blk_alloc _ HB.out, HD.out⟩⟩
        case measure => omega
    · have hv : iv 3 = .int .i64 3 := rfl
      rw [show iv (0 + 1 + 1 + 1) = .int .i64 3 from rfl]
      clear hv
      have d0 := blk_cell HB.out 6
      have d1 := blk_cell HB.out 7
      simp only [List.getElem?_toArray, List.getElem?_cons_zero, List.getElem?_cons_succ] at d0 d1
      have HT : Hid (Mu.delim (L body) (L x.o) = if fits (L body) (L x.o) ([123, 123], [125, 125]) = true then some ([123, 123], [125, 125]) else (Mu.pairs.drop 4).find? (fits (L body) (L x.o))) := Lib.hid (by
        rw [← HI.out.2.2]
        show List.find? (fits (L body) (L x.o)) (([123, 123], [125, 125]) :: Mu.pairs.drop 4) = _
        rw [List.find?_cons]
        cases fits (L body) (L x.o) ([123, 123], [125, 125]) <;> rfl)
      by_cases hb : L body = [123, 123, 32, 125, 125]
      · have q1 : (body.toList == (⟨#[123, 123]⟩ ++ ⟨#[32]⟩ ++ ⟨#[125, 125]⟩ : ByteArray).toList) = true := str_is (by rw [hb]; rfl)
        by_cases hoo : [123, 123] = L x.o
        · have q2 : (([123, 123] : List UInt8) == x.o.toList) = true := lit_is hoo
          have q3 : (([123, 123] : List UInt8) != x.o.toList) = false := by rw [bne, q2]; rfl
          have HD : Hid ((Mu.pairs.drop 4).find? (fits (L body) (L x.o)) = Mu.delim (L body) (L x.o)) := Lib.hid (by
            rw [HT.out, if_neg (by unfold fits; rw [show (([123, 123], [125, 125]) : Mu.B × Mu.B).1 = [123, 123] from rfl, hoo]; simp)])
          clear hb hoo HT
          go_wp2_with fail
          go_quiet (fail)
          go_wp2_with fail
          go_roundg 0
          case rel => exact ⟨4, by omega, rfl, rfl, Lib.hid ⟨(HFR.out.allocA _).drewNA _, blk_alloc _ HB.out, HD.out⟩⟩
          case measure => omega
        · have q2 : (([123, 123] : List UInt8) == x.o.toList) = false := lit_isnt hoo
          have q3 : (([123, 123] : List UInt8) != x.o.toList) = true := by rw [bne, q2]; rfl
          have HD : Hid (Mu.delim (L body) (L x.o) = some ([123, 123], [125, 125])) := Lib.hid (by
            rw [HT.out, if_pos (by unfold fits; rw [hb]; simp; exact hoo)])
          clear hb hoo HT
          go_wp2_with fail
          go_quiet (fail)
          go_wp2_with fail
          go_region
          go_wp2_with fail
          first | go_end0 | refine bodyPost_ret (v := .tuple #[]) rfl rfl ?_
          unfold DelimPost
          rw [HD.out]
          exact ⟨rfl, ((((Fr.of0 (M := (· = b)) HFR.out).allocA _).drewNA _).setA _ _ (.inl rfl)).setA _ _ (.inl rfl), ⟨#[123, 123]⟩, ⟨#[125, 125]⟩, rfl, rfl, ((HX2.out.fr0 (Fr.alloc _ _ _)).sm ⟨_, rfl⟩).set3 _ |>.set4 _⟩
      · have q1 : (body.toList == (⟨#[123, 123]⟩ ++ ⟨#[32]⟩ ++ ⟨#[125, 125]⟩ : ByteArray).toList) = false := str_isnt (fun h => hb (h.trans rfl))
        have HD : Hid ((Mu.pairs.drop 4).find? (fits (L body) (L x.o)) = Mu.delim (L body) (L x.o)) := Lib.hid (by
          rw [HT.out, if_neg (by unfold fits; simp; intro h; exact absurd h hb)])
        clear hb HT
        go_wp2_with fail
        go_quiet (fail)
        go_wp2_with fail
        go_roundg 0
        case rel => exact ⟨4, by omega, rfl, rfl, Lib.hid ⟨(HFR.out.allocA _).drewNA _, blk_alloc _ HB.out, HD.out⟩⟩
        case measure => omega
    · obtain rfl : k = 0 := by omega
      rw [show iv (0 + 1 + 1 + 1 + 1) = .int .i64 4 from rfl]
      have HD : Hid (Mu.delim (L body) (L x.o) = none) := Lib.hid (by rw [← HI.out.2.2]; rfl)
      go_wp2_with fail
      first | go_end0 | refine bodyPost_ret (v := .tuple #[]) rfl rfl ?_
      unfold DelimPost
      rw [HD.out]
      exact ⟨rfl, (Fr.of0 (M := (· = b)) HFR.out).setA _ _ (.inl rfl), HX2.out.set5 _⟩
end Go.Proofs.YtfakghnpkdoclaaDoor
