/-
  Texts that layouts keep. (Joined by wip/pack.py.)
-/
import Derived.Test.YtfakghnpkdoclaaGreatDoorGP2
set_option linter.unusedVariables false
set_option linter.unusedSimpArgs false
namespace Go.Proofs.YtfakghnpkdoclaaGreatDoor.Mu
def VWk (T : Nat) : Nat → Val → Prop
 | 0, _ => False
 | d + 1, v => (0 ≤ v.kind ∧ v.kind ≤ 5) ∧ True ∧ v.text.length ≤ T ∧ ((v.kind = 5 → v.keys.length = v.list.length ∧ v.keys.Nodup) ∧ v.list.length ≤ 8) ∧ (-9223372036854775808 ≤ v.num ∧ v.num ≤ 9223372036854775807) ∧ ∀ x ∈ v.list, VWk T d x
def VW (T : Nat) (v : Val) : Prop := ∃ d, VWk T d v
theorem VW.list {T : Nat} {v x : Val} (h : VW T v) (hx : x ∈ v.list) : VW T x := by
 obtain ⟨d, h⟩ := h
 cases d with
 | zero => exact h.elim
 | succ d => exact ⟨d, h.2.2.2.2.2 x hx⟩
theorem VW.text {T : Nat} {v : Val} (h : VW T v) : True ∧ v.text.length ≤ T ∧ 0 ≤ v.kind ∧ v.kind ≤ 5 := by
 obtain ⟨d, h⟩ := h
 cases d with
 | zero => exact h.elim
 | succ d => exact ⟨h.2.1, h.2.2.1, h.1.1, h.1.2⟩
theorem VW.num {T : Nat} {v : Val} (h : VW T v) : -9223372036854775808 ≤ v.num ∧ v.num ≤ 9223372036854775807 := by
 obtain ⟨d, h⟩ := h
 cases d with
 | zero => exact h.elim
 | succ d => exact h.2.2.2.2.1
theorem VW.few {T : Nat} {v : Val} (h : VW T v) : v.list.length ≤ 8 := by
 obtain ⟨d, h⟩ := h
 cases d with
 | zero => exact h.elim
 | succ d => exact h.2.2.2.1.2
theorem VW.field {T : Nat} {v x : Val} {w : B} (h : VW T v) (hx : fieldV v w = some x) : VW T x := by
 unfold fieldV at hx
 split at hx
 · exact h.list (getKV_mem hx)
 · cases hx
theorem VW.downs {T : Nat} {x : Val} : ∀ {ws : List B} {v : Val}, VW T v → downs ws v = some x → VW T x
 | [], v, h, hx => by
  simp only [Mu.downs] at hx
  cases hx; exact h
 | w :: ws, v, h, hx => by
  simp only [Mu.downs] at hx
  cases hf : fieldV v w with
  | none => simp [hf] at hx
  | some y =>
   simp only [hf, Option.bind_some] at hx;exact VW.downs (h.field hf) hx
theorem VW.lookL {T : Nat} {w : B} {ws : List B} {x : Val} : ∀ {st : List Val}, (∀ v ∈ st, VW T v) → lookL w ws st = some x → VW T x
 | [], h, hx => by simp [Mu.lookL] at hx
 | c :: st, h, hx => by
  simp only [Mu.lookL] at hx
  cases hf : fieldV c w with
  | none =>
   simp only [hf] at hx;exact VW.lookL (fun v hv => h v (by simp [hv])) hx
  | some y =>
   simp only [hf] at hx;exact ((h c (by simp)).field hf).downs hx
theorem VW.lookS {T : Nat} {st : List Val} {n : B} {x : Val} (h : ∀ v ∈ st, VW T v) (hx : lookS st n = some x) : VW T x := by
 unfold Mu.lookS at hx
 split at hx
 · cases st with
   | nil => simp at hx
   | cons v st => simp at hx; subst hx; exact h _ (by simp)
 · split at hx
   · cases hx
   · exact VW.lookL h hx
theorem VOk.w {T T' : Nat} (hT : T ≤ T') : ∀ (d : Nat) (v : Val), VOk T d v → VWk T' d v
 | 0, _, h => h.elim
 | d + 1, v, h => by
  obtain ⟨h1, h2, h3, h4, h5, h6⟩ := h;exact ⟨h1, trivial, Nat.le_trans h3 hT, h4, h5, fun x hx => VOk.w hT d x (h6 x hx)⟩
theorem VG.w {T : Nat} {v : Val} (h : VG T v) : VW T v := by
 obtain ⟨d, h⟩ := h
 exact ⟨d, VOk.w (Nat.le_refl _) d v h⟩
end Go.Proofs.YtfakghnpkdoclaaGreatDoor.Mu
namespace Go.Proofs.YtfakghnpkdoclaaGreatDoor.Mu
mutual
def NSg : Node → Prop
 | .mk k t r ind kids => (k = 1 → signs t) ∧ NSgL kids
def NSgL : List Node → Prop
 | [] => True
 | n :: l => NSg n ∧ NSgL l
end
theorem NSgL.app : ∀ {a b : List Node}, NSgL a → NSgL b → NSgL (a ++ b)
 | [], b, _, h => h
 | n :: a, b, h, k => by
  simp only [NSgL] at h;show NSgL (n :: (a ++ b));simp only [NSgL];exact ⟨h.1, NSgL.app h.2 k⟩
theorem NSgL.addT {t : B} (h : signs t) : NSgL (addT t) := by
 unfold Mu.addT
 split
 · simp only [NSgL]
 · simp only [NSgL, NSg]
   exact ⟨⟨fun _ => h, trivial⟩, trivial⟩
theorem NSgL.cons {k : Nat} {t ind : B} {r : Bool} {kids l : List Node} (hk : k ≠ 1) (h1 : NSgL kids) (h2 : NSgL l) : NSgL (.mk k t r ind kids :: l) := by
 simp only [NSgL, NSg]
 exact ⟨⟨fun h => absurd h hk, h1⟩, h2⟩
theorem signs_sub {s : B} (h : signs s) (a b : Nat) : signs (sub s a b) := fun c hc => h c (mem_sub hc)
theorem parts_sg {s : B} (hs : signs s) : ∀ (n : Nat) (st : PSt) (name : B), NSgL (parts s n st name).1
 | 0, st, name => by simp [parts, NSgL]
 | n + 1, st, name => by
  have IH := parts_sg hs n;have hnil : NSgL ([] : List Node) := by simp only [NSgL]
  unfold parts;split
  · exact hnil
  · split
    · exact NSgL.addT (fun c hc => hs c (List.mem_of_mem_drop hc))
    · rename_i t _
      have htx : NSgL (addT (sub s st.pos (frOf s t st.pos))) := NSgL.addT (signs_sub hs _ _)
      dsimp only
      split
      · exact htx.app (NSgL.cons (by decide) hnil (IH _ _))
      split
      · exact htx.app (NSgL.cons (by decide) hnil (IH _ _))
      split
      · exact htx
      split
      · exact htx.app (NSgL.cons (by split <;> decide) (IH _ _) (IH _ _))
      split
      · exact htx.app (NSgL.cons (by decide) hnil (IH _ _))
      · exact htx.app (NSgL.cons (by decide) hnil (IH _ _))
theorem parse_sg {s : B} (hs : signs s) : NSgL (parse s).1 := parts_sg hs _ _ _
theorem NSgL.mem : ∀ {l : List Node} {x : Node}, NSgL l → x ∈ l → NSg x
 | n :: l, x, h, hx => by
  simp only [NSgL] at h
  rcases List.mem_cons.1 hx with rfl | hx
  · exact h.1
  · exact NSgL.mem h.2 hx
theorem wiL_mem {names : List B} : ∀ {l : List Node} {x : Node}, wiL names l → x ∈ l → wiN names x
 | n :: l, x, h, hx => by
  simp only [wiL] at h
  rcases List.mem_cons.1 hx with rfl | hx
  · exact h.1
  · exact wiL_mem h.2 hx
theorem signs_app {a b : B} (ha : signs a) (hb : signs b) : signs (a ++ b) := fun c hc => by
 rcases List.mem_append.1 hc with h | h
 · exact ha c h
 · exact hb c h
theorem signs_escB {b : UInt8} (h : signB b = true) : signs (escB b) := by
 unfold escB
 split
 · intro c hc; simp only [List.mem_cons, List.not_mem_nil, or_false] at hc; rcases hc with rfl | rfl | rfl | rfl | rfl <;> decide
 split
 · intro c hc; simp only [List.mem_cons, List.not_mem_nil, or_false] at hc; rcases hc with rfl | rfl | rfl | rfl <;> decide
 split
 · intro c hc; simp only [List.mem_cons, List.not_mem_nil, or_false] at hc; rcases hc with rfl | rfl | rfl | rfl <;> decide
 split
 · intro c hc; simp only [List.mem_cons, List.not_mem_nil, or_false] at hc; rcases hc with rfl | rfl | rfl | rfl | rfl <;> decide
 split
 · intro c hc; simp only [List.mem_cons, List.not_mem_nil, or_false] at hc; rcases hc with rfl | rfl | rfl | rfl | rfl <;> decide
 · intro c hc; rw [List.mem_singleton.1 hc]; exact h
theorem signs_esc {l : B} (h : signs l) : signs (esc l) := fun c hc => by
 obtain ⟨x, hx, hcx⟩ := List.mem_flatMap.1 hc
 exact signs_escB (h x hx) c hcx
theorem sign_digit : ∀ i, i < 10 → signB (UInt8.ofNat (48 + i)) = true := by decide
theorem signs_dec (u : Nat) : signs (Lib.decDigits u) := by
 induction u using Nat.strongRecOn with
 | ind u ih =>
  rw [Lib.decDigits];split
  · rename_i h
    intro c hc;rw [List.mem_singleton.1 hc];exact sign_digit u h
  · rename_i h
    refine signs_app (ih (u / 10) (by omega)) (fun c hc => ?_);rw [List.mem_singleton.1 hc];exact sign_digit _ (Nat.mod_lt _ (by omega))
theorem signs_itoa (n : Int) : signs (Lib.itoa n) := by
 unfold Lib.itoa
 split
 · intro c hc
   rcases List.mem_cons.1 hc with rfl | hc
   · decide
   · exact signs_dec _ c hc
 · exact signs_dec _
theorem signs_shown {T : Nat} {v : Val} (h : VG T v) : signs (shown v) := by
 unfold shown
 split
 · exact h.text.1
 split
 · exact signs_itoa _
 split
 · split
   · intro c hc; simp only [trueB, List.mem_cons, List.not_mem_nil, or_false] at hc; rcases hc with rfl | rfl | rfl | rfl <;> decide
   · intro c hc; simp only [falseB, List.mem_cons, List.not_mem_nil, or_false] at hc; rcases hc with rfl | rfl | rfl | rfl | rfl <;> decide
 · intro c hc; cases hc
theorem signs_shownO {T : Nat} {o : Option Val} (h : ∀ v, o = some v → VG T v) : signs (shownO o) := by
 cases o with
 | none => intro c hc; cases hc
 | some v => exact signs_shown (h v rfl)
theorem sAll_signs {α : Type} {f : α → RS → SRes} : ∀ (l : List α), (∀ x ∈ l, ∀ st out st', f x st = some (out, st') → signs out) → ∀ (st : RS) (out : B) (st' : RS), sAll f l st = some (out, st') → signs out
 | [], _, st, out, st', h => by
  simp only [sAll, Option.some.injEq, Prod.mk.injEq] at h;rw [← h.1]; intro c hc; cases hc
 | x :: xs, hf, st, out, st', h => by
  obtain ⟨o1, s1, o2, h1, h2, rfl⟩ := sAll_some h;exact signs_app (hf x (by simp) _ _ _ h1) (sAll_signs xs (fun y hy => hf y (by simp [hy])) _ _ _ h2)
theorem secList_vg {T : Nat} {o : Option Val} (h : ∀ v, o = some v → VG T v) : ∀ x ∈ secList o, VG T x := by
 intro x hx
 cases o with
 | none => cases hx
 | some v =>
  unfold secList at hx
  dsimp only at hx
  split at hx
  · cases hx
  split at hx
  · exact (h v rfl).list hx
  · rw [List.mem_singleton.1 hx]; exact h v rfl
theorem srender_signs (parts : List (B × B)) (raw : Bool) (T : Nat) : ∀ (n : Nat) (l : List Node) (stack : List Val) (st : RS) (out : B) (st' : RS), NSgL l → wiL [] l → (∀ v ∈ stack, VG T v) → srender parts raw n l stack st = some (out, st') → signs out
 | 0, _, _, _, _, _, _, _, _, h => by simp [srender] at h
 | n + 1, l, stack, st, out, st', hl, hw, hv, h => by
  simp only [srender] at h
  split at h
  · cases h
  refine sAll_signs l (fun x hx s o s' hh => ?_) _ _ _ h;have hx1 := hl.mem hx;have hx2 := wiL_mem hw hx;obtain ⟨k, t, r, ind, kids⟩ := x;simp only [NSg] at hx1;simp only [wiN] at hx2;have hlk : ∀ v, lookS stack t = some v → VG T v := fun v hv' => VG.lookS hv hv'
  simp only [sNode] at hh
  split at hh
  · rename_i h1
    simp only [Option.some.injEq, Prod.mk.injEq] at hh;rw [← hh.1]; exact hx1.1 h1
  split at hh
  · simp only [Option.some.injEq, Prod.mk.injEq] at hh
    rw [← hh.1]; intro c hc; cases hc
  split at hh
  · split at hh
    · cases hh
    · simp only [Option.some.injEq, Prod.mk.injEq] at hh
      rw [← hh.1];split
      · exact signs_shownO hlk
      · exact signs_esc (signs_shownO hlk)
  split at hh
  · rename_i h5
    have := hx2.2 h5;cases this
  split at hh
  · cases hh
  split at hh
  · split at hh
    · exact srender_signs parts raw T n kids stack _ _ _ hx1.2 hx2.1 hv hh
    · simp only [Option.some.injEq, Prod.mk.injEq] at hh
      rw [← hh.1]; intro c hc; cases hc
  · refine sAll_signs _ (fun y hy s2 o2 s2' h2 => ?_) _ _ _ hh
    exact srender_signs parts raw T n kids (y :: stack) _ _ _ hx1.2 hx2.1 (fun v hv' => by
     rcases List.mem_cons.1 hv' with rfl | hv'
     · exact secList_vg hlk _ hy
     · exact hv v hv') h2
end Go.Proofs.YtfakghnpkdoclaaGreatDoor.Mu
