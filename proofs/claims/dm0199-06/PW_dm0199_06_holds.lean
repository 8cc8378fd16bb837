import PyProof.Rows.All
import Wide.All
import OpenK.AllK
import Wide.FinOn
import Lean
import PySem.Challenge.RW_dm0199_06
set_option Elab.async false
set_option maxRecDepth 100000
set_option maxHeartbeats 0
set_option autoImplicit false
set_option linter.all false
set_option compiler.extract_closed false
set_option genInjectivity false
set_option genSizeOf false
section
open PySem
set_option Elab.async false
set_option autoImplicit false
namespace Mine
theorem ad {a b c d e : Nat} (h1 : a ≤ c) (h2 : b ≤ d) (h : Nat.ble (c + d) e = true) : a + b ≤ e := Nat.le_trans (Nat.add_le_add h1 h2) (Nat.le_of_ble_eq_true h)
theorem ad0 {a b e : Nat} (h : a + b ≤ e) : a ≤ e := Nat.le_trans (Nat.le_add_right ..) h
theorem ad1 {a b e : Nat} (h : a + b ≤ e) : b ≤ e := Nat.le_trans (Nat.le_add_left ..) h
theorem ble {a b c : Nat} (h : a ≤ b) (k : Nat.ble b c = true) : a ≤ c := Nat.le_trans h (Nat.le_of_ble_eq_true k)
theorem a63 {n : Nat} (h : n ≤ 1000000) : n < 2 ^ 63 := Nat.lt_of_le_of_lt h (by decide)
theorem i63 {n : Nat} (h : n ≤ 1000000) : (n : Int) < 2 ^ 63 := Int.ofNat_lt.mpr (a63 h)
theorem k63 {k n : Nat} (h : k < n) (h2 : n ≤ 1000000) : (k : Int) < 2 ^ 63 := i63 (Nat.le_trans (Nat.le_of_lt h) h2)
theorem lsz {n m : Nat} (h : n ≤ m) (k : Nat.ble m 1000 = true) : n ≤ sizeLine := Nat.le_trans h (Nat.le_trans (Nat.le_of_ble_eq_true k) (by decide))
theorem in3 : ∀ i : Fin 3, i.val = 0 ∨ i.val = 1 ∨ i.val = 2 := by decide
theorem in8 : ∀ i : Fin 8, i.val = 0 ∨ i.val = 1 ∨ i.val = 2 ∨ i.val = 3 ∨ i.val = 4 ∨ i.val = 5 ∨ i.val = 6 ∨ i.val = 7 := by decide
theorem w70 {k w : Nat} (h : w + 7 * (k + 1) ≤ 1000000) : w + 7 * k ≤ 1000000 := Nat.le_trans (Nat.add_le_add_left (Nat.mul_le_mul_left 7 (Nat.le_succ k)) w) h
theorem w7s {k w x : Nat} (h : w + 7 * (k + 1) ≤ 1000000) : w - x + 7 * (k + 1) ≤ 1000000 := Nat.le_trans (Nat.add_le_add_right (Nat.sub_le ..) _) h
theorem w7 {k w x : Nat} (h : w + 7 * (k + 1) ≤ 1000000) : w - x + 7 * k ≤ 1000000 := w70 (w7s h)
theorem w7a {k w x : Nat} (hs : x ≤ 6) (h : w + 7 * (k + 1) ≤ 1000000) : w + 1 + x + 7 * k ≤ 1000000 :=
  Nat.le_trans (Nat.add_le_add_right (Nat.le_trans (Nat.le_of_eq (Nat.add_assoc ..)) (Nat.add_le_add_left (Nat.add_le_add_left hs 1) w)) (7 * k)) (Nat.le_trans (Nat.le_of_eq (Nat.add_right_comm w 7 (7 * k))) h)
theorem i_lt {a p l : Nat} (h : a < p + l) : (a : Int) - p < l := Int.sub_left_lt_of_lt_add (Int.ofNat_lt.mpr h)
theorem i_ge {a p l : Nat} (h : p + l ≤ a) : ¬ (a : Int) - p < l := Int.not_lt.mpr (Int.le_sub_left_of_add_le (Int.ofNat_le.mpr h))
theorem span_lt {p s d l : Nat} (h1 : d ≤ l - s) (h2 : p < s) (h3 : s ≤ l) : p < s + d ∧ s + d ≤ l := ⟨Nat.lt_of_lt_of_le h2 (Nat.le_add_right ..), Nat.le_trans (Nat.add_le_add_left h1 s) (Nat.le_of_eq (Nat.add_sub_of_le h3))⟩
theorem nlt {p n : Nat} {q : Prop} (h : n ≤ p) : ¬ (p < n ∧ q) := fun x => Nat.not_lt.mpr h x.1
end Mine
end
section
open PySem PySem.Sre
set_option Elab.async false
set_option maxRecDepth 100000
set_option autoImplicit false
set_option linter.unusedVariables false
namespace Mine
noncomputable def Go (k : Nat) (m : M) (P : M → Prop) : Prop := ∃ n, n ≤ k ∧ (M.runFor n m).outcome.isSome = true ∧ P (M.runFor n m)
theorem Go.step {k : Nat} {m : M} {P : M → Prop} (ho : m.outcome = none) (h : Go k m.step P) : Go (k + 1) m P := by
  obtain ⟨n, hn, h1, h2⟩ := h
  have e : M.runFor (n + 1) m = M.runFor n m.step := by
    show (if m.outcome.isSome then m else M.runFor n m.step) = _
    rw [ho]; rfl
  exact ⟨n + 1, Nat.succ_le_succ hn, by rw [e]; exact h1, by rw [e]; exact h2⟩
theorem Go.done {k : Nat} {m : M} {P : M → Prop} (ho : m.outcome.isSome = true) (h : P m) : Go k m P := ⟨0, Nat.zero_le _, ho, h⟩
structure Core where
  pc : Nat
  pos : Nat
  hd : Nat
  marks : Array (Option Nat)
  lm : Int
  li : Int
  loops : Array Loop
  inner : Option Nat
  frames : List Sre.Frame
section
variable (C T : Array Nat) (lim st : Nat)
noncomputable def Core.M (c : Core) (ans : Option Bool) (seen : Seen) (weight : Nat) : Sre.M :=
  { code := C, text := T, lim := lim, start := st, pc := c.pc, pos := c.pos, handed := c.hd, outermost := true, marks := c.marks, lastmark := c.lm, lastindex := c.li, loops := c.loops, inner := c.inner, frames := c.frames, weight := weight, answer := ans, seen := seen }
noncomputable def Run (k : Nat) (c : Core) (P : Sre.M → Prop) : Prop := ∀ seen weight, weight + 7 * k ≤ 1000000 → Go k (c.M C T lim st none seen weight) P
noncomputable def Ans (k : Nat) (c : Core) (b : Bool) (P : Sre.M → Prop) : Prop := ∀ seen weight, weight + 7 * k ≤ 1000000 → Go k (c.M C T lim st (some b) seen weight) P
variable {C T lim st} {k : Nat} {P : Sre.M → Prop}
theorem step_run {c : Core} {seen : Seen} {weight : Nat} (h : c.pc < C.size) : (c.M C T lim st none seen weight).step = (c.M C T lim st none seen weight).exec := by
  have : (c.M C T lim st none seen weight).step = if c.pc < C.size then (c.M C T lim st none seen weight).exec else (c.M C T lim st none seen weight).stick "code:ran-off" := rfl
  rw [this, if_pos h]
theorem lt_of_op {pc : Nat} {o : Op} (h : ops[C.getD pc 0]? = some o) (hn : o ≠ .FAILURE) : pc < C.size := by
  rcases Nat.lt_or_ge pc C.size with q | q
  · exact q
  · have : C.getD pc 0 = 0 := by simp [Array.getD, Nat.not_lt.mpr q]
    rw [this] at h
    exact absurd (Option.some.inj h).symm hn
theorem Run.mark {c : Core} {i : Nat} (h : ops[C.getD c.pc 0]? = some .MARK) (hi : C.getD (c.pc + 1) 0 = i)
    (hk : Run C T lim st k { c with pc := c.pc + 2, marks := (if (i : Int) ≤ c.lm + 1 then c.marks else (List.range i).foldl (fun (a : Array (Option Nat)) (j : Nat) => if (j : Int) > c.lm then a.setIfInBounds j none else a) c.marks).setIfInBounds i (some c.pos), lm := max c.lm i, li := if i % 2 == 1 then (i / 2 + 1 : Nat) else c.li } P) : Run C T lim st (k + 1) c P := fun seen weight hw => by
  refine Go.step rfl ?_
  rw [step_run (lt_of_op h nofun)]
  have e : (c.M C T lim st none seen weight).exec = (c.M C T lim st none (seen.add (C.getD c.pc 0)) weight).mark (C.getD (c.pc + 1) 0) := by
    unfold M.exec
    have h' : ops[(c.M C T lim st none seen weight).word 0]? = some .MARK := h
    rw [h']
    rfl
  rw [e, hi]
  exact hk _ weight (w70 hw)

structure One (C : Array Nat) (pc w : Nat) (f : Nat → Bool) : Prop where
  acc : ∀ c seen, ∃ seen', accepts C pc c seen = .ok (f c, seen')
  wid : itemWidth C pc = w
  kind : ops[C.getD pc 0]? = some .LITERAL ∨ ops[C.getD pc 0]? = some .IN
theorem Run.one {c : Core} {w : Nat} {f : Nat → Bool} (h : One C c.pc w f)
    (hy : c.pos < lim → f (T.getD c.pos 0) = true → Run C T lim st k { c with pc := c.pc + w, pos := c.pos + 1 } P)
    (hn : (lim ≤ c.pos ∨ f (T.getD c.pos 0) = false) → Ans C T lim st k c false P) : Run C T lim st (k + 1) c P := fun seen weight hw => by
  refine Go.step rfl ?_
  have hlt : c.pc < C.size := by rcases h.kind with q | q <;> exact lt_of_op q nofun
  rw [step_run hlt]
  have e : (c.M C T lim st none seen weight).exec = (let m := c.M C T lim st none (seen.add (C.getD c.pc 0)) weight
      if m.pos ≥ m.lim then m.say false else
      match accepts m.code m.pc (m.text.getD m.pos 0) m.seen with
      | .error why => m.stick why
      | .ok (false, seen) => { m with seen }.say false
      | .ok (true, seen) => { m with seen, pc := m.pc + itemWidth m.code m.pc, pos := m.pos + 1 }) := by
    unfold M.exec
    rcases h.kind with q | q
    · have h' : ops[(c.M C T lim st none seen weight).word 0]? = some .LITERAL := q
      rw [h']; rfl
    · have h' : ops[(c.M C T lim st none seen weight).word 0]? = some .IN := q
      rw [h']; rfl
  rw [e]
  show Go k (if lim ≤ c.pos then _ else _) P
  rcases Nat.lt_or_ge c.pos lim with hp | hp
  · rw [if_neg (Nat.not_le.mpr hp)]
    obtain ⟨s', hs'⟩ := h.acc (T.getD c.pos 0) (seen.add (C.getD c.pc 0))
    have hs'' : accepts (c.M C T lim st none (seen.add (C.getD c.pc 0)) weight).code (c.M C T lim st none (seen.add (C.getD c.pc 0)) weight).pc ((c.M C T lim st none (seen.add (C.getD c.pc 0)) weight).text.getD (c.M C T lim st none (seen.add (C.getD c.pc 0)) weight).pos 0) (c.M C T lim st none (seen.add (C.getD c.pc 0)) weight).seen = .ok (f (T.getD c.pos 0), s') := hs'
    rw [hs'']
    cases hf : f (T.getD c.pos 0) with
    | true =>
      have := hy hp hf s' weight (w70 hw)
      rw [← h.wid] at this
      exact this
    | false => exact hn (.inr hf) s' weight (w70 hw)
  · rw [if_pos hp]
    exact hn (.inl hp) _ weight (w70 hw)
noncomputable def many (f : Nat → Bool) (T : Array Nat) : Nat → Nat → Nat
  | 0, _ => 0
  | n + 1, p => if f (T.getD p 0) then 1 + many f T n (p + 1) else 0
theorem many_s {f : Nat → Bool} {T : Array Nat} {n p : Nat} : many f T (n + 1) p = if f (T.getD p 0) = true then 1 + many f T n (p + 1) else 0 := rfl
theorem run_many {pc w : Nat} {f : Nat → Bool} (h : One C pc w f) : ∀ n p found seen, ∃ seen', Sre.run C T pc n p found seen = .ok (found + many f T n p, seen')
  | 0, p, found, seen => ⟨seen, rfl⟩
  | n + 1, p, found, seen => by
    obtain ⟨s', hs'⟩ := h.acc (T.getD p 0) seen
    have e : Sre.run C T pc (n + 1) p found seen = (do let (yes, seen) ← accepts C pc (T.getD p 0) seen; if yes then Sre.run C T pc n (p + 1) (found + 1) seen else pure (found, seen)) := rfl
    rw [e, hs']
    show ∃ seen', (if f (T.getD p 0) then Sre.run C T pc n (p + 1) (found + 1) s' else pure (found, s')) = _
    rw [many_s]
    cases f (T.getD p 0) with
    | true =>
      obtain ⟨s2, h2⟩ := run_many h n (p + 1) (found + 1) s'
      exact ⟨s2, by simp only [if_true]; rw [h2, Nat.add_assoc]⟩
    | false => exact ⟨s', rfl⟩
noncomputable def Core.kept (c : Core) (whole : Bool) : Sre.Kept := { lastmark := c.lm, lastindex := c.li, whole, marks := if whole then c.marks.extract 0 (c.lm + 1).toNat else #[] }
theorem kept_size {c : Core} {b : Bool} (h : c.marks.size ≤ 6) : (c.kept b).marks.size ≤ 6 := by
  unfold Core.kept
  cases b
  · simp
  · exact Nat.le_trans (Nat.le_of_eq Array.size_extract) (Nat.le_trans (Nat.sub_le ..) (Nat.le_trans (Nat.min_le_right ..) h))
theorem Go.attempt {c : Core} {seen : Seen} {weight : Nat} {f : Sre.Frame} {a p : Nat} (hf : f.kept.marks.size ≤ 6) (hw : weight + 7 * (k + 1) ≤ 1000000) (h : Run C T lim st k { c with frames := f :: c.frames, pc := a, pos := p, hd := p } P) : Go k ((c.M C T lim st none seen weight).attempt f a p true) P := by
  unfold M.attempt
  rw [if_neg]
  · exact h seen (weight + 1 + f.kept.marks.size) (w7a hf hw)
  · show ¬ weight + 1 + f.kept.marks.size > 16777216
    exact Nat.not_lt.mpr (Nat.le_trans (ad0 (w7a hf hw)) (by decide))
theorem Run.rep {c : Core} {w sk lo hi : Nat} {f : Nat → Bool} (h : ops[C.getD c.pc 0]? = some .REPEAT_ONE) (hs : C.getD (c.pc + 1) 0 = sk) (hlo : C.getD (c.pc + 2) 0 = lo) (hhi : C.getD (c.pc + 3) 0 = hi) (ho : One C (c.pc + 4) w f) (hm : c.marks.size ≤ 6)
    (hy : c.pos + lo ≤ lim → ∀ n, n = many f T (min hi (lim - c.pos)) c.pos → lo ≤ n → Run C T lim st k { c with pc := c.pc + 1 + sk, pos := c.pos + n, hd := c.pos + n, frames := { wait := .giveBack, pc := c.pc, pos := c.pos + n, outermost := true, count := n, kept := c.kept c.inner.isSome } :: c.frames } P)
    (hn : (lim < c.pos + lo ∨ many f T (min hi (lim - c.pos)) c.pos < lo) → Ans C T lim st k c false P) : Run C T lim st (k + 1) c P := fun seen weight hw => by
  refine Go.step rfl ?_
  rw [step_run (lt_of_op h nofun)]
  have e : (c.M C T lim st none seen weight).exec = (let m := c.M C T lim st none (seen.add (C.getD c.pc 0)) weight
      if ((C.getD (c.pc + 2) 0 : Nat) : Int) > (lim : Int) - c.pos then m.say false else
      match Sre.run C T (c.pc + 4) (min (C.getD (c.pc + 3) 0) ((lim : Int) - c.pos).toNat) c.pos 0 (m.seen.add (C.getD (c.pc + 4) 0)) with
      | .error why => m.stick why
      | .ok (n, seen) =>
        let m := { m with seen }
        if n < C.getD (c.pc + 2) 0 then m.say false else
        let m := { m with pos := m.pos + n }
        m.afterRun .giveBack n (m.keep m.inner.isSome)) := by
    unfold M.exec
    have h' : ops[(c.M C T lim st none seen weight).word 0]? = some .REPEAT_ONE := h
    rw [h']; rfl
  rw [e, hlo, hhi]
  have er : ((lim : Int) - c.pos).toNat = lim - c.pos := Int.toNat_sub _ _
  rw [er]
  obtain ⟨s', hs'⟩ := run_many (T := T) ho (min hi (lim - c.pos)) c.pos 0 ((seen.add (C.getD c.pc 0)).add (C.getD (c.pc + 4) 0))
  show Go k (if ((lo : Nat) : Int) > (lim : Int) - c.pos then _ else _) P
  rcases Nat.lt_or_ge lim (c.pos + lo) with hp | hp
  · rw [if_pos (i_lt hp)]
    exact hn (.inl hp) _ weight (w70 hw)
  · rw [if_neg (i_ge hp)]
    have hs'' : Sre.run C T (c.pc + 4) (min hi (lim - c.pos)) c.pos 0 ((c.M C T lim st none (seen.add (C.getD c.pc 0)) weight).seen.add (C.getD (c.pc + 4) 0)) = .ok (0 + many f T (min hi (lim - c.pos)) c.pos, s') := hs'
    rw [hs'', Nat.zero_add]
    show Go k (if many f T (min hi (lim - c.pos)) c.pos < lo then _ else _) P
    rcases Nat.lt_or_ge (many f T (min hi (lim - c.pos)) c.pos) lo with hq | hq
    · rw [if_pos hq]
      exact hn (.inr hq) s' weight (w70 hw)
    · rw [if_neg (Nat.not_lt.mpr hq)]
      have := hy hp _ rfl hq
      rw [← hs] at this
      exact Go.attempt (c := { c with pos := c.pos + many f T (min hi (lim - c.pos)) c.pos }) (kept_size hm) hw this
theorem Run.jump {c : Core} {sk : Nat} (h : ops[C.getD c.pc 0]? = some .JUMP) (hs : C.getD (c.pc + 1) 0 = sk) (hk : Run C T lim st k { c with pc := c.pc + 1 + sk } P) : Run C T lim st (k + 1) c P := fun seen weight hw => by
  refine Go.step rfl ?_
  rw [step_run (lt_of_op h nofun)]
  have e : (c.M C T lim st none seen weight).exec = (let m := c.M C T lim st none (seen.add (C.getD c.pc 0)) weight; { m with pc := c.pc + 1 + C.getD (c.pc + 1) 0 }) := by
    unfold M.exec
    have h' : ops[(c.M C T lim st none seen weight).word 0]? = some .JUMP := h
    rw [h']; rfl
  rw [e, hs]
  exact hk _ weight (w70 hw)
theorem Run.succ {c : Core} (h : ops[C.getD c.pc 0]? = some .SUCCESS) (hk : Ans C T lim st k { c with hd := c.pos } true P) : Run C T lim st (k + 1) c P := fun seen weight hw => by
  refine Go.step rfl ?_
  rw [step_run (lt_of_op h nofun)]
  have e : (c.M C T lim st none seen weight).exec = (let m := c.M C T lim st none (seen.add (C.getD c.pc 0)) weight; { m with handed := c.pos }.say true) := by
    unfold M.exec
    have h' : ops[(c.M C T lim st none seen weight).word 0]? = some .SUCCESS := h
    rw [h']; rfl
  rw [e]
  exact hk _ weight (w70 hw)
theorem Run.branch {c : Core} {a : Nat} (h : ops[C.getD c.pc 0]? = some .BRANCH) (ha : (C.getD (c.pc + 1) 0 == 0) = false) (hm : c.marks.size ≤ 6)
    (hk : Run C T lim st k { c with frames := { wait := .nextBranch, pc := c.pc + 1, pos := c.pos, outermost := true, kept := c.kept c.inner.isSome } :: c.frames, pc := c.pc + 1 + 1, hd := c.pos } P) : Run C T lim st (k + 1) c P := fun seen weight hw => by
  refine Go.step rfl ?_
  rw [step_run (lt_of_op h nofun)]
  have e : (c.M C T lim st none seen weight).exec = (let m := c.M C T lim st none (seen.add (C.getD c.pc 0)) weight; if C.getD (c.pc + 1) 0 == 0 then m.say false else m.attempt { wait := .nextBranch, pc := c.pc + 1, pos := c.pos, outermost := true, kept := c.kept c.inner.isSome } (c.pc + 1 + 1) c.pos true) := by
    unfold M.exec
    have h' : ops[(c.M C T lim st none seen weight).word 0]? = some .BRANCH := h
    rw [h']; rfl
  rw [e, ha]
  exact Go.attempt (c := c) (kept_size hm) hw hk
theorem Run.loop {c : Core} {sk : Nat} (h : ops[C.getD c.pc 0]? = some .REPEAT) (hs : C.getD (c.pc + 1) 0 = sk)
    (hk : Run C T lim st k { c with loops := c.loops.push { pc := c.pc, outer := c.inner }, inner := some c.loops.size, frames := { wait := .closeLoop, pc := c.pc, pos := c.pos, outermost := true, loop := c.loops.size } :: c.frames, pc := c.pc + 1 + sk, hd := c.pos } P) : Run C T lim st (k + 1) c P := fun seen weight hw => by
  refine Go.step rfl ?_
  rw [step_run (lt_of_op h nofun)]
  have e : (c.M C T lim st none seen weight).exec = ((Core.M C T lim st { c with loops := c.loops.push { pc := c.pc, outer := c.inner }, inner := some c.loops.size } none (seen.add (C.getD c.pc 0)) weight).attempt { wait := .closeLoop, pc := c.pc, pos := c.pos, outermost := true, loop := c.loops.size } (c.pc + 1 + C.getD (c.pc + 1) 0) c.pos true) := by
    unfold M.exec
    have h' : ops[(c.M C T lim st none seen weight).word 0]? = some .REPEAT := h
    rw [h']; rfl
  rw [e, hs]
  exact Go.attempt (c := { c with loops := c.loops.push { pc := c.pc, outer := c.inner }, inner := some c.loops.size }) (Nat.zero_le _) hw hk
theorem Run.more {c : Core} {i : Nat} {l : Loop} (h : ops[C.getD c.pc 0]? = some .MAX_UNTIL) (hi : c.inner = some i) (hl : c.loops.getD i { pc := 0, outer := none } = l) (h0 : C.getD (l.pc + 2) 0 = 0) (h1 : C.getD (l.pc + 3) 0 = 1) (hc : l.count = -1) (hb : l.began = none) (hm : c.marks.size ≤ 6)
    (hk : Run C T lim st k { c with loops := c.loops.modify i fun l => { l with count := 0, began := some c.pos }, frames := { wait := .maxMore, pc := c.pc + 1, pos := c.pos, outermost := true, loop := i, count := 0, kept := c.kept true, began := none } :: c.frames, pc := l.pc + 4, hd := c.pos } P) : Run C T lim st (k + 1) c P := fun seen weight hw => by
  refine Go.step rfl ?_
  rw [step_run (lt_of_op h nofun)]
  have e : (c.M C T lim st none seen weight).exec = (Core.M C T lim st { c with pc := c.pc + 1 } none (seen.add (C.getD c.pc 0)) weight).until_ true := by
    unfold M.exec
    have h' : ops[(c.M C T lim st none seen weight).word 0]? = some .MAX_UNTIL := h
    rw [h']; rfl
  rw [e]
  unfold M.until_
  have hi' : (Core.M C T lim st { c with pc := c.pc + 1 } none (seen.add (C.getD c.pc 0)) weight).inner = some i := hi
  have hl' : (Core.M C T lim st { c with pc := c.pc + 1 } none (seen.add (C.getD c.pc 0)) weight).loopAt i = l := hl
  have h0' : (Core.M C T lim st { c with pc := c.pc + 1 } none (seen.add (C.getD c.pc 0)) weight).code.getD (l.pc + 2) 0 = 0 := h0
  have h1' : (Core.M C T lim st { c with pc := c.pc + 1 } none (seen.add (C.getD c.pc 0)) weight).code.getD (l.pc + 3) 0 = 1 := h1
  rw [hi']
  simp only [hl', h0', h1', hc, hb]
  unfold M.round
  simp only [hl', hb]
  exact Go.attempt (c := { c with pc := c.pc + 1, loops := c.loops.modify i fun l => { l with count := 0, began := some c.pos } }) (kept_size hm) hw hk
theorem Run.over {c : Core} {i : Nat} {l : Loop} (h : ops[C.getD c.pc 0]? = some .MAX_UNTIL) (hi : c.inner = some i) (hl : c.loops.getD i { pc := 0, outer := none } = l) (h0 : C.getD (l.pc + 2) 0 = 0) (h1 : C.getD (l.pc + 3) 0 = 1) (hc : l.count = 0)
    (hk : Run C T lim st k { c with inner := l.outer, frames := { wait := .maxTail, pc := c.pc + 1, pos := c.pos, outermost := true, loop := i, count := 1, kept := c.kept false } :: c.frames, pc := c.pc + 1, hd := c.pos } P) : Run C T lim st (k + 1) c P := fun seen weight hw => by
  refine Go.step rfl ?_
  rw [step_run (lt_of_op h nofun)]
  have e : (c.M C T lim st none seen weight).exec = (Core.M C T lim st { c with pc := c.pc + 1 } none (seen.add (C.getD c.pc 0)) weight).until_ true := by
    unfold M.exec
    have h' : ops[(c.M C T lim st none seen weight).word 0]? = some .MAX_UNTIL := h
    rw [h']; rfl
  rw [e]
  unfold M.until_
  have hi' : (Core.M C T lim st { c with pc := c.pc + 1 } none (seen.add (C.getD c.pc 0)) weight).inner = some i := hi
  have hl' : (Core.M C T lim st { c with pc := c.pc + 1 } none (seen.add (C.getD c.pc 0)) weight).loopAt i = l := hl
  have h0' : (Core.M C T lim st { c with pc := c.pc + 1 } none (seen.add (C.getD c.pc 0)) weight).code.getD (l.pc + 2) 0 = 0 := h0
  have h1' : (Core.M C T lim st { c with pc := c.pc + 1 } none (seen.add (C.getD c.pc 0)) weight).code.getD (l.pc + 3) 0 = 1 := h1
  rw [hi']
  simp only [hl', h0', h1', hc]
  unfold M.afterLoop
  simp only [hl']
  exact Go.attempt (c := { c with pc := c.pc + 1, inner := l.outer }) (Nat.zero_le _) hw hk
theorem step_ans {c : Core} {f : Sre.Frame} {rest : List Sre.Frame} {b : Bool} {seen : Seen} {weight : Nat} (hf : c.frames = f :: rest) (ho : f.outermost = true) : (c.M C T lim st (some b) seen weight).step = M.resume (Core.M C T lim st { c with frames := rest, pc := f.pc, pos := f.pos } none seen (weight - (1 + f.kept.marks.size))) f b := by
  cases c
  cases hf
  unfold M.step Core.M
  simp only [Option.isSome_none, Bool.false_eq_true, if_false, ho]
noncomputable def Easy (f : Sre.Frame) : Prop := f.wait = .nextBranch ∨ f.wait = .giveBack ∨ f.wait = .closeLoop ∨ f.wait = .maxMore ∨ f.wait = .maxTail
theorem Ans.yes {Q : Array (Option Nat) → Int → Int → Nat → Prop} : ∀ (fs : List Sre.Frame) (c : Core), c.frames = fs → fs.length < k → (∀ f ∈ fs, f.outermost = true ∧ Easy f) → Q c.marks c.lm c.li c.hd → Ans C T lim st k c true (fun m => m.outcome = some .matched ∧ m.start = st ∧ Q m.marks m.lastmark m.lastindex m.handed) := by
  induction k with
  | zero => intro fs c _ h; exact absurd h (Nat.not_lt_zero _)
  | succ k ih =>
    intro fs c hf hk he hQ seen weight hw
    cases fs with
    | nil =>
      refine Go.step rfl (Go.done ?_ ?_)
      · unfold M.step Core.M; simp only [hf]; rfl
      · unfold M.step Core.M; simp only [hf]; exact ⟨rfl, rfl, hQ⟩
    | cons f rest =>
      obtain ⟨ho, hw'⟩ := he f (.head _)
      refine Go.step rfl ?_
      rw [step_ans hf ho]
      have hr : ∀ g ∈ rest, g.outermost = true ∧ Easy g := fun g hg => he g (.tail _ hg)
      have hl : rest.length < k := Nat.lt_of_succ_lt_succ hk
      unfold M.resume
      rcases hw' with q | q | q | q | q <;> rw [q]
      · exact ih rest { c with frames := rest, pc := f.pc, pos := f.pos } rfl hl hr hQ seen (weight - (1 + f.kept.marks.size)) (w7 hw)
      · exact ih rest { c with frames := rest, pc := f.pc, pos := f.pos } rfl hl hr hQ seen (weight - (1 + f.kept.marks.size)) (w7 hw)
      · exact ih rest { c with frames := rest, pc := f.pc, pos := f.pos, inner := _, loops := _ } rfl hl hr hQ seen (weight - (1 + f.kept.marks.size)) (w7 hw)
      · exact ih rest { c with frames := rest, pc := f.pc, pos := f.pos, loops := _ } rfl hl hr hQ seen (weight - (1 + f.kept.marks.size)) (w7 hw)
      · exact ih rest { c with frames := rest, pc := f.pc, pos := f.pos, inner := _ } rfl hl hr hQ seen (weight - (1 + f.kept.marks.size)) (w7 hw)
theorem Ans.fail {c : Core} (hf : c.frames = []) (h : ∀ m : Sre.M, m.outcome = some .failed → P m) : Ans C T lim st (k + 1) c false P := fun seen weight hw => by
  refine Go.step rfl (Go.done ?_ ?_)
  · unfold M.step Core.M; simp only [hf]; rfl
  · unfold M.step Core.M; simp only [hf]; exact h _ rfl
noncomputable def Core.back (c : Core) (kp : Sre.Kept) : Core := { c with lm := kp.lastmark, li := kp.lastindex, marks := if kp.whole then kp.marks ++ c.marks.extract kp.marks.size c.marks.size else c.marks }
theorem Ans.branch {c : Core} {f : Sre.Frame} {rest : List Sre.Frame} {a d : Nat} (hf : c.frames = f :: rest) (ho : f.outermost = true) (hq : f.wait = .nextBranch) (ha : C.getD f.pc 0 = a) (hd : (C.getD (f.pc + a) 0 == 0) = false) (hm : f.kept.marks.size ≤ 6)
    (hk : Run C T lim st k { (c.back f.kept) with frames := { wait := .nextBranch, pc := f.pc + a, pos := f.pos, outermost := true, kept := f.kept } :: rest, pc := f.pc + a + 1, pos := f.pos, hd := f.pos } P) : Ans C T lim st (k + 1) c false P := fun seen weight hw => by
  refine Go.step rfl ?_
  rw [step_ans hf ho]
  unfold M.resume
  rw [hq]
  have e : M.alternative (M.putBack (Core.M C T lim st { c with frames := rest, pc := f.pc, pos := f.pos } none seen (weight - (1 + f.kept.marks.size))) f.kept) (f.pc + C.getD f.pc 0) f.kept = (if C.getD (f.pc + C.getD f.pc 0) 0 == 0 then M.say (Core.M C T lim st { (c.back f.kept) with frames := rest, pc := f.pc, pos := f.pos } none seen (weight - (1 + f.kept.marks.size))) false else M.attempt (Core.M C T lim st { (c.back f.kept) with frames := rest, pc := f.pc, pos := f.pos } none seen (weight - (1 + f.kept.marks.size))) { wait := .nextBranch, pc := f.pc + C.getD f.pc 0, pos := f.pos, outermost := true, kept := f.kept } (f.pc + C.getD f.pc 0 + 1) f.pos true) := rfl
  show Go k (M.alternative (M.putBack _ f.kept) (f.pc + C.getD f.pc 0) f.kept) P
  rw [e, ha, hd]
  exact Go.attempt (c := { (c.back f.kept) with frames := rest, pc := f.pc, pos := f.pos }) hm (w7s hw) hk
theorem Ans.branchEnd {c : Core} {f : Sre.Frame} {rest : List Sre.Frame} {a d : Nat} (hf : c.frames = f :: rest) (ho : f.outermost = true) (hq : f.wait = .nextBranch) (ha : C.getD f.pc 0 = a) (hd : (C.getD (f.pc + a) 0 == 0) = true)
    (hk : Ans C T lim st k { (c.back f.kept) with frames := rest, pc := f.pc, pos := f.pos } false P) : Ans C T lim st (k + 1) c false P := fun seen weight hw => by
  refine Go.step rfl ?_
  rw [step_ans hf ho]
  unfold M.resume
  rw [hq]
  have e : M.alternative (M.putBack (Core.M C T lim st { c with frames := rest, pc := f.pc, pos := f.pos } none seen (weight - (1 + f.kept.marks.size))) f.kept) (f.pc + C.getD f.pc 0) f.kept = (if C.getD (f.pc + C.getD f.pc 0) 0 == 0 then M.say (Core.M C T lim st { (c.back f.kept) with frames := rest, pc := f.pc, pos := f.pos } none seen (weight - (1 + f.kept.marks.size))) false else M.attempt (Core.M C T lim st { (c.back f.kept) with frames := rest, pc := f.pc, pos := f.pos } none seen (weight - (1 + f.kept.marks.size))) { wait := .nextBranch, pc := f.pc + C.getD f.pc 0, pos := f.pos, outermost := true, kept := f.kept } (f.pc + C.getD f.pc 0 + 1) f.pos true) := rfl
  show Go k (M.alternative (M.putBack _ f.kept) (f.pc + C.getD f.pc 0) f.kept) P
  rw [e, ha, hd]
  exact hk seen (weight - (1 + f.kept.marks.size)) (w7 hw)
theorem Ans.giveEnd {c : Core} {f : Sre.Frame} {rest : List Sre.Frame} {lo : Nat} (hf : c.frames = f :: rest) (ho : f.outermost = true) (hq : f.wait = .giveBack) (hlo : C.getD (f.pc + 2) 0 = lo) (hl : f.count - 1 < lo)
    (hk : Ans C T lim st k { (c.back f.kept) with frames := rest, pc := f.pc, pos := f.pos } false P) : Ans C T lim st (k + 1) c false P := fun seen weight hw => by
  refine Go.step rfl ?_
  rw [step_ans hf ho]
  unfold M.resume
  rw [hq]
  show Go k (if f.count - 1 < (C.getD (f.pc + 2) 0 : Nat) then _ else _) P
  rw [hlo, if_pos hl]
  exact hk seen (weight - (1 + f.kept.marks.size)) (w7 hw)
theorem Ans.give {c : Core} {f : Sre.Frame} {rest : List Sre.Frame} {lo sk : Nat} (hf : c.frames = f :: rest) (ho : f.outermost = true) (hq : f.wait = .giveBack) (hlo : C.getD (f.pc + 2) 0 = lo) (hl : lo ≤ f.count - 1) (hsk : C.getD (f.pc + 1) 0 = sk) (hm : f.kept.marks.size ≤ 6)
    (hk : Run C T lim st k { (c.back f.kept) with frames := { wait := .giveBack, pc := f.pc, pos := f.pos - 1, outermost := true, count := f.count - 1, kept := f.kept } :: rest, pc := f.pc + 1 + sk, pos := f.pos - 1, hd := f.pos - 1 } P) : Ans C T lim st (k + 1) c false P := fun seen weight hw => by
  refine Go.step rfl ?_
  rw [step_ans hf ho]
  unfold M.resume
  rw [hq]
  show Go k (if f.count - 1 < (C.getD (f.pc + 2) 0 : Nat) then _ else _) P
  rw [hlo, if_neg (Int.not_lt.mpr hl)]
  rw [← hsk] at hk
  exact Go.attempt (weight := weight - (1 + f.kept.marks.size)) (c := { (c.back f.kept) with frames := rest, pc := f.pc, pos := f.pos - 1 }) hm (w7s hw) hk
theorem Ans.skip {c : Core} {f : Sre.Frame} {rest : List Sre.Frame} (hf : c.frames = f :: rest) (ho : f.outermost = true) (hq : f.wait = .maxMore) (hb : f.began = none)
    (hk : Run C T lim st k { (c.back f.kept) with loops := (c.loops.modify f.loop fun l => { l with began := none }).modify f.loop fun l => { l with count := f.count - 1 }, inner := (((c.loops.modify f.loop fun l => { l with began := none }).modify f.loop fun l => { l with count := f.count - 1 }).getD f.loop { pc := 0, outer := none }).outer, frames := { wait := .maxTail, pc := f.pc, pos := f.pos, outermost := true, loop := f.loop, count := f.count, kept := (c.back f.kept).kept false } :: rest, pc := f.pc, pos := f.pos, hd := f.pos } P) : Ans C T lim st (k + 1) c false P := fun seen weight hw => by
  refine Go.step rfl ?_
  rw [step_ans hf ho]
  unfold M.resume
  rw [hq]
  simp only [hb]
  exact Go.attempt (weight := weight - (1 + f.kept.marks.size)) (c := { (c.back f.kept) with loops := (c.loops.modify f.loop fun l => { l with began := none }).modify f.loop fun l => { l with count := f.count - 1 }, inner := _, frames := rest, pc := f.pc, pos := f.pos }) (Nat.zero_le _) (w7s hw) hk
end
end Mine
end
section
open PySem PySem.Sre
set_option Elab.async false
set_option maxRecDepth 100000
set_option autoImplicit false
set_option linter.unusedVariables false
namespace Mine
section
variable {C T : Array Nat} {lim st : Nat} {k : Nat} {P : Sre.M → Prop}
theorem one_lit {pc a : Nat} (h0 : ops[C.getD pc 0]? = some .LITERAL) (h1 : C.getD (pc + 1) 0 = a) : One C pc 2 (fun c => c == a) := by
  refine ⟨fun c seen => ⟨seen, ?_⟩, ?_, .inl h0⟩
  · unfold accepts; rw [h0, h1]
  · unfold itemWidth; rw [h0]
theorem in_zero {c f i : Nat} {yes : Bool} {seen : Seen} (h : ops[C.getD i 0]? = some .FAILURE) : ∃ s', inSet C c (f + 1) i yes seen = .ok (!yes, s') := by
  have e : inSet C c (f + 1) i yes seen = .ok (!yes, seen.add (C.getD i 0)) := by
    conv => lhs; whnf
    rw [show ops[(fun k => C.getD (i + k) 0) 0]? = _ from h]
    rfl
  exact ⟨_, e⟩
theorem in_lit {c f i a : Nat} {yes r : Bool} (h : ops[C.getD i 0]? = some .LITERAL) (ha : C.getD (i + 1) 0 = a) (hr : ∀ seen, ∃ s', inSet C c f (i + 2) yes seen = .ok (r, s')) {seen : Seen} : ∃ s', inSet C c (f + 1) i yes seen = .ok (if c == a then yes else r, s') := by
  have e : inSet C c (f + 1) i yes seen = if c == C.getD (i + 1) 0 then .ok (yes, seen.add (C.getD i 0)) else inSet C c f (i + 2) yes (seen.add (C.getD i 0)) := by
    conv => lhs; whnf
    rw [show ops[(fun k => C.getD (i + k) 0) 0]? = _ from h]
    rfl
  rw [e, ha]
  cases c == a
  · exact hr _
  · exact ⟨_, rfl⟩
theorem in_range {c f i a b : Nat} {yes r : Bool} (h : ops[C.getD i 0]? = some .RANGE) (ha : C.getD (i + 1) 0 = a) (hb : C.getD (i + 2) 0 = b) (hr : ∀ seen, ∃ s', inSet C c f (i + 3) yes seen = .ok (r, s')) {seen : Seen} : ∃ s', inSet C c (f + 1) i yes seen = .ok (if a ≤ c && c ≤ b then yes else r, s') := by
  have e : inSet C c (f + 1) i yes seen = if decide (C.getD (i + 1) 0 ≤ c) && decide (c ≤ C.getD (i + 2) 0) then .ok (yes, seen.add (C.getD i 0)) else inSet C c f (i + 3) yes (seen.add (C.getD i 0)) := by
    conv => lhs; whnf
    rw [show ops[(fun k => C.getD (i + k) 0) 0]? = _ from h]
    rfl
  rw [e, ha, hb]
  cases (decide (a ≤ c) && decide (c ≤ b))
  · exact hr _
  · exact ⟨_, rfl⟩
theorem one_range {pc a b n : Nat} (hsz : C.size = n + 3) (h0 : ops[C.getD pc 0]? = some .IN) (h1 : C.getD (pc + 1) 0 = 5) (h2 : ops[C.getD (pc + 2) 0]? = some .RANGE) (ha : C.getD (pc + 3) 0 = a) (hb : C.getD (pc + 4) 0 = b) (h5 : ops[C.getD (pc + 5) 0]? = some .FAILURE) : One C pc 6 (fun c => decide (a ≤ c) && decide (c ≤ b)) := by
  refine ⟨fun c seen => ?_, ?_, .inr h0⟩
  · unfold accepts; rw [h0, hsz]
    obtain ⟨s', e⟩ := in_range (c := c) (f := n + 2) (yes := true) (r := false) (seen := seen) h2 ha hb fun seen => in_zero h5
    refine ⟨s', e.trans ?_⟩
    cases (decide (a ≤ c) && decide (c ≤ b)) <;> rfl
  · unfold itemWidth; rw [h0, h1]
theorem one_two {pc a b n : Nat} (hsz : C.size = n + 3) (h0 : ops[C.getD pc 0]? = some .IN) (h1 : C.getD (pc + 1) 0 = 6) (h2 : ops[C.getD (pc + 2) 0]? = some .LITERAL) (ha : C.getD (pc + 3) 0 = a) (h4 : ops[C.getD (pc + 4) 0]? = some .LITERAL) (hb : C.getD (pc + 5) 0 = b) (h6 : ops[C.getD (pc + 6) 0]? = some .FAILURE) : One C pc 7 (fun c => c == a || c == b) := by
  refine ⟨fun c seen => ?_, ?_, .inr h0⟩
  · unfold accepts; rw [h0, hsz]
    obtain ⟨s', e⟩ := in_lit (c := c) (f := n + 2) (yes := true) (r := if c == b then true else false) (seen := seen) h2 ha fun seen => in_lit (f := n + 1) (r := false) h4 hb fun seen => in_zero h6
    refine ⟨s', e.trans ?_⟩
    cases c == a <;> cases c == b <;> rfl
  · unfold itemWidth; rw [h0, h1]
end
noncomputable def dig (c : Nat) : Bool := decide (48 ≤ c) && decide (c ≤ 57)
structure Code (C : Array Nat) : Prop where
  size : C.size = 102 + 3
  i5 : ops[C.getD 5 0]? = some .MARK
  a5 : C.getD 6 0 = 0
  i7 : ops[C.getD 7 0]? = some .REPEAT_ONE
  a7 : C.getD 8 0 = 6
  b7 : C.getD 9 0 = 0
  c7 : C.getD 10 0 = 1
  o11 : One C 11 2 (fun c => c == 45)
  i14 : ops[C.getD 14 0]? = some .BRANCH
  a14 : C.getD 15 0 = 5
  o16 : One C 16 2 (fun c => c == 48)
  i18 : ops[C.getD 18 0]? = some .JUMP
  a18 : C.getD 19 0 = 22
  a20 : C.getD 20 0 = 20
  o21 : One C 21 6 (fun c => decide (49 ≤ c) && decide (c ≤ 57))
  i27 : ops[C.getD 27 0]? = some .REPEAT_ONE
  a27 : C.getD 28 0 = 10
  b27 : C.getD 29 0 = 0
  c27 : C.getD 30 0 = maxRepeat
  o31 : One C 31 6 dig
  i38 : ops[C.getD 38 0]? = some .JUMP
  a38 : C.getD 39 0 = 2
  a40 : C.getD 40 0 = 0
  i41 : ops[C.getD 41 0]? = some .MARK
  a41 : C.getD 42 0 = 1
  i43 : ops[C.getD 43 0]? = some .REPEAT
  a43 : C.getD 44 0 = 20
  b43 : C.getD 45 0 = 0
  c43 : C.getD 46 0 = 1
  i47 : ops[C.getD 47 0]? = some .MARK
  a47 : C.getD 48 0 = 2
  o49 : One C 49 2 (fun c => c == 46)
  i51 : ops[C.getD 51 0]? = some .REPEAT_ONE
  a51 : C.getD 52 0 = 10
  b51 : C.getD 53 0 = 1
  c51 : C.getD 54 0 = maxRepeat
  o55 : One C 55 6 dig
  i62 : ops[C.getD 62 0]? = some .MARK
  a62 : C.getD 63 0 = 3
  i64 : ops[C.getD 64 0]? = some .MAX_UNTIL
  i65 : ops[C.getD 65 0]? = some .REPEAT
  a65 : C.getD 66 0 = 37
  b65 : C.getD 67 0 = 0
  c65 : C.getD 68 0 = 1
  i69 : ops[C.getD 69 0]? = some .MARK
  a69 : C.getD 70 0 = 4
  o71 : One C 71 7 (fun c => c == 101 || c == 69)
  i78 : ops[C.getD 78 0]? = some .REPEAT_ONE
  a78 : C.getD 79 0 = 11
  b78 : C.getD 80 0 = 0
  c78 : C.getD 81 0 = 1
  o82 : One C 82 7 (fun c => c == 45 || c == 43)
  i90 : ops[C.getD 90 0]? = some .REPEAT_ONE
  a90 : C.getD 91 0 = 10
  b90 : C.getD 92 0 = 1
  c90 : C.getD 93 0 = maxRepeat
  o94 : One C 94 6 dig
  i101 : ops[C.getD 101 0]? = some .MARK
  a101 : C.getD 102 0 = 5
  i103 : ops[C.getD 103 0]? = some .MAX_UNTIL
  i104 : ops[C.getD 104 0]? = some .SUCCESS
noncomputable def digs (T : Array Nat) (lim p : Nat) : Nat := many dig T (lim - p) p
noncomputable def signAt (T : Array Nat) (lim p : Nat) : Nat := if p < lim ∧ T.getD p 0 = 45 then p + 1 else p
noncomputable def intAt (T : Array Nat) (lim p : Nat) : Option Nat := if p < lim ∧ T.getD p 0 = 48 then some (p + 1) else if p < lim ∧ 49 ≤ T.getD p 0 ∧ T.getD p 0 ≤ 57 then some (p + 1 + digs T lim (p + 1)) else none
noncomputable def fracAt (T : Array Nat) (lim p : Nat) : Option Nat := if p < lim ∧ T.getD p 0 = 46 ∧ 1 ≤ digs T lim (p + 1) then some (p + 1 + digs T lim (p + 1)) else none
noncomputable def expSign (T : Array Nat) (lim p : Nat) : Nat := if p < lim ∧ (T.getD p 0 = 45 ∨ T.getD p 0 = 43) then p + 1 else p
noncomputable def expAt (T : Array Nat) (lim p : Nat) : Option Nat := if p < lim ∧ (T.getD p 0 = 101 ∨ T.getD p 0 = 69) ∧ 1 ≤ digs T lim (expSign T lim (p + 1)) then some (expSign T lim (p + 1) + digs T lim (expSign T lim (p + 1))) else none
noncomputable def spanOf (marks : Array (Option Nat)) (lm : Int) (g : Nat) : Option (Nat × Nat) := if ((2 * g + 1 : Nat) : Int) ≤ lm then (match marks.getD (2 * g) none, marks.getD (2 * g + 1) none with | some b, some e => some (b, e) | _, _ => none) else none
section
variable {C T : Array Nat} {lim st : Nat} {k : Nat} {P : Sre.M → Prop}
theorem many_le {f : Nat → Bool} : ∀ n p, many f T n p ≤ n
  | 0, p => Nat.le_refl _
  | n + 1, p => by
    rw [many_s]
    by_cases h : f (T.getD p 0) = true
    · rw [if_pos h, Nat.add_comm]; exact Nat.succ_le_succ (many_le (f := f) n (p + 1))
    · rw [if_neg h]; exact Nat.zero_le _
noncomputable abbrev Fin3 (st : Nat) (e : Nat) (s0 s1 s2 : Option (Nat × Nat)) : Sre.M → Prop := fun m => m.outcome = some .matched ∧ m.start = st ∧ (spanOf m.marks m.lastmark 0 = s0 ∧ spanOf m.marks m.lastmark 1 = s1 ∧ spanOf m.marks m.lastmark 2 = s2 ∧ m.handed = e)
theorem yes3 {c : Core} {e : Nat} {s0 s1 s2 : Option (Nat × Nat)} (hk : c.frames.length < k) (he : ∀ f ∈ c.frames, f.outermost = true ∧ Easy f) (h0 : spanOf c.marks c.lm 0 = s0) (h1 : spanOf c.marks c.lm 1 = s1) (h2 : spanOf c.marks c.lm 2 = s2) (h3 : c.hd = e) :
    Ans C T lim st k c true (Fin3 st e s0 s1 s2) := Ans.yes (Q := fun marks lm li hd => spanOf marks lm 0 = s0 ∧ spanOf marks lm 1 = s1 ∧ spanOf marks lm 2 = s2 ∧ hd = e) c.frames c rfl hk he ⟨h0, h1, h2, h3⟩
theorem many1 {f : Nat → Bool} {p : Nat} : many f T (min 1 (lim - p)) p = if p < lim ∧ f (T.getD p 0) = true then 1 else 0 := by
  rcases Nat.lt_or_ge p lim with h | h
  · have e : min 1 (lim - p) = 1 := Nat.min_eq_left (Nat.sub_pos_of_lt h)
    rw [e]
    rw [many_s]
    cases f (T.getD p 0) with
    | true => rw [if_pos rfl, if_pos ⟨h, rfl⟩]; rfl
    | false => rw [if_neg (by decide), if_neg (fun q => nomatch q.2)]
  · have e : min 1 (lim - p) = 0 := by rw [Nat.sub_eq_zero_of_le h]; rfl
    rw [e, if_neg (nlt h)]; rfl
theorem minMax {p : Nat} (h : lim ≤ maxRepeat) : min maxRepeat (lim - p) = lim - p := Nat.min_eq_right (Nat.le_trans (Nat.sub_le ..) h)
noncomputable def sp (a b : Option Nat) : Option (Nat × Nat) := match a, b with | some b, some e => some (b, e) | _, _ => none
theorem easy_cons {f : Sre.Frame} {fs : List Sre.Frame} (h : f.outermost = true ∧ Easy f) (t : ∀ f ∈ fs, f.outermost = true ∧ Easy f) : ∀ g ∈ f :: fs, g.outermost = true ∧ Easy g := fun g hg => by
  rcases List.mem_cons.mp hg with rfl | hg
  · exact h
  · exact t g hg
theorem Run.mark' {c : Core} {i : Nat} (marks' : Array (Option Nat)) (lm' li' : Int) (h : ops[C.getD c.pc 0]? = some .MARK) (hi : C.getD (c.pc + 1) 0 = i)
    (e1 : (if (i : Int) ≤ c.lm + 1 then c.marks else (List.range i).foldl (fun (a : Array (Option Nat)) (j : Nat) => if (j : Int) > c.lm then a.setIfInBounds j none else a) c.marks).setIfInBounds i (some c.pos) = marks') (e2 : max c.lm i = lm') (e3 : (if i % 2 == 1 then ((i / 2 + 1 : Nat) : Int) else c.li) = li')
    (hk : Run C T lim st k { c with pc := c.pc + 2, marks := marks', lm := lm', li := li' } P) : Run C T lim st (k + 1) c P := by
  subst e1 e2 e3
  exact Run.mark h hi hk
theorem Run.more' {c : Core} {i : Nat} {l : Loop} (loops' : Array Loop) (h : ops[C.getD c.pc 0]? = some .MAX_UNTIL) (hi : c.inner = some i) (hl : c.loops.getD i { pc := 0, outer := none } = l) (h0 : C.getD (l.pc + 2) 0 = 0) (h1 : C.getD (l.pc + 3) 0 = 1) (hc : l.count = -1) (hb : l.began = none) (hm : c.marks.size ≤ 6)
    (e : (c.loops.modify i fun l => { l with count := 0, began := some c.pos }) = loops')
    (hk : Run C T lim st k { c with loops := loops', frames := { wait := .maxMore, pc := c.pc + 1, pos := c.pos, outermost := true, loop := i, count := 0, kept := c.kept true, began := none } :: c.frames, pc := l.pc + 4, hd := c.pos } P) : Run C T lim st (k + 1) c P := by
  subst e
  exact Run.more h hi hl h0 h1 hc hb hm hk
theorem Run.loop' {c : Core} {sk : Nat} (loops' : Array Loop) (h : ops[C.getD c.pc 0]? = some .REPEAT) (hs : C.getD (c.pc + 1) 0 = sk) (i : Nat) (hi : c.loops.size = i) (e : c.loops.push { pc := c.pc, outer := c.inner } = loops')
    (hk : Run C T lim st k { c with loops := loops', inner := some i, frames := { wait := .closeLoop, pc := c.pc, pos := c.pos, outermost := true, loop := i } :: c.frames, pc := c.pc + 1 + sk, hd := c.pos } P) : Run C T lim st (k + 1) c P := by
  subst e hi
  exact Run.loop h hs hk
end
end Mine
end
section
open PySem PySem.Sre
set_option Elab.async false
set_option maxRecDepth 100000
set_option autoImplicit false
set_option linter.unusedVariables false
namespace Mine
section
variable {C T : Array Nat} {lim st : Nat} {k : Nat} {P : Sre.M → Prop}
theorem exp_tail (hC : Code C) (hlim : lim ≤ maxRepeat) {p : Nat} {M : Array (Option Nat)} {li : Int} {l0 : Loop} {fs : List Sre.Frame} {kp : Sre.Kept} {s0 s1 : Option (Nat × Nat)} (hfs : ∀ f ∈ fs, f.outermost = true ∧ Easy f) (hlen : fs.length ≤ 9) (hM6 : M.size = 6) (hkp : kp.marks.size ≤ 6) (hw : kp.whole = true)
    (hs : ∀ e, spanOf (M.setIfInBounds 5 (some e)) 5 0 = s0 ∧ spanOf (M.setIfInBounds 5 (some e)) 5 1 = s1 ∧ spanOf (M.setIfInBounds 5 (some e)) 5 2 = some (p, e))
    (hf : spanOf (kp.marks ++ M.extract kp.marks.size M.size) kp.lastmark 0 = s0 ∧ spanOf (kp.marks ++ M.extract kp.marks.size M.size) kp.lastmark 1 = s1 ∧ spanOf (kp.marks ++ M.extract kp.marks.size M.size) kp.lastmark 2 = none) :
    Run C T lim st 27 ⟨71, p, p, M, 4, li, #[l0, { pc := 65, count := 0, began := some p, outer := none }], some 1, { wait := .maxMore, pc := 104, pos := p, outermost := true, loop := 1, count := 0, kept := kp, began := none } :: fs⟩ (Fin3 st ((expAt T lim p).getD p) s0 s1 ((expAt T lim p).map fun e => (p, e))) := by
  have hM : M.size ≤ 6 := Nat.le_of_eq hM6
  have skip : ∀ {pc q hd : Nat} {lm li : Int} {k : Nat}, 20 ≤ k → expAt T lim p = none →
      Ans C T lim st k ⟨pc, q, hd, M, lm, li, #[l0, { pc := 65, count := 0, began := some p, outer := none }], some 1, { wait := .maxMore, pc := 104, pos := p, outermost := true, loop := 1, count := 0, kept := kp, began := none } :: fs⟩ false (Fin3 st ((expAt T lim p).getD p) s0 s1 ((expAt T lim p).map fun e => (p, e))) := by
    intro pc q hd lm li k hk he
    rw [he]
    match k, hk with
    | k + 2, hk =>
      refine Ans.skip rfl rfl rfl rfl ?_
      refine Run.succ hC.i104 ?_
      have e : (Core.back ⟨pc, q, hd, M, lm, li, #[l0, { pc := 65, count := 0, began := some p, outer := none }], some 1, { wait := .maxMore, pc := 104, pos := p, outermost := true, loop := 1, count := 0, kept := kp, began := none } :: fs⟩ kp).marks = kp.marks ++ M.extract kp.marks.size M.size := by
        unfold Core.back; rw [hw]; rfl
      refine yes3 (by simp; lia) (easy_cons ⟨rfl, .inr (.inr (.inr (.inr rfl)))⟩ hfs) ?_ ?_ ?_ rfl
      · dsimp only; rw [e]; exact hf.1
      · dsimp only; rw [e]; exact hf.2.1
      · dsimp only; rw [e]; exact hf.2.2
  have sz : ∀ {b : Bool} {pc q hd : Nat} {lm li : Int} {a b' d}, (Core.kept ⟨pc, q, hd, M, lm, li, a, b', d⟩ b).marks.size ≤ 6 := kept_size hM
  refine Run.one hC.o71 (fun hp he => ?_) fun hn => ?_
  · dsimp only at hp he ⊢
    have he' : T.getD p 0 = 101 ∨ T.getD p 0 = 69 := by simpa using he
    refine Run.rep hC.i78 hC.a78 hC.b78 hC.c78 hC.o82 hM (fun _ n hn _ => ?_) fun hn => by
      rcases hn with hn | hn
      · have hn : lim < p + 1 + 0 := hn
        exact absurd hn (Nat.not_lt.mpr hp)
      · exact absurd hn (Nat.not_lt_zero _)
    dsimp only at hn ⊢
    have hn' : n = if p + 1 < lim ∧ (T.getD (p + 1) 0 = 45 ∨ T.getD (p + 1) 0 = 43) then 1 else 0 := by
      rw [hn]; exact many1.trans (by simp)
    have hpn : p + 1 + n = expSign T lim (p + 1) := by
      rw [hn']; unfold expSign; split <;> simp_all
    generalize hkk : Core.kept _ _ = kk
    have hks : kk.marks.size ≤ 6 := by rw [← hkk]; exact sz
    have hkw : kk.whole = true := by rw [← hkk]; rfl
    have hkm : kk.marks = M.extract 0 5 := by rw [← hkk]; rfl
    refine Run.rep hC.i90 hC.a90 hC.b90 hC.c90 hC.o94 hM (fun _ d hd hd1 => ?_) fun hn => ?_
    · dsimp only at hd ⊢
      have hd' : d = digs T lim (expSign T lim (p + 1)) := by
        rw [hd, minMax hlim, hpn]; rfl
      have he : expAt T lim p = some (p + 1 + n + d) := by
        unfold expAt
        rw [if_pos ⟨hp, he', by rw [← hd']; exact hd1⟩, hpn, ← hd']
      rw [he]
      obtain ⟨q0, q1, q2⟩ := hs (p + 1 + n + d)
      refine Run.mark' (M.setIfInBounds 5 (some (p + 1 + n + d))) 5 3 hC.i101 hC.a101 rfl rfl rfl ?_
      dsimp only
      refine Run.over (i := 1) (l := { pc := 65, count := 0, began := some p, outer := none }) hC.i103 rfl rfl hC.b65 hC.c65 rfl ?_
      dsimp only
      refine Run.succ hC.i104 ?_
      dsimp only
      refine yes3 (by simp; lia) ?_ q0 q1 q2 rfl
      exact easy_cons ⟨rfl, .inr (.inr (.inr (.inr rfl)))⟩ (easy_cons ⟨rfl, .inr (.inl rfl)⟩ (easy_cons ⟨rfl, .inr (.inl rfl)⟩ (easy_cons ⟨rfl, .inr (.inr (.inr (.inl rfl)))⟩ hfs)))
    · dsimp only at hn ⊢
      have hz : digs T lim (expSign T lim (p + 1)) = 0 := by
        rcases hn with hn | hn
        · have := many_le (T := T) (f := dig) (lim - expSign T lim (p + 1)) (expSign T lim (p + 1))
          exact Nat.le_zero.mp (Nat.le_trans this (Nat.le_of_eq (Nat.sub_eq_zero_of_le (Nat.le_trans (Nat.le_of_lt_succ hn) (Nat.le_of_eq hpn)))))
        · rw [minMax hlim, hpn] at hn
          exact Nat.lt_one_iff.mp hn
      have he : expAt T lim p = none := by
        unfold expAt
        rw [if_neg fun q => by rw [hz] at q; exact absurd q.2.2 (by decide)]
      have hback : kk.marks ++ M.extract kk.marks.size M.size = M := by
        have e5 : kk.marks.size = 5 := by rw [hkm, Array.size_extract, hM6]; rfl
        rw [e5, hkm, Array.extract_append_extract, hM6]
        show M.extract 0 6 = M
        rw [← hM6]; exact Array.extract_size
      by_cases hc : p + 1 < lim ∧ (T.getD (p + 1) 0 = 45 ∨ T.getD (p + 1) 0 = 43)
      · rw [if_pos hc] at hn'
        subst hn'
        refine Ans.give rfl rfl rfl hC.b78 (by dsimp only; decide) hC.a78 hks ?_
        unfold Core.back
        simp only [hkw, if_true, hback]
        refine Run.rep hC.i90 hC.a90 hC.b90 hC.c90 hC.o94 hM (fun _ d hd hd1 => ?_) fun hn => ?_
        · have hd : d = many dig T (min maxRepeat (lim - (p + 1))) (p + 1) := hd
          rw [minMax hlim] at hd
          obtain ⟨j, hj⟩ : ∃ j, lim - (p + 1) = j + 1 := ⟨lim - (p + 1) - 1, (Nat.sub_add_cancel (Nat.sub_pos_of_lt hc.1)).symm⟩
          rw [hj] at hd
          unfold many at hd
          have : dig (T.getD (p + 1) 0) = false := by
            rcases hc.2 with q | q <;> rw [q] <;> rfl
          rw [this] at hd
          simp at hd
          rw [hd] at hd1; exact absurd hd1 (by decide)
        · refine Ans.giveEnd rfl rfl rfl hC.b78 (by dsimp only; decide) ?_
          unfold Core.back
          simp only [hkw, if_true, hback]
          exact skip (by decide) he
      · rw [if_neg hc] at hn'
        subst hn'
        refine Ans.giveEnd rfl rfl rfl hC.b78 (by dsimp only; decide) ?_
        unfold Core.back
        simp only [hkw, if_true, hback]
        exact skip (by decide) he
  · dsimp only at hn
    have he : expAt T lim p = none := by
      unfold expAt
      rw [if_neg fun q => ?_]
      rcases hn with hn | hn
      · exact Nat.not_lt.mpr hn q.1
      · rw [Bool.or_eq_false_iff] at hn
        simp only [beq_eq_false_iff_ne] at hn
        exact q.2.1.elim hn.1 hn.2
    exact skip (by decide) he
end
end Mine
end
section
open PySem PySem.Sre
set_option Elab.async false
set_option maxRecDepth 100000
set_option autoImplicit false
set_option linter.unusedVariables false
namespace Mine
section
variable {C T : Array Nat} {lim st : Nat} {k : Nat} {P : Sre.M → Prop}
theorem ext2 {α : Type} {a b c d e f : α} : #[a, b, c, d, e, f].extract 0 2 = #[a, b] := by simp
theorem ext4 {α : Type} {a b c d e f : α} : #[a, b, c, d, e, f].extract 0 4 = #[a, b, c, d] := by simp
theorem ext26 {α : Type} {a b c d e f x y : α} : #[x, y] ++ #[a, b, c, d, e, f].extract 2 6 = #[x, y, c, d, e, f] := by simp
theorem ext46 {α : Type} {a b c d e f x y z w : α} : #[x, y, z, w] ++ #[a, b, c, d, e, f].extract 4 6 = #[x, y, z, w, e, f] := by simp
theorem kept2 {pc q hd : Nat} {m0 m1 m2 m3 m4 m5 : Option Nat} {li : Int} {a b d} : Core.kept ⟨pc, q, hd, #[m0, m1, m2, m3, m4, m5], 1, li, a, b, d⟩ true = { lastmark := 1, lastindex := li, whole := true, marks := #[m0, m1] } := by
  have : Core.kept ⟨pc, q, hd, #[m0, m1, m2, m3, m4, m5], 1, li, a, b, d⟩ true = { lastmark := 1, lastindex := li, whole := true, marks := #[m0, m1, m2, m3, m4, m5].extract 0 2 } := rfl
  rw [this, ext2]
theorem kept4 {pc q hd : Nat} {m0 m1 m2 m3 m4 m5 : Option Nat} {li : Int} {a b d} : Core.kept ⟨pc, q, hd, #[m0, m1, m2, m3, m4, m5], 3, li, a, b, d⟩ true = { lastmark := 3, lastindex := li, whole := true, marks := #[m0, m1, m2, m3] } := by
  have : Core.kept ⟨pc, q, hd, #[m0, m1, m2, m3, m4, m5], 3, li, a, b, d⟩ true = { lastmark := 3, lastindex := li, whole := true, marks := #[m0, m1, m2, m3, m4, m5].extract 0 4 } := rfl
  rw [this, ext4]
theorem exp_walk (hC : Code C) (hlim : lim ≤ maxRepeat) {p hd : Nat} {m0 m1 m2 m3 m4 m5 : Option Nat} {lm li : Int} {l0 : Loop} {fs : List Sre.Frame} {s1 : Option (Nat × Nat)} (hfs : ∀ f ∈ fs, f.outermost = true ∧ Easy f) (hlen : fs.length ≤ 8) (h : (lm = 1 ∧ s1 = none) ∨ (lm = 3 ∧ s1 = sp m2 m3)) :
    Run C T lim st 30 ⟨65, p, hd, #[m0, m1, m2, m3, m4, m5], lm, li, #[l0], none, fs⟩ (Fin3 st ((expAt T lim p).getD p) (sp m0 m1) s1 ((expAt T lim p).map fun e => (p, e))) := by
  refine Run.loop' #[l0, { pc := 65, outer := none }] hC.i65 hC.a65 1 rfl rfl ?_
  dsimp only
  refine Run.more' (i := 1) (l := { pc := 65, outer := none }) #[l0, { pc := 65, count := 0, began := some p, outer := none }] hC.i103 rfl rfl hC.b65 hC.c65 rfl rfl (Nat.le_of_ble_eq_true rfl) rfl ?_
  dsimp only
  have hfs1 := easy_cons (f := { wait := .closeLoop, pc := 65, pos := p, outermost := true, loop := 1 }) ⟨rfl, .inr (.inr (.inl rfl))⟩ hfs
  rcases h with ⟨rfl, rfl⟩ | ⟨rfl, rfl⟩
  · rw [kept2]
    refine Run.mark' #[m0, m1, none, none, some p, m5] 4 li hC.i69 hC.a69 rfl rfl rfl ?_
    refine exp_tail hC hlim hfs1 (Nat.succ_le_succ hlen) rfl (Nat.le_of_ble_eq_true rfl) rfl (fun e => ⟨rfl, rfl, rfl⟩) ?_
    show spanOf (#[m0, m1] ++ #[m0, m1, none, none, some p, m5].extract 2 6) 1 0 = _ ∧ spanOf (#[m0, m1] ++ #[m0, m1, none, none, some p, m5].extract 2 6) 1 1 = _ ∧ spanOf (#[m0, m1] ++ #[m0, m1, none, none, some p, m5].extract 2 6) 1 2 = _
    rw [ext26]
    exact ⟨rfl, rfl, rfl⟩
  · rw [kept4]
    refine Run.mark' #[m0, m1, m2, m3, some p, m5] 4 li hC.i69 hC.a69 rfl rfl rfl ?_
    refine exp_tail hC hlim hfs1 (Nat.succ_le_succ hlen) rfl (Nat.le_of_ble_eq_true rfl) rfl (fun e => ⟨rfl, rfl, rfl⟩) ?_
    show spanOf (#[m0, m1, m2, m3] ++ #[m0, m1, m2, m3, some p, m5].extract 4 6) 3 0 = _ ∧ spanOf (#[m0, m1, m2, m3] ++ #[m0, m1, m2, m3, some p, m5].extract 4 6) 3 1 = _ ∧ spanOf (#[m0, m1, m2, m3] ++ #[m0, m1, m2, m3, some p, m5].extract 4 6) 3 2 = _
    rw [ext46]
    exact ⟨rfl, rfl, rfl⟩
theorem Run.lift {c : Core} {j : Nat} (h : Run C T lim st j c P) (hj : j ≤ k) : Run C T lim st k c P := fun seen weight hw => by
  obtain ⟨n, hn, x⟩ := h seen weight (Nat.le_trans (Nat.add_le_add_left (Nat.mul_le_mul_left 7 hj) _) hw)
  exact ⟨n, Nat.le_trans hn hj, x⟩
theorem Ans.lift {c : Core} {j : Nat} {b : Bool} (h : Ans C T lim st j c b P) (hj : j ≤ k) : Ans C T lim st k c b P := fun seen weight hw => by
  obtain ⟨n, hn, x⟩ := h seen weight (Nat.le_trans (Nat.add_le_add_left (Nat.mul_le_mul_left 7 hj) _) hw)
  exact ⟨n, Nat.le_trans hn hj, x⟩
theorem Ans.skip' {c : Core} {f : Sre.Frame} {rest : List Sre.Frame} (loops' : Array Loop) (inner' : Option Nat) (c' : Core) (hf : c.frames = f :: rest) (ho : f.outermost = true) (hq : f.wait = .maxMore) (hb : f.began = none) (hc : c.back f.kept = c')
    (e1 : ((c.loops.modify f.loop fun l => { l with began := none }).modify f.loop fun l => { l with count := f.count - 1 }) = loops') (e2 : (loops'.getD f.loop { pc := 0, outer := none }).outer = inner')
    (hk : Run C T lim st k { c' with loops := loops', inner := inner', frames := { wait := .maxTail, pc := f.pc, pos := f.pos, outermost := true, loop := f.loop, count := f.count, kept := c'.kept false } :: rest, pc := f.pc, pos := f.pos, hd := f.pos } P) : Ans C T lim st (k + 1) c false P := by
  subst hc e1 e2
  exact Ans.skip hf ho hq hb hk
noncomputable abbrev expEnd (T : Array Nat) (lim p : Nat) : Nat := (expAt T lim p).getD p
noncomputable abbrev fracEnd (T : Array Nat) (lim p : Nat) : Nat := (fracAt T lim p).getD p
theorem frac_walk (hC : Code C) (hlim : lim ≤ maxRepeat) {p hd : Nat} {m0 m1 m2 m3 m4 m5 : Option Nat} {li : Int} {fs : List Sre.Frame} (hfs : ∀ f ∈ fs, f.outermost = true ∧ Easy f) (hlen : fs.length ≤ 4) :
    Run C T lim st 40 ⟨43, p, hd, #[m0, m1, m2, m3, m4, m5], 1, li, #[], none, fs⟩ (Fin3 st (expEnd T lim (fracEnd T lim p)) (sp m0 m1) ((fracAt T lim p).map fun e => (p, e)) ((expAt T lim (fracEnd T lim p)).map fun e => (fracEnd T lim p, e))) := by
  refine Run.loop' #[{ pc := 43, outer := none }] hC.i43 hC.a43 0 rfl rfl ?_
  dsimp only
  refine Run.more' (i := 0) (l := { pc := 43, outer := none }) #[{ pc := 43, count := 0, began := some p, outer := none }] hC.i64 rfl rfl hC.b43 hC.c43 rfl rfl (Nat.le_of_ble_eq_true rfl) rfl ?_
  dsimp only
  have hfs1 := easy_cons (f := { wait := .closeLoop, pc := 43, pos := p, outermost := true, loop := 0 }) ⟨rfl, .inr (.inr (.inl rfl))⟩ hfs
  rw [kept2]
  refine Run.mark' #[m0, m1, some p, m3, m4, m5] 2 li hC.i47 hC.a47 rfl rfl rfl ?_
  dsimp only
  have skip : ∀ {pc q hd : Nat} {lm li' : Int}, fracAt T lim p = none →
      Ans C T lim st 31 ⟨pc, q, hd, #[m0, m1, some p, m3, m4, m5], lm, li', #[{ pc := 43, count := 0, began := some p, outer := none }], some 0, { wait := .maxMore, pc := 65, pos := p, outermost := true, loop := 0, count := 0, kept := { lastmark := 1, lastindex := li, whole := true, marks := #[m0, m1] }, began := none } :: { wait := .closeLoop, pc := 43, pos := p, outermost := true, loop := 0 } :: fs⟩ false
      (Fin3 st (expEnd T lim (fracEnd T lim p)) (sp m0 m1) ((fracAt T lim p).map fun e => (p, e)) ((expAt T lim (fracEnd T lim p)).map fun e => (fracEnd T lim p, e))) := by
    intro pc q hd lm li' hnone
    have e : fracEnd T lim p = p := by show (fracAt T lim p).getD p = p; rw [hnone]; rfl
    rw [e, hnone]
    refine Ans.skip' #[{ pc := 43, count := -1, began := none, outer := none }] none ⟨pc, q, hd, #[m0, m1, some p, m3, m4, m5], 1, li, #[{ pc := 43, count := 0, began := some p, outer := none }], some 0, { wait := .maxMore, pc := 65, pos := p, outermost := true, loop := 0, count := 0, kept := { lastmark := 1, lastindex := li, whole := true, marks := #[m0, m1] }, began := none } :: { wait := .closeLoop, pc := 43, pos := p, outermost := true, loop := 0 } :: fs⟩ rfl rfl rfl rfl ?_ rfl rfl ?_
    · have : ∀ (c : Core) (kp : Sre.Kept), kp.whole = true → c.back kp = { c with lm := kp.lastmark, li := kp.lastindex, marks := kp.marks ++ c.marks.extract kp.marks.size c.marks.size } := fun c kp h => by unfold Core.back; rw [h]; rfl
      rw [this _ _ rfl]
      show Core.mk pc q hd (#[m0, m1] ++ #[m0, m1, some p, m3, m4, m5].extract 2 6) 1 li _ _ _ = _
      rw [ext26]
    exact Run.lift (exp_walk hC hlim (easy_cons ⟨rfl, .inr (.inr (.inr (.inr rfl)))⟩ hfs1) (Nat.le_trans (Nat.succ_le_succ (Nat.succ_le_succ hlen)) (by decide)) (.inl ⟨rfl, rfl⟩)) (by decide)
  refine Run.one hC.o49 (fun hp he => ?_) fun hn => ?_
  · dsimp only at hp he ⊢
    have he' : T.getD p 0 = 46 := by simpa using he
    refine Run.rep hC.i51 hC.a51 hC.b51 hC.c51 hC.o55 (Nat.le_of_ble_eq_true rfl) (fun _ d hd hd1 => ?_) fun hn => ?_
    · dsimp only at hd ⊢
      have hd' : d = digs T lim (p + 1) := by rw [hd, minMax hlim]; rfl
      have he : fracAt T lim p = some (p + 1 + d) := by
        unfold fracAt
        rw [if_pos ⟨hp, he', by rw [← hd']; exact hd1⟩, ← hd']
      have e : fracEnd T lim p = p + 1 + d := by show (fracAt T lim p).getD p = _; rw [he]; rfl
      rw [e, he]
      refine Run.mark' #[m0, m1, some p, some (p + 1 + d), m4, m5] 3 2 hC.i62 hC.a62 rfl rfl rfl ?_
      dsimp only
      refine Run.over (i := 0) (l := { pc := 43, count := 0, began := some p, outer := none }) hC.i64 rfl rfl hC.b43 hC.c43 rfl ?_
      dsimp only
      exact Run.lift (exp_walk hC hlim (easy_cons ⟨rfl, .inr (.inr (.inr (.inr rfl)))⟩ (easy_cons ⟨rfl, .inr (.inl rfl)⟩ (easy_cons ⟨rfl, .inr (.inr (.inr (.inl rfl)))⟩ hfs1))) (Nat.succ_le_succ (Nat.succ_le_succ (Nat.succ_le_succ (Nat.succ_le_succ hlen)))) (.inr ⟨rfl, rfl⟩)) (by decide)
    · dsimp only at hn ⊢
      refine Ans.lift (skip ?_) (by decide)
      unfold fracAt
      rw [if_neg fun q => ?_]
      rcases hn with hn | hn
      · have := many_le (T := T) (f := dig) (lim - (p + 1)) (p + 1)
        exact absurd (Nat.le_trans q.2.2 (Nat.le_trans this (Nat.le_of_eq (Nat.sub_eq_zero_of_le (Nat.le_of_lt_succ hn))))) (by decide)
      · rw [minMax hlim] at hn
        exact absurd q.2.2 (Nat.not_le.mpr hn)
  · dsimp only at hn
    have he : fracAt T lim p = none := by
      unfold fracAt
      rw [if_neg fun q => ?_]
      rcases hn with hn | hn
      · exact Nat.not_lt.mpr hn q.1
      · simp only [beq_eq_false_iff_ne] at hn
        exact hn q.2.1
    exact Ans.lift (skip he) (by decide)
noncomputable def NumAt (T : Array Nat) (lim st : Nat) (m : Sre.M) : Prop := match intAt T lim (signAt T lim st) with
  | none => m.outcome = some .failed
  | some p => Fin3 st (expEnd T lim (fracEnd T lim p)) (some (st, p)) ((fracAt T lim p).map fun e => (p, e)) ((expAt T lim (fracEnd T lim p)).map fun e => (fracEnd T lim p, e)) m
theorem kept0 {c : Core} : c.kept false = { lastmark := c.lm, lastindex := c.li, whole := false, marks := #[] } := rfl
theorem back0 {c : Core} {kp : Sre.Kept} (h : kp.whole = false) : c.back kp = { c with lm := kp.lastmark, li := kp.lastindex } := by unfold Core.back; rw [h]; rfl
theorem int_walk (hC : Code C) (hlim : lim ≤ maxRepeat) {p hd : Nat} {Mk : Array (Option Nat)} {fs : List Sre.Frame} (hMk : Mk.size ≤ 6)
    (hp : ∀ e hd' F, intAt T lim p = some e → F.length ≤ 2 → (∀ f ∈ F, f.outermost = true ∧ Easy f) → Run C T lim st k ⟨41, e, hd', Mk, 0, -1, #[], none, F ++ fs⟩ P)
    (hf : intAt T lim p = none → ∀ pc q hd', Ans C T lim st k ⟨pc, q, hd', Mk, 0, -1, #[], none, fs⟩ false P) : Run C T lim st (k + 6) ⟨14, p, hd, Mk, 0, -1, #[], none, fs⟩ P := by
  refine Run.branch (a := 5) hC.i14 (by show (C.getD 15 0 == 0) = false; rw [hC.a14]; rfl) hMk ?_
  dsimp only
  rw [show (none : Option Nat).isSome = false from rfl, kept0]
  refine Run.one hC.o16 (fun h1 h2 => ?_) fun hn => ?_
  · dsimp only at h1 h2 ⊢
    have h2' : T.getD p 0 = 48 := by simpa using h2
    refine Run.jump hC.i18 hC.a18 ?_
    refine Run.lift (hp (p + 1) _ [{ wait := .nextBranch, pc := 15, pos := p, outermost := true, kept := { lastmark := 0, lastindex := -1, whole := false, marks := #[] } }] ?_ (by simp) (easy_cons ⟨rfl, .inl rfl⟩ fun _ h => nomatch h)) (Nat.le_add_right ..)
    unfold intAt; rw [if_pos ⟨h1, h2'⟩]
  · dsimp only at hn
    have h0 : ¬ (p < lim ∧ T.getD p 0 = 48) := fun q => by
      rcases hn with hn | hn
      · exact Nat.not_lt.mpr hn q.1
      · simp only [beq_eq_false_iff_ne] at hn; exact hn q.2
    refine Ans.branch (d := 0) rfl rfl rfl hC.a14 (by show (C.getD 20 0 == 0) = false; rw [hC.a20]; rfl) (Nat.zero_le _) ?_
    rw [back0 rfl]
    dsimp only
    refine Run.one hC.o21 (fun h1 h2 => ?_) fun hn => ?_
    · dsimp only at h1 h2 ⊢
      have h2' : 49 ≤ T.getD p 0 ∧ T.getD p 0 ≤ 57 := by rw [Bool.and_eq_true] at h2; simpa only [decide_eq_true_eq] using h2
      refine Run.rep hC.i27 hC.a27 hC.b27 hC.c27 hC.o31 hMk (fun _ d hd hd1 => ?_) fun hn => by
        rcases hn with hn | hn
        · have hn : lim < p + 1 + 0 := hn
          exact absurd hn (Nat.not_lt.mpr h1)
        · exact absurd hn (Nat.not_lt_zero _)
      dsimp only at hd ⊢
      have hd' : d = digs T lim (p + 1) := by rw [hd, minMax hlim]; rfl
      refine Run.jump hC.i38 hC.a38 ?_
      rw [show (none : Option Nat).isSome = false from rfl, kept0]
      refine hp (p + 1 + d) _ [{ wait := .giveBack, pc := 27, pos := p + 1 + d, outermost := true, count := d, kept := { lastmark := 0, lastindex := -1, whole := false, marks := #[] } }, { wait := .nextBranch, pc := 20, pos := p, outermost := true, kept := { lastmark := 0, lastindex := -1, whole := false, marks := #[] } }] ?_ (by simp) (easy_cons ⟨rfl, .inr (.inl rfl)⟩ (easy_cons ⟨rfl, .inl rfl⟩ fun _ h => nomatch h))
      unfold intAt; rw [if_neg h0, if_pos ⟨h1, h2'⟩, ← hd']
    · dsimp only at hn
      refine Ans.branchEnd (d := 0) rfl rfl rfl hC.a20 (by show (C.getD 40 0 == 0) = true; rw [hC.a40]; rfl) ?_
      rw [back0 rfl]
      refine Ans.lift (hf ?_ _ _ _) (Nat.le_add_right ..)
      unfold intAt; rw [if_neg h0, if_neg fun q => ?_]
      rcases hn with hn | hn
      · exact Nat.not_lt.mpr hn q.1
      · rw [Bool.and_eq_false_iff] at hn
        simp only [decide_eq_false_iff_not] at hn
        exact hn.elim (fun h => h q.2.1) (fun h => h q.2.2)
theorem num_walk (hC : Code C) (hlim : lim ≤ maxRepeat) : Run C T lim st 100 ⟨5, st, st, #[none, none, none, none, none, none], -1, -1, #[], none, []⟩ (NumAt T lim st) := by
  have found : ∀ e hd' F, intAt T lim (signAt T lim st) = some e → F.length ≤ 4 → (∀ f ∈ F, f.outermost = true ∧ Easy f) → Run C T lim st 50 ⟨41, e, hd', #[some st, none, none, none, none, none], 0, -1, #[], none, F⟩ (NumAt T lim st) := by
    intro e hd' F he hl hF
    refine Run.mark' #[some st, some e, none, none, none, none] 1 1 hC.i41 hC.a41 rfl rfl rfl ?_
    unfold NumAt
    rw [he]
    exact Run.lift (frac_walk hC hlim hF hl) (by decide)
  have lost : intAt T lim (signAt T lim st) = none → ∀ c : Core, c.frames = [] → Ans C T lim st 10 c false (NumAt T lim st) := fun h c hc => Ans.fail hc fun m hm => by unfold NumAt; rw [h]; exact hm
  refine Run.mark' #[some st, none, none, none, none, none] 0 (-1) hC.i5 hC.a5 rfl rfl rfl ?_
  dsimp only
  refine Run.rep hC.i7 hC.a7 hC.b7 hC.c7 hC.o11 (Nat.le_of_ble_eq_true rfl) (fun _ n hn _ => ?_) fun hn => ?_
  · dsimp only at hn ⊢
    have hn' : n = if st < lim ∧ T.getD st 0 = 45 then 1 else 0 := by
      rw [hn]; exact many1.trans (by simp)
    have hpn : st + n = signAt T lim st := by
      rw [hn']; unfold signAt
      by_cases q : st < lim ∧ T.getD st 0 = 45
      · rw [if_pos q, if_pos q]
      · rw [if_neg q, if_neg q]; rfl
    rw [show (none : Option Nat).isSome = false from rfl, kept0]
    refine Run.lift (j := 50 + 6) (int_walk hC hlim (Nat.le_of_ble_eq_true rfl) (fun e hd' F he hl hF => ?_) fun he pc q hd' => ?_) (by decide)
    · rw [hpn] at he
      refine found e hd' _ he (by rw [List.length_append]; exact ad hl (Nat.le_refl 1) (Eq.refl true)) fun f hf => ?_
      rcases List.mem_append.mp hf with hf | hf
      · exact hF f hf
      · rw [List.mem_singleton] at hf
        subst hf
        exact ⟨rfl, .inr (.inl rfl)⟩
    · rw [hpn] at he
      by_cases hc : st < lim ∧ T.getD st 0 = 45
      · rw [if_pos hc] at hn'
        subst hn'
        refine Ans.give rfl rfl rfl hC.b7 (by dsimp only; decide) hC.a7 (Nat.zero_le _) ?_
        rw [back0 rfl]
        dsimp only
        refine Run.lift (j := 20 + 6) (int_walk hC hlim (Nat.le_of_ble_eq_true rfl) (fun e hd' F he' hl hF => ?_) fun he' pc q hd' => ?_) (by decide)
        · exfalso
          have he' : intAt T lim st = some e := he'
          unfold intAt at he'
          rw [hc.2] at he'
          simp at he'
        · refine Ans.giveEnd rfl rfl rfl hC.b7 (by dsimp only; decide) ?_
          exact Ans.lift (lost he _ rfl) (by decide)
      · rw [if_neg hc] at hn'
        subst hn'
        refine Ans.giveEnd rfl rfl rfl hC.b7 (by dsimp only; decide) ?_
        exact Ans.lift (lost he _ rfl) (by decide)
  · dsimp only at hn
    rcases hn with hn | hn
    · have hnn : intAt T lim (signAt T lim st) = none := by
        have hn : lim ≤ st := Nat.le_of_lt_succ (Nat.lt_succ_of_le (Nat.le_of_lt_succ (Nat.lt_succ_of_lt hn)))
        have e : signAt T lim st = st := if_neg (nlt hn)
        rw [e]
        unfold intAt
        rw [if_neg (nlt hn), if_neg (nlt hn)]
      exact Ans.lift (lost hnn _ rfl) (by decide)
    · exact absurd hn (Nat.not_lt_zero _)
end
end Mine
end
section
open PySem PySem.W PySem.Calls PyProof.Rows
open Builtin Builtin.ObjectAttr
set_option Elab.async false
set_option maxRecDepth 100000
set_option maxHeartbeats 2000000
set_option autoImplicit false
set_option linter.unusedVariables false
namespace Mine
section
variable {prog : Program} {w : World} {A : Around} {E : Value → Shared → Prop} {h : Heap} {g : Array GenState} {d : Drawn} {t : Nat} {os : OsState} {x : Addr} {o : Obj} {name : Str} {v : Value}
theorem excget_entry {D : Addr} {m : Str → Option Value} {tk : Tok} {vs : Array Value} {Q : Fin → Shared → Prop} (hx : h.get? x = some o) (hc : o.cls = .type "Exception") (hd : o.dict = some D) (hdt : o.data = .fields vs) (hn : h.Ns D m) (hm : m name = some v) (hB : typeLookup (.type "Exception") name = pure none)
    (hq : Q (.done (.ret v)) ⟨h, g, d, t, os⟩) : wpAny (model prog w) A (Builtin.«object.__getattribute__» ⟨[.ref x, .str name tk], []⟩) Q E ⟨h, g, d, t, os⟩ := by
  have hT : (⟨h, g, d, t, os⟩ : Shared).TypeIs (.ref x) "Exception" := ⟨_, hx, hc⟩
  repeat (any_goals (first | assumption | wp_step))
  rw [hdt]
  unfold instanceDict
  repeat (any_goals (first | assumption | (with_reducible refine wpAny_loadPart_at hx ?_; rw [hc]) | wp_step))
  rw [hd]
  refine wpAny_pure ?_
  repeat (any_goals (first | assumption | (with_reducible refine wpAny_nsGet hn ?_; rw [hm]) | wp_step))
theorem exc_get {D : Addr} {m : Str → Option Value} {expr : Bool} {vs : Array Value} {Q : Value → Shared → Prop} (hx : h.get? x = some o) (hc : o.cls = .type "Exception") (hd : o.dict = some D) (hdt : o.data = .fields vs) (hn : h.Ns D m) (hm : m name = some v) (hB : typeLookup (.type "Exception") name = pure none) (hh : handedOut v = pure v)
    (hq : Q v ⟨h, g, d, t + 1, os⟩) : wpAny (model prog w) A (getAttr (.ref x) name expr) Q E ⟨h, g, d, t, os⟩ := by
  have hT : (⟨h, g, d, t + 1, os⟩ : Shared).TypeIs (.ref x) "Exception" := ⟨_, hx, hc⟩
  have f2 := F.attr_Exception.ga.lookup
  have f3 := F.attr_Exception.ga.bind (.ref x)
  have hx0 : (expr && onTheHeap (Value.builtin "BaseException.__getattribute__")) = false := by cases expr <;> rfl
  unfold getAttr
  repeat (any_goals (first | assumption | wp_step))
  refine codeAny_call_builtin F.attr_Exception.ga.plain F.entry_bexc_ga (F.attr_Exception.ga.check _ _ _ _ _ _ _ _ hT (F.args_bexc_ga _ _) (excget_entry hx hc hd hdt hn hm hB ?_))
  repeat (any_goals (first | assumption | wp_step))
theorem excset_first {tk : Tok} {vs : Array Value} {Q : Fin → Shared → Prop} (hx : h.get? x = some o) (hc : o.cls = .type "Exception") (hd : o.dict = none) (hdt : o.data = .fields vs) (hB : typeLookup (.type "Exception") name = pure none)
    (hq : ∀ h' tk' D, h.get? D = none → h'.get? x = some { o with dict := some D } → h'.Ns1 D (fun y => if y = name then some v else none) → (∀ b ob, b ≠ x → h.get? b = some ob → h'.get? b = some ob) → Q (.done (.ret .none)) ⟨h', g, d, tk', os⟩) :
    wpAny (model prog w) A (Builtin.«object.__setattr__» ⟨[.ref x, .str name tk, v], []⟩) Q E ⟨h, g, d, t, os⟩ := by
  have hT : (⟨h, g, d, t, os⟩ : Shared).TypeIs (.ref x) "Exception" := ⟨_, hx, hc⟩
  have hpass := F.store_Exception.passes (.ref x)
  have hmro := F.store_Exception.mro
  unfold Builtin.«object.__setattr__»
  repeat (first | rw [refuse_eq] | (with_reducible refine wpAny_loadPart_at hx ?_; rw [hc]) | wp_step)
  rw [hd]
  rw [hdt]
  rw [if_neg (by decide +kernel)]
  have hx₁ : (h.push { cls := .type "dict", data := .dict #[] }).get? x = some o := Heap.get?_push_of_some _ hx
  have hxs : x ≠ h.objs.size := Nat.ne_of_lt (Heap.lt_size hx)
  refine wpAny_bind (wpAny_alloc' ?_)
  refine wpAny_bind (wpAny_update' hx₁ ?_)
  show wpAny _ _ (pure _) _ _ _
  refine wpAny_pure ?_
  have hgd : ((h.push { cls := .type "dict", data := .dict #[] }).update x fun o => { cls := o.cls, dict := some h.objs.size, data := o.data, slots := o.slots }).get? h.objs.size
      = some { cls := .type "dict", data := .dict #[] } :=
    (Heap.get?_update_ne _ _ _ _ hxs.symm).trans (Heap.get?_push_at rfl rfl)
  have hnd : ((h.push { cls := .type "dict", data := .dict #[] }).update x fun o => { cls := o.cls, dict := some h.objs.size, data := o.data, slots := o.slots }).Ns h.objs.size (fun _ => none) :=
    ⟨_, #[], _, hgd, rfl, fun e he => absurd he (by simp), fun _ => rfl⟩
  show wpAny _ _ (storeInDict h.objs.size (.str name tk) name v) _ _ _
  unfold storeInDict newKeyGuard
  refine wpAny_bind (wpAny_pure (wpAny_bind (wpAny_nsSet1 (Heap.Ns1.of_empty hnd) fun h' hn' hs => ?_)))
  obtain ⟨oD, esD, epD, hoD, hdD, hcD⟩ := hn'.count (Within.cons name v Within.nil)
  refine wpAny_bind (wpAny_lookBehind hoD (by rw [hdD]; exact pastItsLine_dict (Nat.le_trans hcD (by rw [List.length_cons, List.length_nil, sizeLine_eq]; lia))) ?_)
  refine wpAny_pure ?_
  refine hq h' _ h.objs.size ?_ ?_ hn' fun b ob hbx hb => ?_
  · cases q : h.get? h.objs.size with
    | none => rfl
    | some o => exact absurd (Heap.lt_size q) (Nat.lt_irrefl _)
  · refine (hs.2 x hxs).trans (Heap.get?_update_self _ hx₁ ?_)
    have hfr := (Heap.get?_some_iff.mp hx).2
    obtain ⟨oc, od, odt, osl⟩ := o
    cases odt <;> first | rfl | exact hfr
  · exact (hs.2 b (Nat.ne_of_lt (Heap.lt_size hb))).trans ((Heap.get?_update_ne _ _ _ _ hbx).trans (Heap.get?_push_of_some _ hb))
theorem excset_more {tk : Tok} {vs : Array Value} {D : Addr} {m : Str → Option Value} {ns : List Str} {Q : Fin → Shared → Prop} (hx : h.get? x = some o) (hc : o.cls = .type "Exception") (hd : o.dict = some D) (hdt : o.data = .fields vs) (hB : typeLookup (.type "Exception") name = pure none) (hn : h.Ns1 D m) (hw : Within m ns) (hsz : ns.length + 1 ≤ sizeLine)
    (hq : ∀ h' tk', h'.Ns1 D (fun y => if y = name then some v else m y) → Heap.SameBut D h h' → Q (.done (.ret .none)) ⟨h', g, d, tk', os⟩) :
    wpAny (model prog w) A (Builtin.«object.__setattr__» ⟨[.ref x, .str name tk, v], []⟩) Q E ⟨h, g, d, t, os⟩ := by
  have hT : (⟨h, g, d, t, os⟩ : Shared).TypeIs (.ref x) "Exception" := ⟨_, hx, hc⟩
  have hpass := F.store_Exception.passes (.ref x)
  have hmro := F.store_Exception.mro
  unfold Builtin.«object.__setattr__»
  repeat (first | rw [refuse_eq] | (with_reducible refine wpAny_loadPart_at hx ?_; rw [hc]) | wp_step)
  rw [hd]
  refine wpAny_pure ?_
  show wpAny _ _ (storeInDict D (.str name tk) name v) _ _ _
  unfold storeInDict newKeyGuard
  refine wpAny_bind (wpAny_pure (wpAny_bind (wpAny_nsSet1 hn fun h' hn' hs => ?_)))
  obtain ⟨oD, esD, epD, hoD, hdD, hcD⟩ := hn'.count (Within.cons name v hw)
  refine wpAny_bind (wpAny_lookBehind hoD (by rw [hdD]; exact pastItsLine_dict (Nat.le_trans hcD (by rw [List.length_cons]; lia))) ?_)
  exact wpAny_pure (hq h' _ hn' hs)
theorem exc_set {Q : Unit → Shared → Prop} (hx : h.get? x = some o) (hc : o.cls = .type "Exception")
    (key : ∀ (tk : Tok) (P : Fin → Shared → Prop) (E' : Value → Shared → Prop) (A' : Around), (∀ s, Q () s → P (.done (.ret .none)) s) → wpAny (model prog w) A' (Builtin.«object.__setattr__» ⟨[.ref x, .str name tk, v], []⟩) P E' ⟨h, g, d, t + 1, os⟩) :
    wpAny (model prog w) A (setAttr (.ref x) name v) Q E ⟨h, g, d, t, os⟩ := by
  have hT : (⟨h, g, d, t + 1, os⟩ : Shared).TypeIs (.ref x) "Exception" := ⟨_, hx, hc⟩
  have f2 := F.store_Exception.slot.lookup
  have f3 := F.store_Exception.slot.bind (.ref x)
  unfold setAttr callSpecial? specialOf
  repeat (any_goals (first | assumption | wp_step))
  refine codeAny_call_builtin F.store_Exception.slot.plain F.store_Exception.entry (F.store_Exception.slot.check _ _ _ _ _ _ _ _ hT (F.store_Exception.args _ _ _) (key _ _ _ _ fun s hs => ?_))
  repeat (any_goals (first | assumption | wp_step))
noncomputable abbrev boundM (id : String) (self : Value) : Obj := { cls := .type "builtin_function_or_method", data := .fields #[.builtin id, self] }
theorem slot_md_get : Slot "method_descriptor" "__get__" "method_descriptor.__get__" :=
  .of (owner := "method_descriptor") (n := "__get__") (by rw [typeLookup_type, builtinLookup_eq_fast]; kernel_rfl) (by decide +kernel) (by decide +kernel) (by decide +kernel)
    (by first | exact .inl (by decide +kernel) | exact .inr (by decide +kernel)) (by rw [isSubtype_type]; kernel_rfl)
theorem entry_md_get : entryFor table "method_descriptor.__get__" = some Builtin.«method_descriptor.__get__» := entryFor_of_tree (by kernel_rfl)
theorem args_md_get (a b c : Value) : argsOk "method_descriptor.__get__" ⟨[a, b, c], []⟩ := by unfold argsOk; kernel_rfl
theorem type_match : typeOf (.builtin "re.Pattern.match") = pure (.type "method_descriptor") := by show builtinType _ = _; rw [builtinType_eq_fast]; kernel_rfl
theorem slot_pat_ga : Slot "re.Pattern" "__getattribute__" "object.__getattribute__" :=
  .of (owner := "object") (n := "__getattribute__") (by rw [typeLookup_type, builtinLookup_eq_fast]; kernel_rfl) (by decide +kernel) (by decide +kernel) (by decide +kernel)
    (by first | exact .inl (by decide +kernel) | exact .inr (by decide +kernel)) (by rw [isSubtype_type]; kernel_rfl)
theorem lk_pat_match : typeLookup (.type "re.Pattern") "match" = pure (some (.builtin "re.Pattern.match")) := by rw [typeLookup_type, builtinLookup_eq_fast]; kernel_rfl
theorem md_noset : typeLookup (.type "method_descriptor") "__set__" = pure none := by rw [typeLookup_type, builtinLookup_eq_fast]; kernel_rfl
theorem md_nodel : typeLookup (.type "method_descriptor") "__delete__" = pure none := by rw [typeLookup_type, builtinLookup_eq_fast]; kernel_rfl
theorem sub_pat : isSubtype (.type "re.Pattern") (.type "re.Pattern") = pure true := by rw [isSubtype_type]; kernel_rfl
theorem told_match : Manifest.toldItsClass.contains "re.Pattern.match" = true := by decide +kernel
theorem owner_match : (".".intercalate ("re.Pattern.match".cutAt '.').dropLast) = "re.Pattern" := by
  have e0 : "re.Pattern.match".cutAt '.' = ["re", "Pattern", "match"] := by first | rfl | decide +kernel
  rw [e0]; decide +kernel
theorem isType_pat : isType (.type "re.Pattern") = pure true := by first | rfl | kernel_rfl | (unfold isType; rw [isSubtype_type]; kernel_rfl)
theorem md_get_run {P : Fin → Shared → Prop} (hx : h.get? x = some o) (hc : o.cls = .type "re.Pattern") (hq : P (.done (.ret (.ref h.objs.size))) ⟨h.push (boundM "re.Pattern.match" (.ref x)), g, d, t, os⟩) :
    wpAny (model prog w) A (Builtin.«method_descriptor.__get__» ⟨[.builtin "re.Pattern.match", .ref x, .type "re.Pattern"], []⟩) P E ⟨h, g, d, t, os⟩ := by
  have hT : (⟨h, g, d, t, os⟩ : Shared).TypeIs (.ref x) "re.Pattern" := ⟨_, hx, hc⟩
  have f8 : isSubtype (.type "re.Pattern") (.type (".".intercalate ("re.Pattern.match".cutAt '.').dropLast)) = pure true := by rw [owner_match]; exact sub_pat
  have f9 := isType_pat
  unfold Builtin.«method_descriptor.__get__»
  refine wpAny_bind (wpAny_of_eq (a := (.builtin "re.Pattern.match", some (.ref x), some (.type "re.Pattern"))) (by first | rfl | kernel_rfl) ?_)
  simp only [told_match]
  repeat (any_goals (first | assumption | wp_step))
theorem pat_match {expr : Bool} {Q : Value → Shared → Prop} {vs : Array Value} (hx : h.get? x = some o) (hc : o.cls = .type "re.Pattern") (hd : o.dict = none) (hdt : o.data = .fields vs)
    (hq : Q (.ref h.objs.size) ⟨h.push (boundM "re.Pattern.match" (.ref x)), g, d, t + 1, os⟩) : wpAny (model prog w) A (getAttr (.ref x) "match" expr) Q E ⟨h, g, d, t, os⟩ := by
  have hT : (⟨h, g, d, t + 1, os⟩ : Shared).TypeIs (.ref x) "re.Pattern" := ⟨_, hx, hc⟩
  have f2 := slot_pat_ga.lookup
  have f3 := slot_pat_ga.bind (.ref x)
  have f4 := lk_pat_match
  have f5 := type_match
  have f6 := slot_md_get.lookup
  have f7 := md_noset
  have f8 := md_nodel
  have hx0 : (expr && onTheHeap (Value.builtin "object.__getattribute__")) = false := by cases expr <;> rfl
  unfold getAttr
  repeat (any_goals (first | assumption | wp_step))
  refine codeAny_call_builtin slot_pat_ga.plain F.entry_object_getattribute (slot_pat_ga.check _ _ _ _ _ _ _ _ hT (F.args_object_getattribute_2 _ _) ?_)
  repeat (any_goals (first | assumption | wp_step))
  rw [hdt]
  unfold instanceDict
  repeat (any_goals (first | assumption | (with_reducible refine wpAny_loadPart_at hx ?_; rw [hc]) | wp_step))
  rw [hd]
  refine wpAny_pure ?_
  repeat (any_goals (first | assumption | wp_step))
  refine codeAny_call_builtin slot_md_get.plain entry_md_get (slot_md_get.check _ _ _ _ _ _ _ _ (show (⟨h, g, d, t + 1, os⟩ : Shared).TypeIs (.builtin "re.Pattern.match") "method_descriptor" from type_match) (args_md_get _ _ _) (md_get_run hx hc ?_))
  exact wpAny_pure (wpAny_pure hq)
end
end Mine
end
section
open PySem PySem.W PySem.Calls PyProof.Rows
open Builtin Builtin.Re
set_option Elab.async false
set_option maxRecDepth 100000
set_option autoImplicit false
set_option linter.unusedVariables false
namespace Mine
section
variable {prog : Program} {w : World} {A : Around} {E : Value → Shared → Prop} {h : Heap} {g : Array GenState} {d : Drawn} {t : Nat} {os : OsState} {x : Addr} {o : Obj} {name : Str} {v : Value}
theorem entry_match : entryFor table "re.Pattern.match" = some Builtin.«re.Pattern.match» := entryFor_of_tree (by kernel_rfl)
theorem quiet_match {as : Args} : (Code.builtin "re.Pattern.match" as).quiet = true := Code.quiet_builtin _ (by decide +kernel)
theorem sub_pat_mod : isSubtype (.type "re.Pattern") (.type "module") = pure false := by rw [isSubtype_type]; kernel_rfl
theorem sig_match {sig : Manifest.Signature} (hs : Manifest.signature? "re.Pattern.match" = some sig) (x a b : Value) : Bind.checkArgs "re.Pattern.match" { sig with full := toString (Bind.lastOf "re.Pattern") ++ toString "." ++ toString (Bind.lastOf "re.Pattern.match") } ⟨[x, a, b], []⟩ = pure () := by
  have e : sig = (Manifest.signature? "re.Pattern.match").get (by decide +kernel) := by simp [hs]
  rw [e]
  kernel_rfl
theorem check_match {a b : Value} {vs : Array Value} {Q : Unit → Shared → Prop} (hx : h.get? x = some o) (hc : o.cls = .type "re.Pattern") (hdt : o.data = .fields vs) (hq : Q () ⟨h, g, d, t, os⟩) :
    wpAny (model prog w) A (checkBoundCall "re.Pattern.match" ⟨[.ref x, a, b], []⟩) Q E ⟨h, g, d, t, os⟩ := by
  have hT : (⟨h, g, d, t, os⟩ : Shared).TypeIs (.ref x) "re.Pattern" := ⟨_, hx, hc⟩
  have f1 := sub_pat_mod
  obtain ⟨sig, hs⟩ : ∃ sig, Manifest.signature? "re.Pattern.match" = some sig := Option.isSome_iff_exists.mp (by decide +kernel)
  have hk : builtinKind "re.Pattern.match" = some .method := by decide +kernel
  have hv : Manifest.varargsMethods.contains "re.Pattern.match" = false := by decide +kernel
  have ha := sig_match hs
  unfold checkBoundCall
  rw [hs]
  rw [hk]
  dsimp only
  rw [if_neg (by decide)]
  refine wpAny_bind (wpAny_isInstance hT f1 ?_)
  rw [if_neg (by rw [hv]; decide)]
  have hty : wpAny (model prog w) A (isType (.ref x)) (fun b s' => b = false ∧ s' = ⟨h, g, d, t, os⟩) E ⟨h, g, d, t, os⟩ := by
    repeat (any_goals (first | assumption | wp_step))
    rw [hdt]
    exact ⟨rfl, rfl⟩
  refine wpAny_bind (wpAny_mono hty (fun b s' hb => ?_) fun _ _ e => e)
  obtain ⟨rfl, rfl⟩ := hb
  rw [if_neg (by decide)]
  refine wpAny_bind (wpAny_typeOf_ref hx ?_)
  rw [hc]
  show wpAny _ _ (Bind.checkArgs "re.Pattern.match" _ _) _ _ _
  rw [ha]
  exact wpAny_pure hq
theorem call_match {u : Addr} {a b : Value} {vs : Array Value} {Q : Value → Shared → Prop} (hu : h.get? u = some (boundM "re.Pattern.match" (.ref x))) (hx : h.get? x = some o) (hc : o.cls = .type "re.Pattern") (hdt : o.data = .fields vs)
    (key : ∀ A', wpAny (model prog w) A' (Builtin.«re.Pattern.match» ⟨[.ref x, a, b], []⟩) (fun fin s' => ∃ v, fin = .done (.ret v) ∧ Q v s') E ⟨h, g, d, t, os⟩) :
    wpAny (model prog w) A (call (.ref u) [a, b]) Q E ⟨h, g, d, t, os⟩ := by
  refine wpAny_call (codeAny_of_tree ?_)
  show wpAny _ A.in1 (callAny (.ref u) ⟨[a, b], []⟩) _ _ _
  refine wpAny_bind (wpAny_load hu ?_)
  refine (?_ : wpAny _ _ (if (Value.type "builtin_function_or_method" == Value.type "method" || Value.type "builtin_function_or_method" == Value.type "builtin_function_or_method" || Value.type "builtin_function_or_method" == Value.type "method-wrapper") = true then _ else _) _ _ _)
  rw [if_pos (by decide)]
  show wpAny _ _ (if (Value.type "builtin_function_or_method" != Value.type "method") = true then do
          checkBoundCall "re.Pattern.match" { pos := [.ref x, a, b] }
          again (Code.builtin "re.Pattern.match" { pos := [.ref x, a, b] })
        else again (Code.call (.builtin "re.Pattern.match") { pos := [.ref x, a, b] })) _ _ _
  rw [if_pos (by decide)]
  refine wpAny_bind (check_match hx hc hdt ?_)
  refine wpAny_pure ⟨quiet_match, codeAny_builtin entry_match (wpAny_mono (key _) (fun fin s' hq => ?_) fun _ _ e => e)⟩
  obtain ⟨v, rfl, hq⟩ := hq
  exact hq
theorem runFor_stay : ∀ (n : Nat) (m : Sre.M), m.outcome.isSome = true → Sre.M.runFor n m = m
  | 0, m, _ => rfl
  | n + 1, m, h => by
    show (if m.outcome.isSome then m else Sre.M.runFor n m.step) = m
    rw [if_pos h]
theorem runFor_add : ∀ (a b : Nat) (m : Sre.M), Sre.M.runFor (a + b) m = Sre.M.runFor b (Sre.M.runFor a m)
  | 0, b, m => by rw [Nat.zero_add]; rfl
  | a + 1, b, m => by
    have e : a + 1 + b = (a + b) + 1 := Nat.add_right_comm a 1 b
    rw [e]
    show (if m.outcome.isSome then m else Sre.M.runFor (a + b) m.step) = Sre.M.runFor b (if m.outcome.isSome then m else Sre.M.runFor a m.step)
    by_cases h : m.outcome.isSome = true
    · rw [if_pos h, if_pos h, runFor_stay _ _ h]
    · rw [if_neg h, if_neg h, runFor_add a b]
theorem drive {M : Model} {s : Shared} {P : Sre.M → Prop} {Q : Sre.M → Shared → Prop}  (T : Nat) : ∀ (k : Nat) (m : Sre.M), Go k m P → k ≤ 4 * T → (∀ m', m'.outcome.isSome = true → P m' → Q m' s) → wpAny M A (reDrive (T + 1) m) Q E s := by
    induction T using Nat.strongRecOn with | _ T ih => _
    intro k m ⟨n, hn, ho, hp⟩ hk hQ
    have e : reDrive (T + 1) m = (if (Sre.M.runFor 4 m).outcome.isSome then pure (Sre.M.runFor 4 m) else do rule "sre.turn"; reDrive T (Sre.M.runFor 4 m)) := rfl
    rw [e]
    by_cases h4 : (Sre.M.runFor 4 m).outcome.isSome = true
    · rw [if_pos h4]
      refine wpAny_pure ?_
      have : Sre.M.runFor n m = Sre.M.runFor 4 m := by
        rcases Nat.le_total n 4 with q | q
        · obtain ⟨j, hj⟩ := Nat.exists_eq_add_of_le q
          rw [hj, runFor_add n j, runFor_stay _ _ ho]
        · obtain ⟨j, rfl⟩ := Nat.exists_eq_add_of_le q
          rw [runFor_add 4 j, runFor_stay _ _ h4]
      rw [this] at hp
      exact hQ _ h4 hp
    · rw [if_neg h4]
      have q : 4 < n := by
        rcases Nat.lt_or_ge 4 n with q | q
        · exact q
        · obtain ⟨j, hj⟩ := Nat.exists_eq_add_of_le q
          rw [hj, runFor_add n j, runFor_stay _ _ ho] at h4
          exact absurd ho h4
      obtain ⟨j, rfl⟩ := Nat.exists_eq_add_of_le (Nat.le_of_lt q)
      rw [runFor_add 4 j] at ho hp
      obtain ⟨T', rfl⟩ : ∃ T', T = T' + 1 := ⟨T - 1, (Nat.sub_add_cancel (Nat.pos_of_ne_zero fun e => absurd (Nat.le_trans (Nat.le_add_right 4 j) (Nat.le_trans hn hk)) (by rw [e]; decide))).symm⟩
      exact wpAny_bind (wpAny_rule (ih T' (Nat.lt_succ_self _) (k - 4) _ ⟨j, Nat.le_sub_of_add_le (Nat.le_trans (Nat.le_of_eq (Nat.add_comm j 4)) hn), ho, hp⟩ (Nat.sub_le_of_le_add hk) hQ))
theorem rules_quiet {M : Model} {s : Shared} {p : Nat → Bool} {nm : Nat → String} {Q : PUnit → Shared → Prop} : ∀ (l : List Nat), Q PUnit.unit s → wpAny M A (forIn l PUnit.unit fun i (_ : PUnit) => if p i = true then do rule (nm i); pure (ForInStep.yield PUnit.unit) else pure (ForInStep.yield PUnit.unit)) Q E s
  | [], h => by rw [List.forIn_nil]; exact wpAny_pure h
  | i :: l, h => by
    rw [List.forIn_cons]
    refine wpAny_bind ?_
    cases p i
    · exact wpAny_pure (rules_quiet l h)
    · exact wpAny_bind (wpAny_rule (wpAny_pure (rules_quiet l h)))
theorem run_end {M : Model} {s : Shared} {m : Sre.M} {P : Sre.M → Prop} {k : Nat} {Q : Option Sre.M → Shared → Prop} (hg : Go k m P) (hk : k ≤ 1000) (hP : ∀ m', P m' → (m'.outcome = some .matched ∧ Q (some m') s) ∨ (m'.outcome = some .failed ∧ Q none s)) : wpAny M A (reRunToEnd m) Q E s := by
  unfold reRunToEnd
  obtain ⟨T, hT⟩ : ∃ T, 2 ^ 64 = (T + 1000) + 1 := ⟨2 ^ 64 - 1001, by decide⟩
  rw [hT]
  refine wpAny_bind (drive (P := P) (T + 1000) k m hg (Nat.le_trans hk (Nat.le_trans (Nat.le_add_left 1000 T) (Nat.le_mul_of_pos_left _ (by decide)))) fun m' ho hp => ?_)
  refine wpAny_bind ?_
  refine rules_quiet (p := fun i => m'.seen.has i) (nm := fun i => Sre.names.getD i "") _ ?_
  rcases hP m' hp with ⟨e, q⟩ | ⟨e, q⟩
  · rw [e]; exact wpAny_pure q
  · rw [e]; exact wpAny_pure q
noncomputable def wordsOf (items : Array Value) : Array Nat := (items.map reRawOf).map (·.toNat)
theorem target {M : Model} {s : Shared} {fs items : Array Value} {c : Addr} {oc : Obj} {n : Nat} {T : Str} {i : Int} {tk tk2 t3 t6 : Tok} {Q : ReTarget → Shared → Prop} (hx : s.heap.get? x = some o) (hdt : o.data = .fields fs) (h6 : fs.getD 6 .none = .int 0 t6) (h5 : fs.getD 5 .none = .ref c) (h2 : fs.getD 2 .none = .int 3 t3)
    (hc : s.heap.get? c = some oc) (hcd : oc.data = .seq items n) (hi : 0 ≤ i ∧ i < 2 ^ 63) (hT : (T.cps.size : Int) < 2 ^ 63)
    (hq : Q { pattern := .ref x, string := .str T tk, code := wordsOf items, text := T.cps, kind := 0, groups := 3, pos := min i.toNat T.cps.size, lim := T.cps.size } s) :
    wpAny M A (reTarget "re.Pattern.match" "match" ⟨[.ref x, .str T tk, .int i tk2], []⟩) Q E s := by
  unfold reTarget
  refine wpAny_bind (wpAny_of_eq (a := [some (.str T tk), some (.int i tk2), none]) (by first | rfl | kernel_rfl) ?_)
  dsimp only
  refine wpAny_bind (wpAny_of_eq (a := i) ?_ ?_)
  · unfold reSsize
    show (if (decide (i < -(2 ^ 63)) || decide (i ≥ 2 ^ 63)) = true then _ else _) = _
    rw [if_neg (by simp; lia)]
  refine wpAny_bind (wpAny_of_eq (a := 2 ^ 63 - 1) rfl ?_)
  refine wpAny_bind (wpAny_fieldsOf hx hdt ?_)
  refine wpAny_bind (wpAny_of_eq (a := (T.cps, 0)) rfl ?_)
  simp only [h6, h5, h2]
  rw [if_neg (by show ¬ (false = true); decide), if_neg (by show ¬ (false = true); decide)]
  refine wpAny_bind (wpAny_of_eq (a := ()) rfl ?_)
  refine wpAny_bind ?_
  unfold reRawItems
  refine wpAny_bind (wpAny_seqItems hc hcd (wpAny_pure (wpAny_pure ?_)))
  have e : Min.min ((2 : Int) ^ 63 - 1).toNat T.cps.size = T.cps.size := by lia
  rw [e]
  exact hq
noncomputable def spV : Option (Nat × Nat) → List Value
  | none => [rawInt (-1), rawInt (-1)]
  | some (b, e) => [rawInt b, rawInt e]
theorem spV_eq (marks : Array (Option Nat)) (lm : Int) (g : Nat) : (match (if ((2 * g + 1 : Nat) : Int) ≤ lm then (marks.getD (2 * g) none, marks.getD (2 * g + 1) none) else (none, none)) with | (some b, some e) => [rawInt (b : Nat), rawInt (e : Nat)] | _ => [rawInt (-1), rawInt (-1)]) = spV (spanOf marks lm g) := by
  unfold spanOf
  by_cases hle : ((2 * g + 1 : Nat) : Int) ≤ lm
  · rw [if_pos hle, if_pos hle]
    cases marks.getD (2 * g) none with
    | none => rfl
    | some b => cases marks.getD (2 * g + 1) none with
      | none => rfl
      | some e => rfl
  · rw [if_neg hle, if_neg hle]; rfl
noncomputable abbrev matchObj (string pat : Value) (pos lim : Nat) (li : Int) (tp : Addr) : Obj := { cls := .type "re.Match", data := .fields #[string, pat, rawInt pos, rawInt lim, rawInt li, .ref tp] }
noncomputable abbrev spanTup (st hd : Nat) (s0 s1 s2 : Option (Nat × Nat)) : List Value := rawInt st :: rawInt hd :: (spV s0 ++ (spV s1 ++ spV s2))
theorem signAt_le {T : Array Nat} {lim p : Nat} : p ≤ signAt T lim p := by unfold signAt; split <;> lia
theorem digs_le {T : Array Nat} {lim p : Nat} : digs T lim p ≤ lim - p := many_le _ _
theorem intAt_lt {T : Array Nat} {lim p e : Nat} (h : intAt T lim p = some e) : p < e ∧ e ≤ lim := by
  unfold intAt at h
  have := digs_le (T := T) (lim := lim) (p := p + 1)
  split at h
  · rename_i q; cases h; exact ⟨Nat.lt_succ_self _, q.1⟩
  · split at h
    · rename_i q; cases h; exact span_lt this (Nat.lt_succ_self _) q.1
    · cases h
theorem fracAt_lt {T : Array Nat} {lim p e : Nat} (h : fracAt T lim p = some e) : p < e ∧ e ≤ lim := by
  unfold fracAt at h
  have := digs_le (T := T) (lim := lim) (p := p + 1)
  split at h
  · rename_i q; cases h; exact span_lt this (Nat.lt_succ_self _) q.1
  · cases h
theorem expAt_lt {T : Array Nat} {lim p e : Nat} (h : expAt T lim p = some e) : p < e ∧ e ≤ lim := by
  unfold expAt at h
  have h1 := digs_le (T := T) (lim := lim) (p := expSign T lim (p + 1))
  have h2 : p + 1 ≤ expSign T lim (p + 1) := by unfold expSign; split <;> lia
  split at h
  · rename_i q; cases h; exact span_lt h1 h2 (Nat.le_of_lt (Nat.lt_of_sub_pos (Nat.lt_of_lt_of_le q.2.2 h1)))
  · cases h
theorem newMatch {M : Model} {pattern string : Value} {pos lim : Nat} {m : Sre.M} {s0 s1 s2 : Option (Nat × Nat)} {Q : Value → Shared → Prop} (h0 : spanOf m.marks m.lastmark 0 = s0) (h1 : spanOf m.marks m.lastmark 1 = s1) (h2 : spanOf m.marks m.lastmark 2 = s2)
    (hle : ∀ g b e, g < 3 → spanOf m.marks m.lastmark g = some (b, e) → b ≤ e)
    (hq : ∀ h', (∀ b ob, h.get? b = some ob → h'.get? b = some ob) → ∀ u v, h.get? u = none → h.get? v = none → u ≠ v → h'.get? u = some { cls := .type "tuple", data := .seq (spanTup m.start m.handed s0 s1 s2).toArray } → h'.get? v = some (matchObj string pattern pos lim m.lastindex u) → Q (.ref v) ⟨h', g, d, t, os⟩) :
    wpAny M A (reNewMatch pattern string 3 pos lim m) Q E ⟨h, g, d, t, os⟩ := by
  have hany : ((List.range 3).any fun g => match m.marks.getD (2 * g) none, m.marks.getD (2 * g + 1) none with | some b, some e => decide (((2 * g + 1 : Nat) : Int) ≤ m.lastmark) && decide (e < b) | _, _ => false) = false := by
    rw [List.any_eq_false]
    intro g hg3 hg
    cases q1 : m.marks.getD (2 * g) none with
    | none => rw [q1] at hg; cases hg
    | some b => cases q2 : m.marks.getD (2 * g + 1) none with
      | none => rw [q1, q2] at hg; cases hg
      | some e =>
        rw [q1, q2] at hg
        have hg : (decide (((2 * g + 1 : Nat) : Int) ≤ m.lastmark) && decide (e < b)) = true := hg
        rw [Bool.and_eq_true, decide_eq_true_eq, decide_eq_true_eq] at hg
        have := hle g b e (List.mem_range.mp hg3) (by unfold spanOf; rw [if_pos hg.1, q1, q2])
        exact absurd hg.2 (Nat.not_lt.mpr this)
  have hsp : List.flatMap (fun g => match (if ((2 * g + 1 : Nat) : Int) ≤ m.lastmark then (m.marks.getD (2 * g) none, m.marks.getD (2 * g + 1) none) else (none, none)) with | (some b, some e) => [rawInt (b : Nat), rawInt (e : Nat)] | _ => [rawInt (-1), rawInt (-1)]) (List.range 3) = spV s0 ++ (spV s1 ++ spV s2) := by
    show List.flatMap _ [0, 1, 2] = _
    rw [List.flatMap_cons, List.flatMap_cons, List.flatMap_cons, List.flatMap_nil, List.append_nil, spV_eq, spV_eq, spV_eq, h0, h1, h2]
  have e : reNewMatch pattern string 3 pos lim m = (if ((List.range 3).any fun g => match m.marks.getD (2 * g) none, m.marks.getD (2 * g + 1) none with | some b, some e => decide (((2 * g + 1 : Nat) : Int) ≤ m.lastmark) && decide (e < b) | _, _ => false) = true then (do reWrongSpan; newFields "re.Match" [string, pattern, rawInt pos, rawInt lim, rawInt m.lastindex, ← newTuple (rawInt m.start :: rawInt m.handed :: List.flatMap (fun g => match (if ((2 * g + 1 : Nat) : Int) ≤ m.lastmark then (m.marks.getD (2 * g) none, m.marks.getD (2 * g + 1) none) else (none, none)) with | (some b, some e) => [rawInt (b : Nat), rawInt (e : Nat)] | _ => [rawInt (-1), rawInt (-1)]) (List.range 3))]) else (do newFields "re.Match" [string, pattern, rawInt pos, rawInt lim, rawInt m.lastindex, ← newTuple (rawInt m.start :: rawInt m.handed :: List.flatMap (fun g => match (if ((2 * g + 1 : Nat) : Int) ≤ m.lastmark then (m.marks.getD (2 * g) none, m.marks.getD (2 * g + 1) none) else (none, none)) with | (some b, some e) => [rawInt (b : Nat), rawInt (e : Nat)] | _ => [rawInt (-1), rawInt (-1)]) (List.range 3))])) := rfl
  rw [e, hsp, hany]
  rw [if_neg (by decide)]
  refine wpAny_bind (wpAny_newTuple ?_ ?_)
  · refine wpAny_newObj_type ?_
    have hu : h.get? h.objs.size = none := by
      cases q : h.get? h.objs.size with
      | none => rfl
      | some o => exact absurd (Heap.lt_size q) (Nat.lt_irrefl _)
    have hsz : (h.push { cls := .type "tuple", data := .seq (spanTup m.start m.handed s0 s1 s2).toArray }).objs.size = h.objs.size + 1 := by first | rfl | simp [Heap.push]
    have hv : h.get? (h.push { cls := .type "tuple", data := .seq (spanTup m.start m.handed s0 s1 s2).toArray }).objs.size = none := by
      rw [hsz]
      cases q : h.get? (h.objs.size + 1) with
      | none => rfl
      | some o => exact absurd (Heap.lt_size q) (Nat.not_lt.mpr (Nat.le_succ _))
    refine hq _ (fun b ob hb => Heap.get?_push_of_some _ (Heap.get?_push_of_some _ hb)) h.objs.size _ hu hv (by rw [hsz]; exact Nat.ne_of_lt (Nat.lt_succ_self _)) ?_ ?_
    · exact Heap.get?_push_of_some _ (Heap.get?_push_size _ rfl)
    · exact Heap.get?_push_size _ rfl
  · have l2 : ∀ q, (spV q).length = 2 := fun q => by cases q <;> rfl
    simp [l2, sizeLine]
theorem match_run {fs items : Array Value} {c : Addr} {oc : Obj} {n : Nat} {T : Str} {i : Nat} {tk tk2 t3 t6 : Tok} {Q : Fin → Shared → Prop} (hx : h.get? x = some o) (hdt : o.data = .fields fs) (h6 : fs.getD 6 .none = .int 0 t6) (h5 : fs.getD 5 .none = .ref c) (h2 : fs.getD 2 .none = .int 3 t3)
    (hc : h.get? c = some oc) (hcd : oc.data = .seq items n) (hC : Code (wordsOf items)) (hh : Sre.header (wordsOf items) = (1, 5)) (hi : i < T.cps.size) (hT : T.cps.size ≤ Sre.maxRepeat)
    (hnone : intAt T.cps T.cps.size (signAt T.cps T.cps.size i) = none → Q (.done (.ret .none)) ⟨h, g, d, t, os⟩)
    (hsome : ∀ p, intAt T.cps T.cps.size (signAt T.cps T.cps.size i) = some p → ∀ h', (∀ b ob, h.get? b = some ob → h'.get? b = some ob) → ∀ u v li, h.get? u = none → h.get? v = none → u ≠ v →
      h'.get? u = some { cls := .type "tuple", data := .seq (spanTup i (expEnd T.cps T.cps.size (fracEnd T.cps T.cps.size p)) (some (i, p)) ((fracAt T.cps T.cps.size p).map fun e => (p, e)) ((expAt T.cps T.cps.size (fracEnd T.cps T.cps.size p)).map fun e => (fracEnd T.cps T.cps.size p, e))).toArray } →
      h'.get? v = some (matchObj (.str T tk) (.ref x) i T.cps.size li u) → Q (.done (.ret (.ref v))) ⟨h', g, d, t, os⟩) :
    wpAny (model prog w) A (Builtin.«re.Pattern.match» ⟨[.ref x, .str T tk, .int i tk2], []⟩) Q E ⟨h, g, d, t, os⟩ := by
  have hT' : T.cps.size ≤ 4294967295 := hT
  unfold Builtin.«re.Pattern.match»
  refine wpAny_bind (target hx hdt h6 h5 h2 hc hcd ⟨by lia, by lia⟩ (by lia) ?_)
  dsimp only
  have e1 : min (i : Int).toNat T.cps.size = i := Nat.min_eq_left (Nat.le_of_lt hi)
  rw [e1]
  unfold reAnswer
  have hm : Sre.forMatch (wordsOf items) T.cps 3 i T.cps.size false false = Core.M (wordsOf items) T.cps T.cps.size i ⟨5, i, i, #[none, none, none, none, none, none], -1, -1, #[], none, []⟩ none (({} : Sre.Seen).add 14) 0 := by
    have e : ∀ (code text : Array Nat) (pos lim : Nat), Sre.forMatch code text 3 pos lim false false = (let m : Sre.M := { code, text, lim, start := pos, pc := (Sre.header code).2, pos, handed := pos, marks := Array.replicate 6 none, mustAdvance := false, seen := if (Sre.header code).2 == 0 then {} else ({} : Sre.Seen).add 14, wholeText := false }
      if (Sre.header code).1 != 0 && decide (pos ≤ lim) && decide (lim - pos < (Sre.header code).1) then m.say false else m) := fun _ _ _ _ => rfl
    rw [e, hh]
    dsimp only
    rw [if_neg (by simp; lia)]
    rfl
  have hnum : Go 100 (Sre.forMatch (wordsOf items) T.cps 3 i T.cps.size false false) (NumAt T.cps T.cps.size i) := by
    rw [hm]
    exact num_walk hC hT _ 0 (by decide)
  refine wpAny_bind (run_end hnum (by decide) fun m hm => ?_)
  unfold NumAt at hm
  cases hp : intAt T.cps T.cps.size (signAt T.cps T.cps.size i) with
  | none =>
    rw [hp] at hm
    exact .inr ⟨hm, wpAny_pure (hnone hp)⟩
  | some p =>
    rw [hp] at hm
    obtain ⟨ho, hst, h0, h1, h2', hhd⟩ := hm
    refine .inl ⟨ho, ?_⟩
    refine wpAny_bind (newMatch h0 h1 h2' (fun g b e h3 hg => ?_) fun h' hk u v n1 n2 n3 hu hv => wpAny_pure ?_)
    · have a1 := signAt_le (T := T.cps) (lim := T.cps.size) (p := i)
      have a2 := intAt_lt hp
      obtain rfl | rfl | rfl := in3 ⟨g, h3⟩
      · rw [h0] at hg
        cases hg
        exact Nat.le_trans a1 (Nat.le_of_lt a2.1)
      · rw [h1] at hg
        cases q : fracAt T.cps T.cps.size p with
        | none => rw [q] at hg; cases hg
        | some e' => rw [q] at hg; cases hg; exact Nat.le_of_lt (fracAt_lt q).1
      · rw [h2'] at hg
        cases q : expAt T.cps T.cps.size (fracEnd T.cps T.cps.size p) with
        | none => rw [q] at hg; cases hg
        | some e' => rw [q] at hg; cases hg; exact Nat.le_of_lt (expAt_lt q).1
    · rw [hst, hhd] at hu
      exact hsome p hp h' hk u v _ n1 n2 n3 hu hv
noncomputable def grpV (T : Str) (b : Tok) : Option (Nat × Nat) → Value
  | none => .none
  | some (x, y) => .str ⟨T.cps.extract x y⟩ b
theorem plainAttrs_Match : PlainAttrs "re.Match" :=
  ⟨⟨"object.__getattribute__", by rw [typeLookup_type, builtinLookup_eq_fast]; kernel_rfl, by decide +kernel⟩, by rw [typeLookup_type, builtinLookup_eq_fast]; kernel_rfl⟩
theorem slot_groups : Slot "re.Match" "groups" "re.Match.groups" :=
  .of (owner := "re.Match") (n := "groups") (by rw [typeLookup_type, builtinLookup_eq_fast]; kernel_rfl) (by decide +kernel) (by decide +kernel) (by decide +kernel)
    (by first | exact .inl (by decide +kernel) | exact .inr (by decide +kernel)) (by rw [isSubtype_type]; kernel_rfl)
theorem slot_end : Slot "re.Match" "end" "re.Match.end" :=
  .of (owner := "re.Match") (n := "end") (by rw [typeLookup_type, builtinLookup_eq_fast]; kernel_rfl) (by decide +kernel) (by decide +kernel) (by decide +kernel)
    (by first | exact .inl (by decide +kernel) | exact .inr (by decide +kernel)) (by rw [isSubtype_type]; kernel_rfl)
theorem entry_groups : entryFor table "re.Match.groups" = some Builtin.«re.Match.groups» := entryFor_of_tree (by kernel_rfl)
theorem entry_end : entryFor table "re.Match.end" = some Builtin.«re.Match.end» := entryFor_of_tree (by kernel_rfl)
theorem type_groups : typeOf (.builtin "re.Match.groups") = pure (.type "method_descriptor") := by show builtinType _ = _; rw [builtinType_eq_fast]; kernel_rfl
theorem type_end : typeOf (.builtin "re.Match.end") = pure (.type "method_descriptor") := by show builtinType _ = _; rw [builtinType_eq_fast]; kernel_rfl
theorem args_groups (a : Value) : argsOk "re.Match.groups" ⟨[a], []⟩ := by unfold argsOk; kernel_rfl
theorem args_end (a : Value) : argsOk "re.Match.end" ⟨[a], []⟩ := by unfold argsOk; kernel_rfl
end
end Mine
end
section
open PySem PySem.W PySem.Calls PyProof.Rows
open Builtin Builtin.Re
set_option Elab.async false
set_option maxRecDepth 100000
set_option autoImplicit false
set_option linter.unusedVariables false
namespace Mine
section
variable {prog : Program} {w : World} {A : Around} {E : Value → Shared → Prop} {h : Heap} {g : Array GenState} {d : Drawn} {t : Nat} {os : OsState} {x u : Addr} {o : Obj} {name : Str} {v : Value}
theorem found {M : Model} {T : Str} {tk : Tok} {pat : Value} {pos lim hd : Nat} {li : Int} {s0 s1 s2 : Option (Nat × Nat)} {Q : ReFound → Shared → Prop} (hx : h.get? x = some (matchObj (.str T tk) pat pos lim li u)) (hu : h.get? u = some { cls := .type "tuple", data := .seq (spanTup pos hd s0 s1 s2).toArray })
    (hq : Q { fields := #[.str T tk, pat, rawInt pos, rawInt lim, rawInt li, .ref u], spans := (spanTup pos hd s0 s1 s2).toArray.map reRawOf } ⟨h, g, d, t, os⟩) : wpAny M A (reFound (.ref x)) Q E ⟨h, g, d, t, os⟩ := by
  unfold reFound
  refine wpAny_bind (wpAny_fieldsOf hx rfl ?_)
  refine wpAny_bind ?_
  unfold reRawItems
  refine wpAny_bind (wpAny_seqItems hu rfl (wpAny_pure (wpAny_pure hq)))
theorem spans_at {pos hd : Nat} {s0 s1 s2 : Option (Nat × Nat)} : ∀ i, i < 8 → ((spanTup pos hd s0 s1 s2).toArray.map reRawOf).getD i (-1) = (match i with | 0 => (pos : Int) | 1 => hd | 2 => (s0.map fun p => ((p.1 : Nat) : Int)).getD (-1) | 3 => (s0.map fun p => ((p.2 : Nat) : Int)).getD (-1) | 4 => (s1.map fun p => ((p.1 : Nat) : Int)).getD (-1) | 5 => (s1.map fun p => ((p.2 : Nat) : Int)).getD (-1) | 6 => (s2.map fun p => ((p.1 : Nat) : Int)).getD (-1) | _ => (s2.map fun p => ((p.2 : Nat) : Int)).getD (-1)) := by
  intro i hi
  rw [List.map_toArray]
  have e : ∀ {o : Option (Nat × Nat)}, (spV o).map reRawOf = [(o.map fun p => ((p.1 : Nat) : Int)).getD (-1), (o.map fun p => ((p.2 : Nat) : Int)).getD (-1)] := fun {o} => by cases o <;> rfl
  show (List.toArray (List.map reRawOf (_ :: _ :: (spV s0 ++ (spV s1 ++ spV s2))))).getD i _ = _
  rw [List.map_cons, List.map_cons, List.map_append, List.map_append, e, e, e]
  obtain rfl | rfl | rfl | rfl | rfl | rfl | rfl | rfl := in8 ⟨i, hi⟩ <;> rfl
theorem grp {M : Model} {s : Shared} {T : Str} {tk : Tok} {x : ReFound} {sp : Option (Nat × Nat)} {k : Nat} {Q : Value → Shared → Prop} (h0 : x.fields.getD 0 .none = .str T tk) (hb : x.spans.getD (2 * k) (-1) = (sp.map fun p => ((p.1 : Nat) : Int)).getD (-1)) (he : x.spans.getD (2 * k + 1) (-1) = (sp.map fun p => ((p.2 : Nat) : Int)).getD (-1)) (hT : T.cps.size ≤ sizeLine)
    (hq : ∀ b tk', Q (grpV T b sp) { s with toks := tk' }) : wpAny M A (reGroupText x k .none) Q E s := by
  unfold reGroupText
  dsimp only
  rw [hb, he]
  cases sp with
  | none => exact wpAny_pure (hq 0 s.toks)
  | some p =>
    have e : ¬ ((decide ((((some p).map fun p : Nat × Nat => ((p.1 : Nat) : Int)).getD (-1)) < 0) || decide ((((some p).map fun p : Nat × Nat => ((p.2 : Nat) : Int)).getD (-1)) < 0)) = true) := by simp
    rw [if_neg e]
    rw [h0]
    refine wpAny_bind (wpAny_of_eq (a := (T.cps, 0)) rfl ?_)
    show wpAny M A (mkStr ⟨T.cps.extract p.1 p.2⟩) _ _ _
    refine wpAny_mkStr (hq _ _) ?_
    show (T.cps.extract p.1 p.2).size ≤ sizeLine
    rw [Array.size_extract]; exact Nat.le_trans (Nat.sub_le ..) (Nat.le_trans (Nat.min_le_right ..) hT)
theorem groups_run {T : Str} {tk : Tok} {pat : Value} {pos lim hd : Nat} {li : Int} {s0 s1 s2 : Option (Nat × Nat)} {Q : Fin → Shared → Prop} (hx : h.get? x = some (matchObj (.str T tk) pat pos lim li u)) (hu : h.get? u = some { cls := .type "tuple", data := .seq (spanTup pos hd s0 s1 s2).toArray }) (hT : T.cps.size ≤ sizeLine)
    (hq : ∀ a b c tk', Q (.done (.ret (.ref h.objs.size))) ⟨h.push { cls := .type "tuple", data := .seq #[grpV T a s0, grpV T b s1, grpV T c s2] }, g, d, tk', os⟩) :
    wpAny (model prog w) A (Builtin.«re.Match.groups» ⟨[.ref x], []⟩) Q E ⟨h, g, d, t, os⟩ := by
  unfold Builtin.«re.Match.groups» reWithDefault
  refine wpAny_bind (wpAny_bind (wpAny_of_eq (a := [none]) (by first | rfl | kernel_rfl) ?_))
  dsimp only
  refine wpAny_bind (found hx hu (wpAny_pure ?_))
  have hsz : ((spanTup pos hd s0 s1 s2).toArray.map reRawOf).size / 2 - 1 = 3 := by
    have l2 : ∀ q, (spV q).length = 2 := fun q => by cases q <;> rfl
    simp [l2]
  dsimp only
  rw [hsz]
  refine wpAny_bind ?_
  show wpAny _ _ (List.mapM _ [0, 1, 2]) _ _ _
  rw [List.mapM_cons, List.mapM_cons, List.mapM_cons, List.mapM_nil]
  refine wpAny_bind (grp rfl (spans_at 2 (by decide)) (spans_at 3 (by decide)) hT fun a ta => ?_)
  refine wpAny_bind (wpAny_bind (grp rfl (spans_at 4 (by decide)) (spans_at 5 (by decide)) hT fun b tb => ?_))
  refine wpAny_bind (wpAny_bind (grp rfl (spans_at 6 (by decide)) (spans_at 7 (by decide)) hT fun c tc => ?_))
  refine wpAny_bind (wpAny_pure (wpAny_pure (wpAny_pure (wpAny_pure ?_))))
  refine wpAny_bind (wpAny_newTuple (wpAny_pure (hq a b c tc)) ?_)
  show 3 ≤ sizeLine
  exact Nat.le_of_ble_eq_true rfl
theorem end_run {T : Str} {tk : Tok} {pat : Value} {pos lim hd : Nat} {li : Int} {s0 s1 s2 : Option (Nat × Nat)} {Q : Fin → Shared → Prop} (hx : h.get? x = some (matchObj (.str T tk) pat pos lim li u)) (hu : h.get? u = some { cls := .type "tuple", data := .seq (spanTup pos hd s0 s1 s2).toArray })
    (hq : ∀ a tk', Q (.done (.ret (.int hd a))) ⟨h, g, d, tk', os⟩) :
    wpAny (model prog w) A (Builtin.«re.Match.end» ⟨[.ref x], []⟩) Q E ⟨h, g, d, t, os⟩ := by
  unfold Builtin.«re.Match.end» reOneGroup
  refine wpAny_bind (wpAny_bind (wpAny_of_eq (a := (.ref x, [])) (by first | rfl | kernel_rfl) ?_))
  dsimp only
  refine wpAny_bind (found hx hu (wpAny_bind (wpAny_pure (wpAny_pure ?_))))
  dsimp only
  rw [spans_at 1 (by decide)]
  exact wpAny_bind (wpAny_mkInt (wpAny_pure (hq _ _)))
end
end Mine
end
section
open PySem PySem.W PySem.Calls PyProof.Rows
set_option Elab.async false
set_option maxRecDepth 100000
set_option maxHeartbeats 0
set_option autoImplicit false
set_option linter.unusedVariables false
namespace Mine
theorem stopSub : isSubtype (.type "StopIteration") (.type "StopIteration") = pure true := by rw [isSubtype_type]; kernel_rfl
theorem stopMade : Bind.madeBy (.type "StopIteration") = pure (some "Exception.__new__") := by kernel_rfl
theorem newEntry : entryFor table "Exception.__new__" = some Builtin.«BaseException.__new__» := PySem.F.excCall_Exception.entry
theorem stop_new {prog : Program} {w : World} {A : Around} {R : Result → Shared → Prop} {v : Value} {hp : Heap} {g : Array GenState} {d : Drawn} {tk : Nat} {os : OsState}
    (h : R (.ok (.ret (.ref (hp.objs.size + 1)))) ⟨(hp.push { cls := .type "tuple", data := .seq [v].toArray }).push
      { cls := .type "StopIteration", data := .fields #[.ref hp.objs.size, .none, .none, .none, .bool false, .none] }, g, d, tk, os⟩) :
    codeAny (model prog w) A (.builtin "Exception.__new__" ⟨[.type "StopIteration", v], []⟩) R ⟨hp, g, d, tk, os⟩ := by
  have hends : ("Exception.__new__" : String).endsWith ".__new__" = true := by decide +kernel
  have howner : ("Exception.__new__" : String).dropRight 8 = "Exception" := by decide +kernel
  have hsub : isSubtype (.type "StopIteration") (.type "Exception") = pure true := by rw [isSubtype_type]; kernel_rfl
  have hna : isSubtype (.type "StopIteration") (.type "AttributeError") = pure false := by rw [isSubtype_type]; kernel_rfl
  have hnn : isSubtype (.type "StopIteration") (.type "NameError") = pure false := by rw [isSubtype_type]; kernel_rfl
  have hmade : Bind.madeHere "BaseException.__new__" (.type "StopIteration") = pure () := by kernel_rfl
  refine codeAny_builtinAt newEntry ?_
  unfold Builtin.«BaseException.__new__»
  refine PySem.wpAt_bind ?_
  show PySem.wpAt _ _ _ (stack >>= _) _ _ _
  refine PySem.wpAt_bind (PySem.wpAt_stack fun p below => PySem.wpAt_of_wpAny ?_)
  wp_walk
  refine PySem.wpAt_of_wpAny ?_
  rw [howner]
  wp_walk
  show R _ _
  rw [Heap.size_push]
  exact h
theorem stopInit : Slot "StopIteration" "__init__" "StopIteration.__init__" := .of (owner := "StopIteration") (n := "__init__") (by rw [typeLookup_type, builtinLookup_eq_fast]; kernel_rfl) (by decide +kernel) (by decide +kernel) (by decide +kernel)
    (by first | exact .inl (by decide +kernel) | exact .inr (by decide +kernel)) (by rw [isSubtype_type]; kernel_rfl)
theorem stopEntry : entryFor table "StopIteration.__init__" = some Builtin.«StopIteration.__init__» := entryFor_of_tree (by kernel_rfl)
theorem baseInitEntry : entryFor table "BaseException.__init__" = some Builtin.«BaseException.__init__» := entryFor_of_tree (by kernel_rfl)
structure MadeStop (h h' : Heap) (e : Addr) (v : Value) : Prop where
  keeps : ∀ b o, h.get? b = some o → h'.get? b = some o
  new : h.get? e = none
  there : ∃ t, h'.get? e = some { cls := .type "StopIteration", data := .fields #[.ref t, .none, .none, .none, .bool false, v] } ∧ h.get? t = none ∧ h'.get? t = some { cls := .type "tuple", data := .seq #[v] }
section
variable {prog : Program} {w : World} {A : Around} {E : Value → Shared → Prop}
theorem stop_check {M : Model} {self : Value} {rest : List Value} {Q : Unit → Shared → Prop}
    {hp : Heap} {g : Array GenState} {d : Drawn} {tk : Nat} {os : OsState} (hT : Shared.TypeIs ⟨hp, g, d, tk, os⟩ self "StopIteration") (h : Q () ⟨hp, g, d, tk, os⟩) :
    wpAny M A (checkBuiltinCall "StopIteration.__init__" ⟨self :: rest, []⟩) Q E ⟨hp, g, d, tk, os⟩ := by
  have hk : builtinKind "StopIteration.__init__" = some .slot := by kernel_rfl
  have hsp : splitId "StopIteration.__init__" = some ("StopIteration", "__init__") := by kernel_rfl
  have hrow : Manifest.signature? "StopIteration.__init__" = some ⟨.positional, "*", "StopIteration", .self, [⟨"args", .varPos, false⟩]⟩ := by kernel_rfl
  have hsub := stopSub
  have hshort : ("StopIteration" != "*") = true := by decide +kernel
  simp only [checkBuiltinCall, hk, hsp, hrow]
  wp_walk
  refine wpAny_onRaise ?_
  rw [show ∀ (a b : String) (n : Nat), Bind.check ⟨.positional, "*", "StopIteration", .self, [⟨"args", .varPos, false⟩]⟩ a b n (List.map (fun x => x.fst) ({ pos := self :: rest } : Args).kw) = pure () from
    fun a b n => check_star_args _ _ _ _ _ _]
  exact wpAny_pure h
theorem stop_type_call {v : Value} {Q : Fin → Shared → Prop} {hp : Heap} {g : Array GenState} {d : Drawn} {tk : Nat} {os : OsState}
    (h : ∀ h' e, MadeStop hp h' e v → Q (.done (.ret (.ref e))) ⟨h', g, d, tk, os⟩) :
    wpAny (model prog w) A (Builtin.«type.__call__» ⟨[.type "StopIteration", v], []⟩) Q E ⟨hp, g, d, tk, os⟩ := by
  have hnt : (Value.type "StopIteration" == Value.type "type") = false := by decide +kernel
  have hcan : ((Manifest.find? "StopIteration").bind fun x => List.findSome? (fun t => (Manifest.find? t).bind fun b =>
    if b.noNew = true then some true else if (b.attrs.any fun x => x.fst == "__new__") = true then some false else none) x.mro).getD false = false := by kernel_rfl
  have hchk : checkTypeCall "StopIteration" ⟨[v], []⟩ = pure () := by kernel_rfl
  have hmro : mroOf (.type "StopIteration") = pure [.type "StopIteration", .type "Exception", .type "BaseException", .type "object"] := by rw [mroOf_type]; kernel_rfl
  have hmade := stopMade
  have hne : ([.type "StopIteration", .type "Exception", .type "BaseException", .type "object"] : List Value).isEmpty = false := rfl
  wp_walk
  refine codeAny_call_builtin_code (Code.quiet_builtin _ (by decide +kernel)) (wpAny_of_eq (show checkBuiltinCall "Exception.__new__" ⟨[.type "StopIteration", v], []⟩ = pure () by kernel_rfl) ?_)
  refine stop_new ?_
  show wpAny _ _ _ _ _ _
  have hget : ((hp.push { cls := .type "tuple", data := .seq [v].toArray }).push
      { cls := .type "StopIteration", data := .fields #[.ref hp.objs.size, .none, .none, .none, .bool false, .none] }).get? (hp.objs.size + 1) = some
      { cls := .type "StopIteration", data := .fields #[.ref hp.objs.size, .none, .none, .none, .bool false, .none] } := by heap_get
  refine wpAny_bind (wpAny_isInstance ⟨_, hget, rfl⟩ stopSub ?_)
  wp_step
  refine wpAny_bind (wpAny_holding (wpAny_callSpecial?_slot ⟨_, hget, rfl⟩ stopInit (wpAny_call (codeAny_call_builtin stopInit.plain stopEntry ?_))))
  refine stop_check ⟨_, hget, rfl⟩ ?_
  unfold Builtin.«StopIteration.__init__»
  wp_walk
  refine codeAny_builtin baseInitEntry ?_
  wp_walk
  refine h _ _ ⟨fun b o hb => ?_, Heap.get?_none_of_le (Nat.le_succ _), hp.objs.size + 2, ?_, Heap.get?_none_of_le (by lia), ?_⟩
  · have hne : hp.objs.size + 1 ≠ b := Nat.ne_of_gt (Nat.lt_succ_of_lt (Heap.lt_size hb))
    rw [Heap.get?_update_other _ _ hne, Heap.get?_update_other _ _ hne, Heap.get?_update_other _ _ hne]
    exact Heap.get?_push_of_some _ (Heap.get?_push_of_some _ (Heap.get?_push_of_some _ hb))
  · rw [Heap.get?_update_self _ (Heap.get?_update_self _ (Heap.get?_update_self _ (Heap.get?_push_of_some _ hget) rfl) rfl) rfl]
    simp only [Heap.size_push]
    rfl
  · have hne : hp.objs.size + 1 ≠ hp.objs.size + 2 := by lia
    rw [Heap.get?_update_other _ _ hne, Heap.get?_update_other _ _ hne, Heap.get?_update_other _ _ hne]
    exact Heap.get?_push_at (by simp only [Heap.size_push]) rfl
theorem stop_call {v : Value} {Q : Value → Shared → Prop} {s : Shared} (h : ∀ h' e, MadeStop s.heap h' e v → Q (.ref e) { s with heap := h' }) :
    wpAny (model prog w) A (call (.type "StopIteration") [v]) Q E s := by
  obtain ⟨hp, g, d, tk, os⟩ := s
  refine wpAny_call (codeAny_of_tree ?_)
  show wpAny _ _ (again (.builtin "type.__call__" ⟨[.type "StopIteration", v], []⟩)) _ _ _
  exact wpAny_pure ⟨Code.quiet_builtin _ (by decide +kernel), codeAny_builtin entry_typeCall (stop_type_call fun h' e hm => h h' e hm)⟩
end
end Mine
end
section
open PySem PySem.W PySem.Calls PyProof.Rows
set_option Elab.async false
set_option maxRecDepth 100000
set_option maxHeartbeats 0
set_option autoImplicit false
set_option linter.unusedVariables false
namespace Mine
section
variable {M : Model} {A : Around} {E : Value → Shared → Prop} {s : Shared} {env : Env}
end
section
variable {prog : Program} {w : World} {A : Around} {E : Value → Shared → Prop} {s : Shared} {env : Env}
end
end Mine
end
section
open PySem PySem.W PySem.Calls PyProof.Rows
open Builtin Builtin.ObjectAttr
set_option Elab.async false
set_option maxRecDepth 100000
set_option maxHeartbeats 2000000
set_option autoImplicit false
set_option linter.unusedVariables false
namespace Mine
section
variable {prog : Program} {w : World} {A : Around} {E : Value → Shared → Prop} {h : Heap} {g : Array GenState} {d : Drawn} {t : Nat} {os : OsState} {x : Addr} {o : Obj}
theorem stv_type : typeOf (.builtin "StopIteration.value") = pure (.type "member_descriptor") := by show builtinType _ = _; rw [builtinType_eq_fast]; kernel_rfl
theorem stv_ga : Slot "StopIteration" "__getattribute__" "BaseException.__getattribute__" :=
  .of (owner := "BaseException") (n := "__getattribute__") (by rw [typeLookup_type, builtinLookup_eq_fast]; kernel_rfl) (by decide +kernel) (by decide +kernel) (by decide +kernel)
    (by first | exact .inl (by decide +kernel) | exact .inr (by decide +kernel)) (by rw [isSubtype_type]; kernel_rfl)
theorem stv_lk : typeLookup (.type "StopIteration") "value" = pure (some (.builtin "StopIteration.value")) := by rw [typeLookup_type, builtinLookup_eq_fast]; kernel_rfl
theorem stv_get : Slot "member_descriptor" "__get__" "member_descriptor.__get__" :=
  .of (owner := "member_descriptor") (n := "__get__") (by rw [typeLookup_type, builtinLookup_eq_fast]; kernel_rfl) (by decide +kernel) (by decide +kernel) (by decide +kernel)
    (by first | exact .inl (by decide +kernel) | exact .inr (by decide +kernel)) (by rw [isSubtype_type]; kernel_rfl)
theorem stv_set : Slot "member_descriptor" "__set__" "member_descriptor.__set__" :=
  .of (owner := "member_descriptor") (n := "__set__") (by rw [typeLookup_type, builtinLookup_eq_fast]; kernel_rfl) (by decide +kernel) (by decide +kernel) (by decide +kernel)
    (by first | exact .inl (by decide +kernel) | exact .inr (by decide +kernel)) (by rw [isSubtype_type]; kernel_rfl)
theorem stv_getE : entryFor table "member_descriptor.__get__" = some Builtin.«member_descriptor.__get__» := entryFor_of_tree (by kernel_rfl)
theorem stv_E : entryFor table "StopIteration.value" = some Builtin.«StopIteration.value» := entryFor_of_tree (by kernel_rfl)
theorem stv_args (a b c : Value) : argsOk "member_descriptor.__get__" ⟨[a, b, c], []⟩ := by unfold argsOk; kernel_rfl
theorem stv_owner : isSubtype (.type "StopIteration") (.type (".".intercalate ("StopIteration.value".cutAt '.').dropLast)) = pure true := by
  have e0 : "StopIteration.value".cutAt '.' = ["StopIteration", "value"] := by first | rfl | decide +kernel
  rw [e0, show ".".intercalate ["StopIteration", "value"].dropLast = "StopIteration" from by decide +kernel, isSubtype_type]; kernel_rfl
theorem stv_run {v : Value} {vs : Array Value} {R : Result → Shared → Prop} (hx : h.get? x = some o) (hc : o.cls = .type "StopIteration") (hdt : o.data = .fields vs) (hv : vs[5]? = some v) (hq : R (.ok (.ret v)) ⟨h, g, d, t, os⟩) :
    codeAny (model prog w) A (.call (.builtin "member_descriptor.__get__") ⟨[.builtin "StopIteration.value", .ref x, .type "StopIteration"], []⟩) R ⟨h, g, d, t, os⟩ := by
  have hT : (⟨h, g, d, t, os⟩ : Shared).TypeIs (.ref x) "StopIteration" := ⟨_, hx, hc⟩
  have hT5 : (⟨h, g, d, t, os⟩ : Shared).TypeIs (.builtin "StopIteration.value") "member_descriptor" := stv_type
  have f8 := stv_owner
  refine codeAny_call_builtin stv_get.plain stv_getE (stv_get.check _ _ _ _ _ _ _ _ hT5 (stv_args _ _ _) ?_)
  repeat (any_goals (first | assumption | wp_step))
  refine ⟨Code.quiet_builtin _ (by decide +kernel), codeAny_builtin stv_E ?_⟩
  repeat (any_goals (first | assumption | wp_step))
  rw [hdt]
  refine wpAny_pure ?_
  rw [hv]
  exact wpAny_pure (wpAny_pure hq)
theorem stop_value {expr : Bool} {v : Value} {vs : Array Value} {Q : Value → Shared → Prop} (hx : h.get? x = some o) (hc : o.cls = .type "StopIteration") (hdt : o.data = .fields vs) (hv : vs[5]? = some v) (hn : handedOut v = pure v)
    (hq : Q v ⟨h, g, d, t + 1, os⟩) : wpAny (model prog w) A (getAttr (.ref x) "value" expr) Q E ⟨h, g, d, t, os⟩ := by
  have hT : (⟨h, g, d, t + 1, os⟩ : Shared).TypeIs (.ref x) "StopIteration" := ⟨_, hx, hc⟩
  have f2 := stv_ga.lookup
  have f3 := stv_ga.bind (.ref x)
  have f4 := stv_lk
  have f5 := stv_type
  have f6 := stv_get.lookup
  have f7 := stv_set.lookup
  have hx0 : (expr && onTheHeap (Value.builtin "BaseException.__getattribute__")) = false := by cases expr <;> rfl
  unfold getAttr
  repeat (any_goals (first | assumption | wp_step))
  refine codeAny_call_builtin stv_ga.plain F.entry_bexc_ga (stv_ga.check _ _ _ _ _ _ _ _ hT (F.args_bexc_ga _ _) ?_)
  repeat (any_goals (first | assumption | wp_step))
  refine stv_run hx hc hdt hv ?_
  repeat (any_goals (first | assumption | wp_step))
end
end Mine
end
section
open PySem PySem.W PySem.Calls PyProof.Rows
set_option Elab.async false
set_option maxRecDepth 100000
set_option maxHeartbeats 2000000
set_option autoImplicit false
set_option linter.unusedVariables false
namespace Mine
section
variable {prog : Program} {w : World} {A : Around} {E : Value → Shared → Prop} {h : Heap} {g : Array GenState} {d : Drawn} {t : Nat} {os : OsState} {a : Addr} {o : Obj} {X : String}
end
end Mine
end
open PySem PySem.W PySem.Calls PyProof.Rows
namespace Mine
def tacSq (t : Lean.Syntax) : Lean.Syntax := .node .none ``Lean.Parser.Tactic.tacticSeq #[.node .none ``Lean.Parser.Tactic.tacticSeq1Indented #[.node .none `null #[t]]]
def tacAp (f : Lean.Name) (x : Lean.Syntax) : Lean.Syntax := .node .none ``Lean.Parser.Term.app #[Lean.mkIdent f, .node .none `null #[x]]
def tacOr (t : Lean.Syntax) : Lean.Syntax := .node .none `group #[.atom .none "|", tacSq t]
def tacEx (x : Lean.Syntax) : Lean.Syntax := tacOr (.node .none ``Lean.Parser.Tactic.exact #[.atom .none "exact", tacAp ``Eq.refl x])
def tac0 : Lean.Syntax := tacSq (.node .none ``Lean.Parser.Tactic.first #[.atom .none "first", .node .none `null (([``true, ``false, ``ScopeKind.function].map fun x => tacEx (Lean.mkIdent x)) ++ ([``NameKind.local, ``NameKind.cell].map fun x => tacEx (tacAp ``some (Lean.mkIdent x))) ++ [tacEx (tacAp ``pure (Lean.mkIdent ``false)), tacOr (.node .none ``Lean.Parser.Tactic.tacticRfl #[.atom .none "rfl"])]).toArray])
def tac3 : Lean.Syntax := tacSq (.node .none ``Lean.Parser.Tactic.withUnfoldingAll #[.atom .none "with_unfolding_all", tacSq (.node .none ``Lean.Parser.Tactic.tacticRfl #[.atom .none "rfl"])])
def tac14 : Lean.Syntax := tacSq (.node .none ``Lean.Parser.Tactic.decide #[.atom .none "decide", .node .none ``Lean.Parser.Tactic.optConfig #[.node .none `null #[]]])
def tac15 : Lean.Syntax := tacSq (.node .none ``Lean.Parser.Tactic.withUnfoldingAll #[.atom .none "with_unfolding_all", tacSq (.node .none ``Lean.Parser.Tactic.exact #[.atom .none "exact", tacAp ``Eq.refl (Lean.mkIdent ``false)])])

noncomputable abbrev Fz := Addr → Option Obj
noncomputable def Fz.le (F F' : Fz) : Prop := ∀ a o, F a = some o → F' a = some o
theorem nk0 {n k L : Nat} (h : n + k = L) (hk : k < L) : 0 < n := Nat.pos_of_ne_zero fun e => by rw [e, Nat.zero_add] at h; exact absurd h (Nat.ne_of_lt hk)
theorem nk1 {n k L : Nat} (h : n + k = L) (hk : k < L) : n - 1 < n := Nat.sub_lt (nk0 h hk) (by decide)
theorem nk2 {n k L : Nat} (h : n + k = L) (hk : k < L) : n - 1 + (k + 1) = L := by rw [← Nat.add_assoc, Nat.add_right_comm, Nat.sub_add_cancel (nk0 h hk)]; exact h
theorem toN {i : Int} {n : Nat} (h0 : 0 ≤ i) (h : i.toNat < n) : 0 ≤ i ∧ i < (n : Int) := ⟨h0, (Int.toNat_lt h0).mp h⟩
theorem m1a (n : Nat) : -1 + ((n + 1 : Nat) : Int) = n := by rw [Int.add_comm]; exact Int.add_neg_cancel_right (n : Int) 1
theorem Fz.le.refl (F : Fz) : F.le F := fun _ _ e => e
theorem Fz.le.trans {F F' F'' : Fz} (x : F.le F') (y : F'.le F'') : F.le F'' := fun a o e => y a o (x a o e)

inductive V where
  | none
  | bool (b : Bool)
  | int (i : Int)
  | str (s : Str)
  | tup (l : List V)
  | lst (l : List V)
  | ref (a : Addr)
  | rng (a b c : Int)
  | typ (n : String)
  | blt (n : String)

inductive RV (F : Fz) : Value → V → Prop where
  | none : RV F .none .none
  | bool {b : Bool} : RV F (.bool b) (.bool b)
  | int {i : Int} {t : Tok} : RV F (.int i t) (.int i)
  | str {x : Str} {t : Tok} : RV F (.str x t) (.str x)
  | typ {n : String} : RV F (.type n) (.typ n)
  | blt {n : String} : RV F (.builtin n) (.blt n)
  | ref {a : Addr} : RV F (.ref a) (.ref a)
  | rng {r : Addr} {a b c : Int} {t u v : Tok} (h : F r = some { cls := .type "range", dict := none, data := .fields #[.int a t, .int b u, .int c v], slots := #[] }) : RV F (.ref r) (.rng a b c)
  | tup {a : Addr} {vs : List Value} {n : Nat} {l : List V} (h : F a = some { cls := .type "tuple", dict := none, data := .seq vs.toArray n, slots := #[] })
      (hl : vs.length = l.length) (hr : ∀ (i : Nat) (v : Value) (x : V), vs[i]? = some v → l[i]? = some x → RV F v x) : RV F (.ref a) (.tup l)
  | lst {a : Addr} {vs : List Value} {n : Nat} {l : List V} {o : Obj} (h : F a = some o) (hc : o.cls = .type "list") (hd : o.data = .seq vs.toArray n)
      (hl : vs.length = l.length) (hr : ∀ (i : Nat) (v : Value) (x : V), vs[i]? = some v → l[i]? = some x → RV F v x) : RV F (.ref a) (.lst l)

theorem RV.mono {F F' : Fz} (le : F.le F') {v : Value} {x : V} (h : RV F v x) : RV F' v x := by
  induction h with
  | none => exact .none
  | bool => exact .bool
  | int => exact .int
  | str => exact .str
  | typ => exact .typ
  | blt => exact .blt
  | ref => exact .ref
  | rng h => exact .rng (le _ _ h)
  | tup h hl _ ih => exact .tup (le _ _ h) hl ih
  | lst h hc hd hl _ ih => exact .lst (le _ _ h) hc hd hl ih

section
variable {F : Fz} {P : Value → Prop} {v : Value}
noncomputable def RVI (F : Fz) (v : Value) : V → Prop
  | .none => v = .none
  | .bool b => v = .bool b
  | .int i => ∃ t, v = .int i t
  | .str x => ∃ t, v = .str x t
  | .typ n => v = .type n
  | .blt n => v = .builtin n
  | .ref a => v = .ref a
  | .rng a b c => ∃ r t u w, F r = some { cls := .type "range", dict := Option.none, data := .fields #[.int a t, .int b u, .int c w], slots := #[] } ∧ v = .ref r
  | .tup l => ∃ a vs n, (F a = some { cls := .type "tuple", dict := Option.none, data := .seq (List.toArray vs) n, slots := #[] } ∧ vs.length = l.length ∧ ∀ (i : Nat) (v : Value) (x : V), vs[i]? = some v → l[i]? = some x → RV F v x) ∧ v = .ref a
  | .lst l => ∃ a vs n o, (F a = some o ∧ o.cls = .type "list" ∧ o.data = .seq (List.toArray vs) n ∧ vs.length = l.length ∧ ∀ (i : Nat) (v : Value) (x : V), vs[i]? = some v → l[i]? = some x → RV F v x) ∧ v = .ref a
theorem RV.inv {x : V} (h : RV F v x) : RVI F v x := RV.casesOn (motive := fun v x _ => RVI F v x) h rfl rfl ⟨_, rfl⟩ ⟨_, rfl⟩ rfl rfl rfl (fun h => ⟨_, _, _, _, h, rfl⟩) (fun h hl hr => ⟨_, _, _, ⟨h, hl, hr⟩, rfl⟩) (fun h hc hd hl hr => ⟨_, _, _, _, ⟨h, hc, hd, hl, hr⟩, rfl⟩)
theorem RV.i_none (h : RV F v .none) : v = .none := h.inv
theorem RV.i_ref {a : Addr} (h : RV F v (.ref a)) : v = .ref a := h.inv
theorem RV.i_blt {n : String} (h : RV F v (.blt n)) : v = .builtin n := h.inv
theorem RV.i_typ {n : String} (h : RV F v (.typ n)) : v = .type n := h.inv
theorem RV.i_bool {b : Bool} (h : RV F v (.bool b)) : v = .bool b := h.inv
theorem RV.e_int {i : Int} (h : RV F v (.int i)) (k : ∀ t, P (.int i t)) : P v := Exists.elim h.inv fun t e => Eq.mpr (congrArg P e) (k t)
theorem RV.e_str {x : Str} (h : RV F v (.str x)) (k : ∀ t, P (.str x t)) : P v := Exists.elim h.inv fun t e => Eq.mpr (congrArg P e) (k t)
theorem RV.e_bool {b : Bool} (h : RV F v (.bool b)) (k : P (.bool b)) : P v := Eq.mpr (congrArg P h.i_bool) k
theorem RV.e_none (h : RV F v .none) (k : P .none) : P v := Eq.mpr (congrArg P h.i_none) k
noncomputable def V.isN : V → Bool
  | .none => true
  | _ => false
theorem RV.isN {z : V} (h : RV F v z) : (v == .none) = z.isN := RV.casesOn (motive := fun v x _ => (v == .none) = x.isN) h rfl rfl rfl rfl rfl rfl rfl (fun _ => rfl) (fun _ _ _ => rfl) (fun _ _ _ _ _ => rfl)
theorem RV.e_typ {n : String} (h : RV F v (.typ n)) (k : P (.type n)) : P v := Eq.mpr (congrArg P h.i_typ) k
theorem RV.e_blt {n : String} (h : RV F v (.blt n)) (k : P (.builtin n)) : P v := Eq.mpr (congrArg P h.i_blt) k
theorem RV.e_ref {a : Addr} (h : RV F v (.ref a)) (k : P (.ref a)) : P v := Eq.mpr (congrArg P h.i_ref) k
theorem RV.e_rng {a b c : Int} (h : RV F v (.rng a b c)) (k : ∀ r t u w, F r = some { cls := .type "range", dict := Option.none, data := .fields #[.int a t, .int b u, .int c w], slots := #[] } → P (.ref r)) : P v := h.inv.elim fun _ h => h.elim fun _ h => h.elim fun _ h => h.elim fun _ h => Eq.mpr (congrArg P h.2) (k _ _ _ _ h.1)
theorem RV.e_tup {l : List V} (h : RV F v (.tup l)) (k : ∀ a vs n, F a = some { cls := .type "tuple", dict := Option.none, data := .seq (List.toArray vs) n, slots := #[] } → vs.length = l.length → (∀ (i : Nat) (v : Value) (x : V), vs[i]? = some v → l[i]? = some x → RV F v x) → P (.ref a)) : P v := h.inv.elim fun _ h => h.elim fun _ h => h.elim fun _ h => Eq.mpr (congrArg P h.2) (k _ _ _ h.1.1 h.1.2.1 h.1.2.2)
theorem RV.e_lst {l : List V} (h : RV F v (.lst l)) (k : ∀ a vs n o, F a = some o → o.cls = .type "list" → o.data = .seq (List.toArray vs) n → vs.length = l.length → (∀ (i : Nat) (v : Value) (x : V), vs[i]? = some v → l[i]? = some x → RV F v x) → P (.ref a)) : P v := h.inv.elim fun _ h => h.elim fun _ h => h.elim fun _ h => h.elim fun _ h => Eq.mpr (congrArg P h.2) (k _ _ _ _ h.1.1 h.1.2.1 h.1.2.2.1 h.1.2.2.2.1 h.1.2.2.2.2)
end
inductive RVs (F : Fz) : List Value → List V → Prop where
  | nil : RVs F [] []
  | cons {v : Value} {x : V} {vs : List Value} {l : List V} (h : RV F v x) (t : RVs F vs l) : RVs F (v :: vs) (x :: l)
theorem RVs.e0 {F : Fz} {P : List Value → Prop} {vs : List Value} (h : RVs F vs []) (k : P []) : P vs := by cases h; exact k
theorem RVs.ec {F : Fz} {P : List Value → Prop} {vs : List Value} {x : V} {l : List V} (h : RVs F vs (x :: l)) (k : ∀ v vs, RV F v x → RVs F vs l → P (v :: vs)) : P vs := by cases h with | cons h t => exact k _ _ h t
theorem RVs.e1 {F : Fz} {P : List Value → Prop} {vs : List Value} {x : V} (h : RVs F vs [x]) (k : ∀ a, RV F a x → P [a]) : P vs := h.ec fun a _ ha t => t.e0 (P := fun vs => P (a :: vs)) (k a ha)
theorem RVs.e2 {F : Fz} {P : List Value → Prop} {vs : List Value} {x y : V} (h : RVs F vs [x, y]) (k : ∀ a b, RV F a x → RV F b y → P [a, b]) : P vs := h.ec fun a _ ha t => t.e1 (P := fun vs => P (a :: vs)) fun b hb => k a b ha hb
theorem RVs.mono {F F' : Fz} (le : F.le F') {vs : List Value} {l : List V} (h : RVs F vs l) : RVs F' vs l := by
  induction h with
  | nil => exact .nil
  | cons h _ ih => exact .cons (h.mono le) ih
theorem RVs.length {F : Fz} {vs : List Value} {l : List V} (h : RVs F vs l) : vs.length = l.length := by
  induction h with
  | nil => rfl
  | cons _ _ ih => simp [ih]
theorem RVs.get {F : Fz} {vs : List Value} {l : List V} (h : RVs F vs l) : ∀ (i : Nat) (v : Value) (x : V), vs[i]? = some v → l[i]? = some x → RV F v x := by
  induction h with
  | nil => intro i v x e; simp at e
  | cons h _ ih =>
    intro i v x e1 e2
    cases i with
    | zero => simp at e1 e2; subst e1 e2; exact h
    | succ i => simp at e1 e2; exact ih i v x e1 e2
theorem RVs.of {F : Fz} : ∀ {vs : List Value} {l : List V}, vs.length = l.length → (∀ (i : Nat) (v : Value) (x : V), vs[i]? = some v → l[i]? = some x → RV F v x) → RVs F vs l
  | [], [], _, _ => .nil
  | [], _ :: _, h, _ => by simp at h
  | _ :: _, [], h, _ => by simp at h
  | v :: vs, x :: l, h, hr => .cons (hr 0 v x rfl rfl) (RVs.of (by simpa using h) fun i v x e1 e2 => hr (i + 1) v x (by simpa using e1) (by simpa using e2))
theorem RVs.append {F : Fz} {vs ws : List Value} {l m : List V} (h : RVs F vs l) (h' : RVs F ws m) : RVs F (vs ++ ws) (l ++ m) := by
  induction h with
  | nil => exact h'
  | cons h _ ih => exact .cons h ih
theorem RVs.at {F : Fz} {vs : List Value} {l : List V} (h : RVs F vs l) {i : Nat} {x : V} (e : l[i]? = some x) : ∃ v, vs[i]? = some v ∧ RV F v x := by
  have hi : i < l.length := by
    rcases Nat.lt_or_ge i l.length with h | h
    · exact h
    · rw [List.getElem?_eq_none h] at e; cases e
  have hi' : i < vs.length := by rw [h.length]; exact hi
  exact ⟨vs[i], List.getElem?_eq_getElem hi', h.get i _ x (List.getElem?_eq_getElem hi') e⟩

inductive AO where
  | list (l : List V)
  | ns (ρ : List (Str × Option V))
  | cell (o : Option V)
  | dict (es : List (V × V))
  | raw (o : Obj)
  | flds (cls : String) (vs : Array Value)
  | exc (cls : String) (args : List V) (tb : Option Addr) (dict : Option Addr) (cx : Bool)
  | tb
  | attrs (ρ : List (Str × V))
  | such (P : Obj → Prop)

noncomputable abbrev Hp := List (Addr × AO)
theorem mem_keys {H : Hp} {p : Addr × AO} {a : Addr} (h : p ∈ H) (e : p.1 = a) : a ∈ H.map (·.1) := e ▸ List.mem_map_of_mem (f := fun q : Addr × AO => q.1) h

noncomputable def keyHashV (w : World) (k : V) (v : Value) (h : Int) : Prop := (∃ x t, k = .str x ∧ v = .str x t ∧ h = hashStr w x) ∨ ∃ i t, k = .int i ∧ v = .int i t ∧ h = hashInt i
inductive RD (w : World) (F : Fz) : List DictEntry → List (V × V) → Prop where
  | nil : RD w F [] []
  | cons {e : DictEntry} {k x : V} {es : List DictEntry} {l : List (V × V)} (hk : keyHashV w k e.key e.hash) (hv : RV F e.val x) (t : RD w F es l) : RD w F (e :: es) ((k, x) :: l)

inductive ExcO (F : Fz) (o : Obj) (c : String) (args : List V) (tb d : Option Addr) (cx : Bool) : Prop where
  | mk (vs : Array Value) (a : Addr) (v5 : Value) (e1 : o.cls = .type c) (e2 : o.dict = d) (e3 : o.data = .fields vs) (e4 : vs[0]? = some (.ref a)) (e5 : RV F (.ref a) (.tup args)) (e6 : vs[1]? = some (tb.elim .none Value.ref)) (e7 : vs[5]? = some v5) (e8 : c = "StopIteration" → RV F v5 (args.headD .none)) (e9 : cx = true → vs[2]? = some .none)
inductive ListO (F : Fz) (o : Obj) (l : List V) : Prop where
  | intro (vs : Array Value) (n : Nat) (e : o = { cls := .type "list", dict := none, data := .seq vs n, slots := #[] }) (h : RVs F vs.toList l)
inductive NsO (F : Fz) (o : Obj) (ρ : List (Str × Option V)) : Prop where
  | intro (es : Array DictEntry) (ep : Nat) (e : o.data = .dict es ep) (k : StrKeys es) (nd : (ρ.map (·.1)).Nodup) (r : ∀ p ∈ ρ, match p.2 with
      | none => True
      | some x => ∃ v, nsFind es p.1 = some v ∧ RV F v x)
inductive DictO (w : World) (F : Fz) (o : Obj) (l : List (V × V)) : Prop where
  | intro (es : Array DictEntry) (n : Nat) (e : o = { cls := .type "dict", dict := none, data := .dict es n, slots := #[] }) (h : RD w F es.toList l)
inductive TbO (o : Obj) : Prop where
  | intro (vs : Array Value) (e1 : o.cls = .type "traceback") (e2 : o.data = .fields vs) (e3 : 3 < vs.size)
inductive AttrsO (F : Fz) (o : Obj) (ρ : List (Str × V)) : Prop where
  | intro (es : Array DictEntry) (ep : Nat) (e : o.data = .dict es ep) (k : StrKeys es) (u : UniqKeys es) (r : ∀ n, match ρ.lookup n with
      | none => nsFind es n = none
      | some x => ∃ v, nsFind es n = some v ∧ RV F v x)
noncomputable def RO (w : World) (F : Fz) (o : Obj) : AO → Prop
  | .list l => ListO F o l
  | .ns ρ => NsO F o ρ
  | .cell c => match c with
      | none => o.data = .cell none
      | some x => ∃ v, o.data = .cell (some v) ∧ RV F v x
  | .dict l => DictO w F o l
  | .raw o' => o = o'
  | .flds c vs => o.cls = .type c ∧ o.data = .fields vs
  | .exc c args tb d cx => ExcO F o c args tb d cx
  | .tb => TbO o
  | .attrs ρ => AttrsO F o ρ
  | .such P => P o

theorem RD.mono {w : World} {F F' : Fz} (le : F.le F') {es : List DictEntry} {l : List (V × V)} (h : RD w F es l) : RD w F' es l := by
  induction h with
  | nil => exact .nil
  | cons hk hv _ ih => exact .cons hk (hv.mono le) ih

theorem RO.mono {w : World} {F F' : Fz} (le : F.le F') {o : Obj} {x : AO} (h : RO w F o x) : RO w F' o x := by
  cases x with
  | list l => obtain ⟨vs, n, e, r⟩ := h; exact ⟨vs, n, e, r.mono le⟩
  | ns ρ =>
    obtain ⟨es, ep, e, k, nd, r⟩ := h
    refine ⟨es, ep, e, k, nd, fun p hp => ?_⟩
    have := r p hp
    cases hq : p.2 with
    | none => trivial
    | some x => simp only [hq] at this ⊢; obtain ⟨v, h1, h2⟩ := this; exact ⟨v, h1, h2.mono le⟩
  | cell c => cases c with
    | none => exact h
    | some x => obtain ⟨v, e, r⟩ := h; exact ⟨v, e, r.mono le⟩
  | dict l => obtain ⟨es, n, e, r⟩ := h; exact ⟨es, n, e, r.mono le⟩
  | raw o' => exact h
  | flds c vs => exact h
  | exc c args tb d cx => obtain ⟨vs, a, v5, e1, e2, e3, e4, e5, e6, e7, e8, e9⟩ := h; exact ⟨vs, a, v5, e1, e2, e3, e4, e5.mono le, e6, e7, fun q => (e8 q).mono le, e9⟩
  | tb => exact h
  | such P => exact h
  | attrs ρ =>
    obtain ⟨es, ep, e, k, u, r⟩ := h
    refine ⟨es, ep, e, k, u, fun n => ?_⟩
    have := r n
    cases hq : ρ.lookup n with
    | none => simp only [hq] at this ⊢; exact this
    | some x => simp only [hq] at this ⊢; obtain ⟨v, h1, h2⟩ := this; exact ⟨v, h1, h2.mono le⟩

structure Glob where
  prog : Program
  w : World
  F0 : Fz
  os : OsState
  mg : Str → Option Value
  mb : Str → Option Value
noncomputable def GOk (G : Glob) : Prop := ∀ h : Heap, (∀ a o, G.F0 a = some o → h.get? a = some o) → h.Ns mainGlobals G.mg ∧ h.Ns builtinsNs G.mb ∧ h.NoLimit

noncomputable abbrev Glob.M (G : Glob) : Model := model G.prog G.w

structure Rep (G : Glob) (fr : List Env) (F : Fz) (H : Hp) (s : Shared) : Prop where
  gok : GOk G
  base : G.F0.le F
  fz : ∀ a o, F a = some o → s.heap.get? a = some o
  own : ∀ p ∈ H, F p.1 = none ∧ ∃ o, s.heap.get? p.1 = some o ∧ RO G.w F o p.2
  nd : (H.map (·.1)).Nodup
  frs : ∀ env ∈ fr, env.scope.kind = .function ∧ ∃ L ρ, env.frame = some L ∧ (L, AO.ns ρ) ∈ H
  gens : s.gens = #[]
  os : s.os = G.os

section
variable {G : Glob} {fr : List Env} {F F' : Fz} {H H' : Hp} {s : Shared}
theorem Rep.glob (h : Rep G fr F H s) : s.heap.Ns mainGlobals G.mg ∧ s.heap.Ns builtinsNs G.mb ∧ s.heap.NoLimit := h.gok s.heap fun a o e => h.fz a o (h.base a o e)
theorem Rep.perm (h : Rep G fr F H s) (p : H.Perm H') : Rep G fr F H' s :=
  ⟨h.gok, h.base, h.fz, fun q hq => h.own q (p.mem_iff.mpr hq), (p.map _).nodup_iff.mp h.nd, fun e he => ⟨(h.frs e he).1, by obtain ⟨L, ρ, a, b⟩ := (h.frs e he).2; exact ⟨L, ρ, a, p.mem_iff.mp b⟩⟩, h.gens, h.os⟩
theorem Rep.drop {p : Addr × AO} (h : Rep G fr F (p :: H) s) (hp : ∀ env ∈ fr, env.frame ≠ some p.1) : Rep G fr F H s :=
  ⟨h.gok, h.base, h.fz, fun q hq => h.own q (.tail _ hq), (List.nodup_cons.mp h.nd).2, fun e he => ⟨(h.frs e he).1, by
    obtain ⟨L, ρ, a, b⟩ := (h.frs e he).2
    cases b with
    | head => exact absurd a (hp e he)
    | tail _ b => exact ⟨L, ρ, a, b⟩⟩, h.gens, h.os⟩
theorem Rep.dropNot {a : Addr} {x : AO} (h : Rep G fr F ((a, x) :: H) s) (hx : ∀ ρ, x ≠ .ns ρ) : Rep G fr F H s :=
  h.drop fun env he e => by
    obtain ⟨L, ρ, q, m⟩ := (h.frs env he).2
    obtain rfl : L = a := Option.some.inj (q.symm.trans e)
    cases m with
    | head => exact hx _ rfl
    | tail _ m => exact (List.nodup_cons.mp h.nd).1 (mem_keys m rfl)
theorem Rep.pop {env : Env} (h : Rep G (env :: fr) F H s) : Rep G fr F H s :=
  ⟨h.gok, h.base, h.fz, h.own, h.nd, fun e he => h.frs e (.tail _ he), h.gens, h.os⟩
theorem Rep.keeps (h : Rep G fr F H s) {h' : Heap} {tk : Nat} {dr : Drawn} (k : ∀ b o, s.heap.get? b = some o → h'.get? b = some o) : Rep G fr F H { s with heap := h', toks := tk, drawn := dr } :=
  ⟨h.gok, h.base, fun a o e => k _ _ (h.fz a o e), fun p hp => by obtain ⟨n, o, g, r⟩ := h.own p hp; exact ⟨n, o, k _ _ g, r⟩, h.nd, h.frs, h.gens, h.os⟩
theorem Rep.toks (h : Rep G fr F H s) (tk : Nat) : Rep G fr F H { s with toks := tk } := h.keeps fun _ _ e => e
theorem Rep.fresh (h : Rep G fr F H s) {b : Addr} (e : s.heap.get? b = none) : F b = none ∧ b ∉ H.map (·.1) := by
  refine ⟨?_, fun q => ?_⟩
  · cases q : F b with
    | none => rfl
    | some o => have := h.fz _ _ q; rw [e] at this; cases this
  · obtain ⟨p, hp, rfl⟩ := List.mem_map.mp q
    obtain ⟨_, o, g, _⟩ := h.own p hp
    rw [e] at g; cases g
theorem none_at_size (h : Heap) : h.get? h.objs.size = none := by
  cases q : h.get? h.objs.size with
  | none => rfl
  | some o => exact absurd (Heap.lt_size q) (Nat.lt_irrefl _)
theorem Rep.new (h : Rep G fr F H s) {h' : Heap} {tk : Nat} {dr : Drawn} {D : Addr} {o : Obj} {x : AO} (k : ∀ b o, s.heap.get? b = some o → h'.get? b = some o) (hD : s.heap.get? D = none) (ho : h'.get? D = some o) (r : RO G.w F o x) :
    Rep G fr F ((D, x) :: H) { s with heap := h', toks := tk, drawn := dr } := by
  obtain ⟨f1, f2⟩ := h.fresh hD
  have h1 := h.keeps (tk := tk) (dr := dr) k
  refine ⟨h1.gok, h1.base, h1.fz, fun p hp => ?_, List.nodup_cons.mpr ⟨f2, h1.nd⟩, fun e he => ⟨(h1.frs e he).1, by obtain ⟨L, ρ, a, b⟩ := (h1.frs e he).2; exact ⟨L, ρ, a, .tail _ b⟩⟩, h1.gens, h1.os⟩
  cases hp with
  | head => exact ⟨f1, o, ho, r⟩
  | tail _ hp => exact h1.own p hp
noncomputable def Fz.add (F : Fz) (D : Addr) (o : Obj) : Fz := fun a => if a = D then some o else F a
theorem Fz.add_self (F : Fz) (D : Addr) (o : Obj) : F.add D o D = some o := if_pos rfl
theorem Fz.add_le {F : Fz} {D : Addr} (o : Obj) (h : F D = none) : F.le (F.add D o) := fun a x e => by
  unfold Fz.add
  split
  · rename_i q; subst q; rw [h] at e; cases e
  · exact e
theorem Rep.newF (h : Rep G fr F H s) {h' : Heap} {tk : Nat} {dr : Drawn} {D : Addr} {o : Obj} (k : ∀ b o, s.heap.get? b = some o → h'.get? b = some o) (hD : s.heap.get? D = none) (ho : h'.get? D = some o) :
    F.le (F.add D o) ∧ Rep G fr (F.add D o) H { s with heap := h', toks := tk, drawn := dr } := by
  obtain ⟨f1, f2⟩ := h.fresh hD
  have le := Fz.add_le o f1
  have h1 := h.keeps (tk := tk) (dr := dr) k
  refine ⟨le, h1.gok, h1.base.trans le, fun a x e => ?_, fun p hp => ?_, h1.nd, h1.frs, h1.gens, h1.os⟩
  · unfold Fz.add at e
    split at e
    · rename_i q; subst q; cases e; exact ho
    · exact h1.fz a x e
  · obtain ⟨n, o', g, r⟩ := h1.own p hp
    refine ⟨?_, o', g, r.mono le⟩
    unfold Fz.add
    rw [if_neg fun q => f2 (mem_keys hp q)]
    exact n
theorem Rep.freeze {a : Addr} {x : AO} (h : Rep G fr F ((a, x) :: H) s) (hx : ∀ ρ, x ≠ .ns ρ) : ∃ o, RO G.w F o x ∧ F.le (F.add a o) ∧ Rep G fr (F.add a o) H s := by
  obtain ⟨n, o, g, r⟩ := h.own _ (.head _)
  have le := Fz.add_le o n
  have h1 := h.dropNot hx
  refine ⟨o, r, le, h1.gok, h1.base.trans le, fun b x e => ?_, fun p hp => ?_, h1.nd, h1.frs, h1.gens, h1.os⟩
  · unfold Fz.add at e
    split at e
    · rename_i q; subst q; cases e; exact g
    · exact h1.fz b x e
  · obtain ⟨n', o', g', r'⟩ := h1.own p hp
    refine ⟨?_, o', g', r'.mono le⟩
    unfold Fz.add
    rw [if_neg fun q => (List.nodup_cons.mp h.nd).1 (mem_keys hp q)]
    exact n'
theorem Rep.upd {a : Addr} {x x' : AO} (h : Rep G fr F ((a, x) :: H) s) {h' : Heap} {tk : Nat} {dr : Drawn} {o' : Obj} (k : Heap.ExtBut a s.heap h') (ho : h'.get? a = some o') (r : RO G.w F o' x') (hn : (∃ ρ, x = .ns ρ) → ∃ ρ, x' = .ns ρ) :
    Rep G fr F ((a, x') :: H) { s with heap := h', toks := tk, drawn := dr } := by
  have na : ∀ p ∈ H, p.1 ≠ a := fun p hp q => (List.nodup_cons.mp h.nd).1 (mem_keys hp q)
  have fa : F a = none := (h.own _ (.head _)).1
  refine ⟨h.gok, h.base, fun b o e => k b o (fun q => by subst q; rw [fa] at e; cases e) (h.fz b o e), fun p hp => ?_, h.nd, fun e he => ⟨(h.frs e he).1, ?_⟩, h.gens, h.os⟩
  · cases hp with
    | head => exact ⟨fa, o', ho, r⟩
    | tail _ hp => obtain ⟨n, o, g, r⟩ := h.own p (.tail _ hp); exact ⟨n, o, k _ _ (na p hp) g, r⟩
  · obtain ⟨L, ρ, q, m⟩ := (h.frs e he).2
    cases m with
    | head => obtain ⟨ρ', rfl⟩ := hn ⟨_, rfl⟩; exact ⟨_, _, q, .head _⟩
    | tail _ m => exact ⟨L, ρ, q, .tail _ m⟩
end

inductive Dn (P : Fz → Hp → Prop) (F : Fz) (H : Hp) : Prop where
  | mk (F1 : Fz) (le : Fz.le F1 F) (h : P F1 H)
inductive PQ {α : Type} (G : Glob) (fr : List Env) (F : Fz) (R : Hp) (Q : α → Fz → Hp → Prop) (v : α) (s : Shared) : Prop where
  | mk (F' : Fz) (H' : Hp) (le : F.le F') (rep : Rep G fr F' (H' ++ R) s) (q : Q v F' H')
noncomputable def TpAt {α : Type} (G : Glob) (fr : List Env) (A : Around) (K : Fz) (H : Hp) (t : Sem α) (Q : α → Fz → Hp → Prop) (E : Value → Fz → Hp → Prop) : Prop :=
  ∀ R s, Rep G fr K (H ++ R) s → wpAny G.M A t (PQ G fr K R Q) (PQ G fr K R fun e => Dn (E e)) s
noncomputable def Tp {α : Type} (G : Glob) (fr : List Env) (A : Around) (F : Fz) (H : Hp) (t : Sem α) (Q : α → Fz → Hp → Prop) (E : Value → Fz → Hp → Prop) : Prop :=
  ∀ K, F.le K → TpAt G fr A K H t (fun v => Dn (Q v)) E
section
variable {α β : Type} {G : Glob} {fr : List Env} {A : Around} {F K K₀ : Fz} {H R : Hp} {t : Sem α} {Q : α → Fz → Hp → Prop} {E : Value → Fz → Hp → Prop} {s : Shared}
theorem noPQ {F : Fz} {v : α} (h : PQ G fr F R (fun (_ : α) => Dn fun (_ : Fz) (_ : Hp) => False) v s) : False := by obtain ⟨_, _, _, _, _, _, q⟩ := h; exact q
theorem upPQ {v : α} (le : K₀.le K) (h : PQ G fr K R Q v s) : PQ G fr K₀ R Q v s := by obtain ⟨F1, H1, l, r, q⟩ := h; exact ⟨F1, H1, le.trans l, r, q⟩
theorem TpAt.seq (h : TpAt G fr A K H t Q E) (hR : Rep G fr K (H ++ R) s) (le : K₀.le K) {P : α → Shared → Prop}
    (k : ∀ a K1 H1 s1, K.le K1 → Rep G fr K1 (H1 ++ R) s1 → Q a K1 H1 → P a s1) : wpAny G.M A t P (PQ G fr K₀ R fun e => Dn (E e)) s :=
  wpAny_mono (h R s hR) (fun a s1 ⟨F1, H1, l, r, q⟩ => k a F1 H1 s1 l r q) fun _ _ q => upPQ le q
theorem TpAt.last (h : TpAt G fr A K H t Q E) (hR : Rep G fr K (H ++ R) s) (le : K₀.le K) : wpAny G.M A t (PQ G fr K₀ R Q) (PQ G fr K₀ R fun e => Dn (E e)) s :=
  h.seq hR le fun _ F1 H1 _ l r q => ⟨F1, H1, le.trans l, r, q⟩
theorem Tp.seq (h : Tp G fr A F H t Q E) (m : F.le K) (hR : Rep G fr K (H ++ R) s) (le : K₀.le K) {P : α → Shared → Prop}
    (k : ∀ a F1 K1 H1 s1, K.le K1 → Fz.le F1 K1 → Rep G fr K1 (H1 ++ R) s1 → Q a F1 H1 → P a s1) : wpAny G.M A t P (PQ G fr K₀ R fun e => Dn (E e)) s :=
  (h K m).seq hR le fun a K1 H1 s1 l r ⟨F1, m1, q⟩ => k a F1 K1 H1 s1 l m1 r q
theorem Tp.last (h : Tp G fr A F H t Q E) (m : F.le K) (hR : Rep G fr K (H ++ R) s) (le : K₀.le K) : wpAny G.M A t (PQ G fr K₀ R fun v => Dn (Q v)) (PQ G fr K₀ R fun e => Dn (E e)) s := (h K m).last hR le
theorem Tp.mono {Q' : α → Fz → Hp → Prop} {E' : Value → Fz → Hp → Prop} (h : Tp G fr A F H t Q E) (hq : ∀ a F1 H1, Q a F1 H1 → Q' a F1 H1) (he : ∀ e F1 H1, E e F1 H1 → E' e F1 H1) : Tp G fr A F H t Q' E' :=
  fun K m R s hR => wpAny_mono (h K m R s hR) (fun _ _ ⟨F1, H1, l, r, F2, m2, q⟩ => ⟨F1, H1, l, r, F2, m2, hq _ _ _ q⟩) fun _ _ ⟨F1, H1, l, r, F2, m2, q⟩ => ⟨F1, H1, l, r, F2, m2, he _ _ _ q⟩
end
inductive Upd : Hp → Addr → AO → AO → Hp → Prop where
  | hd {a : Addr} {x x' : AO} {H : Hp} : Upd ((a, x) :: H) a x x' ((a, x') :: H)
  | tl {a : Addr} {x x' : AO} {p : Addr × AO} {H H' : Hp} (h : Upd H a x x' H') : Upd (p :: H) a x x' (p :: H')
theorem Upd.split {a : Addr} {x x' : AO} {H H' : Hp} (h : Upd H a x x' H') : ∃ H₀, H.Perm ((a, x) :: H₀) ∧ H'.Perm ((a, x') :: H₀) := by
  induction h with
  | hd => exact ⟨_, .refl _, .refl _⟩
  | @tl _ _ _ p H H' _ ih =>
    obtain ⟨H₀, h1, h2⟩ := ih
    exact ⟨p :: H₀, (h1.cons p).trans (.swap ..), (h2.cons p).trans (.swap ..)⟩
theorem Rep.upd' {G : Glob} {fr : List Env} {F : Fz} {H H' R : Hp} {s : Shared} {a : Addr} {x x' : AO} (h : Rep G fr F (H ++ R) s) (u : Upd H a x x' H') {h' : Heap} {tk : Nat} {dr : Drawn} {o' : Obj} (k : Heap.ExtBut a s.heap h') (ho : h'.get? a = some o') (r : RO G.w F o' x')
    (hn : (∃ ρ, x = .ns ρ) → ∃ ρ, x' = .ns ρ) : Rep G fr F (H' ++ R) { s with heap := h', toks := tk, drawn := dr } := by
  obtain ⟨H₀, p1, p2⟩ := u.split
  exact ((h.perm (p1.append_right R)).upd k ho r hn).perm (p2.append_right R).symm
theorem Upd.mem {a : Addr} {x x' : AO} {H H' : Hp} (h : Upd H a x x' H') : (a, x) ∈ H := by
  obtain ⟨_, p1, _⟩ := h.split
  exact p1.mem_iff.mpr (.head _)
theorem Rep.get {G : Glob} {fr : List Env} {F : Fz} {H R : Hp} {s : Shared} (h : Rep G fr F (H ++ R) s) {a : Addr} {x : AO} (m : (a, x) ∈ H) : ∃ o, s.heap.get? a = some o ∧ RO G.w F o x :=
  (h.own _ (List.mem_append_left R m)).2
inductive Has : Hp → Addr → AO → Prop where
  | hd {a : Addr} {x : AO} {H : Hp} : Has ((a, x) :: H) a x
  | tl {a : Addr} {x : AO} {p : Addr × AO} {H : Hp} (h : Has H a x) : Has (p :: H) a x
theorem Has.mem {H : Hp} {a : Addr} {x : AO} (h : Has H a x) : (a, x) ∈ H := by
  induction h with
  | hd => exact .head _
  | tl _ ih => exact .tail _ ih
theorem Rep.has {G : Glob} {fr : List Env} {F : Fz} {H R : Hp} {s : Shared} (h : Rep G fr F (H ++ R) s) {a : Addr} {x : AO} (m : Has H a x) : ∃ o, s.heap.get? a = some o ∧ RO G.w F o x := h.get m.mem
inductive Lk : List (Str × Option V) → Str → V → Prop where
  | hd {x : Str} {y : V} {ρ : List (Str × Option V)} : Lk ((x, some y) :: ρ) x y
  | tl {x : Str} {y : V} {p : Str × Option V} {ρ : List (Str × Option V)} (h : Lk ρ x y) : Lk (p :: ρ) x y
theorem Lk.mem {ρ : List (Str × Option V)} {x : Str} {y : V} (h : Lk ρ x y) : (x, some y) ∈ ρ := by
  induction h with
  | hd => exact .head _
  | tl _ ih => exact .tail _ ih
inductive Rem : Hp → Addr → AO → Hp → Prop where
  | hd {a : Addr} {x : AO} {H : Hp} : Rem ((a, x) :: H) a x H
  | tl {a : Addr} {x : AO} {p : Addr × AO} {H H' : Hp} (h : Rem H a x H') : Rem (p :: H) a x (p :: H')
theorem Rem.perm {a : Addr} {x : AO} {H H' : Hp} (h : Rem H a x H') : H.Perm ((a, x) :: H') := by
  induction h with
  | hd => exact .refl _
  | tl _ ih => exact (ih.cons _).trans (.swap ..)

inductive SetL : List (Str × Option V) → Str → Option V → List (Str × Option V) → Prop where
  | hd {x : Str} {o o' : Option V} {ρ : List (Str × Option V)} : SetL ((x, o) :: ρ) x o' ((x, o') :: ρ)
  | tl {x : Str} {o' : Option V} {p : Str × Option V} {ρ ρ' : List (Str × Option V)} (h : SetL ρ x o' ρ') : SetL (p :: ρ) x o' (p :: ρ')
theorem SetL.names {x : Str} {o' : Option V} {ρ ρ' : List (Str × Option V)} (h : SetL ρ x o' ρ') : ρ'.map (·.1) = ρ.map (·.1) ∧ x ∈ ρ.map (·.1) := by
  induction h with
  | hd => exact ⟨rfl, .head _⟩
  | tl _ ih => exact ⟨by rw [List.map_cons, List.map_cons, ih.1], .tail _ ih.2⟩
theorem SetL.spec {x : Str} {o' : Option V} {ρ ρ' : List (Str × Option V)} (h : SetL ρ x o' ρ') (nd : (ρ.map (·.1)).Nodup) : ∀ p ∈ ρ', (p.1 = x ∧ p.2 = o') ∨ (p.1 ≠ x ∧ p ∈ ρ) := by
  induction h with
  | @hd x o o' ρ =>
    intro p hp
    rw [List.map_cons, List.nodup_cons] at nd
    rcases List.mem_cons.mp hp with rfl | hp
    · exact .inl ⟨rfl, rfl⟩
    · exact .inr ⟨fun e => nd.1 (by have := List.mem_map_of_mem (f := fun q : Str × Option V => q.1) hp; rw [e] at this; exact this), .tail _ hp⟩
  | tl h ih =>
    intro p hp
    rw [List.map_cons, List.nodup_cons] at nd
    rcases List.mem_cons.mp hp with rfl | hp
    · exact .inr ⟨fun e => nd.1 (by rw [e]; exact h.names.2), .head _⟩
    · exact (ih nd.2 p hp).elim .inl fun h => .inr ⟨h.1, .tail _ h.2⟩

inductive FV where
  | next | brk | cont
  | ret (x : V)
inductive RF (F : Fz) : Flow → FV → Prop where
  | next : RF F .next .next
  | brk : RF F .brk .brk
  | cont : RF F .cont .cont
  | ret {v : Value} {x : V} (h : RV F v x) : RF F (.ret v) (.ret x)

inductive VQ (Q : V → Fz → Hp → Prop) (v : Value) (K : Fz) (H : Hp) : Prop where
  | mk (x : V) (hx : RV K v x) (q : Dn (Q x) K H)
inductive VsQ (Q : List V → Fz → Hp → Prop) (v : List Value) (K : Fz) (H : Hp) : Prop where
  | mk (x : List V) (hx : RVs K v x) (q : Dn (Q x) K H)
inductive FQ (Q : FV → Fz → Hp → Prop) (v : Flow) (K : Fz) (H : Hp) : Prop where
  | mk (x : FV) (hx : RF K v x) (q : Dn (Q x) K H)
noncomputable def EvAt (G : Glob) (fr : List Env) (A : Around) (K : Fz) (H : Hp) (t : Sem Value) (Q : V → Fz → Hp → Prop) (E : Value → Fz → Hp → Prop) : Prop := TpAt G fr A K H t (VQ Q) E
noncomputable def Ev (G : Glob) (fr : List Env) (A : Around) (F : Fz) (H : Hp) (t : Sem Value) (Q : V → Fz → Hp → Prop) (E : Value → Fz → Hp → Prop) : Prop := ∀ K, F.le K → EvAt G fr A K H t Q E
noncomputable def Evs (G : Glob) (fr : List Env) (A : Around) (F : Fz) (H : Hp) (t : Sem (List Value)) (Q : List V → Fz → Hp → Prop) (E : Value → Fz → Hp → Prop) : Prop := ∀ K, F.le K → TpAt G fr A K H t (VsQ Q) E
noncomputable def Ex (G : Glob) (fr : List Env) (A : Around) (F : Fz) (H : Hp) (t : Sem Flow) (Q : FV → Fz → Hp → Prop) (E : Value → Fz → Hp → Prop) : Prop := ∀ K, F.le K → TpAt G fr A K H t (FQ Q) E
noncomputable def Op1 (G : Glob) (fr : List Env) (A : Around) (F : Fz) (H : Hp) (f : Value → Sem Value) (x : V) (Q : V → Fz → Hp → Prop) (E : Value → Fz → Hp → Prop) : Prop := ∀ K, F.le K → ∀ a, RV K a x → EvAt G fr A K H (f a) Q E
noncomputable def Op2 (G : Glob) (fr : List Env) (A : Around) (F : Fz) (H : Hp) (f : Value → Value → Sem Value) (x y : V) (Q : V → Fz → Hp → Prop) (E : Value → Fz → Hp → Prop) : Prop := ∀ K, F.le K → ∀ a b, RV K a x → RV K b y → EvAt G fr A K H (f a b) Q E
noncomputable def Tr (G : Glob) (fr : List Env) (A : Around) (F : Fz) (H : Hp) (x : V) (Q : Bool → Fz → Hp → Prop) (E : Value → Fz → Hp → Prop) : Prop := ∀ K, F.le K → ∀ a, RV K a x → TpAt G fr A K H (truthy a) (fun b => Dn (Q b)) E
section
variable {G : Glob} {fr : List Env} {A : Around} {F K K₀ : Fz} {H R : Hp} {s : Shared} {E : Value → Fz → Hp → Prop}
theorem EvAt.go {t : Sem Value} {Q : V → Fz → Hp → Prop} (h : EvAt G fr A K H t Q E) (hR : Rep G fr K (H ++ R) s) (le : K₀.le K) {P : Value → Shared → Prop} (k : ∀ v x F1 K1 H1 s1, K.le K1 → Fz.le F1 K1 → Rep G fr K1 (H1 ++ R) s1 → RV K1 v x → Q x F1 H1 → P v s1) : wpAny G.M A t P (PQ G fr K₀ R fun e => Dn (E e)) s :=
  TpAt.seq h hR le fun v K1 H1 s1 l1 r1 ⟨x, hx, F1, m1, q⟩ => k v x F1 K1 H1 s1 l1 m1 r1 hx q
theorem Ev.go {t : Sem Value} {Q : V → Fz → Hp → Prop} (h : Ev G fr A F H t Q E) (m : F.le K) (hR : Rep G fr K (H ++ R) s) (le : K₀.le K) {P : Value → Shared → Prop} (k : ∀ v x F1 K1 H1 s1, K.le K1 → Fz.le F1 K1 → Rep G fr K1 (H1 ++ R) s1 → RV K1 v x → Q x F1 H1 → P v s1) : wpAny G.M A t P (PQ G fr K₀ R fun e => Dn (E e)) s := (h K m).go hR le k
theorem Evs.go {t : Sem (List Value)} {Q : List V → Fz → Hp → Prop} (h : Evs G fr A F H t Q E) (m : F.le K) (hR : Rep G fr K (H ++ R) s) (le : K₀.le K) {P : List Value → Shared → Prop} (k : ∀ v x F1 K1 H1 s1, K.le K1 → Fz.le F1 K1 → Rep G fr K1 (H1 ++ R) s1 → RVs K1 v x → Q x F1 H1 → P v s1) : wpAny G.M A t P (PQ G fr K₀ R fun e => Dn (E e)) s :=
  TpAt.seq (h K m) hR le fun v K1 H1 s1 l1 r1 ⟨x, hx, F1, m1, q⟩ => k v x F1 K1 H1 s1 l1 m1 r1 hx q
theorem Ex.go {t : Sem Flow} {Q : FV → Fz → Hp → Prop} (h : Ex G fr A F H t Q E) (m : F.le K) (hR : Rep G fr K (H ++ R) s) (le : K₀.le K) {P : Flow → Shared → Prop} (k : ∀ v x F1 K1 H1 s1, K.le K1 → Fz.le F1 K1 → Rep G fr K1 (H1 ++ R) s1 → RF K1 v x → Q x F1 H1 → P v s1) : wpAny G.M A t P (PQ G fr K₀ R fun e => Dn (E e)) s :=
  TpAt.seq (h K m) hR le fun v K1 H1 s1 l1 r1 ⟨x, hx, F1, m1, q⟩ => k v x F1 K1 H1 s1 l1 m1 r1 hx q
theorem EvAt.last {t : Sem Value} {Q : V → Fz → Hp → Prop} (h : EvAt G fr A K H t Q E) (hR : Rep G fr K (H ++ R) s) (le : K₀.le K) : wpAny G.M A t (PQ G fr K₀ R (VQ Q)) (PQ G fr K₀ R fun e => Dn (E e)) s := TpAt.last h hR le
theorem Ev.last {t : Sem Value} {Q : V → Fz → Hp → Prop} (h : Ev G fr A F H t Q E) (m : F.le K) (hR : Rep G fr K (H ++ R) s) (le : K₀.le K) : wpAny G.M A t (PQ G fr K₀ R (VQ Q)) (PQ G fr K₀ R fun e => Dn (E e)) s := TpAt.last (h K m) hR le
theorem Ex.last {t : Sem Flow} {Q : FV → Fz → Hp → Prop} (h : Ex G fr A F H t Q E) (m : F.le K) (hR : Rep G fr K (H ++ R) s) (le : K₀.le K) : wpAny G.M A t (PQ G fr K₀ R (FQ Q)) (PQ G fr K₀ R fun e => Dn (E e)) s := TpAt.last (h K m) hR le
theorem vret {Q : V → Fz → Hp → Prop} {v : Value} {x : V} (hR : Rep G fr K (H ++ R) s) (hx : RV K v x) (m : F.le K) (q : Q x F H) : PQ G fr K R (VQ Q) v s := ⟨K, H, .refl K, hR, x, hx, F, m, q⟩
theorem tret {α : Type} {Q : α → Fz → Hp → Prop} {v : α} (hR : Rep G fr K (H ++ R) s) (m : F.le K) (q : Q v F H) : PQ G fr K R (fun v => Dn (Q v)) v s := ⟨K, H, .refl K, hR, F, m, q⟩
theorem fret {Q : FV → Fz → Hp → Prop} {v : Flow} {x : FV} (hR : Rep G fr K (H ++ R) s) (hx : RF K v x) (m : F.le K) (q : Q x F H) : PQ G fr K R (FQ Q) v s := ⟨K, H, .refl K, hR, x, hx, F, m, q⟩
end
noncomputable def Then (G : Glob) (fr : List Env) (A : Around) (env : Env) (rest : List Stmt) (Q : FV → Fz → Hp → Prop) (E : Value → Fz → Hp → Prop) : FV → Fz → Hp → Prop
  | .next, F, H => Ex G fr A F H (execs rest env) Q E
  | fv, F, H => Q fv F H
section
variable {G : Glob} {fr : List Env} {A : Around} {env : Env} {F : Fz} {H : Hp} {E : Value → Fz → Hp → Prop}
theorem Ex_nil {Q : FV → Fz → Hp → Prop} (h : Q .next F H) : Ex G fr A F H (execs [] env) Q E := fun K m R s hR => wpAny_execs_nil (fret hR .next m h)
theorem Ex_cons {st : Stmt} {rest : List Stmt} {Q : FV → Fz → Hp → Prop} (h : Ex G fr A F H (exec st env) (Then G fr A env rest Q E) E) : Ex G fr A F H (execs (st :: rest) env) Q E := fun K m R s hR => by
  refine wpAny_execs_cons (h.go m hR (.refl K) fun f fv F1 K1 H1 s1 l1 m1 r1 hf q => ?_)
  cases hf with
  | next => exact (show Ex _ _ _ _ _ _ _ _ from q).last m1 r1 l1
  | brk => exact upPQ l1 (fret r1 .brk m1 q)
  | cont => exact upPQ l1 (fret r1 .cont m1 q)
  | ret hx => exact upPQ l1 (fret r1 (.ret hx) m1 q)
variable {Q : V → Fz → Hp → Prop}
theorem Ev_int {i : Int} {k pos} (h : Q (.int i) F H) : Ev G fr A F H (eval (.Constant (.int i) k pos) env) Q E := fun K m R s hR => wpAny_Constant_int (vret (hR.toks _) .int m h)
theorem Ev_str {x : Str} {k pos} (h : Q (.str x) F H) : Ev G fr A F H (eval (.Constant (.str x) k pos) env) Q E := fun K m R s hR => wpAny_Constant_str (vret (hR.toks _) .str m h)
theorem Ev_bool {b : Bool} {k pos} (h : Q (.bool b) F H) : Ev G fr A F H (eval (.Constant (.bool b) k pos) env) Q E := fun K m R s hR => wpAny_Constant_bool (vret hR .bool m h)
theorem Ev_none {k pos} (h : Q .none F H) : Ev G fr A F H (eval (.Constant .none k pos) env) Q E := fun K m R s hR => wpAny_Constant_none (vret hR .none m h)
theorem nsOf {ρ : List (Str × Option V)} {o : Obj} {w : World} {h : Heap} {L : Addr} (ho : h.get? L = some o) (r : RO w F o (.ns ρ)) : ∃ m, h.Ns L m ∧ (ρ.map (·.1)).Nodup ∧ ∀ p ∈ ρ, match p.2 with
    | none => True
    | some x => ∃ v, m p.1 = some v ∧ RV F v x := by
  obtain ⟨es, ep, hd, hk, nd, hp⟩ := r
  exact ⟨fun n => nsFind es n, ⟨o, es, ep, ho, hd, hk, fun _ => rfl⟩, nd, hp⟩
theorem Ev_local {ρ : List (Str × Option V)} {x : Str} {pos} {y : V} (hm : Has H env.locals (.ns ρ)) (hx : Lk ρ x y) (h : Q y F H) (hk : autoParam (env.scope.kind = .function) tac0) (hl : autoParam (env.kindOf x = some .local) tac0)
    (hd : autoParam ((x == ("__debug__" : Str)) = false) tac14) : Ev G fr A F H (eval (.Name x pos) env) Q E := fun K m R s hR => by
  obtain ⟨o, ho, r⟩ := hR.has hm
  obtain ⟨ms, hn, nd, hp⟩ := nsOf ho r
  obtain ⟨v, hv, hr⟩ := hp _ hx.mem
  exact wpAny_Name (wpAny_loadName_local hk hl hn hv (vret hR hr m h)) hd
theorem Ev_BinOp {l op r pos} (h : Ev G fr A F H (eval l env) (fun x F1 H1 => Ev G fr A F1 H1 (eval r env) (fun y F2 H2 => Op2 G fr A F2 H2 (binaryOp op) x y Q E) E) E) :
    Ev G fr A F H (eval (.BinOp l op r pos) env) Q E := fun K m R s hR =>
  wpAny_BinOp (h.go m hR (.refl K) fun a x F1 K1 H1 s1 l1 m1 r1 hx h1 => h1.go m1 r1 l1 fun b y F2 K2 H2 s2 l2 m2 r2 hy h2 => (h2 K2 m2 a b (hx.mono l2) hy).last r2 (l1.trans l2))
theorem Ev_UnaryOp {op x pos} (h : Ev G fr A F H (eval x env) (fun x F1 H1 => Op1 G fr A F1 H1 (unaryOp op) x Q E) E) :
    Ev G fr A F H (eval (.UnaryOp op x pos) env) Q E := fun K m R s hR =>
  wpAny_UnaryOp (h.go m hR (.refl K) fun a x F1 K1 H1 s1 l1 m1 r1 hx h1 => (h1 K1 m1 a hx).last r1 l1)
theorem Ev_Compare1 {l op r pos} (h : Ev G fr A F H (eval l env) (fun x F1 H1 => Ev G fr A F1 H1 (eval r env) (fun y F2 H2 => Op2 G fr A F2 H2 (compareOp op) x y Q E) E) E)
    (hm : autoParam (behindInMarks op r = false) tac15) : Ev G fr A F H (eval (.Compare l [op] [r] pos) env) Q E := fun K m R s hR =>
  wpAny_Compare1 (h.go m hR (.refl K) fun a x F1 K1 H1 s1 l1 m1 r1 hx h1 => h1.go m1 r1 l1 fun b y F2 K2 H2 s2 l2 m2 r2 hy h2 => (h2 K2 m2 a b (hx.mono l2) hy).last r2 (l1.trans l2)) hm
theorem Ev_IfExp {test body orelse pos} (h : Tp G fr A F H (isTrue test env (eval test env)) (fun b F1 H1 => if b then Ev G fr A F1 H1 (eval body env) Q E else Ev G fr A F1 H1 (eval orelse env) Q E) E) :
    Ev G fr A F H (eval (.IfExp test body orelse pos) env) Q E := fun K m R s hR => by
  refine wpAny_IfExp (h.seq m hR (.refl K) fun b F1 K1 H1 s1 l1 m1 r1 h1 => ?_)
  cases b with
  | true => exact (show Ev _ _ _ _ _ _ _ _ from h1).last m1 r1 l1
  | false => exact (show Ev _ _ _ _ _ _ _ _ from h1).last m1 r1 l1
end
theorem Ev.mono {G : Glob} {fr : List Env} {A : Around} {F : Fz} {H : Hp} {E E' : Value → Fz → Hp → Prop} {P Q : V → Fz → Hp → Prop} {t : Sem Value} (h : Ev G fr A F H t P E) (k : ∀ x F1 H1, P x F1 H1 → Q x F1 H1) (e : ∀ x F1 H1, E x F1 H1 → E' x F1 H1) : Ev G fr A F H t Q E' := fun K m R s hR =>
  wpAny_mono (h K m R s hR) (fun _ _ q => by obtain ⟨F1, H1, l, r, x, hx, F2, m2, q⟩ := q; exact ⟨F1, H1, l, r, x, hx, F2, m2, k _ _ _ q⟩) fun _ _ q => by obtain ⟨F1, H1, l, r, F2, m2, q⟩ := q; exact ⟨F1, H1, l, r, F2, m2, e _ _ _ q⟩
theorem Ex.mono {G : Glob} {fr : List Env} {A : Around} {F : Fz} {H : Hp} {E E' : Value → Fz → Hp → Prop} {P Q : FV → Fz → Hp → Prop} {t : Sem Flow} (h : Ex G fr A F H t P E) (k : ∀ x F1 H1, P x F1 H1 → Q x F1 H1) (e : ∀ x F1 H1, E x F1 H1 → E' x F1 H1) : Ex G fr A F H t Q E' := fun K m R s hR =>
  wpAny_mono (h K m R s hR) (fun _ _ q => by obtain ⟨F1, H1, l, r, x, hx, F2, m2, q⟩ := q; exact ⟨F1, H1, l, r, x, hx, F2, m2, k _ _ _ q⟩) fun _ _ q => by obtain ⟨F1, H1, l, r, F2, m2, q⟩ := q; exact ⟨F1, H1, l, r, F2, m2, e _ _ _ q⟩
theorem Bif_f {P Q : Prop} (h : Q) : if false then P else Q := by rw [if_neg (by decide)]; exact h
inductive ABool (Q : Bool → Fz → Hp → Prop) (x : V) (F : Fz) (H : Hp) : Prop where
  | mk (c : Bool) (e : x = .bool c) (h : Q c F H)
inductive AInt (Q : Option Int → Fz → Hp → Prop) (x : V) (F : Fz) (H : Hp) : Prop where
  | mk (i : Int) (e : x = .int i) (h : Q (some i) F H)
section
variable {G : Glob} {fr : List Env} {A : Around} {env : Env} {F : Fz} {H : Hp} {E : Value → Fz → Hp → Prop} {Q : Bool → Fz → Hp → Prop}
theorem It_Compare1 {l op r pos whole} (h : Ev G fr A F H (eval l env) (fun x F1 H1 => Ev G fr A F1 H1 (eval r env) (fun y F2 H2 => Op2 G fr A F2 H2 (compareOp op) x y (ABool Q) E) E) E)
    (hm : autoParam (behindInMarks op r = false) tac15) : Tp G fr A F H (isTrue (.Compare l [op] [r] pos) env whole) Q E := fun K m R s hR =>
  wpAny_isTrue_Compare1 (h.go m hR (.refl K) fun a x F1 K1 H1 s1 l1 m1 r1 hx h1 => h1.go m1 r1 l1 fun b y F2 K2 H2 s2 l2 m2 r2 hy h2 =>
    (h2 K2 m2 a b (hx.mono l2) hy).go r2 (l1.trans l2) fun v z F3 K3 H3 s3 l3 m3 r3 hz hq => by
      obtain ⟨c, rfl, q⟩ := hq
      exact hz.e_bool (P := fun v => wpAny _ _ (truthy v) _ _ _) (wpAny_truthy_bool (upPQ (l1.trans (l2.trans l3)) (tret r3 m3 q)))) hm
theorem It_value {e : Expr} {whole : Sem Value} (h : Ev G fr A F H whole (fun x F1 H1 => Tr G fr A F1 H1 x Q E) E)
    (hs : autoParam (isTrue e env whole = (do let v ← whole; standAt e.pos; holding [v] (truthy v))) tac0) : Tp G fr A F H (isTrue e env whole) Q E := fun K m R s hR => by
  rw [hs]
  exact wpAny_bind (h.go m hR (.refl K) fun a x F1 K1 H1 s1 l1 m1 r1 hx h1 => wpAny_bind (wpAny_standAt (wpAny_holding ((h1 K1 m1 a hx).last r1 l1))))
theorem It_Not {x pos whole} (h : Tp G fr A F H (isTrue x env (eval x env)) (fun b F1 H1 => Q (!b) F1 H1) E) : Tp G fr A F H (isTrue (.UnaryOp .Not x pos) env whole) Q E := fun K m R s hR =>
  wpAny_isTrue_Not (h.seq m hR (.refl K) fun b F1 K1 H1 s1 l1 m1 r1 q => upPQ l1 (tret (Q := Q) r1 m1 q))
theorem It_BoolOp {op values pos whole} (h : Tp G fr A F H (allTrue op values env) Q E) : Tp G fr A F H (isTrue (.BoolOp op values pos) env whole) Q E := fun K m R s hR => wpAny_isTrue_BoolOp (h K m R s hR)
theorem It_and_nil (h : Q true F H) : Tp G fr A F H (allTrue .And [] env) Q E := fun K m R s hR => by
  have e : allTrue .And [] env = pure true := by first | rfl | (unfold allTrue; rfl) | simp [allTrue]
  rw [e]; exact wpAny_pure (tret (Q := Q) hR m h)
theorem It_or_nil (h : Q false F H) : Tp G fr A F H (allTrue .Or [] env) Q E := fun K m R s hR => by
  have e : allTrue .Or [] env = pure false := by first | rfl | (unfold allTrue; rfl) | simp [allTrue]
  rw [e]; exact wpAny_pure (tret (Q := Q) hR m h)
theorem It_and {x rest} (h : Tp G fr A F H (isTrue x env (eval x env)) (fun b F1 H1 => if b then Tp G fr A F1 H1 (allTrue .And rest env) Q E else Q false F1 H1) E) : Tp G fr A F H (allTrue .And (x :: rest) env) Q E := fun K m R s hR => by
  have e : allTrue .And (x :: rest) env = (isTrue x env (eval x env) >>= fun b => match b with | false => pure false | true => allTrue .And rest env) := by
    show (isTrue x env (eval x env) >>= fun b => _) = _
    exact congrArg _ (funext fun b => by cases b <;> rfl)
  rw [e]
  refine wpAny_bind (h.seq m hR (.refl K) fun b F1 K1 H1 s1 l1 m1 r1 q => ?_)
  cases b with
  | true => exact (show Tp _ _ _ _ _ _ _ _ from q).last m1 r1 l1
  | false => exact wpAny_pure (upPQ l1 (tret (Q := Q) r1 m1 q))
theorem It_or {x rest} (h : Tp G fr A F H (isTrue x env (eval x env)) (fun b F1 H1 => if b then Q true F1 H1 else Tp G fr A F1 H1 (allTrue .Or rest env) Q E) E) : Tp G fr A F H (allTrue .Or (x :: rest) env) Q E := fun K m R s hR => by
  have e : allTrue .Or (x :: rest) env = (isTrue x env (eval x env) >>= fun b => match b with | true => pure true | false => allTrue .Or rest env) := by
    show (isTrue x env (eval x env) >>= fun b => _) = _
    exact congrArg _ (funext fun b => by cases b <;> rfl)
  rw [e]
  refine wpAny_bind (h.seq m hR (.refl K) fun b F1 K1 H1 s1 l1 m1 r1 q => ?_)
  cases b with
  | false => exact (show Tp _ _ _ _ _ _ _ _ from q).last m1 r1 l1
  | true => exact wpAny_pure (upPQ l1 (tret (Q := Q) r1 m1 q))
end
section
variable {G : Glob} {fr : List Env} {A : Around} {env : Env} {F : Fz} {H : Hp} {E : Value → Fz → Hp → Prop} {Q : FV → Fz → Hp → Prop}
theorem Ex_Pass {pos} (h : Q .next F H) : Ex G fr A F H (exec (.Pass pos) env) Q E := fun K m R s hR => wpAny_Pass (fret hR .next m h)
theorem Ex_Break {pos} (h : Q .brk F H) : Ex G fr A F H (exec (.Break pos) env) Q E := fun K m R s hR => wpAny_Break (fret hR .brk m h)
theorem Ex_Continue {pos} (h : Q .cont F H) : Ex G fr A F H (exec (.Continue pos) env) Q E := fun K m R s hR => wpAny_Continue (fret hR .cont m h)
theorem Ex_Return {e pos} (h : Ev G fr A F H (eval e env) (fun x F1 H1 => Q (.ret x) F1 H1) E) : Ex G fr A F H (exec (.Return (some e) pos) env) Q E := fun K m R s hR =>
  wpAny_Return_some (h.go m hR (.refl K) fun v x F1 K1 H1 s1 l1 m1 r1 hx q => upPQ l1 (fret r1 (.ret hx) m1 q))
theorem Ex_If {test body orelse pos} (h : Tp G fr A F H (isTrue test env (eval test env)) (fun b F1 H1 => if b then Ex G fr A F1 H1 (execs body env) Q E else Ex G fr A F1 H1 (execs orelse env) Q E) E) :
    Ex G fr A F H (exec (.If test body orelse pos) env) Q E := fun K m R s hR => by
  refine wpAny_If (h.seq m hR (.refl K) fun b F1 K1 H1 s1 l1 m1 r1 q => ?_)
  cases b with
  | true => exact (show Ex _ _ _ _ _ _ _ _ from q).last m1 r1 l1
  | false => exact (show Ex _ _ _ _ _ _ _ _ from q).last m1 r1 l1
theorem ns_set {w : World} {ρ ρ' : List (Str × Option V)} {h' : Heap} {L : Addr} {m : Str → Option Value} {x : Str} {v : Value} {y : V} (hn : h'.Ns L (fun z => if z = x then some v else m z)) (hs : SetL ρ x (some y) ρ') (nd : (ρ.map (·.1)).Nodup) (hv : RV F v y)
    (hp : ∀ p ∈ ρ, match p.2 with | none => True | some x => ∃ v, m p.1 = some v ∧ RV F v x) : ∃ o, h'.get? L = some o ∧ RO w F o (.ns ρ') := by
  obtain ⟨o, es, ep, ho, hd, hk, hf⟩ := hn
  refine ⟨o, ho, es, ep, hd, hk, by rw [hs.names.1]; exact nd, fun p hpm => ?_⟩
  rcases hs.spec nd p hpm with ⟨h1, h2⟩ | ⟨h1, h2⟩
  · rw [h2]
    exact ⟨v, (hf _).trans (if_pos h1), hv⟩
  · have q := hp p h2
    cases e : p.2 with
    | none => trivial
    | some z => simp only [e] at q ⊢; obtain ⟨u, q1, q2⟩ := q; exact ⟨u, ((hf _).trans (if_neg h1)).trans q1, q2⟩
inductive Store (env : Env) (x : Str) (y : V) (F : Fz) (H : Hp) (Q : Fz → Hp → Prop) : Prop where
  | intro (ρ ρ' : List (Str × Option V)) (H' : Hp) (hu : Upd H env.locals (.ns ρ) (.ns ρ') H') (hs : SetL ρ x (some y) ρ') (h : Q F H')
theorem Store.mk {env : Env} {x : Str} {y : V} {Q : Fz → Hp → Prop} {ρ ρ' : List (Str × Option V)} {H' : Hp} (hu : Upd H env.locals (.ns ρ) (.ns ρ') H') (hs : SetL ρ x (some y) ρ') (h : Q F H') : Store env x y F H Q := ⟨ρ, ρ', H', hu, hs, h⟩
theorem store {K : Fz} {x : Str} {v : Value} {y : V} {Q : Fz → Hp → Prop} (m : F.le K) (hv : RV K v y) (h : Store env x y F H Q)
    (hk : autoParam (env.scope.kind = .function) tac0) (hl : autoParam (env.kindOf x = some .local) tac0) : TpAt G fr A K H (storeName env x v) (fun _ => Dn Q) E := fun R s hR => by
  obtain ⟨ρ, ρ', H', hu, hs, h⟩ := h
  obtain ⟨o, ho, r⟩ := hR.get hu.mem
  obtain ⟨ms, hn, nd, hp⟩ := nsOf ho r
  refine wpAny_storeName_local hl hn (fun h' hn' hs' => ?_) (by rw [hk]; rfl)
  obtain ⟨o', ho', r'⟩ := ns_set (w := G.w) hn' hs nd hv hp
  exact ⟨K, H', .refl K, hR.upd' hu hs'.extBut ho' r' fun _ => ⟨_, rfl⟩, F, m, h⟩
end
section
variable {G : Glob} {fr : List Env} {A : Around} {F : Fz} {H : Hp} {E : Value → Fz → Hp → Prop} {Q : V → Fz → Hp → Prop} {i j : Int}
theorem ii {K : Fz} {P : Value → Value → Prop} (k : ∀ t u, P (.int i t) (.int j u)) : ∀ a b, RV K a (.int i) → RV K b (.int j) → P a b := fun _ b ha hb => ha.e_int (P := fun a => P a b) fun t => hb.e_int (k t)
theorem add_ii (h : Q (.int (i + j)) F H) : Op2 G fr A F H (binaryOp .Add) (.int i) (.int j) Q E := fun K m => ii fun t u R s hR => PySem.P.add_int (vret (hR.toks _) .int m h)
theorem sub_ii (h : Q (.int (i - j)) F H) : Op2 G fr A F H (binaryOp .Sub) (.int i) (.int j) Q E := fun K m => ii fun t u R s hR => PySem.P.sub_int (vret (hR.toks _) .int m h)
theorem iadd_ii (h : Q (.int (i + j)) F H) : Op2 G fr A F H (inplaceOp .Add) (.int i) (.int j) Q E := fun K m => ii fun t u R s hR => PySem.P.iadd_int (vret (hR.toks _) .int m h)
theorem isub_ii (h : Q (.int (i - j)) F H) : Op2 G fr A F H (inplaceOp .Sub) (.int i) (.int j) Q E := fun K m => ii fun t u R s hR => PySem.P.isub_int (vret (hR.toks _) .int m h)
theorem mul_ii (hm : IntMulOk i j) (h : Q (.int (i * j)) F H) : Op2 G fr A F H (binaryOp .Mult) (.int i) (.int j) Q E := fun K m => ii fun t u R s hR => PySem.P.mul_int (vret (hR.toks _) .int m h) hm
theorem neg_i (h : Q (.int (-i)) F H) : Op1 G fr A F H (unaryOp .USub) (.int i) Q E := fun K m a ha => ha.e_int (P := fun a => EvAt _ _ _ _ _ (unaryOp .USub a) _ _) fun t R s hR => PySem.P.neg_int (vret (hR.toks _) .int m h)
theorem eq_ii (h : Q (.bool (i == j)) F H) : Op2 G fr A F H (compareOp .Eq) (.int i) (.int j) Q E := fun K m => ii fun t u R s hR => PySem.P.eq_int (vret hR .bool m h)
theorem ne_ii (h : Q (.bool (i != j)) F H) : Op2 G fr A F H (compareOp .NotEq) (.int i) (.int j) Q E := fun K m => ii fun t u R s hR => PySem.P.ne_int (vret hR .bool m h)
theorem lt_ii (h : Q (.bool (decide (i < j))) F H) : Op2 G fr A F H (compareOp .Lt) (.int i) (.int j) Q E := fun K m => ii fun t u R s hR => PySem.P.lt_int (vret hR .bool m h)
theorem le_ii (h : Q (.bool (decide (i ≤ j))) F H) : Op2 G fr A F H (compareOp .LtE) (.int i) (.int j) Q E := fun K m => ii fun t u R s hR => PySem.P.le_int (vret hR .bool m h)
theorem gt_ii (h : Q (.bool (decide (i > j))) F H) : Op2 G fr A F H (compareOp .Gt) (.int i) (.int j) Q E := fun K m => ii fun t u R s hR => PySem.P.gt_int (vret hR .bool m h)
theorem ge_ii (h : Q (.bool (decide (i ≥ j))) F H) : Op2 G fr A F H (compareOp .GtE) (.int i) (.int j) Q E := fun K m => ii fun t u R s hR => PySem.P.ge_int (vret hR .bool m h)
end
noncomputable def Noted (G : Glob) (fr : List Env) (A : Around) (env : Env) (E : Value → Fz → Hp → Prop) : Prop :=
  ∀ K R e s, PQ G fr K R (fun e => Dn (E e)) e s → notedBy G.M A env (cameBackBy G.M A env (PQ G fr K R fun e => Dn (E e))) e s
noncomputable abbrev No : Value → Fz → Hp → Prop := fun _ _ _ => False
theorem noted_no {G : Glob} {fr : List Env} {A : Around} {env : Env} : Noted G fr A env No := fun _ _ _ _ h => (noPQ h).elim
noncomputable def Turn (I : Fz → Hp → Prop) (Q : FV → Fz → Hp → Prop) : FV → Fz → Hp → Prop
  | .next, F, H => I F H
  | .cont, F, H => I F H
  | .brk, F, H => Q .next F H
  | .ret x, F, H => Q (.ret x) F H
section
variable {G : Glob} {fr : List Env} {A : Around} {env : Env} {F : Fz} {H : Hp} {E : Value → Fz → Hp → Prop} {Q : FV → Fz → Hp → Prop} {I : Fz → Hp → Prop}
theorem Ex_While {test body pos} (I : Nat → Fz → Hp → Prop) (n : Nat) (h0 : I n F H)
    (step : ∀ n F1 H1, I n F1 H1 → ∀ Qn : Fz → Hp → Prop, (∀ m F3 H3, m < n → I m F3 H3 → Qn F3 H3) → Tp G fr A F1 H1 (isTrue test env (eval test env)) (fun b F2 H2 => if b then Ex G fr A F2 H2 (execs body env) (Turn Qn Q) E else Q .next F2 H2) E)
    (hE : Noted G fr A env E) : Ex G fr A F H (exec (.While test body [] pos) env) Q E := fun K m R s hR => by
  refine wpAny_While (codeAny_whileLoop (I := fun n s => ∃ F1 K1 H1, K.le K1 ∧ Fz.le F1 K1 ∧ Rep G fr K1 (H1 ++ R) s ∧ I n F1 H1) (fun n s hI => ?_) n ⟨F, K, H, .refl K, m, hR, h0⟩)
  obtain ⟨F1, K1, H1, l1, m1, r1, hI⟩ := hI
  have hE' : ∀ e s', PQ G fr K R (fun e => Dn (E e)) e s' → notedBy G.M A env (fun e s' => cameBackBy G.M A env (PQ G fr K R fun e => Dn (E e)) e s') e s' := fun e s' q => hE K R e s' q
  refine wpAny_mono ((step n F1 H1 hI (fun F3 H3 => ∃ m, m < n ∧ I m F3 H3) fun m F3 H3 hm q => ⟨m, hm, q⟩).seq m1 r1 l1 (P := fun b s₂ => if b then wpAny G.M A (execs body env) (fun f s₃ => match f with
            | .next | .cont => ∃ m, m < n ∧ ∃ F1 K1 H1, K.le K1 ∧ Fz.le F1 K1 ∧ Rep G fr K1 (H1 ++ R) s₃ ∧ I m F1 H1
            | .brk => PQ G fr K R (FQ Q) .next s₃
            | .ret v => PQ G fr K R (FQ Q) (.ret v) s₃) (PQ G fr K R fun e => Dn (E e)) s₂ else PQ G fr K R (FQ Q) .next s₂) fun b F2 K2 H2 s2 l2 m2 r2 q => ?_) (fun b s₂ hb => ?_) hE'
  · cases b with
    | false => exact upPQ (l1.trans l2) (fret r2 .next m2 q)
    | true =>
      refine (show Ex _ _ _ _ _ _ _ _ from q).go m2 r2 (l1.trans l2) fun f fv F3 K3 H3 s3 l3 m3 r3 hf q => ?_
      have l := l1.trans (l2.trans l3)
      cases hf with
      | next => obtain ⟨m, hm, q⟩ := q; exact ⟨m, hm, F3, K3, H3, l, m3, r3, q⟩
      | cont => obtain ⟨m, hm, q⟩ := q; exact ⟨m, hm, F3, K3, H3, l, m3, r3, q⟩
      | brk => exact upPQ l (fret r3 .next m3 q)
      | ret hx => exact upPQ l (fret r3 (.ret hx) m3 q)
  · cases b with
    | false =>
      show wpAny _ _ (execs [] env) _ _ _
      exact wpAny_execs_nil hb
    | true => exact wpAny_mono (show wpAny _ _ _ _ _ _ from hb) (fun f s₃ h₃ => by cases f <;> exact h₃) hE'
end
theorem pick {α : Type} {l : List α} {k : Nat} : l[k]? = none ↔ l.length ≤ k := List.getElem?_eq_none_iff
structure IterP (G : Glob) (A : Around) (F : Fz) (it : Addr) (l : List V) (I : Nat → AO) : Prop where
  item : ∀ (k : Nat) (y : V) (s : Shared) (F2 : Fz) {Q : Option Value → Shared → Prop} {E : Value → Shared → Prop}, F.le F2 → (∃ o, s.heap.get? it = some o ∧ RO G.w F2 o (I k)) → (∀ b o, F2 b = some o → s.heap.get? b = some o) → l[k]? = some y →
    (∀ v h' o tk, RV F2 v y → h'.get? it = some o → RO G.w F2 o (I (k + 1)) → Heap.SameBut it s.heap h' → Q (some v) { s with heap := h', toks := tk }) → wpAny G.M A (pyNext (.ref it)) Q E s
  fin : ∀ (s : Shared) (F2 : Fz) {Q : Option Value → Shared → Prop} {E : Value → Shared → Prop}, F.le F2 → (∃ o, s.heap.get? it = some o ∧ RO G.w F2 o (I l.length)) → (∀ b o, F2 b = some o → s.heap.get? b = some o) →
    (∀ h', Heap.ExtBut it s.heap h' → Q none { s with heap := h' }) → wpAny G.M A (pyNext (.ref it)) Q E s
  notNs : ∀ k ρ, I k ≠ .ns ρ
  go : ∀ (k : Nat) (target : Expr) (v : Value) (s : Shared) (F2 : Fz) {Q : Unit → Shared → Prop} {E : Value → Shared → Prop}, (∃ o, s.heap.get? it = some o ∧ RO G.w F2 o (I k)) → Q () s → wpAny G.M A (letOwnedTupleGo target (.ref it) v) Q E s
  self : ∀ (k : Nat) (s : Shared) (F2 : Fz) {Q : Value → Shared → Prop} {E : Value → Shared → Prop}, (∃ o, s.heap.get? it = some o ∧ RO G.w F2 o (I k)) → Q (.ref it) s → wpAny G.M A (pyIter (.ref it)) Q E s
theorem go_other {G : Glob} {A : Around} {it : Addr} {n : String} {vs : Array Value} {o : Obj} {s : Shared} (hc : o.cls = .type n) (hd : o.data = .fields vs) (ho : s.heap.get? it = some o) (hn : ["enumerate", "zip", "dict_itemiterator", "dict_reverseitemiterator", "odict_iterator", "itertools.zip_longest", "itertools.pairwise"].contains n = false) (target : Expr) (v : Value) {Q : Unit → Shared → Prop} {E : Value → Shared → Prop} (hQ : Q () s) :
    wpAny G.M A (letOwnedTupleGo target (.ref it) v) Q E s := by
  have key : ∀ a, wpAny G.M A (do
      let o ← load it
      match o.cls, o.data with
      | .type n, .fields vs =>
        if ["enumerate", "zip", "dict_itemiterator", "dict_reverseitemiterator", "odict_iterator", "itertools.zip_longest", "itertools.pairwise"].contains n && vs[0]? == some (rawInt a) then
          rule "for.unpacks-the-owned-tuple"
          updateField it 0 .none
      | _, _ => pure ()) Q E s := fun a => by
    refine wpAny_bind (wpAny_load ho ?_)
    rw [hc, hd]
    simp only [hn, Bool.false_and, Bool.false_eq_true, if_false]
    exact wpAny_pure hQ
  cases target <;> first
    | exact wpAny_pure hQ
    | (cases v <;> first | exact wpAny_pure hQ | exact key _)
noncomputable def Iterable (G : Glob) (A : Around) (x : V) (l : List V) : Prop := ∀ (F : Fz) (s : Shared) (v : Value) {Q E : Value → Shared → Prop}, (∀ b o, F b = some o → s.heap.get? b = some o) → RV F v x →
  (∀ it h' o I, s.heap.get? it = none → (∀ b o, s.heap.get? b = some o → h'.get? b = some o) → h'.get? it = some o → RO G.w F o (I 0) → IterP G A F it l I → Q (.ref it) { s with heap := h' }) → wpAny G.M A (pyIter v) Q E s
theorem iter_lst {G : Glob} {A : Around} {l : List V} (hh : A.handled = none) : Iterable G A (.lst l) l := fun F s v Q E hf hv k => by
    refine hv.e_lst (P := fun v => wpAny _ _ (pyIter v) _ _ _) fun a vs n o ha hcl hdt hlen hrv => ?_
    refine wpAny_pyIter_list ⟨o, hf _ _ ha, hcl, n, hdt⟩ (k _ _ _ (fun k => AO.flds "list_iterator" #[.ref a, .int (k : Nat) 0]) (none_at_size _) (fun b o e => Heap.get?_push_of_some _ e) (Heap.get?_push_size _ rfl) ⟨rfl, rfl⟩ ⟨?_, ?_, (fun _ _ q => nomatch q), fun _ t v _ _ _ _ ⟨o', g, c1, c2⟩ hQ => go_other c1 c2 g (by decide) t v hQ, fun _ _ _ _ _ ⟨o', g, c1, c2⟩ hQ => wpAny_pyIter_listiter ⟨o', g, c1, c2⟩ hQ⟩)
    · intro k y s F2 Q E le ⟨o', g, c1, c2⟩ hfz hy hQ
      have hk : k < vs.length := by
        rcases Nat.lt_or_ge k l.length with q | q
        · lia
        · rw [List.getElem?_eq_none q] at hy; cases hy
      refine wpAny_pyNext_list_item (items := vs.toArray) (x := vs[k]) ⟨o', g, c1, c2⟩ ⟨_, hfz _ _ (le _ _ ha), hcl, n, hdt⟩ (by simp [hk]) fun h' ⟨o'', g', c1', c2'⟩ hs' => hQ _ h' o'' s.toks ((hrv k _ y (List.getElem?_eq_getElem hk) hy).mono le) g' ⟨c1', c2'⟩ hs'
    · intro s F2 Q E le ⟨o', g, c1, c2⟩ hfz hQ
      exact wpAny_pyNext_list_end hh ⟨o', g, c1, c2⟩ ⟨_, hfz _ _ (le _ _ ha), hcl, n, hdt⟩ (by simp [hlen]) hQ
noncomputable def rngV (a b c : Int) : List V := (List.range (Builtin.Range.rangeSize a b c).toNat).map fun (k : Nat) => .int (a + (k : Int) * c)
theorem rngV_get {a b c : Int} {k : Nat} {y : V} (h : (rngV a b c)[k]? = some y) : k < (Builtin.Range.rangeSize a b c).toNat ∧ y = .int (a + (k : Int) * c) := by
  unfold rngV at h
  rw [List.getElem?_map] at h
  rcases Nat.lt_or_ge k (Builtin.Range.rangeSize a b c).toNat with q | q
  · rw [List.getElem?_range q] at h; exact ⟨q, by simpa using h.symm⟩
  · rw [List.getElem?_eq_none (by simpa using q)] at h; cases h
theorem iter_rng {G : Glob} {A : Around} {a b c : Int} (hh : A.handled = none) (hs : Builtin.Range.small a b c = true) : Iterable G A (.rng a b c) (rngV a b c) := fun F s v Q E hf hv k => by
    refine hv.e_rng (P := fun v => wpAny _ _ (pyIter v) _ _ _) fun r t u v ha => ?_
    refine wpAny_pyIter_range (hf _ _ ha) hs (k _ _ _ (fun k => AO.raw { cls := .type "range_iterator", dict := none, data := .fields #[rawInt (a + (k : Int) * c), rawInt (Builtin.Range.rangeSize a b c - k), rawInt c], slots := #[] }) (none_at_size _) (fun b o e => Heap.get?_push_of_some _ e) (Heap.get?_push_size _ rfl) ?_ ⟨?_, ?_, (fun _ _ q => nomatch q), fun _ t v _ _ _ _ ⟨o', g, ro⟩ hQ => go_other (n := "range_iterator") rfl rfl (g.trans (congrArg some ro)) (by decide) t v hQ, fun _ _ _ _ _ ⟨o', g, ro⟩ hQ => wpAny_pyIter_rangeiter (g.trans (congrArg some ro)) hQ⟩)
    · show _ = _
      simp
    · intro k y s F2 Q E le ⟨o', g, ro⟩ hfz hy hQ
      obtain ⟨hk, rfl⟩ := rngV_get hy
      have ro' : o' = { cls := .type "range_iterator", dict := none, data := .fields #[rawInt (a + (k : Int) * c), rawInt (Builtin.Range.rangeSize a b c - k), rawInt c], slots := #[] } := ro
      subst ro'
      refine wpAny_pyNext_range_item g (Int.sub_pos_of_lt (Int.lt_toNat.mp hk)) fun h' hi hs' => hQ _ h' _ (s.toks + 1) .int hi ?_ hs'
      show _ = _
      have e1 : a + ((k + 1 : Nat) : Int) * c = a + (k : Int) * c + c := by
        have : ((k + 1 : Nat) : Int) = (k : Int) + 1 := rfl
        rw [this, Int.add_mul, Int.one_mul, Int.add_assoc]
      have e2 : Builtin.Range.rangeSize a b c - ((k + 1 : Nat) : Int) = Builtin.Range.rangeSize a b c - k - 1 := (Int.sub_sub (Builtin.Range.rangeSize a b c) k 1).symm
      rw [e1, e2]
    · intro s F2 Q E le ⟨o', g, ro⟩ hfz hQ
      have ro' : o' = { cls := .type "range_iterator", dict := none, data := .fields #[rawInt (a + ((rngV a b c).length : Int) * c), rawInt (Builtin.Range.rangeSize a b c - ((rngV a b c).length : Nat)), rawInt c], slots := #[] } := ro
      subst ro'
      exact wpAny_pyNext_range_end hh g (by simp [rngV]; lia) hQ
noncomputable def As (G : Glob) (fr : List Env) (A : Around) (env : Env) (F : Fz) (H : Hp) (target : Expr) (y : V) (Q : Fz → Hp → Prop) (E : Value → Fz → Hp → Prop) : Prop := ∀ K, F.le K → ∀ v, RV K v y → TpAt G fr A K H (assign target env v) (fun _ => Dn Q) E
section
variable {G : Glob} {fr : List Env} {A : Around} {env : Env} {F : Fz} {H : Hp} {E : Value → Fz → Hp → Prop} {Q : FV → Fz → Hp → Prop}
inductive ForI (G : Glob) (fr : List Env) (K1 : Fz) (it : Addr) (J : Nat → AO) (R : Hp) (l : List V) (I : Nat → Fz → Hp → Prop) (n : Nat) (s : Shared) : Prop where
  | mk (k : Nat) (F2 K2 : Fz) (H2 : Hp) (e : n + k = l.length) (l2 : K1.le K2) (m2 : Fz.le F2 K2) (r : Rep G fr K2 (H2 ++ (it, J k) :: R) s) (h : I k F2 H2)
theorem Rep.away {it : Addr} {x : AO} {s : Shared} (r : Rep G fr F ((it, x) :: H) s) (hx : ∀ ρ, x ≠ .ns ρ) {h' : Heap} (he : ∀ b o, b ≠ it → s.heap.get? b = some o → h'.get? b = some o) : Rep G fr F H { s with heap := h' } := by
  have d := r.dropNot hx
  have nit : ∀ p ∈ H, p.1 ≠ it := fun p hp q => (List.nodup_cons.mp r.nd).1 (mem_keys hp q)
  have fit : F it = none := (r.own _ (.head _)).1
  exact ⟨d.gok, d.base, fun b o e => he b o (fun q => by subst q; rw [fit] at e; cases e) (d.fz b o e), fun p hp => (d.own p hp).imp id fun q => q.imp fun o q => ⟨he _ _ (nit p hp) q.1, q.2⟩, d.nd, d.frs, d.gens, d.os⟩
structure IterG (G : Glob) (A : Around) (F : Fz) (it : Addr) (tg : Expr) (l : List V) (J : Nat → Hp) : Prop where
  item : ∀ {fr : List Env} {R : Hp} {k : Nat} {y : V} {s : Shared} {K : Fz} {Q : Option Value → Shared → Prop} {E : Value → Shared → Prop}, F.le K → l[k]? = some y → Rep G fr K (J k ++ R) s →
    (∀ v K1 s1, K.le K1 → RV K1 v y → (∀ {Q : Unit → Shared → Prop} {E : Value → Shared → Prop}, (∀ s2, Rep G fr K1 (J (k + 1) ++ R) s2 → Q () s2) → wpAny G.M A (letOwnedTupleGo tg (.ref it) v) Q E s1) → Q (some v) s1) → wpAny G.M A (pyNext (.ref it)) Q E s
  fin : ∀ {fr : List Env} {R : Hp} {s : Shared} {K : Fz} {Q : Option Value → Shared → Prop} {E : Value → Shared → Prop}, F.le K → Rep G fr K (J l.length ++ R) s → (∀ s1, Rep G fr K R s1 → Q none s1) → wpAny G.M A (pyNext (.ref it)) Q E s
  self : ∀ {fr : List Env} {R : Hp} {k : Nat} {s : Shared} {K : Fz} {Q : Value → Shared → Prop} {E : Value → Shared → Prop}, Rep G fr K (J k ++ R) s → Q (.ref it) s → wpAny G.M A (pyIter (.ref it)) Q E s
noncomputable def IterO (G : Glob) (A : Around) (tg : Expr) (F : Fz) (H : Hp) (x : V) (l : List V) (H' : Hp) : Prop := ∀ {fr : List Env} {R : Hp} {K : Fz} {s : Shared} {v : Value} {Q E : Value → Shared → Prop}, F.le K → Rep G fr K (H ++ R) s → RV K v x →
  (∀ it K1 s1 J, K.le K1 → Rep G fr K1 (J 0 ++ (H' ++ R)) s1 → IterG G A K1 it tg l J → Q (.ref it) s1) → wpAny G.M A (pyIter v) Q E s
theorem IterP.toG {it : Addr} {tg : Expr} {l : List V} {I : Nat → AO} (P : IterP G A F it l I) : IterG G A F it tg l fun k => [(it, I k)] where
  item := fun {fr R k y s K Q E} le hy r h => P.item k y s K le (r.own _ (.head _)).2 r.fz hy fun v h' o tk hv ho hro hs => by
    have r1 : Rep G fr K ((it, I (k + 1)) :: R) { s with heap := h', toks := tk } := Rep.upd (tk := tk) (dr := s.drawn) r hs.extBut ho hro fun hq => hq.elim fun ρ q => absurd q (P.notNs k ρ)
    exact h v K _ (.refl K) hv fun {Q E} hq => P.go (k + 1) tg v _ K (r1.own _ (.head _)).2 (hq _ r1)
  fin := fun {fr R s K Q E} le r h => P.fin s K le (r.own _ (.head _)).2 r.fz fun h' he => h _ (Rep.away r (P.notNs _) he)
  self := fun {fr R k s K Q E} r h => P.self k s K (r.own _ (.head _)).2 h
theorem Iterable.o {tg : Expr} {x : V} {l : List V} (h : Iterable G A x l) : IterO G A tg F H x l H := fun {fr R K s v Q E} m r hv hq =>
  h K s v r.fz hv fun it h' o I hit0 hkp hit hro P => hq it K _ _ (.refl K) (r.new (tk := s.toks) (dr := s.drawn) hkp hit0 hit hro) P.toG
theorem Ex_For {target iter body pos} (hE : Noted G fr A env E)
    (h : Ev G fr A F H (eval iter env) (fun x F1 H1 => ∃ l, Iterable G A x l ∧ ∃ I : Nat → Fz → Hp → Prop, I 0 F1 H1 ∧
      (∀ k y F2 H2, l[k]? = some y → I k F2 H2 → ∀ Qn : Fz → Hp → Prop, (∀ F3 H3, I (k + 1) F3 H3 → Qn F3 H3) → As G fr A env F2 H2 target y (fun F3 H3 => Ex G fr A F3 H3 (execs body env) (Turn Qn Q) E) E) ∧
      (∀ F2 H2, I l.length F2 H2 → Q .next F2 H2)) E)
    (hs : ∀ x, foldedSetIterable iter env x = pure x := by intro _; rfl) :
    Ex G fr A F H (exec (.For target iter body [] pos) env) Q E := fun K m R s hR => by
  refine wpAny_For (h.go m hR (.refl K) fun x y F1 K1 H1 s1 l1 m1 r1 hy hq => ?_) hs
  obtain ⟨l, itr, I, h0, step, fin⟩ := hq
  have hE' : ∀ e s', PQ G fr K R (fun e => Dn (E e)) e s' → notedBy G.M A env (fun e s' => cameBackBy G.M A env (PQ G fr K R fun e => Dn (E e)) e s') e s' := fun e s' q => hE K R e s' q
  refine itr K1 s1 x r1.fz hy fun it h' o J hit0 hkp hit hro P => ?_
  have perm : ∀ (H : Hp) (p : Addr × AO) (R : Hp), (H ++ p :: R).Perm (p :: (H ++ R)) := fun H p R => List.perm_middle
  have r2 : Rep G fr K1 (H1 ++ (it, J 0) :: R) { s1 with heap := h' } := (r1.new (tk := s1.toks) (dr := s1.drawn) hkp hit0 hit hro).perm (perm H1 _ R).symm
  refine codeAny_forLoop_any (I := ForI G fr K1 it J R l I)
    (fun n s hI => ?_) l.length ⟨0, F1, K1, H1, by lia, .refl K1, m1, r2, h0⟩
  obtain ⟨k, F2, K2, H2, hnk, l2, m2, r2, hI⟩ := hI
  have hro : ∃ o, s.heap.get? it = some o ∧ RO G.w K2 o (J k) := (r2.own (it, _) (List.mem_append_right _ (.head _))).2
  cases hv : l[k]? with
  | none =>
    have hk : l.length ≤ k := pick.mp hv
    have hkl : k = l.length := by lia
    subst hkl
    refine wpAny_mono (P.fin s K2 (E := PQ G fr K R fun e => Dn (E e)) l2 hro r2.fz (Q := fun r s₁ => r = none ∧ PQ G fr K R (FQ Q) .next s₁) fun h' he => ⟨rfl, ?_⟩) (fun r s₁ hr => ?_) hE'
    · have r4 := (r2.perm (perm H2 _ R)).away (P.notNs _) he
      exact upPQ (l1.trans l2) (fret r4 .next m2 (fin F2 H2 hI))
    · obtain ⟨rfl, hr⟩ := hr
      exact wpAny_execs_nil hr
  | some y =>
    have hk : k < l.length := (List.getElem?_eq_some_iff.mp hv).1
    refine wpAny_mono (P.item k y s K2 (E := PQ G fr K R fun e => Dn (E e)) l2 hro r2.fz hv (Q := fun r s₁ => ∃ v, r = some v ∧ RV K2 v y ∧ Rep G fr K2 (H2 ++ (it, J (k + 1)) :: R) s₁) fun v h' o tk rv ho hro' hs => ⟨v, rfl, rv, ?_⟩) (fun r s₁ hr => ?_) hE'
    · have r3 := (r2.perm (perm H2 _ R)).upd (h' := h') (tk := tk) (dr := s.drawn) (o' := o) (x' := J (k + 1)) hs.extBut ho hro' (fun hq => by obtain ⟨ρ, q⟩ := hq; exact absurd q (P.notNs k ρ))
      exact r3.perm (perm H2 _ R).symm
    · obtain ⟨v, rfl, ry, r3⟩ := hr
      show wpAny _ _ (letOwnedTupleGo target (.ref it) v) _ _ s₁
      refine P.go (k + 1) target v s₁ K2 (r3.own (it, _) (List.mem_append_right _ (.head _))).2 ?_
      have dropIt : ∀ {K4 H4 s4}, Rep G fr K4 (H4 ++ (it, J (k + 1)) :: R) s4 → Rep G fr K4 (H4 ++ R) s4 := fun r => (r.perm (perm _ _ R)).dropNot (P.notNs _)
      have dropE : ∀ {K4 : Fz} (_ : K.le K4) e s', PQ G fr K4 ((it, J (k + 1)) :: R) (fun e => Dn (E e)) e s' → PQ G fr K R (fun e => Dn (E e)) e s' := fun l4 e s' q => by
        obtain ⟨K5, H5, l5, r5, q⟩ := q
        exact ⟨K5, H5, l4.trans l5, dropIt r5, q⟩
      refine wpAny_mono (step k y F2 H2 hv hI (I (k + 1)) (fun _ _ q => q) K2 m2 v ry _ s₁ r3) (fun _ s₂ hq => ?_) fun e s' q => hE' e s' (dropE (l1.trans l2) e s' q)
      obtain ⟨K3, H3, l3, r3', F3, m3, q⟩ := hq
      have l13 := l1.trans (l2.trans l3)
      refine wpAny_mono (q K3 m3 _ s₂ r3') (fun f s4 hq => ?_) fun e s' q => hE' e s' (dropE l13 e s' q)
      obtain ⟨K4, H4, l4, r4, fv, hf, F4, m4, q⟩ := hq
      have l := l13.trans l4
      cases hf with
      | next => exact ⟨n - 1, nk1 hnk hk, k + 1, F4, K4, H4, nk2 hnk hk, l2.trans (l3.trans l4), m4, r4, q⟩
      | cont => exact ⟨n - 1, nk1 hnk hk, k + 1, F4, K4, H4, nk2 hnk hk, l2.trans (l3.trans l4), m4, r4, q⟩
      | brk => exact upPQ l (fret (dropIt r4) .next m4 q)
      | ret hx => exact upPQ l (fret (dropIt r4) (.ret hx) m4 q)
end
section
variable {G : Glob} {fr : List Env} {A : Around} {env : Env} {F : Fz} {H : Hp} {E : Value → Fz → Hp → Prop} {Q : V → Fz → Hp → Prop}
theorem Ev_global {x : Str} {pos} {v : Value} {y : V} (hv : G.mg x = some v) (hr : RV F v y) (h : Q y F H) (hk : autoParam (env.scope.kind = .function) tac0) (hx : autoParam (env.kindOf x = some .globalImplicit) tac0) (hg : autoParam (env.globals = mainGlobals) tac0)
    (hd : autoParam ((x == ("__debug__" : Str)) = false) tac14) : Ev G fr A F H (eval (.Name x pos) env) Q E := fun K m R s hR =>
  Name_function_global hk hx (loadGlobal_global (by rw [hg]; exact hR.glob.1) hv (vret hR (hr.mono m) m h)) hd
theorem Ev_blt {x : Str} {pos} {v : Value} {y : V} (hn : G.mg x = none) (hv : G.mb x = some v) (hr : RV F v y) (h : Q y F H) (hk : autoParam (env.scope.kind = .function) tac0) (hx : autoParam (env.kindOf x = some .globalImplicit) tac0) (hg : autoParam (env.globals = mainGlobals) tac0) (hb : autoParam (env.builtins = builtinsNs) tac0)
    (hd : autoParam ((x == ("__debug__" : Str)) = false) tac14) : Ev G fr A F H (eval (.Name x pos) env) Q E := fun K m R s hR =>
  Name_function_global hk hx (loadGlobal_builtin (by rw [hg]; exact hR.glob.1) hn (by rw [hb]; exact hR.glob.2.1) hv (vret hR (hr.mono m) m h)) hd
inductive CellF (F : Fz) (c : Addr) (y : V) : Prop where
  | intro (o : Obj) (v : Value) (h1 : F c = some o) (h2 : o.data = .cell (some v)) (h3 : RV F v y)
theorem CellF.mono {F F' : Fz} {c : Addr} {y : V} (le : F.le F') (h : CellF F c y) : CellF F' c y := by obtain ⟨o, v, a, b, r⟩ := h; exact ⟨o, v, le _ _ a, b, r.mono le⟩
theorem Ev_freeF {x : Str} {pos} {c : Addr} {y : V} (hc : env.cells.lookup x = some c) (hm : CellF F c y) (h : Q y F H) (hk : autoParam (env.scope.kind = .function) tac0) (hx : autoParam (env.kindOf x = some .free) tac0)
    (hd : autoParam ((x == ("__debug__" : Str)) = false) tac14) (hn : autoParam ((x == ("__classdict__" : Str)) = false) tac14) : Ev G fr A F H (eval (.Name x pos) env) Q E := fun K m R s hR => by
  obtain ⟨o, v, ho, hd', hv⟩ := hm
  exact wpAny_Name (wpAny_loadName_free hk hx hc ⟨o, hR.fz _ _ (m _ _ ho), hd'⟩ (vret hR (hv.mono m) m h) hn) hd
end

section
variable {G : Glob} {fr : List Env} {A : Around} {env : Env} {F : Fz} {H : Hp} {E : Value → Fz → Hp → Prop}
theorem Evs_nil {pos} {Q : List V → Fz → Hp → Prop} (h : Q [] F H) : Evs G fr A F H (spliced (backTo pos (starEach [] env))) Q E := fun K m R s hR => args_nil ⟨K, H, .refl K, hR, [], .nil, F, m, h⟩
theorem Evs_cons {e : Expr} {rest : List Expr} {pos} {Q : List V → Fz → Hp → Prop} (h : Ev G fr A F H (eval e env) (fun x F1 H1 => Evs G fr A F1 H1 (spliced (backTo pos (starEach rest env))) (fun xs F2 H2 => Q (x :: xs) F2 H2) E) E)
    (he : autoParam (starEach (e :: rest) env = (false, eval e env) :: starEach rest env) tac0) : Evs G fr A F H (spliced (backTo pos (starEach (e :: rest) env))) Q E := fun K m R s hR =>
  args_cons (h.go m hR (.refl K) fun v x F1 K1 H1 s1 l1 m1 r1 hx h1 => h1.go m1 r1 l1 fun vs xs F2 K2 H2 s2 l2 m2 r2 hxs q => ⟨K2, H2, l1.trans l2, r2, x :: xs, .cons (hx.mono l2) hxs, F2, m2, q⟩) he
inductive KOk (F : Fz) : V → Prop where
  | blt {n : String} : KOk F (.blt n)
  | typ {n : String} : KOk F (.typ n)
  | fn {a : Addr} {o : Obj} {fd : FuncData} (h : F a = some o) (hd : o.data = .func fd) : KOk F (.ref a)
  | meth {a : Addr} {o : Obj} {vs : Array Value} (h : F a = some o) (hd : o.data = .fields vs) (hc : o.cls = .type "builtin_function_or_method") : KOk F (.ref a)
theorem callWith_meth' {M : Model} {pos : Pos} {a : Addr} {o : Obj} {vs : Array Value} {args : List (Bool × Sem Value)} {Q E : Value → Shared → Prop} {s : Shared} (hd : o.data = .fields vs) (hc : o.cls = .type "builtin_function_or_method") (hplain : args.any (·.1) = false)
    (h : wpAny M A (evalArgs (.ref a) true args []) (fun x s₁ => s₁.heap.get? a = some o ∧ wpAny M A (call (.ref a) ([] ++ x.pos) x.kw) Q E s₁) E s) : wpAny M A (callWith pos (.ref a) [] args []) Q E s := by
  unfold callWith
  refine wpAny_bind (wpAny_holding (wpAny_mono h (fun x s₁ h₁ => wpAny_bind (wpAny_standAt ?_)) fun _ _ x => x))
  rw [hplain]
  refine wpAny_bind (m := keeperOf (.ref a)) (wpAny_bind (wpAny_load h₁.1 ?_))
  rw [hd, hc]
  refine wpAny_pure (?_ : wpAny _ _ (_ >>= _) _ _ _)
  exact (wpAny_bind (wpAny_mono h₁.2 (fun r s₂ hr => wpAny_bind (wpAny_holding (wpAny_point (wpAny_pure hr)))) fun _ _ x => x))
theorem KOk.mono {F F' : Fz} {x : V} (le : F.le F') (h : KOk F x) : KOk F' x := by
  cases h with
  | blt => exact .blt
  | typ => exact .typ
  | fn h hd => exact .fn (le _ _ h) hd
  | meth h hd hc => exact .meth (le _ _ h) hd hc
noncomputable def Cl (G : Glob) (fr : List Env) (A : Around) (F : Fz) (H : Hp) (f : V) (xs : List V) (Q : V → Fz → Hp → Prop) (E : Value → Fz → Hp → Prop) : Prop :=
  ∀ K, F.le K → ∀ v vs, RV K v f → RVs K vs xs → EvAt G fr A K H (call v vs) Q E
variable {Q : V → Fz → Hp → Prop}
theorem callW {pos : Pos} {s : Shared} {F1 : Fz} {f : Value} {x : V} {args : List (Bool × Sem Value)} {P E' : Value → Shared → Prop} (hx : RV F1 f x) (hk : KOk F1 x) (hp : args.any (·.1) = false)
    (key : wpAny G.M A (evalArgs f true args []) (fun a s2 => a.kw = [] ∧ (∀ b o, F1 b = some o → s2.heap.get? b = some o) ∧ wpAny G.M A (call f a.pos) P E' s2) E' s) : wpAny G.M A (callWith pos f [] args []) P E' s := by
  have key' : wpAny G.M A (evalArgs f true args []) (fun a s2 => (∀ b o, F1 b = some o → s2.heap.get? b = some o) ∧ wpAny G.M A (call f ([] ++ a.pos) a.kw) P E' s2) E' s :=
    wpAny_mono key (fun a s2 h => ⟨h.2.1, h.1.symm ▸ h.2.2⟩) fun _ _ x => x
  clear key
  cases hk with
  | blt => exact hx.e_blt (P := fun f => wpAny G.M A (evalArgs f true args []) (fun a s2 => (∀ b o, F1 b = some o → s2.heap.get? b = some o) ∧ wpAny G.M A (call f ([] ++ a.pos) a.kw) P E' s2) E' s → wpAny G.M A (callWith pos f [] args []) P E' s) (fun key => callWith_builtin hp (wpAny_mono key (fun _ _ h => h.2) fun _ _ x => x)) key'
  | typ => exact hx.e_typ (P := fun f => wpAny G.M A (evalArgs f true args []) (fun a s2 => (∀ b o, F1 b = some o → s2.heap.get? b = some o) ∧ wpAny G.M A (call f ([] ++ a.pos) a.kw) P E' s2) E' s → wpAny G.M A (callWith pos f [] args []) P E' s) (fun key => PyProof.Rows.callWith_type hp (wpAny_mono key (fun _ _ h => h.2) fun _ _ x => x)) key'
  | fn h hd => exact hx.e_ref (P := fun f => wpAny G.M A (evalArgs f true args []) (fun a s2 => (∀ b o, F1 b = some o → s2.heap.get? b = some o) ∧ wpAny G.M A (call f ([] ++ a.pos) a.kw) P E' s2) E' s → wpAny G.M A (callWith pos f [] args []) P E' s) (fun key => callWith_function (wpAny_mono key (fun _ _ q => ⟨⟨q.1 _ _ h, hd⟩, q.2⟩) fun _ _ x => x)) key'
  | meth h hd hc => exact hx.e_ref (P := fun f => wpAny G.M A (evalArgs f true args []) (fun a s2 => (∀ b o, F1 b = some o → s2.heap.get? b = some o) ∧ wpAny G.M A (call f ([] ++ a.pos) a.kw) P E' s2) E' s → wpAny G.M A (callWith pos f [] args []) P E' s) (fun key => callWith_meth' hd hc hp (wpAny_mono key (fun _ _ q => ⟨q.1 _ _ h, q.2⟩) fun _ _ x => x)) key'
theorem Ev_Call {func e : Expr} {rest : List Expr} {pos} (h : Ev G fr A F H (eval func env) (fun f F1 H1 => KOk F1 f ∧ Evs G fr A F1 H1 (spliced (backTo pos (starEach (e :: rest) env))) (fun xs F2 H2 => Cl G fr A F2 H2 f xs Q E) E) E)
    (he : autoParam (eval (.Call func (e :: rest) [] pos) env = (do callWith pos (← eval func env) [] (backTo pos (starEach (e :: rest) env)) (backToKw pos (keywordEach [] env)))) tac0)
    (hs : autoParam (starEach (e :: rest) env = (false, eval e env) :: starEach rest env) tac0) (hplain : autoParam ((backTo pos (starEach rest env)).any (·.1) = false) tac0) :
    Ev G fr A F H (eval (.Call func (e :: rest) [] pos) env) Q E := fun K m R s hR => by
  refine Call_ (h.go m hR (.refl K) fun f x F1 K1 H1 s1 l1 m1 r1 hx hq => ?_) he
  obtain ⟨hk, h1⟩ := hq
  have hp : (backTo pos (starEach (e :: rest) env)).any (·.1) = false := by rw [hs]; show (false || (backTo pos (starEach rest env)).any (·.1)) = false; rw [hplain]; rfl
  refine callW hx (hk.mono m1) hp ?_
  rw [hs] at h1 ⊢
  refine evalArgs_plain ?_
  exact (show Evs G fr A F1 H1 (spliced ((false, eval e env) :: backTo pos (starEach rest env))) _ E from h1).go m1 r1 l1 fun vs xs F2 K2 H2 s2 l2 m2 r2 hxs q => ⟨rfl, fun b o e => r2.fz b o (l2 b o e), (q K2 m2 f vs (hx.mono l2) hxs).last r2 (l1.trans l2)⟩
theorem Ev_Call0 {func : Expr} {pos} (h : Ev G fr A F H (eval func env) (fun f F1 H1 => KOk F1 f ∧ Cl G fr A F1 H1 f [] Q E) E)
    (he : autoParam (eval (.Call func [] [] pos) env = (do callWith pos (← eval func env) [] (backTo pos (starEach [] env)) (backToKw pos (keywordEach [] env)))) tac0) :
    Ev G fr A F H (eval (.Call func [] [] pos) env) Q E := fun K m R s hR => by
  refine Call_ (h.go m hR (.refl K) fun f x F1 K1 H1 s1 l1 m1 r1 hx hq => ?_) he
  obtain ⟨hk, h1⟩ := hq
  refine callW hx (hk.mono m1) rfl (PyProof.Rows.evalArgs_none ⟨rfl, fun b o e => r1.fz b o e, (h1 K1 m1 f [] hx .nil).last r1 l1⟩)
inductive TyIs (F : Fz) (H : Hp) : V → String → Prop where
  | str {x : Str} : TyIs F H (.str x) "str"
  | int {i : Int} : TyIs F H (.int i) "int"
  | tup {l : List V} : TyIs F H (.tup l) "tuple"
  | list {a : Addr} {l : List V} (h : Has H a (.list l)) : TyIs F H (.ref a) "list"
  | dict {a : Addr} {l : List (V × V)} (h : Has H a (.dict l)) : TyIs F H (.ref a) "dict"
  | frz {a : Addr} {o : Obj} {T : String} (h : F a = some o) (hc : o.cls = .type T) (hd : o.dict = none) : TyIs F H (.ref a) T
theorem TyIs.mono {F F' : Fz} {H : Hp} {x : V} {T : String} (le : F.le F') (h : TyIs F H x T) : TyIs F' H x T := by
  cases h with
  | str => exact .str
  | int => exact .int
  | tup => exact .tup
  | list h => exact .list h
  | dict h => exact .dict h
  | frz h hc hd => exact .frz (le _ _ h) hc hd
noncomputable def TyOf (s : Shared) (T : String) (v : Value) : Prop := s.TypeIs v T ∧ ∀ a, v = .ref a → ∃ ob, s.heap.get? a = some ob ∧ ob.dict = none
theorem ty_of {s : Shared} {a : Addr} {o : Obj} {T : String} (h : s.heap.get? a = some o) (hc : o.cls = .type T) (hd : o.dict = none) : TyOf s T (.ref a) :=
  ⟨⟨_, h, hc⟩, fun b e => by cases e; exact ⟨_, h, hd⟩⟩
theorem TyIs.typeIs {R : Hp} {s : Shared} {x : V} {T : String} {v : Value} (h : TyIs F H x T) (hR : Rep G fr F (H ++ R) s) (hv : RV F v x) : TyOf s T v := by
  cases h with
  | str => exact hv.e_str (P := TyOf s _) fun _ => ⟨typeIs_str _ _ _, fun _ e => nomatch e⟩
  | int => exact hv.e_int (P := TyOf s _) fun _ => ⟨typeIs_int _ _ _, fun _ e => nomatch e⟩
  | tup => exact hv.e_tup (P := TyOf s _) fun _ _ _ h _ _ => ty_of (hR.fz _ _ h) rfl rfl
  | list h =>
    obtain ⟨o, ho, vs, n, rfl, _⟩ := hR.has h
    exact hv.e_ref (P := TyOf s _) (ty_of ho rfl rfl)
  | dict h =>
    obtain ⟨o, ho, vs, n, rfl, _⟩ := hR.has h
    exact hv.e_ref (P := TyOf s _) (ty_of ho rfl rfl)
  | frz h hc hd => exact hv.e_ref (P := TyOf s _) (ty_of (hR.fz _ _ h) hc hd)

inductive Meth (G : Glob) (fr : List Env) (A : Around) (env : Env) (pos : Pos) (args : List Expr) (name : Str) (Q : V → Fz → Hp → Prop) (E : Value → Fz → Hp → Prop) (x : V) (F1 : Fz) (H1 : Hp) : Prop where
  | mk (T id : String) (h1 : PlainAttrs T) (h2 : Slot T name id) (h3 : typeOf (.builtin id) = pure (.type "method_descriptor")) (h4 : TyIs F1 H1 x T)
    (h : Evs G fr A F1 H1 (spliced (backTo pos (starEach args env))) (fun xs F2 H2 => Cl G fr A F2 H2 (.blt id) (x :: xs) Q E) E)
theorem Ev_method {o : Expr} {name : Str} {apos pos : Pos} {args : List Expr}
    (h : Ev G fr A F H (eval o env) (Meth G fr A env pos args name Q E) E)
    (hbase : autoParam (attributeBase o name env (eval o env) = eval o env) tac0)
    (hfew : autoParam (((backTo pos (starEach args env)).all (fun x => !x.1) && (backToKw pos (keywordEach [] env)).all (fun x => x.1.isSome)
      && decide (args.length + ([] : List Keyword).length + (if ([] : List Keyword).isEmpty then 0 else 1) < 30)) = true) tac0)
    (hline : autoParam ((apos.endLine == pos.line) = true) tac0)
    (hargs : ∀ f (Q : Args → Shared → Prop) E s, wpAny G.M A (spliced (backTo pos (starEach args env))) (fun vs s' => Q ⟨vs, []⟩ s') E s → wpAny G.M A (evalArgs f true (backTo pos (starEach args env)) []) Q E s := by intro _ _ _ _ h; first | exact evalArgs_plain h | exact Mine.evalArgs_nil' h)
    (hplain : autoParam ((backTo pos (starEach args env)).any (·.1) = false) tac0) :
    Ev G fr A F H (eval (.Call (.Attribute o name apos) args [] pos) env) Q E := fun K m R s hR => by
  refine wpAny_Call_method_lateS hbase hfew hline (h.go m hR (.refl K) fun v x F1 K1 H1 s1 l1 m1 r1 hx hq => ?_)
  obtain ⟨T, id, pa, sl, ht, ty, h1⟩ := hq
  obtain ⟨t1, t2⟩ := (ty.mono m1).typeIs r1 hx
  refine ⟨T, id, pa, sl, ht, t1, t2, callWith_builtin hplain (hargs _ _ _ _ ?_)⟩
  exact h1.go m1 r1 l1 fun vs xs F2 K2 H2 s2 l2 m2 r2 hxs q => (q K2 m2 (.builtin id) (v :: vs) .blt (.cons (hx.mono l2) hxs)).last r2 (l1.trans l2)
theorem evalArgs_nil' {M : Model} {pos : Pos} {f : Value} {E : Value → Shared → Prop} {s : Shared} {Q : Args → Shared → Prop} (h : wpAny M A (spliced (backTo pos (starEach [] env))) (fun vs s' => Q ⟨vs, []⟩ s') E s) : wpAny M A (evalArgs f true (backTo pos (starEach [] env)) []) Q E s := by
  have h' : wpAny M A (pure [] : Sem (List Value)) (fun vs s' => Q ⟨vs, []⟩ s') E s := h
  intro Γ p hΓ
  exact PyProof.Rows.evalArgs_none (h' Γ p hΓ) Γ p hΓ
end

section
variable {G : Glob} {fr : List Env} {A : Around} {F : Fz} {H : Hp} {E : Value → Fz → Hp → Prop} {E' : Addr → Value → Fz → Hp → Prop} {Q : V → Fz → Hp → Prop}
inductive CodeF (F : Fz) (cd : Value) (q : Str) : Prop where
  | intro (c : Addr) (o : Obj) (vs : Array Value) (t : Tok) (h1 : cd = .ref c) (h2 : F c = some o) (h3 : o.data = .fields vs) (h4 : vs[1]? = some (.str q t))
theorem CodeF.mono {F F' : Fz} {cd : Value} {q : Str} (le : F.le F') (h : CodeF F cd q) : CodeF F' cd q := by obtain ⟨c, o, vs, t, e, g, d, r⟩ := h; exact ⟨c, o, vs, t, e, le _ _ g, d, r⟩
theorem CodeF.crec {cd : Value} {q : Str} {h : Heap} (x : CodeF F cd q) (k : ∀ a o, F a = some o → h.get? a = some o) : h.CodeRec cd q := by obtain ⟨c, o, vs, t, e, g, d, r⟩ := x; exact ⟨c, o, vs, t, e, k _ _ g, d, r⟩
structure Deep (A A' : Around) (env : Env) : Prop where
  handled : A'.handled = A.handled
  depth : A'.depth = A.depth + 1
  units : A'.units = A.units + 3
  guards : A'.guards = A.guards
  frames : A'.frames = A.frames.map (env :: ·)
theorem deep (A : Around) (env : Env) : Deep A (A.deeper env) env := ⟨rfl, rfl, rfl, rfl, rfl⟩
structure Ok (fr : List Env) (A : Around) (n : Nat) : Prop where
  handled : A.handled = none
  depth : A.depth + n < recursionLimit
  units : A.units + 8 * n < cLine
  guards : A.guards = some []
  frames : A.frames = some fr
theorem Ok.room {fr : List Env} {A : Around} {n : Nat} (h : Ok fr A n) : A.depth < recursionLimit := Nat.lt_of_le_of_lt (Nat.le_add_right _ _) h.depth
theorem Ok.deep {fr : List Env} {A A' : Around} {env : Env} {n : Nat} (h : Ok fr A (n + 1)) (d : Deep A A' env) : Ok (env :: fr) A' n :=
  ⟨d.handled.trans h.handled, by rw [d.depth]; have := h.depth; lia, by rw [d.units]; have := h.units; lia, d.guards.trans h.guards, by rw [d.frames, h.frames]; rfl⟩
theorem Ok.less {fr : List Env} {A : Around} {n m : Nat} (h : Ok fr A n) (hm : m ≤ n) : Ok fr A m := ⟨h.handled, Nat.lt_of_le_of_lt (Nat.add_le_add_left hm _) h.depth, Nat.lt_of_le_of_lt (Nat.add_le_add_left (Nat.mul_le_mul_left 8 hm) _) h.units, h.guards, h.frames⟩
inductive Ret (L : Addr) (Q : V → Fz → Hp → Prop) (fv : FV) (F : Fz) (H : Hp) : Prop where
  | intro (ρ : List (Str × Option V)) (H' : Hp) (hr : Rem H L (.ns ρ) H') (h : Q (match fv with | .ret x => x | _ => .none) F H')
noncomputable def Leaves (G : Glob) (fr : List Env) (A : Around) (env : Env) (E E' : Value → Fz → Hp → Prop) : Prop :=
  (∀ e ∈ fr, e.frame ≠ env.frame) → ∀ K R e s, PQ G (env :: fr) K R (fun e => Dn (E e)) e s → wpAny G.M (A.deeper env) (leaving env e) (fun _ s' => PQ G fr K R (fun e => Dn (E' e)) e s') (fun e' s' => PQ G fr K R (fun e => Dn (E' e)) e' s') s
theorem leaves_no {env : Env} : Leaves G fr A env No E := fun _ _ _ _ _ h => (noPQ h).elim
noncomputable def mkRho (ns : List Str) (xs : List V) (r : List Str) : List (Str × Option V) := (ns.zip xs).map (fun p => (p.1, some p.2)) ++ r.map fun n => (n, none)
theorem mkRho_names {ns : List Str} {xs : List V} {r : List Str} (h : ns.length = xs.length) : (mkRho ns xs r).map (·.1) = ns ++ r := by
  unfold mkRho
  rw [List.map_append, List.map_map, List.map_map]
  show (ns.zip xs).map Prod.fst ++ r.map id = _
  rw [List.map_fst_zip (Nat.le_of_eq h), List.map_id]
theorem zip_rv {ns : List Str} {xs : List V} {vs : List Value} (hl : ns.length = xs.length) (hv : RVs F vs xs) : ∀ q ∈ ns.zip xs, ∃ v, (q.1, v) ∈ ns.zip vs ∧ RV F v q.2 := by
    intro q hq
    induction hv generalizing ns with
    | nil => rw [List.zip_nil_right] at hq; cases hq
    | cons h t ih =>
      cases ns with
      | nil => cases hq
      | cons n ns =>
        rcases List.mem_cons.mp hq with rfl | hq
        · exact ⟨_, .head _, h⟩
        · obtain ⟨v, b, c⟩ := ih (Nat.succ.inj hl) hq
          exact ⟨v, .tail _ b, c⟩
theorem mem_mkRho {ns : List Str} {xs : List V} {r : List Str} {vs : List Value} (hl : ns.length = xs.length) (hv : RVs F vs xs) : ∀ p ∈ mkRho ns xs r, (p.1 ∈ r ∧ p.2 = none) ∨ ∃ x v, p.2 = some x ∧ (p.1, v) ∈ ns.zip vs ∧ RV F v x := by
  intro p hp
  rcases List.mem_append.mp hp with hp | hp
  · obtain ⟨q, hq, rfl⟩ := List.mem_map.mp hp
    obtain ⟨v, b, c⟩ := zip_rv hl hv q hq
    exact .inr ⟨_, v, rfl, b, c⟩
  · obtain ⟨n, hn, rfl⟩ := List.mem_map.mp hp
    exact .inl ⟨hn, rfl⟩
theorem lookup_mem {β : Type} {l : List (Str × β)} {n : Str} {v : β} (nd : (l.map (·.1)).Nodup) (h : (n, v) ∈ l) : l.lookup n = some v := by
  induction l with
  | nil => cases h
  | cons p l ih =>
    rw [List.map_cons, List.nodup_cons] at nd
    rcases List.mem_cons.mp h with e | h
    · subst e
      rw [List.lookup_cons, beq_self_eq_true]
    · have hne : (n == p.1) = false := by
        refine beq_eq_false_iff_ne.mpr fun e => nd.1 ?_
        have := List.mem_map_of_mem (f := fun q : Str × β => q.1) h
        exact e ▸ this
      rw [List.lookup_cons, hne]
      exact ih nd.2 h
theorem zip_names {ns : List Str} {vs : List Value} (h : ns.length = vs.length) : (ns.zip vs).map (·.1) = ns := by
  rw [List.map_fst_zip]; lia
theorem call_def {a : Addr} {fo : Obj} {name qual : Str} {params : Arguments} {scope : Scope} {cl : List (Str × Addr)} {dV kV doc pm cdv ct : Value} {an : Option Addr} {body : List Stmt} {xs : List V} (hf : F a = some fo)
    (hd : fo.data = .func (fnX name qual params body scope cl dV kV doc pm an cdv ct)) (hcd : CodeF F cdv qual)
    (ns rest : List Str) (hn : ns.length = xs.length) (hnd : (ns ++ rest).Nodup) (hbind : ∀ vs : List Value, vs.length = xs.length → bindArgs (fnX name qual params body scope cl dV kV doc pm an cdv ct) ⟨vs, []⟩ = pure (ns.zip vs))
    (hcell : (scope.names.all fun x => x.2 != .cell) = true) (hloc : (ns.all fun x => decide (scope.names.lookup x = some .local)) = true)
    (hroom : A.depth < recursionLimit) (hE : ∀ L, Leaves G fr A (envX qual scope L a cdv cl) (E' L) E)
    (h : ∀ L A', Deep A A' (envX qual scope L a cdv cl) → Ex G (envX qual scope L a cdv cl :: fr) A' F ((L, .ns (mkRho ns xs rest)) :: H) (execs body (envX qual scope L a cdv cl)) (Ret L Q) (E' L))
    (hco : autoParam (scope.isCoroutine = false) tac0) (hgen : autoParam (scope.isGenerator = false) tac0) (hk : autoParam (scope.kind = .function) tac0) :
    Cl G fr A F H (.ref a) xs Q E := fun K m v vs hv hvs R s hR => by
  obtain rfl := hv.i_ref
  have hlen := hvs.length
  refine wpAny_call (codeAny_call_def hroom (hR.fz _ _ (m _ _ hf)) hd hR.glob.2.2 ((hcd.mono m).crec hR.fz) rfl (BindsTo.of_eq (hbind vs hlen)) (fun x hx => by simpa using List.all_eq_true.mp hcell x hx) (fun x hx => of_decide_eq_true (List.all_eq_true.mp hloc _ (List.of_mem_zip hx).1)) (fun h₀ hns₀ hk₀ => ?_) hco hgen hk)
  have nd1 : ((ns.zip vs).reverse.map (·.1)).Nodup := by
    rw [List.map_reverse, (List.reverse_perm _).nodup_iff, zip_names (by lia)]
    exact (List.nodup_append.mp hnd).1
  have fresh : ∀ env ∈ fr, env.frame ≠ some s.heap.objs.size := fun env he e => by
    obtain ⟨L, ρ, q, m⟩ := (hR.frs env he).2
    obtain ⟨_, o, g, _⟩ := hR.own _ m
    rw [Option.some.inj (q.symm.trans e)] at g
    exact absurd (Heap.lt_size g) (Nat.lt_irrefl _)
  have r1 : Rep G (envX qual scope s.heap.objs.size a cdv cl :: fr) K (((s.heap.objs.size, AO.ns (mkRho ns xs rest)) :: H) ++ R) { s with heap := h₀, toks := s.toks + (ns.zip vs).length } := by
    obtain ⟨o, es, ep, ho, hdd, hkk, hff⟩ := hns₀
    have := hR.new (D := s.heap.objs.size) (x := AO.ns (mkRho ns xs rest)) (tk := s.toks + (ns.zip vs).length) (dr := s.drawn) hk₀ (none_at_size _) ho ⟨es, ep, hdd, hkk, by rw [mkRho_names hn]; exact hnd, fun p hp => by
      rcases mem_mkRho hn hvs p hp with ⟨h1, h2⟩ | ⟨x, v, h1, h2, h3⟩
      · rw [h2]
        trivial
      · rw [h1]
        exact ⟨v, (hff _).trans (lookup_mem nd1 (List.mem_reverse.mpr h2)), h3⟩⟩
    exact ⟨this.gok, this.base, this.fz, this.own, this.nd, fun env he => by
      rcases List.mem_cons.mp he with rfl | he
      · exact ⟨hk, _, _, rfl, .head _⟩
      · exact this.frs env he, this.gens, this.os⟩
  refine wpAny_mono (h s.heap.objs.size _ (deep A _) K m R _ r1) (fun f s' hq => ?_) fun e s' q => wpAny_mono (hE _ fresh K R e s' q) (fun _ _ x => x) fun _ _ x => x
  obtain ⟨F', H', l', r', fv, hfv, F1, m1, ρ, H2, hrem, q⟩ := hq
  have r2 : Rep G fr F' (H2 ++ R) s' := (r'.pop.perm (hrem.perm.append_right R)).drop fresh
  refine ⟨F', H2, l', r2, _, ?_, F1, m1, q⟩
  cases hfv with
  | next => exact .none
  | brk => exact .none
  | cont => exact .none
  | ret hx => exact hx
end
section
variable {G : Glob} {fr : List Env} {A : Around} {env : Env} {F : Fz} {H H' : Hp} {E : Value → Fz → Hp → Prop} {Q : V → Fz → Hp → Prop}

theorem RVs.toArr {vs : Array Value} {l : List V} (h : RVs F vs.toList l) : vs.size = l.length := by rw [← h.length]; simp
theorem cl_b1 {n : String} {x : V} (k : ∀ K, F.le K → ∀ a, RV K a x → EvAt G fr A K H (call (.builtin n) [a]) Q E) : Cl G fr A F H (.blt n) [x] Q E := fun K m v vs hv hvs => hv.e_blt (P := fun v => EvAt _ _ _ _ _ (call v vs) _ _) (hvs.e1 (P := fun vs => EvAt _ _ _ _ _ (call _ vs) _ _) (k K m))
theorem cl_b2 {n : String} {x y : V} (k : ∀ K, F.le K → ∀ a b, RV K a x → RV K b y → EvAt G fr A K H (call (.builtin n) [a, b]) Q E) : Cl G fr A F H (.blt n) [x, y] Q E := fun K m v vs hv hvs => hv.e_blt (P := fun v => EvAt _ _ _ _ _ (call v vs) _ _) (hvs.e2 (P := fun vs => EvAt _ _ _ _ _ (call _ vs) _ _) (k K m))
theorem cl_t0 {n : String} (k : ∀ K, F.le K → EvAt G fr A K H (call (.type n) []) Q E) : Cl G fr A F H (.typ n) [] Q E := fun K m v vs hv hvs => hv.e_typ (P := fun v => EvAt _ _ _ _ _ (call v vs) _ _) (hvs.e0 (P := fun vs => EvAt _ _ _ _ _ (call _ vs) _ _) (k K m))
theorem cl_t1 {n : String} {x : V} (k : ∀ K, F.le K → ∀ a, RV K a x → EvAt G fr A K H (call (.type n) [a]) Q E) : Cl G fr A F H (.typ n) [x] Q E := fun K m v vs hv hvs => hv.e_typ (P := fun v => EvAt _ _ _ _ _ (call v vs) _ _) (hvs.e1 (P := fun vs => EvAt _ _ _ _ _ (call _ vs) _ _) (k K m))
theorem notNs_dict {l l' : List (V × V)} : (∃ ρ, AO.dict l = .ns ρ) → ∃ ρ, AO.dict l' = .ns ρ := fun h => by obtain ⟨_, q⟩ := h; cases q
theorem notNs_attrs {l l' : List (Str × V)} : (∃ ρ, AO.attrs l = .ns ρ) → ∃ ρ, AO.attrs l' = .ns ρ := fun h => by obtain ⟨_, q⟩ := h; cases q
theorem notNs_list {l l' : List V} : (∃ ρ, AO.list l = .ns ρ) → ∃ ρ, AO.list l' = .ns ρ := fun h => by obtain ⟨_, q⟩ := h; cases q
theorem len_list {a : Addr} {l : List V} (hm : Has H a (.list l)) (hl : l.length < 2 ^ 63) (h : Q (.int l.length) F H) : Cl G fr A F H (.blt "len") [.ref a] Q E := cl_b1 fun K m v hv => by
    refine hv.e_ref (P := fun v => EvAt _ _ _ _ _ (call _ [v]) _ _) fun R s hR => ?_
    obtain ⟨o, ho, items, n, rfl, hr⟩ := hR.has hm
    have e := hr.toArr
    refine call_len_list ⟨_, ho, rfl, n, rfl⟩ (by rw [e]; exact_mod_cast hl) ?_
    rw [e]
    exact vret (hR.toks _) .int m h
theorem divmod_ii {i j : Int} (hj : j ≠ 0) (hs : j.natAbs < 1073741824) (h : Q (.tup [.int (i.fdiv j), .int (i.fmod j)]) F H) : Cl G fr A F H (.blt "divmod") [.int i, .int j] Q E := cl_b2 fun K m v w hv hw => by
      refine hv.e_int (P := fun v => EvAt _ _ _ _ _ (call _ [v, w]) _ _) fun t => hw.e_int (P := fun w => EvAt _ _ _ _ _ (call _ [_, w]) _ _) fun u R s hR => ?_
      refine divmod_int hj ?_ (.inl (PyProof.noPylong_small hs))
      obtain ⟨le, r⟩ := hR.newF (D := s.heap.objs.size) (tk := s.toks + 1 + 1) (dr := s.drawn) (fun b o e => Heap.get?_push_of_some { cls := .type "tuple", data := .seq #[.int (i.fdiv j) s.toks, .int (i.fmod j) (s.toks + 1)] } e) (none_at_size _) (Heap.get?_push_size _ rfl)
      exact ⟨_, H, le, r, _, .tup (vs := [.int (i.fdiv j) s.toks, .int (i.fmod j) (s.toks + 1)]) (Fz.add_self _ _ _) rfl (RVs.get (.cons .int (.cons .int .nil))), F, m.trans le, h⟩
theorem append {a : Addr} {l : List V} {x : V} (hu : Upd H a (.list l) (.list (l ++ [x])) H') (hl : l.length ≤ sizeLine) (h : Q .none F H') : Cl G fr A F H (.blt "list.append") [.ref a, x] Q E := cl_b2 fun K m w v hw h2 => by
      refine hw.e_ref (P := fun w => EvAt _ _ _ _ _ (call _ [w, v]) _ _) fun R s hR => ?_
      obtain ⟨o, ho, items, n, rfl, hr⟩ := hR.get hu.mem
      have e := hr.toArr
      refine call_meets slot_list_append ⟨_, ho, rfl⟩ entry_list_append (args_list_append _ _) (PySem.AutoListH.list_append_list_val_0 a items n v (by rw [e]; exact hl)) ⟨ho, ?_⟩
      have g := Heap.get?_update_self (Obj.mapSeq fun x => x.push v) ho rfl
      exact ⟨K, H', .refl K, hR.upd' (tk := s.toks) (dr := s.drawn) hu (Heap.SameBut.update ..).extBut g ⟨_, _, rfl, by simpa using hr.append (.cons h2 .nil)⟩ notNs_list, _, .none, F, m, h⟩

noncomputable def Stores (env : Env) : List Str → List V → Fz → Hp → (Fz → Hp → Prop) → Prop
  | x :: xs, y :: ys, F, H, Q => Store env x y F H fun F1 H1 => Stores env xs ys F1 H1 Q
  | [], [], F, H, Q => Q F H
  | _, _, _, _, _ => False
noncomputable def nameOf? : Expr → Option (Str × Pos)
  | .Name x p => some (x, p)
  | _ => none
noncomputable def namesOf? : List Expr → Option (List Str)
  | [] => some []
  | e :: r => match nameOf? e, namesOf? r with
    | some p, some xs => some (p.1 :: xs)
    | _, _ => none
theorem nameOf_eq {e : Expr} {p : Str × Pos} (h : nameOf? e = some p) : e = .Name p.1 p.2 := by
  cases e <;> first | (cases h; rfl) | cases h
theorem namesOf_ind {P : List Expr → List Str → Prop} (h0 : P [] []) (h1 : ∀ x pos es xs, P es xs → P (.Name x pos :: es) (x :: xs)) : ∀ (es : List Expr) (xs : List Str), namesOf? es = some xs → P es xs
  | [], xs, h => Option.some.inj h ▸ h0
  | e :: r, xs, h => by
    have h : (match nameOf? e, namesOf? r with
      | some p, some xs => some (p.1 :: xs)
      | _, _ => none) = some xs := h
    cases e1 : nameOf? e with
    | none => rw [e1] at h; cases h
    | some p =>
      cases e2 : namesOf? r with
      | none => rw [e1, e2] at h; cases h
      | some ys =>
        rw [e1, e2] at h
        rw [nameOf_eq e1, ← Option.some.inj h]
        exact h1 _ _ _ _ (namesOf_ind h0 h1 r ys e2)
theorem assignAll_ (hk : env.scope.kind = .function) {es : List Expr} {xs : List Str} {ys : List V} {vs : List Value} {F K : Fz} {H : Hp} {Q : Fz → Hp → Prop} (m : F.le K) (hn : namesOf? es = some xs) (hl : ∀ x ∈ xs, env.kindOf x = some .local) (hv : RVs K vs ys) (h : Stores env xs ys F H Q) :
    TpAt G fr A K H (assignInOrder ((assignEach es env).map (·.2)) vs) (fun _ => Dn Q) E := by
  refine namesOf_ind (P := fun es xs => ∀ (ys : List V) (vs : List Value) (F K : Fz) (H : Hp), F.le K → (∀ x ∈ xs, env.kindOf x = some .local) → RVs K vs ys → Stores env xs ys F H Q → TpAt G fr A K H (assignInOrder ((assignEach es env).map (·.2)) vs) (fun _ => Dn Q) E) ?_ ?_ es xs hn ys vs F K H m hl hv h
  · intro ys vs F K H m hl hv h
    cases hv with
    | nil => exact fun R s hR => wpAny_pure (tret (Q := fun _ => Q) hR m h)
    | cons => exact h.elim
  · intro x pos es xs ih ys vs F K H m hl hv h R s hR
    cases hv with
    | nil => exact h.elim
    | @cons v y vs ys h1 h2 =>
      show wpAny _ _ (do holding vs (assign (.Name x pos) env v); assignInOrder ((assignEach es env).map (·.2)) vs) _ _ s
      refine wpAny_bind (wpAny_holding (wpAny_assign_Name ((store (G := G) (fr := fr) (A := A) (E := E) m h1 (show Store _ _ _ _ _ _ from h) hk (hl x (.head _))).seq hR (.refl K) fun _ K2 H2 s2 l2 r2 hq => ?_)))
      obtain ⟨F2, m2, q⟩ := hq
      exact (ih ys vs F2 K2 H2 m2 (fun x hx => hl x (.tail _ hx)) (h2.mono l2) q).last r2 l2
theorem extBut_keeps {h h' : Heap} (x : Heap.ExtBut h.objs.size h h') : ∀ b o, h.get? b = some o → h'.get? b = some o := fun b o e => x b o (Nat.ne_of_lt (Heap.lt_size e)) e
theorem assignEach_names {env : Env} {es : List Expr} {xs : List Str} (h : namesOf? es = some xs) : (assignEach es env).length = xs.length ∧ (assignEach es env).findIdx? (·.1) = none := by
  refine namesOf_ind (P := fun es xs => (assignEach es env).length = xs.length ∧ (assignEach es env).findIdx? (·.1) = none) ⟨rfl, rfl⟩ ?_ es xs h
  intro x pos es xs ih
  refine ⟨congrArg (· + 1) ih.1, ?_⟩
  show ((false, assign (.Name x pos) env) :: assignEach es env).findIdx? (·.1) = none
  rw [List.findIdx?_cons, ih.2]
  rfl
theorem As_Tuple {es : List Expr} {k pos} {xs : List Str} {ys : List V} {Q : Fz → Hp → Prop} (hh : A.handled = none) (hn : namesOf? es = some xs) (hl : (xs.all fun x => decide (env.kindOf x = some .local)) = true) (hlen : xs.length = ys.length) (h : Stores env xs ys F H Q)
    (hk : autoParam (env.scope.kind = .function) tac0) : As G fr A env F H (.Tuple es k pos) (.tup ys) Q E := fun K m v hv => by
  refine hv.e_tup (P := fun v => TpAt _ _ _ _ _ (assign _ _ v) _ _) fun a vs n ha hlv hr R s hR => ?_
  obtain ⟨e1, e2⟩ := assignEach_names (env := env) hn
  refine assign_Tuple_tuple (items := vs.toArray) hh ⟨_, hR.fz _ _ ha, rfl, n, rfl⟩ (by rw [e1]; simp; lia) e2 fun h' he => ?_
  exact (assignAll_ hk m hn (fun x hx => of_decide_eq_true (List.all_eq_true.mp hl x hx)) (RVs.of hlv hr) h) R _ (hR.keeps (tk := s.toks) (dr := s.drawn) (extBut_keeps he))
theorem Ex_Assign_Tuple {es : List Expr} {k pos' value pos} {xs : List Str} {Q : FV → Fz → Hp → Prop} (hh : A.handled = none) (hn : namesOf? es = some xs) (hl : (xs.all fun x => decide (env.kindOf x = some .local)) = true)
    (h : Ev G fr A F H (eval value env) (fun y F1 H1 => ∃ ys, y = .tup ys ∧ xs.length = ys.length ∧ Stores env xs ys F1 H1 (Q .next)) E)
    (hs : autoParam (swapsWithSole [.Tuple es k pos'] value pos.line env = pure false) tac0) (hw : autoParam (swappedStores [.Tuple es k pos'] value env = pure none) tac0) (hk : autoParam (env.scope.kind = .function) tac0) :
    Ex G fr A F H (exec (.Assign [.Tuple es k pos'] value pos) env) Q E := fun K m R s hR => by
  have he : exec (.Assign [.Tuple es k pos'] value pos) env = (do
    standAt pos
    if ← swapsWithSole [.Tuple es k pos'] value pos.line env then do
      evalThenUse value env fun v => assignAll v ((assignEach [.Tuple es k pos'] env).map (·.2))
      pure .next
    else do
      let v ← eval value env
      assignStores env v (← swappedStores [.Tuple es k pos'] value env) ((assignEach [.Tuple es k pos'] env).map (·.2))) := rfl
  rw [he, hs, hw]
  refine wpAny_bind (wpAny_standAt (wpAny_bind (wpAny_pure ?_)))
  simp only [Bool.false_eq_true, if_false]
  refine wpAny_bind (h.go m hR (.refl K) fun v y F1 K1 H1 s1 l1 m1 r1 hy hq => wpAny_bind (wpAny_pure ?_))
  obtain ⟨ys, rfl, hlen, q⟩ := hq
  show wpAny _ _ (do assignAll v [assign (.Tuple es k pos') env]; pure Flow.next) _ _ s1
  refine wpAny_bind ?_
  show wpAny _ _ (assign (.Tuple es k pos') env v) _ _ s1
  exact (As_Tuple (G := G) (fr := fr) (E := E) hh hn hl hlen q hk K1 m1 v hy).seq r1 l1 fun _ K2 H2 s2 l2 r2 hq => wpAny_pure (by obtain ⟨F2, m2, q⟩ := hq; exact upPQ (l1.trans l2) (fret r2 .next m2 q))
theorem Ex_Expr {e pos} {Q : FV → Fz → Hp → Prop} (h : Ev G fr A F H (eval e env) (fun x F1 H1 => x = .none ∧ Q .next F1 H1) E) (hi : autoParam (interactive env = false) tac0) (hs : autoParam (swapsWith e none pos.line env = pure false) tac0) :
    Ex G fr A F H (exec (.Expr e pos) env) Q E := fun K m R s hR =>
  wpAny_Expr (h.go m hR (.refl K) fun v x F1 K1 H1 s1 l1 m1 r1 hx hq => by
    obtain ⟨rfl, q⟩ := hq
    obtain rfl := hx.i_none
    exact upPQ l1 (fret r1 .next m1 q)) hi hs
theorem Ev_Tuple {elts : List Expr} {k pos} (h : Evs G fr A F H (spliced (backTo pos (starEach elts env))) (fun xs F1 H1 => xs.length ≤ sizeLine ∧ Q (.tup xs) F1 H1) E) : Ev G fr A F H (eval (.Tuple elts k pos) env) Q E := fun K m R s hR =>
  wpAny_Tuple (h.go m hR (.refl K) fun vs xs F1 K1 H1 s1 l1 m1 r1 hxs hq => by
    obtain ⟨hl, q⟩ := hq
    refine ⟨hxs.length.symm ▸ hl, ?_⟩
    obtain ⟨le, r⟩ := r1.newF (tk := s1.toks) (dr := s1.drawn) (fun b o e => Heap.get?_push_of_some _ e) (none_at_size s1.heap) (Heap.get?_push_size s1.heap (o := { cls := .type "tuple", data := .seq vs.toArray }) rfl)
    exact ⟨_, H1, l1.trans le, r, _, .tup (Fz.add_self _ _ _) hxs.length (hxs.mono le).get, F1, m1.trans le, q⟩)
theorem list_freeze {fr : List Env} {R : Hp} {s : Shared} {a : Addr} {l : List V} (r : Rep G fr F ((a, .list l) :: H ++ R) s) : ∃ F', F.le F' ∧ Rep G fr F' (H ++ R) s ∧ RV F' (.ref a) (.lst l) := by
  obtain ⟨o, ⟨vs, n, rfl, hr⟩, le, r'⟩ := Rep.freeze r fun ρ q => nomatch q
  exact ⟨_, le, r', .lst (vs := vs.toList) (n := n) (Fz.add_self _ _ _) rfl rfl hr.length (hr.mono le).get⟩
theorem Cl.freeze {f : V} {xs : List V} (h : Cl G fr A F H f xs (fun x F1 H1 => ∃ a l H2, x = .ref a ∧ Rem H1 a (.list l) H2 ∧ Q (.lst l) F1 H2) E) : Cl G fr A F H f xs Q E := fun K m v vs hv hvs R s hR => by
  refine wpAny_mono (h K m v vs hv hvs R s hR) (fun v s' hq => ?_) fun _ _ x => x
  obtain ⟨K1, H1, l1, r1, x, hx, F1, m1, a, l, H2, rfl, hrem, q⟩ := hq
  obtain rfl := hx.i_ref
  obtain ⟨K2, l2, r2, hv2⟩ := list_freeze (r1.perm (hrem.perm.append_right R))
  exact ⟨K2, H2, l1.trans l2, r2, _, hv2, F1, m1.trans l2, q⟩
theorem Rep.freezeN {R : Hp} {s : Shared} {x : Str} {L a : Addr} {l : List V} {ρ ρ' : List (Str × Option V)} {H1 H2 : Hp} (hr : Rem H a (.list l) H1) (hu : Upd H1 L (.ns ρ) (.ns ρ') H2) (hx : Lk ρ x (.ref a)) (hs : SetL ρ x (some (.lst l)) ρ')
    (hR : Rep G fr F (H ++ R) s) : ∃ F', F.le F' ∧ Rep G fr F' (H2 ++ R) s := by
  obtain ⟨F', le, r1, hv⟩ := list_freeze (hR.perm (hr.perm.append_right R))
  refine ⟨F', le, ?_⟩
  obtain ⟨o, ho, es, ep, hd, hk, nd, hp⟩ := r1.get hu.mem
  refine r1.upd' (h' := s.heap) (tk := s.toks) (dr := s.drawn) (o' := o) hu (Heap.ExtBut.refl _ _) ho ⟨es, ep, hd, hk, by rw [hs.names.1]; exact nd, fun p hpm => ?_⟩ fun _ => ⟨_, rfl⟩
  rcases hs.spec nd p hpm with ⟨h1, h2⟩ | ⟨h1, h2⟩
  · rw [h2]
    obtain ⟨v, q1, q2⟩ := hp _ hx.mem
    obtain rfl := q2.i_ref
    exact ⟨_, by rw [h1]; exact q1, hv⟩
  · exact hp p h2
theorem Ex_freeze {t : Sem Flow} {Q : FV → Fz → Hp → Prop} (x : Str) {L a : Addr} {l : List V} {ρ ρ' : List (Str × Option V)} {H1 H2 : Hp} (hr : Rem H a (.list l) H1) (hu : Upd H1 L (.ns ρ) (.ns ρ') H2) (hx : Lk ρ x (.ref a)) (hs : SetL ρ x (some (.lst l)) ρ')
    (h : Ex G fr A F H2 t Q E) : Ex G fr A F H t Q E := fun K m R s hR => by
  obtain ⟨K', le, r2⟩ := Rep.freezeN hr hu hx hs hR
  exact h.last (m.trans le) r2 le
end
noncomputable def mkRhoB : List Bool → List Str → List V → List Str → List (Str × Option V)
  | true :: ks, n :: ns, x :: xs, r => (n, some x) :: mkRhoB ks ns xs r
  | false :: ks, _ :: ns, _ :: xs, r => mkRhoB ks ns xs r
  | _, _, _, r => r.map fun n => (n, none)
noncomputable def initB : List Bool → List Str → List V → Str → Option V
  | true :: ks, _ :: ns, _ :: xs, c => initB ks ns xs c
  | false :: ks, n :: ns, x :: xs, c => if n = c then some x else initB ks ns xs c
  | _, _, _, _ => none
noncomputable def namesB : List Bool → List Str → List Str
  | true :: ks, n :: ns => n :: namesB ks ns
  | false :: ks, _ :: ns => namesB ks ns
  | _, _ => []
noncomputable def kindB (k : Str → Option NameKind) : List Bool → List Str → Bool
  | true :: ks, n :: ns => decide (k n = some .local) && kindB k ks ns
  | false :: ks, n :: ns => decide (k n = some .cell) && kindB k ks ns
  | [], [] => true
  | _, _ => false
inductive LkO (F : Fz) : Option Value → Option V → Prop where
  | none : LkO F none none
  | some {v : Value} {x : V} (h : RV F v x) : LkO F (some v) (some x)
theorem and_l {a b : Bool} (h : (a && b) = true) : a = true := by cases a with | true => rfl | false => exact h
theorem and_r {a b : Bool} (h : (a && b) = true) : b = true := by cases a with | true => exact h | false => exact Bool.noConfusion h
section
variable {F : Fz}
theorem kindB_ind {k : Str → Option NameKind} {P : List Bool → List Str → Prop} (h0 : P [] []) (h1 : ∀ ks n ns, k n = some .local → P ks ns → P (true :: ks) (n :: ns)) (h2 : ∀ ks n ns, k n = some .cell → P ks ns → P (false :: ks) (n :: ns)) :
    ∀ (ks : List Bool) (ns : List Str), kindB k ks ns = true → P ks ns
  | [], [], _ => h0
  | true :: ks, n :: ns, h => h1 _ _ _ (of_decide_eq_true (and_l h)) (kindB_ind h0 h1 h2 ks ns (and_r h))
  | false :: ks, n :: ns, h => h2 _ _ _ (of_decide_eq_true (and_l h)) (kindB_ind h0 h1 h2 ks ns (and_r h))
  | [], _ :: _, h => Bool.noConfusion (h : false = true)
  | true :: _, [], h => Bool.noConfusion (h : false = true)
  | false :: _, [], h => Bool.noConfusion (h : false = true)
theorem bindL_not {k : Str → Option NameKind} {n : Str} : ∀ {binds : List (Str × Value)} {m : Str → Option Value}, (n ∉ binds.map (·.1) ∨ k n ≠ some .local) → bindL k binds m n = m n
  | [], m, _ => rfl
  | (n', v) :: r, m, h => by
    refine (bindL_not (binds := r) (h.imp (fun q m => q (.tail _ m)) id)).trans ?_
    split
    · rename_i hk
      exact if_neg fun (e : n = n') => h.elim (fun q => q (e ▸ .head _)) fun q => q (e ▸ hk)
    · rfl
theorem bindC_not {k : Str → Option NameKind} {n : Str} : ∀ {binds : List (Str × Value)} {m : Str → Option Value}, n ∉ binds.map (·.1) → bindC k binds m n = m n
  | [], m, _ => rfl
  | (n', v) :: r, m, h => by
    refine (bindC_not (binds := r) fun m => h (.tail _ m)).trans ?_
    split
    · rfl
    · exact if_neg fun (e : n = n') => h (e ▸ .head _)
theorem mem_mkRhoB {k : Str → Option NameKind} {r : List Str} : ∀ {ks : List Bool} {ns : List Str} {xs : List V} {vs : List Value} (m : Str → Option Value), kindB k ks ns = true → ns.length = xs.length → (ns ++ r).Nodup → RVs F vs xs → (∀ n ∈ r, m n = none) →
    ∀ p ∈ mkRhoB ks ns xs r, LkO F (bindL k (ns.zip vs) m p.1) p.2 := fun {ks ns xs vs} m hk => by
  refine kindB_ind (P := fun ks ns => ∀ (xs : List V) (vs : List Value) (m : Str → Option Value), ns.length = xs.length → (ns ++ r).Nodup → RVs F vs xs → (∀ n ∈ r, m n = none) → ∀ p ∈ mkRhoB ks ns xs r, LkO F (bindL k (ns.zip vs) m p.1) p.2) ?_ ?_ ?_ ks ns hk xs vs m
  · intro xs vs m _ _ _ hm p hp
    obtain ⟨n, hn, rfl⟩ := List.mem_map.mp hp
    show LkO F (m n) none
    rw [hm n hn]; exact .none
  · intro ks n ns hk ih xs vs m hl hnd h hm p hp
    cases h with
    | nil => cases hl
    | @cons v x vs xs hv t =>
      have hl' := Nat.succ.inj hl
      have hnd := List.nodup_cons.mp hnd
      show LkO F (bindL k (ns.zip vs) (if _ then _ else _) p.1) p.2
      rw [if_pos hk]
      rcases List.mem_cons.mp hp with rfl | hp
      · show LkO F (bindL k (ns.zip vs) _ n) (some x)
        rw [bindL_not (.inl (by rw [zip_names (hl'.trans t.length.symm)]; exact fun q => hnd.1 (List.mem_append_left _ q))), if_pos rfl]
        exact .some hv
      · exact ih xs vs _ hl' hnd.2 t (fun y hy => (if_neg fun (q : y = n) => hnd.1 (q ▸ List.mem_append_right _ hy)).trans (hm y hy)) p hp
  · intro ks n ns hk ih xs vs m hl hnd h hm p hp
    cases h with
    | nil => cases hl
    | @cons v x vs xs hv t =>
      show LkO F (bindL k (ns.zip vs) (if _ then _ else _) p.1) p.2
      rw [if_neg (by rw [hk]; decide)]
      exact ih xs vs _ (Nat.succ.inj hl) (List.nodup_cons.mp hnd).2 t hm p hp
theorem initB_spec {k : Str → Option NameKind} {c : Str} (hc : k c = some .cell) : ∀ {ks : List Bool} {ns : List Str} {xs : List V} {vs : List Value} (m : Str → Option Value), kindB k ks ns = true → ns.length = xs.length → ns.Nodup → RVs F vs xs → m c = none →
    LkO F (bindC k (ns.zip vs) m c) (initB ks ns xs c) := fun {ks ns xs vs} m hk => by
  refine kindB_ind (P := fun ks ns => ∀ (xs : List V) (vs : List Value) (m : Str → Option Value), ns.length = xs.length → ns.Nodup → RVs F vs xs → m c = none → LkO F (bindC k (ns.zip vs) m c) (initB ks ns xs c)) ?_ ?_ ?_ ks ns hk xs vs m
  · intro xs vs m _ _ _ hm
    show LkO F (m c) none
    rw [hm]; exact .none
  · intro ks n ns hk ih xs vs m hl hnd h hm
    cases h with
    | nil => cases hl
    | @cons v x vs xs hv t =>
      show LkO F (bindC k (ns.zip vs) (if _ then _ else _) c) _
      rw [if_pos hk]
      exact ih xs vs _ (Nat.succ.inj hl) (List.nodup_cons.mp hnd).2 t hm
  · intro ks n ns hk ih xs vs m hl hnd h hm
    cases h with
    | nil => cases hl
    | @cons v x vs xs hv t =>
      have hl' := Nat.succ.inj hl
      show LkO F (bindC k (ns.zip vs) (if _ then _ else _) c) (if n = c then some x else _)
      rw [if_neg (by rw [hk]; decide)]
      by_cases hnc : n = c
      · rw [if_pos hnc, bindC_not (by rw [zip_names (hl'.trans t.length.symm), ← hnc]; exact (List.nodup_cons.mp hnd).1), if_pos hnc.symm]
        exact .some hv
      · rw [if_neg hnc]
        exact ih xs vs _ hl' (List.nodup_cons.mp hnd).2 t ((if_neg fun q => hnc q.symm).trans hm)
theorem mkRhoB_names {k : Str → Option NameKind} {ks : List Bool} {ns : List Str} {xs : List V} {r : List Str} (hk : kindB k ks ns = true) (hl : ns.length = xs.length) : (mkRhoB ks ns xs r).map (·.1) = namesB ks ns ++ r := by
  refine kindB_ind (P := fun ks ns => ∀ xs : List V, ns.length = xs.length → (mkRhoB ks ns xs r).map (·.1) = namesB ks ns ++ r) ?_ ?_ ?_ ks ns hk xs hl
  · exact fun xs _ => (List.map_map ..).trans (List.map_id r)
  · intro ks n ns _ ih xs hl
    cases xs with
    | nil => cases hl
    | cons x xs => exact congrArg (n :: ·) (ih xs (Nat.succ.inj hl))
  · intro ks n ns _ ih xs hl
    cases xs with
    | nil => cases hl
    | cons x xs => exact ih xs (Nat.succ.inj hl)
theorem kindB_mem {k : Str → Option NameKind} {ks : List Bool} {ns : List Str} (hk : kindB k ks ns = true) : ∀ n ∈ ns, k n = some .local ∨ (k n = some .cell ∧ (false, n) ∈ ks.zip ns) := by
  refine kindB_ind (P := fun ks ns => ∀ n ∈ ns, k n = some .local ∨ (k n = some .cell ∧ (false, n) ∈ ks.zip ns)) (fun _ h => nomatch h) ?_ ?_ ks ns hk
  · exact fun ks n ns hk ih x hx => (List.mem_cons.mp hx).elim (fun e => .inl (e ▸ hk)) fun hx => (ih x hx).imp id fun q => ⟨q.1, .tail _ q.2⟩
  · exact fun ks n ns hk ih x hx => (List.mem_cons.mp hx).elim (fun e => .inr ⟨e ▸ hk, e ▸ .head _⟩) fun hx => (ih x hx).imp id fun q => ⟨q.1, .tail _ q.2⟩
end
theorem zip_unzip' {α β : Type} : ∀ (l : List (α × β)), (l.map (·.1)).zip (l.map (·.2)) = l
  | [] => rfl
  | (a, b) :: l => congrArg ((a, b) :: ·) (zip_unzip' l)
theorem lookup_isSome {β : Type} : ∀ {l : List (Str × β)} {n : Str}, n ∈ l.map (·.1) → (l.lookup n).isSome = true
  | (n', v') :: l, n, h => by
    show (match n == n' with | true => some v' | false => l.lookup n).isSome = true
    cases e : n == n' with
    | true => rfl
    | false => exact lookup_isSome ((List.mem_cons.mp h).resolve_left (ne_of_beq_false e))
section
variable {G : Glob} {fr : List Env} {A : Around} {F : Fz} {H : Hp} {E : Value → Fz → Hp → Prop} {E' : Addr → Value → Fz → Hp → Prop} {Q : V → Fz → Hp → Prop}
theorem Rep.newCells {R : Hp} {s : Shared} (hR : Rep G fr F R s) : ∀ (cells : List (Str × Addr)) (f : Str → Option V) (H0 : Hp), (∀ p ∈ cells, F p.2 = none ∧ ∃ o, s.heap.get? p.2 = some o ∧ RO G.w F o (.cell (f p.1))) → (cells.map (·.2)).Nodup → (∀ p ∈ cells, p.2 ∉ R.map (·.1)) →
    Rep G fr F (cells.map (fun p => (p.2, AO.cell (f p.1))) ++ R) s
  | [], f, H0, _, _, _ => hR
  | p :: cells, f, H0, h, hnd, hR' => by
    rw [List.map_cons, List.nodup_cons] at hnd
    have ih := Rep.newCells hR cells f H0 (fun q hq => h q (.tail _ hq)) hnd.2 (fun q hq => hR' q (.tail _ hq))
    obtain ⟨h1, o, h2, h3⟩ := h p (.head _)
    rw [List.map_cons, List.cons_append]
    refine ⟨ih.gok, ih.base, ih.fz, fun q hq => ?_, ?_, fun e he => ⟨(ih.frs e he).1, by obtain ⟨L, ρ, a, b⟩ := (ih.frs e he).2; exact ⟨L, ρ, a, .tail _ b⟩⟩, ih.gens, ih.os⟩
    · rcases List.mem_cons.mp hq with rfl | hq
      · exact ⟨h1, o, h2, h3⟩
      · exact ih.own q hq
    · rw [List.map_cons, List.nodup_cons]
      refine ⟨fun q => ?_, ih.nd⟩
      rw [List.map_append, List.mem_append] at q
      rcases q with q | q
      · rw [List.map_map] at q
        exact hnd.1 q
      · exact hR' p (.head _) q
theorem code_cells {a : Addr} {fo : Obj} {name qual : Str} {params : Arguments} {scope : Scope} {dV kV doc pm cdv ct : Value} {an : Option Addr} {body : List Stmt} {xs : List V} (hf : F a = some fo)
    (hd : fo.data = .func (fnX name qual params body scope [] dV kV doc pm an cdv ct)) (hcd : CodeF F cdv qual)
    (ks : List Bool) (ns rest cns : List Str) {inits : List (Option V)} (hn : ns.length = xs.length) (hnd : (ns ++ rest).Nodup) (hndB : (namesB ks ns ++ rest).Nodup) (hbind : ∀ vs : List Value, vs.length = xs.length → bindArgs (fnX name qual params body scope [] dV kV doc pm an cdv ct) ⟨vs, []⟩ = pure (ns.zip vs))
    (hkind : kindB (fun x => scope.names.lookup x) ks ns = true) (hcm : ((ks.zip ns).all fun p => p.1 || cns.contains p.2) = true) (hcn : ∀ n, (cellsFrom n scope.names []).map (·.1) = cns) (hcnd : cns.Nodup) (hck : (cns.all fun x => decide (scope.names.lookup x = some .cell)) = true) (hin : cns.map (initB ks ns xs) = inits)
    (hroom : A.depth < recursionLimit) (hE : ∀ L cl, Leaves G fr A (envX qual scope L a cdv cl) (E' L) E)
    (h : ∀ L cs A', cs.length = cns.length → Deep A A' (envX qual scope L a cdv (cns.zip cs)) → Ex G (envX qual scope L a cdv (cns.zip cs) :: fr) A' F ((L, .ns (mkRhoB ks ns xs rest)) :: (cs.zip (inits.map AO.cell) ++ H)) (execs body (envX qual scope L a cdv (cns.zip cs))) (Ret L Q) (E' L))
    {K : Fz} (m : F.le K) {vs : List Value} (hvs : RVs K vs xs) {R : Hp} {s : Shared} (hR : Rep G fr K (H ++ R) s)
    (hco : autoParam (scope.isCoroutine = false) tac0) (hgen : autoParam (scope.isGenerator = false) tac0) (hk : autoParam (scope.kind = .function) tac0) :
    codeAny G.M A (.call (.ref a) ⟨vs, []⟩) (fun r s' => match r with | .ok (.ret v) => PQ G fr K R (VQ Q) v s' | .ok _ => False | .error e => PQ G fr K R (fun e => Dn (E e)) e s') s := by
  have hlen := hvs.length
  have hz : (ns.zip vs).map (·.1) = ns := zip_names (by lia)
  refine codeAny_call_cells hroom (hR.fz _ _ (m _ _ hf)) hd hR.glob.2.2 ((hcd.mono m).crec hR.fz) rfl (hbind vs hlen) rfl (fun x hx => ?_) (fun s₁ x => ?_) hco hgen hk
  · have hx' := (List.of_mem_zip hx).1
    rcases kindB_mem hkind x.1 hx' with q | ⟨q, q'⟩
    · exact .inl q
    · refine .inr ⟨q, lookup_isSome ?_⟩
      rw [hcn]
      have := List.all_eq_true.mp hcm _ q'
      simpa using this
  · have henv : callEnvC (fnX name qual params body scope [] dV kV doc pm an cdv ct) s.heap.objs.size a = envX qual scope s.heap.objs.size a cdv (cns.zip ((cellsFrom (s.heap.objs.size + 1) scope.names []).map (·.2))) := by
      rw [← hcn (s.heap.objs.size + 1), zip_unzip']; rfl
    have hcells : cns.zip ((cellsFrom (s.heap.objs.size + 1) scope.names []).map (·.2)) = cellsFrom (s.heap.objs.size + 1) scope.names [] := by rw [← hcn (s.heap.objs.size + 1), zip_unzip']
    obtain ⟨⟨⟨h₁, tk, rfl⟩, hns, hkeep, hfresh⟩, hcell, hapart, habove⟩ := x
    rw [henv]
    have hns' : h₁.Ns s.heap.objs.size (bindL (fun x => scope.names.lookup x) (ns.zip vs) fun _ => none) := hns
    have hcell' : ∀ n c, (n, c) ∈ cellsFrom (s.heap.objs.size + 1) scope.names [] → h₁.IsCell c (bindC (fun x => scope.names.lookup x) (ns.zip vs) (fun _ => none) n) := fun n c hm => hcell n c (lookup_mem (l := cellsFrom (s.heap.objs.size + 1) scope.names []) (by rw [hcn]; exact hcnd) hm)
    have habove' : ∀ n c, (n, c) ∈ cellsFrom (s.heap.objs.size + 1) scope.names [] → s.heap.objs.size < c := habove
    have hapart' : (cellsFrom (s.heap.objs.size + 1) scope.names []).Pairwise fun x y => x.2 ≠ y.2 := hapart
    have hkeep' : ∀ b o, s.heap.get? b = some o → h₁.get? b = some o := hkeep
    have fresh : ∀ env ∈ fr, env.frame ≠ some s.heap.objs.size := fun env he e => by
      obtain ⟨L, ρ, q, m⟩ := (hR.frs env he).2
      obtain ⟨_, o, g, _⟩ := hR.own _ m
      rw [Option.some.inj (q.symm.trans e)] at g
      exact absurd (Heap.lt_size g) (Nat.lt_irrefl _)
    have gone : ∀ c, s.heap.objs.size ≤ c → s.heap.get? c = none := fun c hc => by
      cases q : s.heap.get? c with
      | none => rfl
      | some o => exact absurd (Heap.lt_size q) (Nat.not_lt.mpr hc)
    have r0 : Rep G fr K (H ++ R) { s with heap := h₁, toks := tk } := hR.keeps (tk := tk) (dr := s.drawn) hkeep'
    have r1 : Rep G fr K ((cellsFrom (s.heap.objs.size + 1) scope.names []).map (fun p => (p.2, AO.cell (initB ks ns xs p.1))) ++ (H ++ R)) { s with heap := h₁, toks := tk } := by
      refine r0.newCells _ (initB ks ns xs) [] (fun p hp => ?_) ?_ fun p hp => ?_
      · have hs := habove' p.1 p.2 hp
        obtain ⟨o, ho, hdd⟩ := hcell' p.1 p.2 hp
        refine ⟨(hR.fresh (gone _ (by lia))).1, o, ho, ?_⟩
        have hkc : scope.names.lookup p.1 = some .cell := of_decide_eq_true (List.all_eq_true.mp hck p.1 (by rw [← hcn (s.heap.objs.size + 1)]; exact List.mem_map_of_mem hp))
        have q := initB_spec (F := K) hkc (fun _ => none) hkind hn (List.nodup_append.mp hnd).1 hvs rfl
        generalize initB ks ns xs p.1 = z at q ⊢
        generalize bindC (fun x => scope.names.lookup x) (ns.zip vs) (fun _ => none) p.1 = y at q hdd
        cases q with
        | none => exact hdd
        | some h2 => exact ⟨_, hdd, h2⟩
      · exact List.pairwise_map.mpr hapart'
      · exact (hR.fresh (gone _ (Nat.le_of_lt (habove' p.1 p.2 hp)))).2
    have r2 : Rep G (envX qual scope s.heap.objs.size a cdv (cns.zip ((cellsFrom (s.heap.objs.size + 1) scope.names []).map (·.2))) :: fr) K ((s.heap.objs.size, AO.ns (mkRhoB ks ns xs rest)) :: ((cellsFrom (s.heap.objs.size + 1) scope.names []).map (fun p => (p.2, AO.cell (initB ks ns xs p.1))) ++ (H ++ R))) { s with heap := h₁, toks := tk } := by
      obtain ⟨o, es, ep, ho, hdd, hkk, hff⟩ := hns'
      refine ⟨r1.gok, r1.base, r1.fz, fun q hq => ?_, ?_, fun env he => ?_, r1.gens, r1.os⟩
      · rcases List.mem_cons.mp hq with rfl | hq
        · refine ⟨(hR.fresh (none_at_size _)).1, o, ho, es, ep, hdd, hkk, by rw [mkRhoB_names hkind hn]; exact hndB, fun p hp => ?_⟩
          have q := mem_mkRhoB (F := K) (fun _ => none) hkind hn hnd hvs (fun _ _ => rfl) p hp
          generalize hz : bindL (fun x => scope.names.lookup x) (ns.zip vs) (fun _ => none) p.1 = z at q
          generalize p.2 = y at q ⊢
          cases q with
          | none => trivial
          | some h2 => exact ⟨_, (hff _).trans hz, h2⟩
        · exact r1.own q hq
      · rw [List.map_cons, List.nodup_cons]
        refine ⟨fun q => ?_, r1.nd⟩
        rw [List.map_append, List.mem_append] at q
        rcases q with q | q
        · rw [List.map_map] at q
          obtain ⟨p, hp, e⟩ := List.mem_map.mp q
          have := habove' p.1 p.2 hp
          have e' : p.2 = s.heap.objs.size := e
          rw [e'] at this
          exact Nat.lt_irrefl _ this
        · exact (hR.fresh (none_at_size _)).2 q
      · rcases List.mem_cons.mp he with rfl | he
        · exact ⟨hk, _, _, rfl, .head _⟩
        · exact ⟨(r1.frs env he).1, by obtain ⟨L, ρ, a, b⟩ := (r1.frs env he).2; exact ⟨L, ρ, a, .tail _ b⟩⟩
    have e3 : (cellsFrom (s.heap.objs.size + 1) scope.names []).map (fun p => (p.2, AO.cell (initB ks ns xs p.1))) = ((cellsFrom (s.heap.objs.size + 1) scope.names []).map (·.2)).zip (inits.map AO.cell) := by
      rw [← hin, ← hcn (s.heap.objs.size + 1)]
      generalize cellsFrom (s.heap.objs.size + 1) scope.names [] = l
      induction l with
      | nil => rfl
      | cons p l ih => simp only [List.map_cons, List.zip_cons_cons, ih]
    rw [e3, ← List.append_assoc, ← List.cons_append] at r2
    refine wpAny_mono (h s.heap.objs.size ((cellsFrom (s.heap.objs.size + 1) scope.names []).map (·.2)) _ (by rw [List.length_map, ← hcn (s.heap.objs.size + 1), List.length_map]) (deep A _) K m R _ r2) (fun f s' hq => ?_) fun e s' q => wpAny_mono (hE _ _ fresh K R e s' q) (fun _ _ x => x) fun _ _ x => x
    obtain ⟨F', H', l', r', fv, hfv, F1, m1, ρ, H2, hrem, q⟩ := hq
    have r3 : Rep G fr F' (H2 ++ R) s' := (r'.pop.perm (hrem.perm.append_right R)).drop fresh
    refine ⟨F', H2, l', r3, _, ?_, F1, m1, q⟩
    cases hfv with
    | next => exact .none
    | brk => exact .none
    | cont => exact .none
    | ret hx => exact hx
theorem call_cells {a : Addr} {fo : Obj} {name qual : Str} {params : Arguments} {scope : Scope} {dV kV doc pm cdv ct : Value} {an : Option Addr} {body : List Stmt} {xs : List V} (hf : F a = some fo)
    (hd : fo.data = .func (fnX name qual params body scope [] dV kV doc pm an cdv ct)) (hcd : CodeF F cdv qual)
    (ks : List Bool) (ns rest cns : List Str) {inits : List (Option V)} (hn : ns.length = xs.length) (hnd : (ns ++ rest).Nodup) (hndB : (namesB ks ns ++ rest).Nodup) (hbind : ∀ vs : List Value, vs.length = xs.length → bindArgs (fnX name qual params body scope [] dV kV doc pm an cdv ct) ⟨vs, []⟩ = pure (ns.zip vs))
    (hkind : kindB (fun x => scope.names.lookup x) ks ns = true) (hcm : ((ks.zip ns).all fun p => p.1 || cns.contains p.2) = true) (hcn : ∀ n, (cellsFrom n scope.names []).map (·.1) = cns) (hcnd : cns.Nodup) (hck : (cns.all fun x => decide (scope.names.lookup x = some .cell)) = true) (hin : cns.map (initB ks ns xs) = inits)
    (hroom : A.depth < recursionLimit) (hE : ∀ L cl, Leaves G fr A (envX qual scope L a cdv cl) (E' L) E)
    (h : ∀ L cs A', cs.length = cns.length → Deep A A' (envX qual scope L a cdv (cns.zip cs)) → Ex G (envX qual scope L a cdv (cns.zip cs) :: fr) A' F ((L, .ns (mkRhoB ks ns xs rest)) :: (cs.zip (inits.map AO.cell) ++ H)) (execs body (envX qual scope L a cdv (cns.zip cs))) (Ret L Q) (E' L))
    (hco : autoParam (scope.isCoroutine = false) tac0) (hgen : autoParam (scope.isGenerator = false) tac0) (hk : autoParam (scope.kind = .function) tac0) : Cl G fr A F H (.ref a) xs Q E := fun K m v vs hv hvs R s hR => by
  obtain rfl := hv.i_ref
  exact wpAny_call (code_cells hf hd hcd ks ns rest cns hn hnd hndB hbind hkind hcm hcn hcnd hck hin hroom hE h m hvs hR hco hgen hk)
end
noncomputable def tabsH (tabs : List (Addr × Addr)) : Hp := tabs.map fun q => (q.2, AO.raw (tabObj #[]))
noncomputable def topG (prog : Program) (w : World) (s₁ : Shared) (tabs : List (Addr × Addr)) (mg mb : Str → Option Value) : Glob := { prog, w, F0 := (ghostOf s₁.heap tabs).get?, os := s₁.os, mg, mb }
theorem ints_rv {F : Fz} {vs : List Value} {zs : List Int} (h : IntsAre vs zs) : RVs F vs (zs.map .int) := by
  induction h with
  | nil => exact .nil
  | cons => rename_i ih; exact .cons .int ih
theorem grown_all {h : Heap} : ∀ {tabs : List (Addr × Addr)}, (∀ q ∈ tabs, GrownAt q.2 h) → GrownAll tabs h
  | [], _ => trivial
  | q :: _, k => ⟨k q (.head _), grown_all fun q hq => k q (.tail _ hq)⟩
theorem law_top {prog : Program} {w : World} {s₁ : Shared} {cw : ClaimW} {cl : Str → Option Addr} {mean : ExcName → Option Value} {args : List WData} {tabs : List (Addr × Addr)} {mg mb : Str → Option Value} {fa a : Addr} {vs : List Value} {zs : List Int}
    (hT : TabsAt tabs s₁.heap) (hnd : (tabs.map (·.2)).Nodup) (hr : ∀ a x, cw.raises a x = false) (hpost : cw.post args (.bool true) args = true) (hg : s₁.gens = #[]) (hL : s₁.heap.IsList a vs.toArray) (hI : IntsAre vs zs) (gok : GOk (topG prog w s₁ tabs mg mb))
    (h : ∀ R s, Rep (topG prog w s₁ tabs mg mb) [] (ghostOf s₁.heap tabs).get? (tabsH tabs ++ R) s → ∀ xs, RVs (ghostOf s₁.heap tabs).get? xs [.lst (zs.map .int)] →
      codeAny (model prog w) callerA (.call (.ref fa) ⟨xs, []⟩) (fun r s' => match r with
        | .ok (.ret v) => PQ (topG prog w s₁ tabs mg mb) [] (ghostOf s₁.heap tabs).get? R (VQ fun x _ H' => x = .bool true ∧ ∀ q ∈ tabs, ∃ ps, (q.2, AO.raw (tabObj ps)) ∈ H') v s'
        | .ok _ => False
        | .error e => PQ (topG prog w s₁ tabs mg mb) [] (ghostOf s₁.heap tabs).get? R (fun e => Dn (No e)) e s') s) :
    wpAny (model prog w) callerA (call (.ref fa) [.ref a]) (fun v s' => GoodWG cw cl mean args s₁ (.ok (.ret v)) s') (fun e s' => GoodWG cw cl mean args s₁ (.error e) s') s₁ := by
  have gn : ∀ q ∈ tabs, (ghostOf s₁.heap tabs).get? q.2 = none := fun q hq => hideAll_none _ (List.mem_map_of_mem hq)
  have rep : Rep (topG prog w s₁ tabs mg mb) [] (ghostOf s₁.heap tabs).get? (tabsH tabs ++ []) s₁ := by
    refine ⟨gok, fun _ _ e => e, fun a o e => of_hideAll _ e, fun p hp => ?_, ?_, (fun _ h => nomatch h), hg, rfl⟩
    · rw [List.append_nil] at hp
      obtain ⟨q, hq, rfl⟩ := List.mem_map.mp hp
      exact ⟨gn q hq, _, (hT q hq).2, rfl⟩
    · rw [List.append_nil]
      unfold tabsH
      rw [List.map_map]
      exact hnd
  have hl : RVs (ghostOf s₁.heap tabs).get? [.ref a] [.lst (zs.map .int)] := by
    obtain ⟨o, ho, hc, n, hd⟩ := hL
    have hr := ints_rv (F := (ghostOf s₁.heap tabs).get?) hI
    refine .cons (.lst (o := o) (vs := vs) (n := n) ?_ hc hd hr.length hr.get) .nil
    refine ghost_ne ho fun hm => ?_
    obtain ⟨q, hq, rfl⟩ := List.mem_map.mp hm
    rw [(hT q hq).2] at ho
    cases ho
    cases hc
  refine wpAny_call (codeAny_mono (kn_post (cl := cl) (mean := mean) (args := args) hT hr (codeAny_mono (h [] s₁ rep _ hl) fun r s' hq => ?_)) fun r s' hq => ?_)
  · cases r with
    | error e => exact (noPQ (v := e) hq).elim
    | ok f =>
      cases f with
      | ret v =>
        obtain ⟨F', H', le, r', x, hx, _, _, e, ht⟩ := hq
        subst e
        cases hx
        refine ⟨⟨.inl ⟨_, .bool true, [], rfl, fun _ => hr _ _, .bool true, hpost, fun _ => ⟨.nil, (fun _ h => nomatch h)⟩⟩, fun b o e => r'.fz b o (le b o e), r'.os, r'.gens⟩, ?_⟩
        exact grown_all fun q hq => by
          obtain ⟨ps, hm⟩ := ht q hq
          obtain ⟨o, ho, hro⟩ := r'.get hm
          exact ⟨ps, by rw [ho]; exact congrArg some hro⟩
      | _ => exact hq.elim
  · cases r with
    | error e => exact hq
    | ok f =>
      have hv : ∃ v, f = .ret v := by
        rcases hq.1 with ⟨v, _, _, q, _⟩ | ⟨_, _, _, q, _⟩
        · cases q; exact ⟨_, rfl⟩
        · cases q
      obtain ⟨v, rfl⟩ := hv
      exact hq
theorem len0 {α : Type} {l : List α} (h : l.length = 0) : l = [] := List.length_eq_zero_iff.mp h
theorem lenC {α : Type} {l : List α} {n : Nat} (h : l.length = n + 1) : ∃ a t, l = a :: t ∧ t.length = n := by
  cases l with
  | nil => cases h
  | cons a t => exact ⟨a, t, rfl, Nat.succ.inj h⟩
theorem len1 {α : Type} {l : List α} (h : l.length = 1) : ∃ a, l = [a] := by obtain ⟨a, _, e, h⟩ := lenC h; exact ⟨a, by rw [e, len0 h]⟩
theorem len2 {α : Type} {l : List α} (h : l.length = 2) : ∃ a b, l = [a, b] := by obtain ⟨a, _, e, h⟩ := lenC h; exact by obtain ⟨b, e'⟩ := len1 h; exact ⟨a, b, by rw [e, e']⟩
theorem len3 {α : Type} {l : List α} (h : l.length = 3) : ∃ a b c, l = [a, b, c] := by obtain ⟨a, _, e, h⟩ := lenC h; exact by obtain ⟨b, c, e'⟩ := len2 h; exact ⟨a, b, c, by rw [e, e']⟩
theorem len4 {α : Type} {l : List α} (h : l.length = 4) : ∃ a b c d, l = [a, b, c, d] := by obtain ⟨a, _, e, h⟩ := lenC h; exact by obtain ⟨b, c, d, e'⟩ := len3 h; exact ⟨a, b, c, d, by rw [e, e']⟩
theorem len5 {α : Type} {l : List α} (h : l.length = 5) : ∃ a b c d e, l = [a, b, c, d, e] := by obtain ⟨a, _, e, h⟩ := lenC h; exact by obtain ⟨b, c, d, f, e'⟩ := len4 h; exact ⟨a, b, c, d, f, by rw [e, e']⟩
theorem len6 {α : Type} {l : List α} (h : l.length = 6) : ∃ a b c d e f, l = [a, b, c, d, e, f] := by obtain ⟨a, _, e, h⟩ := lenC h; exact by obtain ⟨b, c, d, f, g, e'⟩ := len5 h; exact ⟨a, b, c, d, f, g, by rw [e, e']⟩
inductive LstIs (H : Hp) : V → List V → Prop where
  | lst {l : List V} : LstIs H (.lst l) l
  | own {a : Addr} {l : List V} (h : Has H a (.list l)) : LstIs H (.ref a) l
section
variable {G : Glob} {fr : List Env} {A : Around} {env : Env} {F : Fz} {H H' : Hp} {E : Value → Fz → Hp → Prop} {Q : V → Fz → Hp → Prop}
theorem LstIs.is {R : Hp} {s : Shared} {x : V} {l : List V} {v : Value} (h : LstIs H x l) (hR : Rep G fr F (H ++ R) s) (hv : RV F v x) : ∃ a vs, v = .ref a ∧ s.heap.IsList a vs ∧ RVs F vs.toList l := by
  cases h with
  | lst => exact hv.e_lst (P := fun v => ∃ a vs, v = .ref a ∧ s.heap.IsList a vs ∧ RVs F vs.toList l) fun a vs n o h hc hd hl hr => ⟨a, vs.toArray, rfl, ⟨o, hR.fz _ _ h, hc, n, hd⟩, RVs.of hl hr⟩
  | own h =>
    obtain ⟨o, ho, vs, n, rfl, hr⟩ := hR.has h
    exact hv.e_ref (P := fun v => ∃ a vs, v = .ref a ∧ s.heap.IsList a vs ∧ RVs F vs.toList l) ⟨_, vs, rfl, ⟨_, ho, rfl, n, rfl⟩, hr⟩
theorem RVs.atA {vs : Array Value} {l : List V} (h : RVs F vs.toList l) {i : Nat} {x : V} (e : l[i]? = some x) : ∃ v, vs[i]? = some v ∧ RV F v x := by
  obtain ⟨v, h1, h2⟩ := h.at e
  exact ⟨v, by simpa using h1, h2⟩

theorem Ev_Subscript {value slice pos} (h : Ev G fr A F H (eval value env) (fun o F1 H1 => Ev G fr A F1 H1 (eval slice env) (fun i F2 H2 => Op2 G fr A F2 H2 (subscriptTail value slice) o i Q E) E) E) :
    Ev G fr A F H (eval (.Subscript value slice pos) env) Q E := fun K m R s hR =>
  Subscript_ (h.go m hR (.refl K) fun a x F1 K1 H1 s1 l1 m1 r1 hx h1 => h1.go m1 r1 l1 fun b y F2 K2 H2 s2 l2 m2 r2 hy h2 => (h2 K2 m2 a b (hx.mono l2) hy).last r2 (l1.trans l2))
noncomputable def notSlice : Expr → Bool
  | .Slice .. => false
  | _ => true
theorem sub_of {slice : Expr} {o i : Value} (h : notSlice slice = true) : subscripted slice false o i = operate [o, i] (getItem o i) := by
  cases slice <;> first | rfl | cases h
theorem sub_lst {value slice : Expr} {x y : V} {l : List V} {i : Int} (hl : LstIs H x l) (h0 : 0 ≤ i) (hi : i < 2 ^ 63) (he : l[i.toNat]? = some y) (h : Q y F H) (hs : autoParam (notSlice slice = true) tac0) :
    Op2 G fr A F H (subscriptTail value slice) x (.int i) Q E := fun K m vo vi ho hi' R s hR => by
  obtain ⟨a, vs, rfl, hL, hr⟩ := hl.is hR ho
  refine hi'.e_int (P := fun vi => wpAny _ _ (subscriptTail value slice _ vi) _ _ _) fun t => ?_
  obtain ⟨v, h1, h2⟩ := hr.atA he
  exact tail_any hL.typeIs slot_list_getitem.lookup (wpAny_getItem_list hL h0 hi h1 (vret hR h2 m h)) (sub_of hs)
theorem sub_lstN {value slice : Expr} {x y : V} {l : List V} {k : Nat} (hl : LstIs H x l) (hi : k < 2 ^ 63) (he : l[k]? = some y) (h : Q y F H) (hs : autoParam (notSlice slice = true) tac0) :
    Op2 G fr A F H (subscriptTail value slice) x (.int k) Q E :=
  sub_lst hl (Int.natCast_nonneg k) (by lia) (by rw [Int.toNat_natCast]; exact he) h hs
theorem sub_lst_neg {value slice : Expr} {x y : V} {l : List V} {i : Int} (hl : LstIs H x l) (h0 : i < 0) (h1 : 0 ≤ i + l.length) (h2 : -(2 ^ 63) ≤ i) (he : l[(i + l.length).toNat]? = some y) (h : Q y F H) (hs : autoParam (notSlice slice = true) tac0) :
    Op2 G fr A F H (subscriptTail value slice) x (.int i) Q E := fun K m vo vi ho hi' R s hR => by
  obtain ⟨a, vs, rfl, hL, hr⟩ := hl.is hR ho
  refine hi'.e_int (P := fun vi => wpAny _ _ (subscriptTail value slice _ vi) _ _ _) fun t => ?_
  obtain ⟨v, q1, q2⟩ := hr.atA he
  have e := hr.toArr
  exact tail_any hL.typeIs slot_list_getitem.lookup (wpAny_getItem_list_neg hL h0 (by rw [e]; lia) h2 (by rw [e]; exact q1) (vret hR q2 m h)) (sub_of hs)
theorem sub_str {value slice : Expr} {x : Str} {i : Int} {c : Nat} (h0 : 0 ≤ i) (hi : i < 2 ^ 63) (he : x.cps[i.toNat]? = some c) (h : Q (.str ⟨#[c]⟩) F H) (hs : autoParam (notSlice slice = true) tac0) :
    Op2 G fr A F H (subscriptTail value slice) (.str x) (.int i) Q E := fun K m vo vi ho hi' R s hR => by
  refine ho.e_str (P := fun vo => wpAny _ _ (subscriptTail value slice vo vi) _ _ _) fun t => hi'.e_int (P := fun vi => wpAny _ _ (subscriptTail value slice _ vi) _ _ _) fun u => ?_
  have hlt : i.toNat < x.cps.size := (Array.getElem?_eq_some_iff.mp he).1
  refine tail_any (typeIs_str _ _ _) PySem.F.slot_str_getitem.lookup (PySem.P.getItem_str (c := c) (by rw [decide_eq_false (Int.not_lt.mpr (Int.le_trans (by decide) h0)), decide_eq_false (Int.not_le.mpr hi)]; rfl) ?_ (vret (hR.toks _) .str m h)) (sub_of hs)
  have : seqIndex? i x.length = some i.toNat := by
    unfold seqIndex?
    simp only [if_neg (Int.not_lt.mpr h0)]
    rw [if_pos (by
      have : x.length = x.cps.size := rfl
      simp only [Bool.and_eq_true, decide_eq_true_eq]
      exact toN h0 hlt)]
  rw [this]
  exact he

noncomputable def EvP (G : Glob) (fr : List Env) (A : Around) (env : Env) (F : Fz) (H : Hp) (e : Option Expr) (Q : Option Int → Fz → Hp → Prop) (E : Value → Fz → Hp → Prop) : Prop :=
  match e with
  | none => Q none F H
  | some e => Ev G fr A F H (eval e env) (AInt Q) E
theorem EvP_none {Q : Option Int → Fz → Hp → Prop} (h : Q none F H) : EvP G fr A env F H none Q E := h
theorem EvP_some {e : Expr} {Q : Option Int → Fz → Hp → Prop} (h : Ev G fr A F H (eval e env) (AInt Q) E) : EvP G fr A env F H (some e) Q E := h
theorem EvP.seq {e : Option Expr} {Q : Option Int → Fz → Hp → Prop} {R : Hp} {s : Shared} {K K₀ : Fz} (h : EvP G fr A env F H e Q E) (m : F.le K) (hR : Rep G fr K (H ++ R) s) (le : K₀.le K) {P : Value → Shared → Prop}
    (k : ∀ o F1 K1 H1 s1, K.le K1 → Fz.le F1 K1 → Rep G fr K1 (H1 ++ R) s1 → Q (o.map (·.1)) F1 H1 → P (partValue o) s1) : wpAny G.M A (evalPart e env) P (PQ G fr K₀ R fun e => Dn (E e)) s := by
  cases e with
  | none => exact wpAny_pure (k none F K H s (.refl K) m hR h)
  | some e =>
    refine Ev.go (show Ev _ _ _ _ _ _ _ _ from h) m hR le fun v x F1 K1 H1 s1 l1 m1 r1 hx hq => ?_
    obtain ⟨i, rfl, q⟩ := hq
    exact hx.e_int (P := fun v => P v s1) fun t => k (some (i, t)) F1 K1 H1 s1 l1 m1 r1 q
noncomputable def slIdx (lo hi st : Option Int) (n : Nat) : List Nat := sliceRange (sliceBounds lo hi st n).1 (sliceBounds lo hi st n).2.1 (sliceBounds lo hi st n).2.2
noncomputable def slV (l : List V) (lo hi st : Option Int) : List V := (slIdx lo hi st l.length).filterMap (l[·]?)
theorem RVs.pick {vs : List Value} {l : List V} (h : RVs F vs l) (is : List Nat) : RVs F (is.filterMap (vs[·]?)) (is.filterMap (l[·]?)) := by
  induction is with
  | nil => exact .nil
  | cons i is ih =>
    cases hv : vs[i]? with
    | none =>
      have : l[i]? = none := by rw [List.getElem?_eq_none_iff, ← h.length, ← List.getElem?_eq_none_iff]; exact hv
      simp only [List.filterMap_cons, hv, this]
      exact ih
    | some v =>
      have hi : i < vs.length := by
        rcases Nat.lt_or_ge i vs.length with q | q
        · exact q
        · rw [List.getElem?_eq_none q] at hv; cases hv
      have hi' : i < l.length := by rw [← h.length]; exact hi
      have hl : l[i]? = some l[i] := List.getElem?_eq_getElem hi'
      simp only [List.filterMap_cons, hv, hl]
      exact .cons (h.get i v _ hv hl) ih
theorem slicePick_rv {vs : Array Value} {l : List V} (h : RVs F vs.toList l) (lo hi st : Option Int) : RVs F (slicePick vs lo hi st).toList (slV l lo hi st) := by
  have e := h.toArr
  unfold slicePick slV slIdx
  rw [e]
  have := h.pick (sliceRange (sliceBounds lo hi st l.length).1 (sliceBounds lo hi st l.length).2.1 (sliceBounds lo hi st l.length).2.2)
  simpa using this
theorem isPart (o : Option (Int × Tok)) : IsPart (partValue o) (o.map (·.1)) := by
  cases o with
  | none => exact .none
  | some p => exact .int _ _
variable {x y : Str}
theorem ss {K : Fz} {P : Value → Value → Prop} (k : ∀ t u, P (.str x t) (.str y u)) : ∀ a b, RV K a (.str x) → RV K b (.str y) → P a b := fun _ b ha hb => ha.e_str (P := fun a => P a b) fun t => hb.e_str (k t)
theorem add_ss (hs : x.length + y.length ≤ sizeLine) (h : Q (.str (x ++ y)) F H) : Op2 G fr A F H (binaryOp .Add) (.str x) (.str y) Q E := fun K m => ss fun t u R s hR => PySem.SB.add (fun t' k => vret (hR.toks _) .str m h) hs
theorem iadd_ss (hs : x.length + y.length ≤ sizeLine) (h : Q (.str (x ++ y)) F H) : Op2 G fr A F H (inplaceOp .Add) (.str x) (.str y) Q E := fun K m => ss fun t u R s hR => PySem.SB.iadd (fun t' k => vret (hR.toks _) .str m h) hs
theorem eq_ss (h : Q (.bool (x.cps.toList == y.cps.toList)) F H) : Op2 G fr A F H (compareOp .Eq) (.str x) (.str y) Q E := fun K m => ss fun t u R s hR => PySem.P.eq_str (vret hR .bool m h)
theorem ne_ss (h : Q (.bool (x.cps.toList != y.cps.toList)) F H) : Op2 G fr A F H (compareOp .NotEq) (.str x) (.str y) Q E := fun K m => ss fun t u R s hR => PySem.P.ne_str (vret hR .bool m h)
theorem len_s (hl : x.length < 2 ^ 63) (h : Q (.int x.length) F H) : Cl G fr A F H (.blt "len") [.str x] Q E := cl_b1 fun K m v hv => hv.e_str (P := fun v => EvAt _ _ _ _ _ (call _ [v]) _ _) fun t R s hR => PySem.P.len_str (by lia) (vret (hR.toks _) .int m h)
theorem len_lst {z : V} {l : List V} (hz : LstIs H z l) (hl : l.length < 2 ^ 63) (h : Q (.int l.length) F H) : Cl G fr A F H (.blt "len") [z] Q E := cl_b1 fun K m v h1 R s hR => by
    obtain ⟨a, vs, rfl, hL, hr⟩ := hz.is hR h1
    have e := hr.toArr
    refine call_len_list hL (by rw [e]; exact_mod_cast hl) ?_
    rw [e]
    exact vret (hR.toks _) .int m h
theorem isNot_none {z : V} (h : Q (.bool (!z.isN)) F H) : Op2 G fr A F H (compareOp .IsNot) z .none Q E := fun K m a b ha hb => hb.e_none (P := fun b => EvAt _ _ _ _ _ (compareOp _ a b) _ _) fun R s hR => by
  refine PySem.isNot_none ?_
  rw [RV.isN ha]
  exact vret hR .bool m h
theorem is_none {z : V} (h : Q (.bool z.isN) F H) : Op2 G fr A F H (compareOp .Is) z .none Q E := fun K m a b ha hb => hb.e_none (P := fun b => EvAt _ _ _ _ _ (compareOp _ a b) _ _) fun R s hR => by
  refine PySem.is_none ?_
  rw [RV.isN ha]
  exact vret hR .bool m h
end
section
variable {G : Glob} {fr : List Env} {A : Around} {env : Env} {F : Fz} {H : Hp} {E : Value → Fz → Hp → Prop}
noncomputable def Tests (G : Glob) (fr : List Env) (A : Around) (env : Env) (F : Fz) (H : Hp) (ifs : List Expr) (Q : Bool → Fz → Hp → Prop) (E : Value → Fz → Hp → Prop) : Prop :=
  match ifs with
  | [] => Q true F H
  | [c] => Tp G fr A F H (isTrue c env (eval c env)) Q E
  | _ => False
inductive Off (C : Addr) (nms : List Str) (Q : Fz → Hp → Prop) (F : Fz) (H : Hp) : Prop where
  | intro (ρ : List (Str × Option V)) (H' : Hp) (hr : Rem H C (.ns ρ) H') (hn : ρ.map (·.1) = nms) (h : Q F H')
structure Turns (G : Glob) (fr : List Env) (A : Around) (cenv : Addr → Env) (nms : List Str) (target elt : Expr) (ifs : List Expr) (l : List V) (I : Nat → List V → Fz → Hp → Prop) : Prop where
  turn : ∀ k y acc F2 H2 C ρ, l[k]? = some y → I k acc F2 H2 → ρ.map (·.1) = nms → ∀ Qn : List V → Fz → Hp → Prop, (∀ acc' F3 H3, I (k + 1) acc' F3 H3 → Qn acc' F3 H3) →
    As G fr A (cenv C) F2 ((C, .ns ρ) :: H2) target y (fun F3 H3 => Tests G fr A (cenv C) F3 H3 ifs (fun b F4 H4 =>
      if b then Ev G fr A F4 H4 (eval elt (cenv C)) (fun z F5 H5 => Off C nms (Qn (acc ++ [z])) F5 H5) No else Off C nms (Qn acc) F4 H4) No) No
noncomputable def Nv {α : Type} : α → Shared → Prop := fun _ _ => False
theorem compLoopG {elt target iter : Expr} {ifs : List Expr} {scope : Scope} {pos : Pos} {it acc : Value} {cenv : Env} {P : Result → Shared → Prop} {s : Shared} (I : Nat → Shared → Prop)
    (turn : ∀ n s, I n s → wpAny G.M A (pyNext it) (fun r s₁ => match r with
      | none => P (.ok .next) s₁
      | some v => wpAny G.M A (letOwnedTupleGo target it v) (fun _ s₁ => wpAny G.M A (assign target cenv v) (fun _ s₂ =>
          wpAny G.M A (forIn ifs true fun c r => if r = true then do let ok ← isTrue c cenv (eval c cenv); pure (ForInStep.yield ok) else pure (ForInStep.yield r)) (fun ok s₃ =>
            if ok = true then wpAny G.M A (eval elt cenv) (fun x s₄ => wpAny G.M A (call (.builtin "list.append") [acc, x]) (fun _ s₅ => ∃ m, m < n ∧ I m s₅) Nv s₄) Nv s₃
            else ∃ m, m < n ∧ I m s₃) Nv s₂) Nv s₁) Nv s₁) Nv s)
    (n : Nat) (h : I n s) : codeAny G.M A (.compLoop (.ListComp elt [⟨target, iter, ifs, 0⟩] scope pos) 0 it acc cenv) P s := by
  refine codeAny_loop rfl I (fun n s hI => ?_) n h
  show wpAny _ A ((compTurn (.ListComp elt [⟨target, iter, ifs, 0⟩] scope pos) 0 it acc cenv).onRaise (fun x => do noteFrame x cenv; theTreesLotGoes x)) _ _ s
  refine wpAny_noted ?_
  rw [compTurn_list]
  refine wpAny_bind (wpAny_standAt (wpAny_bind (wpAny_mono (turn n s hI) (fun r s₁ h₁ => ?_) fun _ _ h' => h'.elim)))
  cases r with
  | none => exact wpAny_pure h₁
  | some v =>
    refine wpAny_bind (wpAny_mono h₁ (fun _ s₁ h₁ => wpAny_bind (wpAny_mono h₁ (fun _ s₂ h₂ => wpAny_bind (wpAny_mono h₂ (fun ok s₃ h₃ => ?_) fun _ _ h' => h'.elim)) fun _ _ h' => h'.elim)) fun _ _ h' => h'.elim)
    cases ok with
    | false => exact wpAny_pure ⟨rfl, h₃⟩
    | true => exact wpAny_bind (wpAny_bind (wpAny_mono h₃ (fun x s₄ h₄ => wpAny_bind (wpAny_mono h₄ (fun _ s₅ h₅ => wpAny_pure (wpAny_pure ⟨rfl, h₅⟩)) fun _ _ h' => h'.elim)) fun _ _ h' => h'.elim))
inductive CompI (G : Glob) (fr : List Env) (K1 : Fz) (nms : List Str) (C D : Addr) (J : Nat → Hp) (R : Hp) (l : List V) (I : Nat → List V → Fz → Hp → Prop) (n : Nat) (s : Shared) : Prop where
  | mk (k : Nat) (acc : List V) (F2 K2 : Fz) (H2 : Hp) (ρ : List (Str × Option V)) (e1 : n + k = l.length) (e2 : acc.length ≤ k) (l2 : K1.le K2) (m2 : Fz.le F2 K2) (hρ : ρ.map (·.1) = nms) (r : Rep G fr K2 (J k ++ ((C, AO.ns ρ) :: (D, AO.list acc) :: (H2 ++ R))) s) (h : I k acc F2 H2)
noncomputable def CompL (G : Glob) (fr : List Env) (K1 : Fz) (nms : List Str) (C D : Addr) (J : Nat → Hp) (R : Hp) (l : List V) (I : Nat → List V → Fz → Hp → Prop) (n : Nat) (s : Shared) : Prop := ∃ m, m < n ∧ CompI G fr K1 nms C D J R l I m s
theorem perm_in {c d : Addr × AO} {J H R : Hp} : (J ++ (c :: d :: (H ++ R))).Perm ((c :: H) ++ (d :: (J ++ R))) :=
  (List.perm_middle.trans (List.perm_middle.cons c)).trans ((((List.perm_append_comm_assoc ..).cons d).trans List.perm_middle.symm).cons c)
theorem emap {nms : List Str} : (nms.map fun n => (n, (none : Option V))).map (·.1) = nms := by rw [List.map_map]; exact List.map_id nms
theorem comp_core {elt target iter : Expr} {ifs : List Expr} {scope : Scope} {cl : List (Str × Addr)} {pos : Pos} {l : List V} {F1 K1 : Fz} {H1 H1' R : Hp} {s1 : Shared} {x : Value} {y : V} {I : Nat → List V → Fz → Hp → Prop} {nms : List Str} {E0 : Value → Shared → Prop} {P : Value → Addr → Result → Shared → Prop}
    (m1 : F1.le K1) (hy : RV K1 x y) (r1 : Rep G fr K1 (H1 ++ R) s1) (itr : IterO G A target F1 H1 y l H1') (hsz : l.length ≤ sizeLine) (h0 : I 0 [] F1 H1') (T : Turns G fr A (fun C => compEnvC scope cl C env) nms target elt ifs l I)
    (hkind : scope.kind = .function) (hcell : ∀ z ∈ scope.names, z.2 ≠ .cell) (hnd : nms.Nodup)
    (fin : ∀ D C acc F2 K2 H2 ρ s', (∀ e ∈ fr, e.frame ≠ some C) → K1.le K2 → Fz.le F2 K2 → I l.length acc F2 H2 → acc.length ≤ l.length → Rep G fr K2 ((C, AO.ns ρ) :: (D, AO.list acc) :: (H2 ++ R)) s' → P (.ref D) C (.ok .next) s') :
    wpAny G.M A (pyIter x) (fun it s₂ => wpAny G.M A (newList []) (fun acc s₃ => wpAny G.M A (newFunctionEnv scope env.globals cl [] env.qual none .none (some env)) (fun cenv s₄ =>
      codeAny G.M A (.compStart (.ListComp elt [⟨target, iter, ifs, 0⟩] scope pos) 0 it acc { cenv with scope := relabel scope env }) (P acc cenv.locals) s₄) E0 s₃) E0 s₂) E0 s1 := by
  refine itr m1 r1 hy fun it K1' s2 J l1 r2 Pi => ?_
  refine wpAny_newObj_type ?_
  have r3 := r2.new (D := s2.heap.objs.size) (x := AO.list []) (tk := s2.toks) (dr := s2.drawn) (fun b o e => Heap.get?_push_of_some { cls := .type "list", data := .seq ([] : List Value).toArray } e) (none_at_size _) (Heap.get?_push_size _ rfl) ⟨#[], 0, rfl, .nil⟩
  refine wpAny_newFunctionEnv hcell (by intro y hy; simp at hy) (fun h₁ hns₁ hsb₁ => ?_) hkind
  generalize hH2 : (s2.heap.push { cls := .type "list", dict := none, data := .seq ([] : List Value).toArray }) = H2 at hns₁ hsb₁ r3
  have r4 : Rep G fr K1' ((H2.objs.size, AO.ns (nms.map fun n => (n, none))) :: (s2.heap.objs.size, AO.list []) :: (J 0 ++ (H1' ++ R))) { s2 with heap := h₁, toks := s2.toks + ([] : List (Str × Value)).length } := by
    obtain ⟨o, es, ep, ho, hd, hk, hf⟩ := hns₁
    refine r3.new (s := { s2 with heap := H2 }) (D := H2.objs.size) (tk := s2.toks + ([] : List (Str × Value)).length) (dr := s2.drawn) (fun b o e => hsb₁.extBut b o (Nat.ne_of_lt (Heap.lt_size e)) (Heap.get?_push_of_some _ e)) (none_at_size _) ho ⟨es, ep, hd, hk, emap.symm ▸ hnd, fun p hp => ?_⟩
    obtain ⟨n, _, rfl⟩ := List.mem_map.mp hp
    trivial
  have hfrC : ∀ e ∈ fr, e.frame ≠ some H2.objs.size := fun e he q => by
    obtain ⟨L, ρ, q', m⟩ := (r3.frs e he).2
    obtain ⟨_, o, g, _⟩ := r3.own _ m
    rw [Option.some.inj (q'.symm.trans q)] at g
    exact absurd (Heap.lt_size g) (Nat.lt_irrefl _)
  generalize H2.objs.size = C at r4 hfrC
  generalize s2.heap.objs.size = D at r4
  generalize ({ s2 with heap := h₁, toks := s2.toks + ([] : List (Str × Value)).length } : Shared) = s4 at r4
  have r5 : Rep G fr K1' (J 0 ++ ((C, AO.ns (nms.map fun n => (n, none))) :: (D, AO.list []) :: (H1' ++ R))) s4 := r4.perm (List.perm_middle.trans (List.perm_middle.cons _)).symm
  have goal : codeAny G.M A (.compLoop (.ListComp elt [⟨target, iter, ifs, 0⟩] scope pos) 0 (.ref it) (.ref D) (compEnvC scope cl C env)) (P (.ref D) C) s4 := by
    refine compLoopG (CompI G fr K1' nms C D J R l I) (fun n s hI => ?_) l.length ⟨0, [], F1, K1', H1', _, Nat.add_zero _, Nat.le_refl _, .refl K1', m1.trans l1, emap, r5, h0⟩
    obtain ⟨k, acc, F2, K2, H2, ρ, hnk, hak, l2, m2, hρ, r, hI⟩ := hI
    cases hv : l[k]? with
    | none =>
      obtain rfl : k = l.length := by have := pick.mp hv; lia
      exact Pi.fin l2 r fun s' r => fin D C acc F2 K2 H2 ρ s' hfrC (l1.trans l2) m2 hI hak r
    | some y =>
      have hk : k < l.length := (List.getElem?_eq_some_iff.mp hv).1
      refine Pi.item l2 hv r fun v K3 s₁ l3 hvy go => go fun s₂ r => ?_
      have m3 := m2.trans l3
      refine wpAny_mono (T.turn k y acc F2 H2 C ρ hv hI hρ (I (k + 1)) (fun _ _ _ q => q) K3 m3 v hvy _ s₂ (r.perm perm_in)) (fun _ s₃ hq => ?_) fun e s₃ q => (noPQ (v := e) q).elim
      obtain ⟨K4, H4, l4, r4, F4, m4, q⟩ := hq
      have after : ∀ (b : Bool) F5 K5 H5 s5, K4.le K5 → Fz.le F5 K5 → Rep G fr K5 (H5 ++ ((D, AO.list acc) :: (J (k + 1) ++ R))) s5 → (if b then Ev G fr A F5 H5 (eval elt (compEnvC scope cl C env)) (fun z F5 H5 => Off C nms (I (k + 1) (acc ++ [z])) F5 H5) No else Off C nms (I (k + 1) acc) F5 H5) →
          if b = true then wpAny G.M A (eval elt (compEnvC scope cl C env)) (fun x s₄ => wpAny G.M A (call (.builtin "list.append") [.ref D, x]) (fun _ s₅ => CompL G fr K1' nms C D J R l I n s₅) Nv s₄) Nv s5 else CompL G fr K1' nms C D J R l I n s5 := by
        intro b F5 K5 H5 s5 l5 m5 r5 q
        have l25 := l2.trans (l3.trans (l4.trans l5))
        cases b with
        | true =>
          refine wpAny_mono ((show Ev _ _ _ _ _ _ _ _ from q) K5 m5 _ s5 r5) (fun x s6 hq => ?_) fun e s' q => (noPQ (v := e) q).elim
          obtain ⟨K6, H6, l6, r6, z, hz, F6, m6, ρ', H7, hrem, hρ', q⟩ := hq
          have r7 : Rep G fr K6 ((D, AO.list acc) :: ((C, AO.ns ρ') :: (J (k + 1) ++ (H7 ++ R)))) s6 := r6.perm (((hrem.perm.append_right _).trans (perm_in.symm.trans (List.perm_middle.trans (List.perm_middle.cons _)))).trans (.swap ..))
          have ap : EvAt G fr A K6 [(D, AO.list acc)] (call (.builtin "list.append") [.ref D, x]) (fun v F6 H6' => H6' = [(D, AO.list (acc ++ [z]))]) No :=
            append (F := K6) .hd (by lia) rfl K6 (.refl K6) (.builtin "list.append") [.ref D, x] .blt (.cons .ref (.cons hz .nil))
          refine wpAny_mono (ap _ s6 r7) (fun v s7 hq => ?_) fun e s' q => (noPQ (v := e) q).elim
          obtain ⟨K8, H8, l8, r8, _, _, _, _, e2⟩ := hq
          subst e2
          exact ⟨n - 1, nk1 hnk hk, k + 1, acc ++ [z], F6, K8, H7, ρ', nk2 hnk hk, by rw [List.length_append, List.length_singleton]; exact Nat.succ_le_succ hak, l25.trans (l6.trans l8), m6.trans l8, hρ', r8.perm ((List.Perm.swap ..).trans (List.perm_middle.trans (List.perm_middle.cons _)).symm), q⟩
        | false =>
          obtain ⟨ρ', H6, hrem, hρ', q⟩ := q
          exact ⟨n - 1, nk1 hnk hk, k + 1, acc, F5, K5, H6, ρ', nk2 hnk hk, Nat.le_succ_of_le hak, l25, m5, hρ', r5.perm ((hrem.perm.append_right _).trans perm_in.symm), q⟩
      match ifs, q with
      | [], q => exact wpAny_tests_nil (after true F4 K4 H4 s₃ (.refl K4) m4 r4 q)
      | [c], q => exact wpAny_tests_one (wpAny_mono ((show Tp _ _ _ _ _ _ _ _ from q) K4 m4 _ s₃ r4) (fun b s5 hq => by obtain ⟨K5, H5, l5, r5, F5, m5, q⟩ := hq; exact after b F5 K5 H5 s5 l5 m5 r5 q) fun e s' q => (noPQ (v := e) q).elim)
      | _ :: _ :: _, q => exact q.elim
  exact codeAny_compStart_list goal (Pi.self r5 goal)
theorem Rep.other {s : Shared} {h' : Heap} {C : Addr} {x : AO} (r : Rep G fr F ((C, x) :: H) s) (hfr : ∀ e ∈ fr, e.frame ≠ some C) (hs : Heap.SameBut C s.heap h') : Rep G fr F H { s with heap := h' } := by
  have d := r.drop hfr
  have fC : F C = none := (r.own _ (.head _)).1
  have nC : ∀ p ∈ H, p.1 ≠ C := fun p hp q => (List.nodup_cons.mp r.nd).1 (mem_keys hp q)
  exact ⟨d.gok, d.base, fun b o e => hs.extBut b o (fun q => by subst q; rw [fC] at e; cases e) (d.fz b o e), fun p hp => by obtain ⟨n, o, g, rr⟩ := d.own p hp; exact ⟨n, o, hs.extBut _ _ (nC p hp) g, rr⟩, d.nd, d.frs, d.gens, d.os⟩
theorem names_ok {scope : Scope} (h : (scope.names.all fun x => (x.2 != .local) || decide (scope.names.lookup x.1 = some .local)) = true) : ∀ x ∈ scope.names, x.2 = .local → scope.names.lookup x.1 = some .local := fun x hx hl => by
  have := List.all_eq_true.mp h x hx
  rw [hl] at this
  simpa using this
inductive CompS (G : Glob) (fr : List Env) (A : Around) (cenv : Addr → Env) (nms : List Str) (target elt : Expr) (ifs : List Expr) (y : V) (F1 : Fz) (H1 : Hp) (Fin : List V → Fz → Hp → Prop) : Prop where
  | mk (l : List V) (H1' : Hp) (itr : IterO G A target F1 H1 y l H1') (hl : l.length ≤ sizeLine) (I : Nat → List V → Fz → Hp → Prop) (h0 : I 0 [] F1 H1') (T : Turns G fr A cenv nms target elt ifs l I) (fin : ∀ acc F2 H2, I l.length acc F2 H2 → Fin acc F2 H2)
theorem Ev_ListCompO {elt target iter : Expr} {ifs : List Expr} {scope : Scope} {cl : List (Str × Addr)} {pos : Pos} {Q : V → Fz → Hp → Prop} (nms : List Str)
    (hclos : closureFor scope env = pure cl)
    (h : Ev G fr A F H (eval iter env) (fun y F1 H1 => CompS G fr A (fun C => compEnvC scope cl C env) nms target elt ifs y F1 H1 fun acc F2 H2 => Q (.lst acc) F2 H2) E)
    (hnd : nms.Nodup) (hcell : autoParam ((scope.names.all fun x => x.2 != .cell) = true) tac0) (hkind : autoParam (scope.kind = .function) tac0) (hnames : autoParam ((scope.names.all fun x => (x.2 != .local) || decide (scope.names.lookup x.1 = some .local)) = true) tac0)
    (hs : ∀ x, foldedSetIterable iter env x = pure x := by intro _; rfl) :
    Ev G fr A F H (eval (.ListComp elt [⟨target, iter, ifs, 0⟩] scope pos) env) Q E := fun K m R s hR => by
  rw [eval_ListComp]
  refine wpAny_comprehension_free (use := none) rfl hs hclos hkind (names_ok hnames) (h.go m hR (.refl K) fun x y F1 K1 H1 s1 l1 m1 r1 hy hq => ?_)
  obtain ⟨l, H1', itr, hsz, I, h0, T, fin⟩ := hq
  refine comp_core m1 hy r1 itr hsz h0 T hkind (fun z hz => by simpa using List.all_eq_true.mp hcell z hz) hnd fun D C acc F2 K2 H2 ρ s' hfr l2 m2 hI hak r => ?_
  obtain ⟨o, ho, hro⟩ := (r.own _ (.head _)).2
  obtain ⟨ms, hn, _, _⟩ := nsOf ho hro
  refine ⟨ms, hn, fun h' hs' => ?_⟩
  obtain ⟨K3, l3, r3, hv⟩ := list_freeze (H := H2) (R := R) (r.other hfr hs')
  exact ⟨K3, H2, l1.trans (l2.trans l3), r3, _, hv, F2, m2.trans l3, fin acc F2 H2 hI⟩
theorem Ev_ListComp {elt target iter : Expr} {ifs : List Expr} {scope : Scope} {cl : List (Str × Addr)} {pos : Pos} {Q : V → Fz → Hp → Prop} (nms : List Str)
    (hclos : closureFor scope env = pure cl)
    (h : Ev G fr A F H (eval iter env) (fun y F1 H1 => ∃ l, Iterable G A y l ∧ l.length ≤ sizeLine ∧ ∃ I : Nat → List V → Fz → Hp → Prop, I 0 [] F1 H1 ∧ Turns G fr A (fun C => compEnvC scope cl C env) nms target elt ifs l I ∧
      ∀ acc F2 H2, I l.length acc F2 H2 → Q (.lst acc) F2 H2) E)
    (hnd : nms.Nodup) (hcell : autoParam ((scope.names.all fun x => x.2 != .cell) = true) tac0) (hkind : autoParam (scope.kind = .function) tac0) (hnames : autoParam ((scope.names.all fun x => (x.2 != .local) || decide (scope.names.lookup x.1 = some .local)) = true) tac0)
    (hs : ∀ x, foldedSetIterable iter env x = pure x := by intro _; rfl) :
    Ev G fr A F H (eval (.ListComp elt [⟨target, iter, ifs, 0⟩] scope pos) env) Q E :=
  Ev_ListCompO nms hclos (h.mono (fun _ _ _ hq => by obtain ⟨l, itr, hl, I, h0, T, fin⟩ := hq; exact ⟨l, _, itr.o, hl, I, h0, T, fin⟩) fun _ _ _ e => e) hnd hcell hkind hnames hs
end
section
variable {G : Glob} {fr : List Env} {A : Around} {env : Env} {F : Fz} {H H' : Hp} {E : Value → Fz → Hp → Prop} {Q : V → Fz → Hp → Prop} {i j : Int}
theorem mod_ii (hj : j ≠ 0) (h : Q (.int (i.fmod j)) F H) : Op2 G fr A F H (binaryOp .Mod) (.int i) (.int j) Q E := fun K m => ii fun t u R s hR => PySem.AutoIntOps.mod_1 (by simpa using hj) (vret (hR.toks _) .int m h)
theorem fdiv_ii (hj : j ≠ 0) (hs : j.natAbs < 1073741824) (h : Q (.int (i.fdiv j)) F H) : Op2 G fr A F H (binaryOp .FloorDiv) (.int i) (.int j) Q E := fun K m => ii fun t u R s hR => PySem.AutoIntOps.floordiv_1 (by simpa using hj) (by rw [PyProof.noPylong_small hs]; simp) (vret (hR.toks _) .int m h)
theorem Ex_AugAssign {ρ : List (Str × Option V)} {x : Str} {y : V} {pos' op value pos} {Q : FV → Fz → Hp → Prop} (hm : Has H env.locals (.ns ρ)) (hx : Lk ρ x y)
    (h : Ev G fr A F H (eval value env) (fun z F1 H1 => Op2 G fr A F1 H1 (inplaceOp op) y z (fun r F2 H2 => Store env x r F2 H2 (Q .next)) E) E)
    (hk : autoParam (env.scope.kind = .function) tac0) (hl : autoParam (env.kindOf x = some .local) tac0) : Ex G fr A F H (exec (.AugAssign (.Name x pos') op value pos) env) Q E := fun K m R s hR => by
  obtain ⟨o, ho, r⟩ := hR.has hm
  obtain ⟨ms, hn, nd, hp⟩ := nsOf ho r
  obtain ⟨v, hv, hr⟩ := hp _ hx.mem
  refine wpAny_AugAssign_Name (wpAny_loadName_local hk hl hn hv (h.go m hR (.refl K) fun b z F1 K1 H1 s1 l1 m1 r1 hz h1 => (h1 K1 m1 v b (hr.mono l1) hz).go r1 l1 fun c q F2 K2 H2 s2 l2 m2 r2 hq hqq => ?_))
  exact (store m2 hq hqq hk hl).seq r2 (l1.trans l2) fun _ K3 H3 s3 l3 r3 hq => by
    obtain ⟨F3, m3, q⟩ := hq
    exact upPQ (l1.trans (l2.trans l3)) (fret r3 .next m3 q)
theorem range1 (h : Q (.rng 0 i 1) F H) : Cl G fr A F H (.typ "range") [.int i] Q E := cl_t1 fun K m v hv => by
    refine hv.e_int (P := fun v => EvAt _ _ _ _ _ (call _ [v]) _ _) fun t R s hR => ?_
    refine call_range_1 ?_
    obtain ⟨le, r⟩ := hR.newF (tk := s.toks + 1 + 1) (dr := s.drawn) (fun b o e => Heap.get?_push_of_some { cls := .type "range", data := .fields #[.int 0 s.toks, .int i _, .int 1 (s.toks + 1)] } e) (none_at_size s.heap) (Heap.get?_push_size s.heap rfl)
    exact ⟨_, H, le, r, _, .rng (Fz.add_self _ _ _), F, m.trans le, h⟩
theorem rngV_n (n : Nat) : rngV 0 n 1 = (List.range n).map fun (k : Nat) => .int k := by
  have e : (Builtin.Range.rangeSize 0 n 1).toNat = n := by
    unfold Builtin.Range.rangeSize
    simp
    split <;> lia
  unfold rngV
  rw [e]
  simp
end
section
variable {G : Glob} {fr : List Env} {A : Around} {env : Env} {F : Fz} {H H' : Hp} {E : Value → Fz → Hp → Prop} {Q : V → Fz → Hp → Prop}
theorem Ev_Attribute {value : Expr} {attr : Str} {pos : Pos} (h : Ev G fr A F H (eval value env) (fun x F1 H1 => Op1 G fr A F1 H1 (fun v => getAttr v attr true) x Q E) E)
    (he : autoParam (eval (.Attribute value attr pos) env = (do
      let o ← eval value env
      standAt pos.atName
      let r ← holding [o] (getAttr o attr true)
      letTemporaryGo value o r
      pure r)) tac3) : Ev G fr A F H (eval (.Attribute value attr pos) env) Q E := fun K m R s hR =>
  Attribute_any_ (h.go m hR (.refl K) fun v x F1 K1 H1 s1 l1 m1 r1 hx h1 => (h1 K1 m1 v hx).last r1 l1) he
noncomputable def noBlt : V → Prop
  | .blt _ => False
  | _ => True
theorem noBlt.handed {v : Value} {y : V} (h : noBlt y) (hv : RV F v y) : handedOut v = pure v := by
  cases hv <;> first | rfl | exact h.elim
theorem get_exc {x D : Addr} {c : String} {args : List V} {tb : Option Addr} {cx : Bool} {ρ : List (Str × V)} {name : Str} {y : V} (hx : Has H x (.exc "Exception" args tb (some D) cx)) (hD : Has H D (.attrs ρ)) (hy : ρ.lookup name = some y) (hn : noBlt y) (hB : typeLookup (.type "Exception") name = pure none) (h : Q y F H) :
    Op1 G fr A F H (fun v => getAttr v name true) (.ref x) Q E := fun K m v hv R s hR => by
  obtain rfl := hv.i_ref
  obtain ⟨o, ho, vs, a, v5, hc, hd, hdt, _⟩ := hR.has hx
  obtain ⟨oD, hoD, es, ep, hed, hk, hu, hf⟩ := hR.has hD
  have := hf name
  rw [hy] at this
  obtain ⟨v, hv, hr⟩ := this
  exact exc_get ho hc hd hdt ⟨oD, es, ep, hoD, hed, hk, fun _ => rfl⟩ hv hB (hn.handed hr) (vret (hR.toks _) hr m h)
noncomputable def SetA (G : Glob) (fr : List Env) (A : Around) (F : Fz) (H : Hp) (attr : Str) (x y : V) (Q : Fz → Hp → Prop) (E : Value → Fz → Hp → Prop) : Prop := ∀ K, F.le K → ∀ a v, RV K a x → RV K v y → TpAt G fr A K H (setAttr a attr v) (fun _ => Dn Q) E
theorem Ex_Assign_Attr {o : Expr} {attr : Str} {pos' value pos} {Q : FV → Fz → Hp → Prop}
    (h : Ev G fr A F H (eval value env) (fun y F1 H1 => Ev G fr A F1 H1 (eval o env) (fun x F2 H2 => SetA G fr A F2 H2 attr x y (Q .next) E) E) E)
    (hs : autoParam (swapsWith value (some (.Attribute o attr pos')) pos.line env = pure false) tac0) : Ex G fr A F H (exec (.Assign [.Attribute o attr pos'] value pos) env) Q E := fun K m R s hR =>
  plainObj_wpAny_Assign_Attribute (h.go m hR (.refl K) fun v y F1 K1 H1 s1 l1 m1 r1 hy h1 => h1.go m1 r1 l1 fun a x F2 K2 H2 s2 l2 m2 r2 hx h2 =>
    (h2 K2 m2 a v hx (hy.mono l2)).seq r2 (l1.trans l2) fun _ K3 H3 s3 l3 r3 hq => by
      obtain ⟨F3, m3, q⟩ := hq
      exact upPQ (l1.trans (l2.trans l3)) (fret r3 .next m3 q)) hs
theorem lookup_cons' {ρ : List (Str × V)} {name n : Str} {y : V} : ((name, y) :: ρ).lookup n = if n = name then some y else ρ.lookup n := by
  by_cases e : n = name
  · subst e; simp [List.lookup]
  · have hne : (n == name) = false := beq_eq_false_iff_ne.mpr e
    simp [List.lookup, hne, e]
theorem attrs_of {w : World} {h : Heap} {D : Addr} {ρ : List (Str × V)} {m : Str → Option Value} {name : Str} {v : Value} {y : V} (hn : h.Ns1 D (fun z => if z = name then some v else m z)) (hv : RV F v y) (hm : ∀ n, match ρ.lookup n with | none => m n = none | some x => ∃ v, m n = some v ∧ RV F v x) :
    ∃ o, h.get? D = some o ∧ RO w F o (.attrs ((name, y) :: ρ)) := by
  obtain ⟨o, es, ep, ho, hd, hk, hu, hf⟩ := hn
  refine ⟨o, ho, es, ep, hd, hk, hu, fun n => ?_⟩
  rw [lookup_cons', hf n]
  dsimp only
  by_cases e : n = name
  · rw [if_pos e, if_pos e]; exact ⟨v, rfl, hv⟩
  · rw [if_neg e, if_neg e]; exact hm n
theorem set_exc {x D : Addr} {args : List V} {tb : Option Addr} {cx : Bool} {ρ : List (Str × V)} {name : Str} {y : V} {Q : Fz → Hp → Prop} (hx : Has H x (.exc "Exception" args tb (some D) cx)) (hD : Upd H D (.attrs ρ) (.attrs ((name, y) :: ρ)) H') (hsz : ρ.length + 1 ≤ sizeLine) (hB : typeLookup (.type "Exception") name = pure none) (h : Q F H') :
    SetA G fr A F H name (.ref x) y Q E := fun K m a v ha hv R s hR => by
  obtain rfl := ha.i_ref
  obtain ⟨o, ho, vs, a, v5, hc, hd, hdt, _⟩ := hR.has hx
  obtain ⟨oD, hoD, es, ep, hed, hk, hu, hf⟩ := hR.get hD.mem
  have hn1 : s.heap.Ns1 D (fun n => nsFind es n) := ⟨oD, es, ep, hoD, hed, hk, hu, fun _ => rfl⟩
  refine exc_set ho hc fun tk P E' A' hP => excset_more (ns := ρ.map (·.1)) ho hc hd hdt hB hn1 (fun n hne => ?_) (by rw [List.length_map]; exact hsz) fun h' tk' hn' hs' => hP _ ?_
  · have := hf n
    cases q : ρ.lookup n with
    | none => rw [q] at this; exact absurd this hne
    | some z =>
      have : ∀ {l : List (Str × V)} {n : Str} {z : V}, l.lookup n = some z → n ∈ l.map (·.1) := by
        intro l
        induction l with
        | nil => intro n z h; cases h
        | cons p l ih =>
          intro n z h
          rw [lookup_cons'] at h
          by_cases e : n = p.1
          · exact e ▸ .head _
          · rw [if_neg e] at h; exact .tail _ (ih h)
      exact this q
  · obtain ⟨o', ho', r'⟩ := attrs_of (w := G.w) hn' hv hf
    exact ⟨K, H', .refl K, hR.upd' (tk := tk') (dr := s.drawn) hD hs'.extBut ho' r' notNs_attrs, F, m, h⟩
theorem Rep.adopt {s : Shared} {D : Addr} {o : Obj} {x : AO} (h : Rep G fr F H s) (hF : F D = none) (hH : D ∉ H.map (·.1)) (ho : s.heap.get? D = some o) (r : RO G.w F o x) : Rep G fr F ((D, x) :: H) s :=
  ⟨h.gok, h.base, h.fz, fun p hp => by
    cases hp with
    | head => exact ⟨hF, o, ho, r⟩
    | tail _ hp => exact h.own p hp, List.nodup_cons.mpr ⟨hH, h.nd⟩, fun e he => ⟨(h.frs e he).1, by obtain ⟨L, ρ, a, b⟩ := (h.frs e he).2; exact ⟨L, ρ, a, .tail _ b⟩⟩, h.gens, h.os⟩
theorem set_exc_first {x : Addr} {args : List V} {name : Str} {y : V} {H1 : Hp} {cx : Bool} {Q : Fz → Hp → Prop} (hx : Rem H x (.exc "Exception" args none none cx) H1) (hB : typeLookup (.type "Exception") name = pure none)
    (h : ∀ D, Q F ((D, .attrs [(name, y)]) :: (x, .exc "Exception" args none (some D) cx) :: H1)) :
    SetA G fr A F H name (.ref x) y Q E := fun K m a v ha hv R s hR => by
  obtain rfl := ha.i_ref
  have r1 := hR.perm (hx.perm.append_right R)
  obtain ⟨_, o, ho, hro⟩ := r1.own _ (.head _)
  obtain ⟨vs, a, v5, hc, hd, hdt, h0, ha, h1, h5, h5s, hcx⟩ := id hro
  refine exc_set ho hc fun tk P E' A' hP => excset_first ho hc hd hdt hB fun h' tk' D hD hx' hn' hk => hP _ ?_
  have r2 : Rep G fr K ((x, .exc "Exception" args none (some D) cx) :: (H1 ++ R)) { s with heap := h', toks := tk' } :=
    Rep.upd (dr := s.drawn) (x := .exc "Exception" args none none cx) (x' := .exc "Exception" args none (some D) cx) r1 (fun b o hb e => hk b o hb e) hx' ⟨vs, a, v5, hc, rfl, hdt, h0, ha, h1, h5, h5s, hcx⟩ (fun hq => by obtain ⟨_, e⟩ := hq; cases e)
  obtain ⟨o', ho', r'⟩ := attrs_of (w := G.w) (F := K) (ρ := []) hn' hv (fun n => rfl)
  have fr1 := r1.fresh hD
  exact ⟨K, _, .refl K, r2.adopt fr1.1 fr1.2 ho' r', F, m, h D⟩
theorem exc_new0 (h : ∀ a, Q (.ref a) F ((a, .exc "Exception" [] none none true) :: H)) : Cl G fr A F H (.typ "Exception") [] Q E := cl_t0 fun K m R s hR => by
  refine wpAny_call_exc PySem.F.excCall_Exception fun h' e hm => ?_
  obtain ⟨hk, hn, t, he, ht, hto⟩ := hm
  obtain ⟨le, r1⟩ := hR.newF (tk := s.toks) (dr := s.drawn) hk ht hto
  have fr1 := hR.fresh hn
  have hne : e ≠ t := fun q => by
    subst q
    rw [he] at hto
    exact absurd (congrArg Obj.cls (Option.some.inj hto)) (by simp)
  have r2 := Rep.adopt (x := .exc "Exception" [] none none true) r1 (by unfold Fz.add; rw [if_neg hne]; exact fr1.1) fr1.2 he ⟨_, t, _, rfl, rfl, rfl, rfl, .tup (vs := []) (l := []) (Fz.add_self _ _ _) rfl (fun i v x e => by simp at e), rfl, rfl, (fun q => absurd q (by decide)), fun _ => rfl⟩
  exact ⟨_, _, le, r2, _, .ref, F, m.trans le, h e⟩
theorem RD.length {w : World} {es : List DictEntry} {l : List (V × V)} (h : RD w F es l) : es.length = l.length := by
  induction h with
  | nil => rfl
  | cons _ _ _ ih => simp [ih]
theorem clear {a : Addr} {l : List (V × V)} (hu : Upd H a (.dict l) (.dict []) H') (hl : l.length ≤ sizeLine) (h : Q .none F H') : Cl G fr A F H (.blt "dict.clear") [.ref a] Q E := cl_b1 fun K m v hv R s hR => by
    obtain rfl := hv.i_ref
    obtain ⟨o, ho, es, n, rfl, hr⟩ := hR.get hu.mem
    have hes : es.size ≤ sizeLine := by have := hr.length; simp at this; lia
    refine wpAny_call_entry PySem.F.slot_dict_clear ⟨_, ho, rfl⟩ PySem.F.entry_dict_clear ?_ (PySem.F.args_dict_clear_1 _)
    unfold Builtin.«dict.clear»
    refine wpAny_bind ?_
    unfold Builtin.Dict.noArgs
    refine wpAny_bind (wpAny_notOrdered_dict ⟨_, ho, rfl⟩ ?_)
    show wpAny _ _ (pure a) _ _ s
    refine wpAny_pure ?_
    refine wpAny_bind (wpAny_dictEntries ho rfl ?_)
    refine wpAny_bind ?_
    unfold bearsInstanceDictMark
    refine wpAny_bind (wpAny_load ho (wpAny_pure ?_))
    refine wpAny_bind (wpAny_updateDictKeys (hz := hes) ho rfl ?_)
    have g := Heap.get?_update_self (Obj.mapDictKeys fun _ => #[]) ho (Obj.isFreed_of_dict (Obj.data_mapDictKeys rfl _))
    have r2 : Rep G fr K (H' ++ R) { s with heap := s.heap.update a (Obj.mapDictKeys fun _ => #[]) } := hR.upd' (tk := s.toks) (dr := s.drawn) hu (Heap.SameBut.update ..).extBut g ⟨#[], n + 1, rfl, .nil⟩ notNs_dict
    split
    · exact wpAny_bind (wpAny_letGo (wpAny_pure ⟨.none, rfl, K, H', .refl K, r2, _, .none, F, m, h⟩))
    · exact wpAny_bind (wpAny_pure (wpAny_pure ⟨.none, rfl, K, H', .refl K, r2, _, .none, F, m, h⟩))
inductive PatF (F : Fz) (p : Addr) : Prop where
  | intro (o : Obj) (fs items : Array Value) (c : Addr) (oc : Obj) (n : Nat) (t3 t6 : Tok) (h1 : F p = some o) (h2 : o.cls = .type "re.Pattern") (h3 : o.dict = none) (h4 : o.data = .fields fs) (h5 : fs.getD 6 .none = .int 0 t6) (h6 : fs.getD 5 .none = .ref c) (h7 : fs.getD 2 .none = .int 3 t3)
    (h8 : F c = some oc) (h9 : oc.data = .seq items n) (h10 : Code (wordsOf items)) (h11 : Sre.header (wordsOf items) = (1, 5))
theorem PatF.mono {F F' : Fz} {p : Addr} (le : F.le F') (h : PatF F p) : PatF F' p := by
  obtain ⟨o, fs, items, c, oc, n, t3, t6, h1, h2, h3, h4, h5, h6, h7, h8, h9, h10, h11⟩ := h
  exact ⟨o, fs, items, c, oc, n, t3, t6, le _ _ h1, h2, h3, h4, h5, h6, h7, le _ _ h8, h9, h10, h11⟩
noncomputable def BoundF (F : Fz) (b p : Addr) : Prop := F b = some (boundM "re.Pattern.match" (.ref p)) ∧ PatF F p
theorem BoundF.mono {F F' : Fz} {b p : Addr} (le : F.le F') (h : BoundF F b p) : BoundF F' b p := ⟨le _ _ h.1, h.2.mono le⟩
theorem BoundF.ok {b p : Addr} (h : BoundF F b p) : KOk F (.ref b) := .meth h.1 rfl rfl
theorem get_match {p : Addr} (hp : PatF F p) (h : ∀ b F', F.le F' → BoundF F' b p → Q (.ref b) F' H) : Op1 G fr A F H (fun v => getAttr v "match" true) (.ref p) Q E := fun K m v hv R s hR => by
  obtain rfl := hv.i_ref
  obtain ⟨o, fs, items, c, oc, n, t3, t6, h1, h2, h3, h4, _⟩ := id hp
  refine pat_match (hR.fz _ _ (m _ _ h1)) h2 h3 h4 ?_
  obtain ⟨le, r⟩ := hR.newF (tk := s.toks + 1) (dr := s.drawn) (fun b o e => Heap.get?_push_of_some (boundM "re.Pattern.match" (.ref p)) e) (none_at_size _) (Heap.get?_push_size _ rfl)
  exact ⟨_, H, le, r, _, .ref, _, .refl _, h _ _ (m.trans le) ⟨Fz.add_self _ _ _, hp.mono (m.trans le)⟩⟩
inductive MatchF (F : Fz) (m : Addr) (T : Str) (st hd : Nat) (s0 s1 s2 : Option (Nat × Nat)) : Prop where
  | intro (tk : Tok) (pat : Value) (lim : Nat) (li : Int) (u : Addr) (h1 : F m = some (matchObj (.str T tk) pat st lim li u)) (h2 : F u = some { cls := .type "tuple", data := .seq (spanTup st hd s0 s1 s2).toArray })
theorem MatchF.mono {F F' : Fz} {m : Addr} {T : Str} {st hd : Nat} {s0 s1 s2 : Option (Nat × Nat)} (le : F.le F') (h : MatchF F m T st hd s0 s1 s2) : MatchF F' m T st hd s0 s1 s2 := by obtain ⟨a, b, c, d, e, h1, h2⟩ := h; exact ⟨a, b, c, d, e, le _ _ h1, le _ _ h2⟩
theorem MatchF.ty {m : Addr} {T : Str} {st hd : Nat} {s0 s1 s2 : Option (Nat × Nat)} (h : MatchF F m T st hd s0 s1 s2) : TyIs F H (.ref m) "re.Match" := by obtain ⟨a, b, c, d, e, h1, h2⟩ := h; exact .frz h1 rfl rfl
theorem match_num {b p : Addr} {T : Str} {i : Nat} (hb : BoundF F b p) (hi : i < T.cps.size) (hT : T.cps.size ≤ Sre.maxRepeat)
    (hnone : intAt T.cps T.cps.size (signAt T.cps T.cps.size i) = none → Q .none F H)
    (hsome : ∀ p, intAt T.cps T.cps.size (signAt T.cps T.cps.size i) = some p → ∀ m F', F.le F' → MatchF F' m T i (expEnd T.cps T.cps.size (fracEnd T.cps T.cps.size p)) (some (i, p)) ((fracAt T.cps T.cps.size p).map fun e => (p, e)) ((expAt T.cps T.cps.size (fracEnd T.cps T.cps.size p)).map fun e => (fracEnd T.cps T.cps.size p, e)) → Q (.ref m) F' H) :
    Cl G fr A F H (.ref b) [.str T, .int i] Q E := fun K m v vs hv hvs => by
      obtain rfl := hv.i_ref
      refine hvs.e2 (P := fun vs => EvAt _ _ _ _ _ (call _ vs) _ _) fun x y hx hy => hx.e_str (P := fun x => EvAt _ _ _ _ _ (call _ [x, y]) _ _) fun t => hy.e_int (P := fun y => EvAt _ _ _ _ _ (call _ [_, y]) _ _) fun u' R s hR => ?_
      obtain ⟨hb, o, fs, items, c, oc, n, t3, t6, h1, h2, h3, h4, h5, h6, h7, h8, h9, h10, h11⟩ := BoundF.mono m hb
      refine call_match (hR.fz _ _ hb) (hR.fz _ _ h1) h2 h4 fun A' => match_run (hR.fz _ _ h1) h4 h5 h6 h7 (hR.fz _ _ h8) h9 h10 h11 hi hT (fun hn => ⟨_, rfl, K, H, .refl K, hR, _, .none, F, m, hnone hn⟩) fun p hp h' hk u v li n1 n2 n3 hu hv => ?_
      obtain ⟨le1, r1⟩ := hR.newF (tk := s.toks) (dr := s.drawn) hk n1 hu
      have f2 : (K.add u { cls := .type "tuple", data := .seq (spanTup i (expEnd T.cps T.cps.size (fracEnd T.cps T.cps.size p)) (some (i, p)) ((fracAt T.cps T.cps.size p).map fun e => (p, e)) ((expAt T.cps T.cps.size (fracEnd T.cps T.cps.size p)).map fun e => (fracEnd T.cps T.cps.size p, e))).toArray }) v = none := by
        unfold Fz.add; rw [if_neg (fun q => n3 q.symm)]; exact (hR.fresh n2).1
      obtain ⟨o', ho', le2, r2⟩ := Rep.freeze (x := .raw _) (Rep.adopt (x := .raw (matchObj (.str T _) (.ref _) i T.cps.size li u)) r1 f2 (hR.fresh n2).2 hv rfl) (fun _ e => nomatch e)
      have ho'' : o' = matchObj (.str T _) (.ref _) i T.cps.size li u := ho'
      subst ho''
      exact ⟨_, rfl, _, H, le1.trans le2, r2, _, .ref, _, .refl _, hsome p hp v _ (m.trans (le1.trans le2)) ⟨_, _, _, _, u, Fz.add_self _ _ _, le2 _ _ (Fz.add_self _ _ _)⟩⟩
noncomputable def grp? (T : Str) : Option (Nat × Nat) → V
  | none => .none
  | some (x, y) => .str ⟨T.cps.extract x y⟩
theorem grp_rv {T : Str} {b : Tok} {sp : Option (Nat × Nat)} : RV F (grpV T b sp) (grp? T sp) := by
  cases sp with
  | none => exact .none
  | some p => exact .str
theorem groups {m : Addr} {T : Str} {st hd : Nat} {s0 s1 s2 : Option (Nat × Nat)} (hm : MatchF F m T st hd s0 s1 s2) (hT : T.cps.size ≤ sizeLine) (h : Q (.tup [grp? T s0, grp? T s1, grp? T s2]) F H) : Cl G fr A F H (.blt "re.Match.groups") [.ref m] Q E := cl_b1 fun K m v hv R s hR => by
    obtain rfl := hv.i_ref
    obtain ⟨tk, pat, lim, li, u, h1, h2⟩ := hm.mono m
    refine wpAny_call_entry slot_groups ⟨_, hR.fz _ _ h1, rfl⟩ entry_groups (groups_run (hR.fz _ _ h1) (hR.fz _ _ h2) hT fun a b c tk' => ⟨_, rfl, ?_⟩) (args_groups _)
    obtain ⟨le, r⟩ := hR.newF (tk := tk') (dr := s.drawn) (fun b' o e => Heap.get?_push_of_some { cls := .type "tuple", data := .seq #[grpV T a s0, grpV T b s1, grpV T c s2] } e) (none_at_size s.heap) (Heap.get?_push_size s.heap (o := { cls := .type "tuple", data := .seq #[grpV T a s0, grpV T b s1, grpV T c s2] }) rfl)
    exact ⟨_, H, le, r, _, .tup (vs := [grpV T a s0, grpV T b s1, grpV T c s2]) (Fz.add_self _ _ _) rfl (RVs.get (.cons grp_rv (.cons grp_rv (.cons grp_rv .nil)))), F, m.trans le, h⟩
theorem mend {m : Addr} {T : Str} {st hd : Nat} {s0 s1 s2 : Option (Nat × Nat)} (hm : MatchF F m T st hd s0 s1 s2) (h : Q (.int hd) F H) : Cl G fr A F H (.blt "re.Match.end") [.ref m] Q E := cl_b1 fun K m v hv R s hR => by
    obtain rfl := hv.i_ref
    obtain ⟨tk, pat, lim, li, u, h1, h2⟩ := hm.mono m
    exact wpAny_call_entry slot_end ⟨_, hR.fz _ _ h1, rfl⟩ entry_end (end_run (hR.fz _ _ h1) (hR.fz _ _ h2) fun a tk' => ⟨_, rfl, vret (hR.toks _) .int m h⟩) (args_end _)
end
section
variable {G : Glob} {fr : List Env} {A : Around} {env : Env} {F : Fz} {H H' : Hp} {E : Value → Fz → Hp → Prop}
inductive StoreC (env : Env) (x : Str) (y : V) (F : Fz) (H : Hp) (Q : Fz → Hp → Prop) : Prop where
  | intro (c : Addr) (z : Option V) (H' : Hp) (hc : env.cells.lookup x = some c) (hu : Upd H c (.cell z) (.cell (some y)) H') (h : Q F H')
theorem StoreC.mk {env : Env} {x : Str} {y : V} {Q : Fz → Hp → Prop} {c : Addr} {z : Option V} {H' : Hp} (hc : env.cells.lookup x = some c) (hu : Upd H c (.cell z) (.cell (some y)) H') (h : Q F H') : StoreC env x y F H Q := ⟨c, z, H', hc, hu, h⟩
theorem notNs_cell {z z' : Option V} : (∃ ρ, AO.cell z = .ns ρ) → ∃ ρ, AO.cell z' = .ns ρ := fun h => by obtain ⟨_, q⟩ := h; cases q
theorem storeC {K : Fz} {x : Str} {v : Value} {y : V} {Q : Fz → Hp → Prop} (m : F.le K) (hv : RV K v y) (h : StoreC env x y F H Q) (hk : autoParam (env.scope.kind = .function) tac0) (hl : autoParam (env.kindOf x = some .cell) tac0) : TpAt G fr A K H (storeName env x v) (fun _ => Dn Q) E := fun R s hR => by
  obtain ⟨c, z, H', hc, hu, h⟩ := h
  obtain ⟨o, ho, r⟩ := hR.get hu.mem
  have hcell : ∃ v₀, s.heap.IsCell c v₀ := by
    cases z with
    | none => exact ⟨none, o, ho, r⟩
    | some z => obtain ⟨v, e, _⟩ := r; exact ⟨some v, o, ho, e⟩
  obtain ⟨v₀, hcell⟩ := hcell
  refine wpAny_storeName_cell hk hl hc hcell fun h' hc' hs' => ?_
  obtain ⟨o', ho', hd'⟩ := hc'
  exact ⟨K, H', .refl K, hR.upd' (tk := s.toks) (dr := s.drawn) hu hs'.extBut ho' ⟨v, hd', hv⟩ notNs_cell, F, m, h⟩
noncomputable def Sto (G : Glob) (fr : List Env) (A : Around) (env : Env) (F : Fz) (H : Hp) (x : Str) (y : V) (Q : Fz → Hp → Prop) (E : Value → Fz → Hp → Prop) : Prop := ∀ K, F.le K → ∀ v, RV K v y → TpAt G fr A K H (storeName env x v) (fun _ => Dn Q) E
theorem Sto_l {x : Str} {y : V} {Q : Fz → Hp → Prop} (h : Store env x y F H Q) (hk : autoParam (env.scope.kind = .function) tac0) (hl : autoParam (env.kindOf x = some .local) tac0) : Sto G fr A env F H x y Q E := fun K m v hv => store m hv h hk hl
theorem Sto_c {x : Str} {y : V} {Q : Fz → Hp → Prop} (h : StoreC env x y F H Q) (hk : autoParam (env.scope.kind = .function) tac0) (hl : autoParam (env.kindOf x = some .cell) tac0) : Sto G fr A env F H x y Q E := fun K m v hv => storeC m hv h hk hl
noncomputable def tabOf (l : List (Nat × Nat × Addr)) : Array Value := (l.flatMap fun t => [rawInt t.1, rawInt t.2.1, .ref t.2.2]).toArray
theorem tab_triples : ∀ l : List (Nat × Nat × Addr), TriplesOk (tabOf l).toList
  | [] => trivial
  | t :: l => tab_triples l
noncomputable def tabFind (pos : Pos) : List (Nat × Nat × Addr) → Option Addr
  | [] => none
  | t :: l => if t.1 = pos.line ∧ t.2.1 = pos.col then some t.2.2 else tabFind pos l
theorem tab_among (pos : Pos) : ∀ l : List (Nat × Nat × Addr), codeAmong pos (tabOf l).toList = (tabFind pos l).map .ref
  | [] => rfl
  | t :: l => by
    have e : codeAmong pos (tabOf (t :: l)).toList = if ((t.1 : Int) == (pos.line : Int) && (t.2.1 : Int) == (pos.col : Int)) then some (.ref t.2.2) else codeAmong pos (tabOf l).toList := rfl
    have e2 : tabFind pos (t :: l) = if t.1 = pos.line ∧ t.2.1 = pos.col then some t.2.2 else tabFind pos l := rfl
    rw [e, tab_among pos l, e2]
    by_cases h : t.1 = pos.line ∧ t.2.1 = pos.col
    · rw [if_pos h, if_pos (by simp [h.1, h.2])]; rfl
    · rw [if_neg h, if_neg]
      intro q
      rw [Bool.and_eq_true, beq_iff_eq, beq_iff_eq] at q
      exact h ⟨by exact_mod_cast q.1, by exact_mod_cast q.2⟩
theorem tab_snoc (l : List (Nat × Nat × Addr)) (x y : Nat) (c : Addr) : tabOf l ++ #[rawInt x, rawInt y, .ref c] = tabOf (l ++ [(x, y, c)]) := by
  unfold tabOf
  rw [List.flatMap_append]
  simp
noncomputable def CodeOk (F : Fz) (c P : Addr) : Prop := ∀ h : Heap, (∀ a o, F a = some o → h.get? a = some o) → CodeHd h c P
theorem CodeOk.mono {F F' : Fz} {c P : Addr} (le : F.le F') (h : CodeOk F c P) : CodeOk F' c P := fun hp k => h hp fun a o e => k a o (le a o e)
noncomputable def BOk (G : Glob) (P : Addr) : Prop := mainGlobals ≠ P ∧ ∀ h : Heap, (∀ a o, G.F0 a = some o → h.get? a = some o) → h.BuiltinsAt G.mg P
inductive FnF (F : Fz) (f : Addr) (name qual : Str) (params : Arguments) (body : List Stmt) (scope : Scope) (clos : List (Str × Addr)) : Prop where
  | intro (doc pm : Value) (c : Addr) (ctv : Value) (h1 : F f = some (fnMade name qual params body scope clos doc pm c ctv)) (h2 : CodeF F (.ref c) qual)
inductive LamF (F : Fz) (f : Addr) (name qual : Str) (params : Arguments) (body : Expr) (scope : Scope) (clos : List (Str × Addr)) : Prop where
  | intro (pm : Value) (c : Addr) (ctv : Value) (h1 : F f = some (kla_obj name qual params body scope clos pm c ctv)) (h2 : CodeF F (.ref c) qual)
theorem FnF.mono {F F' : Fz} {f : Addr} {name qual : Str} {params : Arguments} {body : List Stmt} {scope : Scope} {clos : List (Str × Addr)} (le : F.le F') (h : FnF F f name qual params body scope clos) : FnF F' f name qual params body scope clos := by obtain ⟨a, b, c, d, e, g⟩ := h; exact ⟨a, b, c, d, le _ _ e, g.mono le⟩
theorem LamF.mono {F F' : Fz} {f : Addr} {name qual : Str} {params : Arguments} {body : Expr} {scope : Scope} {clos : List (Str × Addr)} (le : F.le F') (h : LamF F f name qual params body scope clos) : LamF F' f name qual params body scope clos := by obtain ⟨b, c, d, e, g⟩ := h; exact ⟨b, c, d, le _ _ e, g.mono le⟩
theorem FnF.ok {f : Addr} {name qual : Str} {params : Arguments} {body : List Stmt} {scope : Scope} {clos : List (Str × Addr)} (h : FnF F f name qual params body scope clos) : KOk F (.ref f) := by obtain ⟨a, b, c, d, e, g⟩ := h; exact .fn e rfl
theorem LamF.ok {f : Addr} {name qual : Str} {params : Arguments} {body : Expr} {scope : Scope} {clos : List (Str × Addr)} (h : LamF F f name qual params body scope clos) : KOk F (.ref f) := by obtain ⟨b, c, d, e, g⟩ := h; exact .fn e rfl
theorem made {R : Hp} {s : Shared} {P : Addr} {l : List (Nat × Nat × Addr)} {x y : Nat} {H1 : Hp} {h' : Heap} {tk : Nat} {o : Obj} {c' : Addr} {qual : Str} (ho : o.isFreed = false) (hR : Rep G fr F (H ++ R) s) (hrem : Rem H P (.raw (tabObj (tabOf l))) H1)
    (he : Heap.ExtBut P s.heap h') (h1 : s.heap.objs.size ≤ c') (h2 : c' < h'.objs.size) (hc : h'.CodeRec (.ref c') qual) (hP : h'.get? P = some (tabObj (tabOf l ++ #[rawInt x, rawInt y, .ref c']))) :
    ∃ F', F.le F' ∧ F' h'.objs.size = some o ∧ CodeF F' (.ref c') qual ∧ Rep G fr F' (((P, .raw (tabObj (tabOf (l ++ [(x, y, c')])))) :: H1) ++ R) { s with heap := h'.push o, toks := tk } := by
  rw [tab_snoc] at hP
  have r1 := hR.perm (hrem.perm.append_right R)
  have r2 : Rep G fr F ((P, .raw (tabObj (tabOf (l ++ [(x, y, c')])))) :: (H1 ++ R)) { s with heap := h' } := Rep.upd (tk := s.toks) (dr := s.drawn) (x := .raw (tabObj (tabOf l))) (x' := .raw (tabObj (tabOf (l ++ [(x, y, c')])))) r1 he hP rfl (fun hq => by obtain ⟨_, e⟩ := hq; cases e)
  obtain ⟨c, oc, vs, t, e1, e2, e3, e4⟩ := hc
  cases e1
  have gone : s.heap.get? c' = none := by
    cases q : s.heap.get? c' with
    | none => rfl
    | some o => exact absurd (Heap.lt_size q) (Nat.not_lt.mpr h1)
  have n1 := r1.fresh gone
  obtain ⟨o', ho', le1, r3⟩ := Rep.freeze (x := .raw oc) (r2.adopt n1.1 n1.2 e2 rfl) (fun _ e => nomatch e)
  have ho'' : o' = oc := ho'
  subst ho''
  obtain ⟨le2, r4⟩ := r3.newF (h' := h'.push o) (tk := tk) (dr := s.drawn) (fun b o e => Heap.get?_push_of_some _ e) (none_at_size _) (Heap.get?_push_size _ ho)
  refine ⟨_, le1.trans le2, Fz.add_self _ _ _, ⟨c', o', vs, t, rfl, le2 _ _ (Fz.add_self _ _ _), e3, e4⟩, r4⟩
end
section
variable {G : Glob} {fr : List Env} {A : Around} {F : Fz} {H : Hp} {E : Value → Fz → Hp → Prop} {E' : Addr → Value → Fz → Hp → Prop} {Q : V → Fz → Hp → Prop}
theorem call_fn {a : Addr} {name qual : Str} {params : Arguments} {scope : Scope} {cl : List (Str × Addr)} {body : List Stmt} {xs : List V} (hf : FnF F a name qual params body scope cl)
    (ns rest : List Str) (hn : ns.length = xs.length) (hnd : (ns ++ rest).Nodup) (hbind : ∀ doc pm c ctv, ∀ vs : List Value, vs.length = xs.length → bindArgs (fnX name qual params body scope cl .none .none doc pm none c ctv) ⟨vs, []⟩ = pure (ns.zip vs))
    (hcell : (scope.names.all fun x => x.2 != .cell) = true) (hloc : (ns.all fun x => decide (scope.names.lookup x = some .local)) = true)
    (hroom : A.depth < recursionLimit) (hE : ∀ L c, Leaves G fr A (envX qual scope L a c cl) (E' L) E)
    (h : ∀ L A' c, Deep A A' (envX qual scope L a c cl) → Ex G (envX qual scope L a c cl :: fr) A' F ((L, .ns (mkRho ns xs rest)) :: H) (execs body (envX qual scope L a c cl)) (Ret L Q) (E' L))
    (hco : autoParam (scope.isCoroutine = false) tac0) (hgen : autoParam (scope.isGenerator = false) tac0) (hk : autoParam (scope.kind = .function) tac0) :
    Cl G fr A F H (.ref a) xs Q E := by
  obtain ⟨doc, pm, c, ctv, hf, hc⟩ := hf
  exact call_def hf rfl hc ns rest hn hnd (hbind doc pm _ ctv) hcell hloc hroom (fun L => hE L _) (fun L A' hD => h L A' _ hD) hco hgen hk
inductive RetE (L : Addr) (Q : V → Fz → Hp → Prop) (x : V) (F : Fz) (H : Hp) : Prop where
  | intro (ρ : List (Str × Option V)) (H' : Hp) (hr : Rem H L (.ns ρ) H') (h : Q x F H')
theorem call_lam {a : Addr} {name qual : Str} {params : Arguments} {scope : Scope} {cl : List (Str × Addr)} {body : Expr} {xs : List V} (hf : LamF F a name qual params body scope cl)
    (ns : List Str) (hn : ns.length = xs.length) (hnd : ns.Nodup) (hbind : ∀ pm c ctv, ∀ vs : List Value, vs.length = xs.length → bindArgs (kla_fn name qual params body scope cl pm c ctv) ⟨vs, []⟩ = pure (ns.zip vs))
    (hcell : (scope.names.all fun x => x.2 != .cell) = true) (hloc : (ns.all fun x => decide (scope.names.lookup x = some .local)) = true)
    (hroom : A.depth < recursionLimit) (hE : ∀ L c, Leaves G fr A (envX qual scope L a c cl) (E' L) E)
    (h : ∀ L A' c, Deep A A' (envX qual scope L a c cl) → Ev G (envX qual scope L a c cl :: fr) A' F ((L, .ns (mkRho ns xs [])) :: H) (eval body (envX qual scope L a c cl)) (RetE L Q) (E' L))
    (hco : autoParam (scope.isCoroutine = false) tac0) (hgen : autoParam (scope.isGenerator = false) tac0) (hk : autoParam (scope.kind = .function) tac0) :
    Cl G fr A F H (.ref a) xs Q E := fun K m v vs hv hvs R s hR => by
  obtain rfl := hv.i_ref
  obtain ⟨pm, c, ctv, hf, hc⟩ := hf.mono m
  have hlen := hvs.length
  refine wpAny_call (kla_callFunE hroom (hR.fz _ _ hf) rfl hco hgen rfl (hc.crec hR.fz) ?_)
  rw [hbind pm _ ctv vs hlen]
  refine wpAny_pure (wpAny_newFunctionEnv (fun x hx => by simpa using List.all_eq_true.mp hcell x hx) (fun x hx => of_decide_eq_true (List.all_eq_true.mp hloc _ (List.of_mem_zip hx).1)) (fun h₀ hns₀ hsb => ⟨hR.glob.2.2.fresh _ hsb, ?_⟩) hk)
  have hk₀ : ∀ b o, s.heap.get? b = some o → h₀.get? b = some o := fun b o e => hsb.extBut b o (Nat.ne_of_lt (Heap.lt_size e)) (Heap.get?_push_of_some _ e)
  have nd1 : ((ns.zip vs).reverse.map (·.1)).Nodup := by
    rw [List.map_reverse, (List.reverse_perm _).nodup_iff, zip_names (by lia)]
    exact hnd
  have fresh : ∀ env ∈ fr, env.frame ≠ some s.heap.objs.size := fun env he e => by
    obtain ⟨L, ρ, q, m⟩ := (hR.frs env he).2
    obtain ⟨_, o, g, _⟩ := hR.own _ m
    rw [Option.some.inj (q.symm.trans e)] at g
    exact absurd (Heap.lt_size g) (Nat.lt_irrefl _)
  have r1 : Rep G (envX qual scope s.heap.objs.size a (.ref c) cl :: fr) K (((s.heap.objs.size, AO.ns (mkRho ns xs [])) :: H) ++ R) { s with heap := h₀, toks := s.toks + (ns.zip vs).length } := by
    obtain ⟨o, es, ep, ho, hdd, hkk, hff⟩ := hns₀
    have := hR.new (D := s.heap.objs.size) (x := AO.ns (mkRho ns xs [])) (tk := s.toks + (ns.zip vs).length) (dr := s.drawn) hk₀ (none_at_size _) ho ⟨es, ep, hdd, hkk, by rw [mkRho_names hn, List.append_nil]; exact hnd, fun p hp => by
      rcases mem_mkRho hn hvs p hp with ⟨h1, h2⟩ | ⟨x, v, h1, h2, h3⟩
      · cases h1
      · rw [h1]
        exact ⟨v, (hff _).trans (lookup_mem nd1 (List.mem_reverse.mpr h2)), h3⟩⟩
    exact ⟨this.gok, this.base, this.fz, this.own, this.nd, fun env he => by
      rcases List.mem_cons.mp he with rfl | he
      · exact ⟨hk, _, _, rfl, .head _⟩
      · exact this.frs env he, this.gens, this.os⟩
  refine kla_codeExpr (wpAny_mono (h s.heap.objs.size _ (.ref c) (deep A _) K m R _ r1) (fun f s' hq => ?_) fun e s' q => wpAny_mono (hE _ _ fresh K R e s' q) (fun _ _ x => x) fun _ _ x => x)
  obtain ⟨F', H', l', r', x, hx, F1, m1, ρ, H2, hrem, q⟩ := hq
  exact ⟨F', H2, l', (r'.pop.perm (hrem.perm.append_right R)).drop fresh, _, hx, F1, m1, q⟩
end
section
variable {G : Glob} {fr : List Env} {A : Around} {env : Env} {F : Fz} {H H' : Hp} {E : Value → Fz → Hp → Prop} {Q : V → Fz → Hp → Prop} {i j : Int}
theorem tr_bool {b : Bool} {Q : Bool → Fz → Hp → Prop} (h : Q b F H) : Tr G fr A F H (.bool b) Q E := fun K m a ha => ha.e_bool (P := fun a => TpAt _ _ _ _ _ (truthy a) _ _) fun R s hR => wpAny_truthy_bool (tret (Q := Q) hR m h)
theorem tr_none {Q : Bool → Fz → Hp → Prop} (h : Q false F H) : Tr G fr A F H .none Q E := fun K m a ha R s hR => by
  obtain rfl := ha.i_none
  have e : truthy .none = pure false := by first | rfl | (unfold truthy; rfl)
  rw [e]; exact wpAny_pure (tret (Q := Q) hR m h)
theorem tr_int {Q : Bool → Fz → Hp → Prop} (h : Q (i != 0) F H) : Tr G fr A F H (.int i) Q E := fun K m a ha => ha.e_int (P := fun a => TpAt _ _ _ _ _ (truthy a) _ _) fun t R s hR => PySem.P.truthy_int (tret (Q := Q) hR m h)
theorem tr_str {x : Str} {Q : Bool → Fz → Hp → Prop} (hx : (x.length : Int) < 2 ^ 63) (h : Q ((x.length : Int) != 0) F H) : Tr G fr A F H (.str x) Q E := fun K m a ha => ha.e_str (P := fun a => TpAt _ _ _ _ _ (truthy a) _ _) fun t R s hR => PySem.P.truthy_str (by lia) (tret (Q := Q) (hR.toks _) m h)
theorem RVs.isEmpty {vs : Array Value} {l : List V} (h : RVs F vs.toList l) : vs.isEmpty = l.isEmpty := by
  have e := h.toArr
  cases l with
  | nil => simpa using e
  | cons y l =>
    have : vs.size ≠ 0 := by rw [e]; simp
    simpa using this
theorem tr_list {a : Addr} {l : List V} {Q : Bool → Fz → Hp → Prop} (hm : Has H a (.list l)) (hl : (l.length : Int) < 2 ^ 63) (h : Q (!l.isEmpty) F H) : Tr G fr A F H (.ref a) Q E := fun K m v hv R s hR => by
  obtain ⟨o, ho, items, n, rfl, hr⟩ := hR.has hm
  obtain rfl := hv.i_ref
  refine wpAny_truthy_list ⟨_, ho, rfl, n, rfl⟩ (by rw [hr.toArr]; exact hl) ?_
  rw [hr.isEmpty]
  exact tret (Q := Q) (hR.toks _) m h
theorem Ev_or {a b : Expr} {pos : Pos} (h : Ev G fr A F H (eval a env) (fun x F1 H1 => Tr G fr A F1 H1 x (fun t F2 H2 => if t then Q x F2 H2 else Ev G fr A F2 H2 (eval b env) Q E) E) E) : Ev G fr A F H (eval (.BoolOp .Or [a, b] pos) env) Q E := fun K m R s hR => by
  rw [arm_eval_BoolOp]
  show wpAny G.M A (do let v ← eval a env; standAt pos; let t ← holding [v] (truthy v); match BoolOp.Or, t with | .And, false | .Or, true => pure v | _, _ => boolOp pos .Or [eval b env]) _ _ s
  refine wpAny_bind (h.go m hR (.refl K) fun v x F1 K1 H1 s1 l1 m1 r1 hx h1 => wpAny_bind (wpAny_standAt (wpAny_bind (wpAny_holding ((h1 K1 m1 v hx).seq r1 l1 fun t K2 H2 s2 l2 r2 hq => ?_)))))
  obtain ⟨F2, m2, q⟩ := hq
  cases t with
  | true => exact wpAny_pure ⟨K2, H2, l1.trans l2, r2, x, hx.mono l2, F2, m2, q⟩
  | false => exact (show Ev _ _ _ _ _ _ _ _ from q).last m2 r2 (l1.trans l2)
theorem int_str {x : Str} {n : Int} (hn : PySem.intText? x = some n) (hl : x.length ≤ 640) (h : Q (.int n) F H) : Cl G fr A F H (.typ "int") [.str x] Q E := cl_t1 fun K m v hv => hv.e_str (P := fun v => EvAt _ _ _ _ _ (call _ [v]) _ _) fun t R s hR => by
    exact KIN.call_text hn hl (vret (hR.toks _) .int m h)
open Builtin Builtin.Str in
open Builtin Builtin.Str in
open Builtin Builtin.Str in
theorem RVs.take {vs : List Value} {l : List V} (h : RVs F vs l) : ∀ k, RVs F (vs.take k) (l.take k) := by
  induction h with
  | nil => intro k; simp; exact .nil
  | cons h t ih => intro k; cases k with
    | zero => exact .nil
    | succ k => exact .cons h (ih k)
end
section
variable {G : Glob} {fr : List Env} {A : Around} {env : Env} {F : Fz} {H H' : Hp} {E : Value → Fz → Hp → Prop} {Q : V → Fz → Hp → Prop} {i j : Int}
theorem RF.mono {F F' : Fz} {f : Flow} {x : FV} (le : F.le F') (h : RF F f x) : RF F' f x := by
  cases h with
  | next => exact .next
  | brk => exact .brk
  | cont => exact .cont
  | ret h => exact .ret (h.mono le)
end
mutual
inductive VD : V → PyData → Prop where
  | none : VD .none .none
  | bool {b : Bool} : VD (.bool b) (.bool b)
  | int {i : Int} : VD (.int i) (.int i)
  | str {x : Str} : VD (.str x) (.str x)
  | tup {l : List V} {ds : List PyData} (h : VDs l ds) : VD (.tup l) (.tuple ds)
  | lst {l : List V} {ds : List PyData} (h : VDs l ds) : VD (.lst l) (.list ds)
inductive VDs : List V → List PyData → Prop where
  | nil : VDs [] []
  | cons {x : V} {d : PyData} {l : List V} {ds : List PyData} (h : VD x d) (t : VDs l ds) : VDs (x :: l) (d :: ds)
end
theorem reads_of {F : Fz} {h : Heap} (k : ∀ a o, F a = some o → h.get? a = some o) {x : V} {d : PyData} {v : Value} (hd : VD x d) : RV F v x → ∃ as, Reads h v d as := by
  revert v
  refine VD.rec (motive_1 := fun x d _ => ∀ {v : Value}, RV F v x → ∃ as, Reads h v d as) (motive_2 := fun l ds _ => ∀ {vs : List Value}, RVs F vs l → ∃ as, ReadsAll h vs ds as) ?_ ?_ ?_ ?_ ?_ ?_ ?_ ?_ hd
  · exact fun hv => hv.e_none (P := fun v => ∃ as, Reads h v _ as) ⟨_, .none⟩
  · exact fun hv => hv.e_bool (P := fun v => ∃ as, Reads h v _ as) ⟨_, .bool _⟩
  · exact fun hv => hv.e_int (P := fun v => ∃ as, Reads h v _ as) fun _ => ⟨_, .int _ _⟩
  · exact fun hv => hv.e_str (P := fun v => ∃ as, Reads h v _ as) fun _ => ⟨_, .str _ _⟩
  · exact fun _ ih _ hv => hv.e_tup (P := fun v => ∃ as, Reads h v _ as) fun a vs n ha hl hr => (ih (RVs.of hl hr)).elim fun as q => ⟨_, .tuple (k _ _ ha) rfl rfl q⟩
  · exact fun _ ih _ hv => hv.e_lst (P := fun v => ∃ as, Reads h v _ as) fun a vs n o ha hc hd hl hr => (ih (RVs.of hl hr)).elim fun as q => ⟨_, .list (k _ _ ha) hc hd q⟩
  · exact fun hv => hv.e0 (P := fun vs => ∃ as, ReadsAll h vs _ as) ⟨_, .nil⟩
  · exact fun _ _ i1 i2 _ hv => hv.ec (P := fun vs => ∃ as, ReadsAll h vs _ as) fun v vs g1 g2 => (i1 g1).elim fun as r1 => (i2 g2).elim fun bs r2 => ⟨_, .cons r1 r2⟩
section
variable {G : Glob} {fr : List Env} {A : Around} {env : Env} {F : Fz} {H H' : Hp} {E : Value → Fz → Hp → Prop} {Q : V → Fz → Hp → Prop}
end
noncomputable abbrev kindsM (env : Env) : List Bool → List Str → Bool := kindB env.kindOf
section
variable {G : Glob} {fr : List Env} {A : Around} {env : Env} {F : Fz} {H H' : Hp} {E : Value → Fz → Hp → Prop} {Q : V → Fz → Hp → Prop}
end
section
variable {G : Glob} {fr : List Env} {A : Around} {env : Env} {F : Fz} {H : Hp} {E : Value → Fz → Hp → Prop}
noncomputable def MapTurn (G : Glob) (fr : List Env) (A : Around) (cenv : Addr → Env) (nms : List Str) (target elt : Expr) (l : List V) (F1 : Fz) (H1 : Hp) (f : Nat → V) : Prop :=
  ∀ k y C ρ, l[k]? = some y → ρ.map (·.1) = nms → As G fr A (cenv C) F1 ((C, .ns ρ) :: H1) target y (fun F3 H3 => Ev G fr A F3 H3 (eval elt (cenv C)) (fun z F5 H5 => F5 = F1 ∧ Off C nms (fun _ H6 => z = f k ∧ H6 = H1) F5 H5) No) No
theorem map_turns {cenv : Addr → Env} {nms : List Str} {target elt : Expr} {l : List V} {F1 : Fz} {H1 : Hp} {f : Nat → V} (h : MapTurn G fr A cenv nms target elt l F1 H1 f) :
    Turns G fr A cenv nms target elt [] l (fun j acc F4 H4 => F4 = F1 ∧ acc = (List.range j).map f ∧ H4 = H1) := ⟨by
  rintro k y acc F2 H2 C ρ hy ⟨rfl, rfl, rfl⟩ hρ Qn hn K m v hv R s hR
  refine wpAny_mono (h k y C ρ hy hρ K m v hv R s hR) (fun _ _ hq => ?_) fun _ _ e => e
  obtain ⟨K1, H4, l4, r4, F3, m3, q⟩ := hq
  refine ⟨K1, H4, l4, r4, F3, m3, ?_⟩
  show Ev _ _ _ _ _ _ _ _
  refine q.mono (fun z F4 H4 hq => ?_) fun _ _ _ e => e
  obtain ⟨rfl, ρ', H5, hr, hnn, e1, e2⟩ := hq
  exact ⟨ρ', H5, hr, hnn, hn _ _ _ ⟨rfl, by rw [List.range_succ, List.map_append, e1]; rfl, e2⟩⟩⟩
theorem Ev_map {elt target iter : Expr} {scope : Scope} {cl : List (Str × Addr)} {pos : Pos} {Q : V → Fz → Hp → Prop} (nms : List Str)
    (hclos : closureFor scope env = pure cl)
    (h : Ev G fr A F H (eval iter env) (fun y F1 H1 => ∃ l, Iterable G A y l ∧ l.length ≤ sizeLine ∧ ∃ f : Nat → V, MapTurn G fr A (fun C => compEnvC scope cl C env) nms target elt l F1 H1 f ∧ Q (.lst ((List.range l.length).map f)) F1 H1) E)
    (hnd : nms.Nodup) (hcell : autoParam ((scope.names.all fun x => x.2 != .cell) = true) tac0) (hkind : autoParam (scope.kind = .function) tac0) (hnames : autoParam ((scope.names.all fun x => (x.2 != .local) || decide (scope.names.lookup x.1 = some .local)) = true) tac0)
    (hs : ∀ x, foldedSetIterable iter env x = pure x := by intro _; rfl) :
    Ev G fr A F H (eval (.ListComp elt [⟨target, iter, [], 0⟩] scope pos) env) Q E :=
  Ev_ListComp nms hclos (h.mono (fun y F1 H1 hq => by
    obtain ⟨l, h1, h2, f, h3, h4⟩ := hq
    exact ⟨l, h1, h2, _, ⟨rfl, rfl, rfl⟩, map_turns h3, fun acc F2 H2 e => by obtain ⟨rfl, rfl, rfl⟩ := e; exact h4⟩) fun _ _ _ e => e) hnd hcell hkind hnames hs
end
noncomputable def tbH : Option Addr → Hp
  | none => []
  | some t => [(t, .tb)]
section
variable {G : Glob} {fr : List Env} {A : Around} {F K : Fz} {H R : Hp} {s : Shared} {E : Value → Fz → Hp → Prop}
theorem Rep.slots (h : Rep G fr K H s) {h' : Heap} (hs : Heap.SlotsOnly (fr.filterMap (·.frame)) s.heap h') : Rep G fr K H { s with heap := h' } := by
  have fin : ∀ b ∈ fr.filterMap (·.frame), ∃ ρ, (b, AO.ns ρ) ∈ H := fun b hb => by
    obtain ⟨env, he, e⟩ := List.mem_filterMap.mp hb
    obtain ⟨L, ρ, e', m⟩ := (h.frs env he).2
    rw [e] at e'
    cases e'
    exact ⟨ρ, m⟩
  refine ⟨h.gok, h.base, fun a o e => ?_, fun p hp => ?_, h.nd, h.frs, h.gens, h.os⟩
  · refine (hs.2.1 a fun hm => ?_).trans (h.fz a o e)
    obtain ⟨ρ, m⟩ := fin a hm
    rw [(h.own _ m).1] at e
    cases e
  · obtain ⟨n, o, g, r⟩ := h.own p hp
    by_cases hm : p.1 ∈ fr.filterMap (·.frame)
    · obtain ⟨ρ, m⟩ := fin _ hm
      have hpe : p = (p.1, AO.ns ρ) := by
        have := h.nd
        obtain ⟨a, x⟩ := p
        have key : ∀ {H : Hp}, (H.map (·.1)).Nodup → (a, x) ∈ H → (a, AO.ns ρ) ∈ H → x = AO.ns ρ := by
          intro H
          induction H with
          | nil => intro _ q; cases q
          | cons q H ih =>
            intro nd h1 h2
            rw [List.map_cons, List.nodup_cons] at nd
            rcases List.mem_cons.mp h1 with e1 | e1 <;> rcases List.mem_cons.mp h2 with e2 | e2
            · rw [← e1] at e2; exact (Prod.mk.inj e2).2.symm
            · subst e1; exact absurd (mem_keys e2 rfl) nd.1
            · subst e2; exact absurd (mem_keys e1 rfl) nd.1
            · exact ih nd.2 e1 e2
        rw [key this hp m]
      obtain ⟨sl, g'⟩ := hs.2.2 p.1 o g
      rw [hpe] at r ⊢
      obtain ⟨es, ep, e1, e2, e3, e4⟩ := r
      exact ⟨n, _, g', es, ep, e1, e2, e3, e4⟩
    · exact ⟨n, o, (hs.2.1 _ hm).trans g, r⟩
theorem Rep.funFrames (h : Rep G fr K H s) : s.heap.FunFrames { objs := #[] } fr := by
  have : ∀ l : List Env, (∀ e ∈ l, e ∈ fr) → s.heap.FunFrames { objs := #[] } l := by
    intro l
    induction l with
    | nil => intro _; trivial
    | cons env l ih =>
      intro hl
      obtain ⟨hk, L, ρ, hf, m⟩ := h.frs env (hl env (.head _))
      obtain ⟨_, o, g, es, ep, hd, _⟩ := h.own _ m
      exact ⟨by rw [hk]; decide, ⟨L, o, hf, by first | rfl | simp [Heap.get?], g, fun vs q => by rw [hd] at q; cases q⟩, ih fun e he => hl e (.tail _ he)⟩
  exact this fr fun _ h => h
theorem notNs_exc {c : String} {args : List V} {tb : Option Addr} {d : Option Addr} {cx : Bool} {X : AO} : (∃ ρ, AO.exc c args tb d cx = .ns ρ) → ∃ ρ, X = .ns ρ := fun h => by obtain ⟨_, q⟩ := h; cases q
theorem notNs_tb {X : AO} : (∃ ρ, AO.tb = .ns ρ) → ∃ ρ, X = .ns ρ := fun h => by obtain ⟨_, q⟩ := h; cases q
theorem RO.excSet {w : World} {o : Obj} {c : String} {args : List V} {tb : Option Addr} {d : Option Addr} {cx : Bool} (h : RO w K o (.exc c args tb d cx)) (t : Addr) : RO w K (o.mapFields (·.setIfInBounds 1 (.ref t))) (.exc c args (some t) d cx) := by
  obtain ⟨vs, a, v5, e1, e2, e3, e4, e5, e6, e7, e8, e9⟩ := h
  have hsz : 1 < vs.size := (Array.getElem?_eq_some_iff.mp e6).1
  obtain ⟨oc, od, odt, osl⟩ := o
  obtain rfl : odt = .fields vs := e3
  refine ⟨vs.setIfInBounds 1 (.ref t), a, v5, e1, e2, rfl, ?_, e5, ?_, ?_, e8, fun q => ?_⟩
  · rw [Array.getElem?_setIfInBounds_ne (by decide)]; exact e4
  · rw [Array.getElem?_setIfInBounds_self]; simp [hsz]
  · rw [Array.getElem?_setIfInBounds_ne (by decide)]; exact e7
  · rw [Array.getElem?_setIfInBounds_ne (by decide)]; exact e9 q
theorem entry {env : Env} {outer : List Env} (hfr : A.frames = some (env :: outer)) {x : Addr} {c : String} {args : List V} {tb : Option Addr} {d : Option Addr} {cx : Bool} {L : Addr} {head : Value} {had : Bool} (hf : env.frame = some L) :
    TpAt G (env :: outer) A K ((x, .exc c args tb d cx) :: H) (do let a ← frameOf env; let pl ← entryPlaceOf L had; let b ← EntryCells.newEntry head a .none (rawInt L) .none pl; setField (.ref x) 1 b)
      (fun _ K' H' => K' = K ∧ ∃ t, H' = (x, .exc c args (some t) d cx) :: (t, .tb) :: H) E := fun R s hR => by
  refine wpAny_bind (wpAny_frameOf_fun hfr hR.funFrames hf fun h₁ hs₁ => ?_)
  have r1 := hR.slots hs₁
  refine wpAny_bind (wpAny_entryPlaceOf fun pl hpl => ?_)
  unfold EntryCells.newEntry newFields
  refine wpAny_bind (wpAny_newObj_type ?_ (hpl.sizeOk5 _ _ _ _ _))
  have r2 := r1.new (D := h₁.objs.size) (x := .tb) (tk := s.toks) (dr := s.drawn) (fun b o e => Heap.get?_push_of_some { cls := .type "traceback", dict := none, data := .fields ([head, .ref L, .none, rawInt L, .none] ++ (if pl.isEmpty then List.replicate 6 Value.none else pl)).toArray } e) (none_at_size _) (Heap.get?_push_size _ rfl) ⟨_, rfl, rfl, by simp only [List.size_toArray, List.length_append, List.length_cons, List.length_nil]; lia⟩
  have r3 := r2.perm (H' := (x, .exc c args tb d cx) :: (h₁.objs.size, .tb) :: (H ++ R)) (.swap ..)
  obtain ⟨_, o, ho, hro⟩ := r3.own _ (.head _)
  obtain ⟨vs, a, v5, e1, e2, e3, e4, e5, e6, e7⟩ := id hro
  have hsz : 1 < vs.size := (Array.getElem?_eq_some_iff.mp e6).1
  refine wpAny_setField ho e3 hsz ?_
  have g := Heap.get?_update_self (Obj.mapFields (·.setIfInBounds 1 (Value.ref h₁.objs.size))) ho (Obj.isFreed_of_fields (Obj.data_mapFields e3 _))
  exact ⟨K, _, .refl K, r3.upd (tk := s.toks) (dr := s.drawn) (Heap.SameBut.update ..).extBut g (hro.excSet _) notNs_exc, rfl, _, rfl⟩
theorem note {env : Env} {outer : List Env} (hfr : A.frames = some (env :: outer)) {x : Addr} {c : String} {args : List V} {tb : Option Addr} {d : Option Addr} {cx : Bool} :
    TpAt G (env :: outer) A K ((x, .exc c args tb d cx) :: (tbH tb ++ H)) (noteFrame (.ref x) env) (fun _ K' H' => K' = K ∧ ∃ t, H' = (x, .exc c args (some t) d cx) :: (t, .tb) :: H) E := fun R s hR => by
  obtain ⟨_, L, _, hf, _⟩ := hR.frs env (.head _)
  obtain ⟨_, o, ho, hro⟩ := hR.own _ (.head _)
  obtain ⟨vs, a, v5, e1, e2, e3, e4, e5, e6, e7⟩ := id hro
  unfold noteFrame
  simp only [hf]
  refine wpAny_bind (wpAny_field ho e3 e6 ?_)
  cases tb with
  | none =>
    rw [if_neg (by decide)]
    exact entry hfr hf R s hR
  | some t =>
    rw [if_pos (show ((some t).elim Value.none Value.ref != Value.none) = true from by simp)]
    have r1 : Rep G (env :: outer) K ((t, .tb) :: (x, .exc c args (some t) d cx) :: (H ++ R)) s := hR.perm (.swap ..)
    obtain ⟨_, ot, hot, ts, t1, t2, t3⟩ := r1.own _ (.head _)
    refine wpAny_bind (wpAny_field hot t2 (x := ts[3]) (Array.getElem?_eq_getElem t3) ?_)
    by_cases hb : (ts[3] == rawInt L) = true
    · rw [if_pos hb]
      exact wpAny_pure ⟨K, _, .refl K, hR, rfl, t, rfl⟩
    · rw [if_neg hb]
      refine wpAny_bind (wpAny_setField hot t2 t3 ?_)
      have g := Heap.get?_update_self (Obj.mapFields (·.setIfInBounds 3 Value.none)) hot (Obj.isFreed_of_fields (Obj.data_mapFields t2 _))
      have r2 : Rep G (env :: outer) K ((t, .tb) :: (x, .exc c args (some t) d cx) :: (H ++ R)) { s with heap := s.heap.update t (Obj.mapFields (·.setIfInBounds 3 Value.none)) } :=
        r1.upd (x' := .tb) (tk := s.toks) (dr := s.drawn) (Heap.SameBut.update ..).extBut g ⟨_, by rw [Obj.cls_mapFields]; exact t1, Obj.data_mapFields t2 _, by simpa using t3⟩ notNs_tb
      exact entry hfr hf R _ (r2.dropNot fun _ q => nomatch q)
theorem flight {x t : Addr} {c : String} {args : List V} {d : Option Addr} {cx : Bool} {f : Option Addr} :
    TpAt G fr A K ((x, .exc c args (some t) d cx) :: (t, .tb) :: H) (setFlight (.ref x) f) (fun _ K' H' => K' = K ∧ H' = (x, .exc c args (some t) d cx) :: (t, .tb) :: H) E := fun R s hR => by
  obtain ⟨_, o, ho, hro⟩ := hR.own _ (.head _)
  obtain ⟨vs, a, v5, e1, e2, e3, e4, e5, e6, e7⟩ := id hro
  unfold setFlight
  refine wpAny_bind (wpAny_field ho e3 e6 ?_)
  have hb : ((some t).elim Value.none Value.ref != Value.none) = true := by simp
  rw [if_pos hb]
  have r1 : Rep G fr K ((t, .tb) :: (x, .exc c args (some t) d cx) :: (H ++ R)) s := hR.perm (.swap ..)
  obtain ⟨_, ot, hot, ts, t1, t2, t3⟩ := r1.own _ (.head _)
  refine wpAny_setField hot t2 t3 ?_
  have g := Heap.get?_update_self (Obj.mapFields (·.setIfInBounds 3 (f.elim Value.none fun f => rawInt f))) hot (Obj.isFreed_of_fields (Obj.data_mapFields t2 _))
  have r2 : Rep G fr K ((t, .tb) :: (x, .exc c args (some t) d cx) :: (H ++ R)) { s with heap := s.heap.update t (Obj.mapFields (·.setIfInBounds 3 (f.elim Value.none fun f => rawInt f))) } :=
    r1.upd (x' := .tb) (tk := s.toks) (dr := s.drawn) (Heap.SameBut.update ..).extBut g ⟨_, by rw [Obj.cls_mapFields]; exact t1, Obj.data_mapFields t2 _, by simpa using t3⟩ notNs_tb
  exact ⟨K, _, .refl K, r2.perm (.swap ..), rfl, rfl⟩
inductive Thr0 (P : Addr → String → List V → Bool → Fz → Hp → Prop) (e : Value) (F : Fz) (H : Hp) : Prop where
  | intro (x : Addr) (c : String) (args : List V) (tb : Option Addr) (cx : Bool) (H1 : Hp) (e1 : e = .ref x) (e2 : H.Perm ((x, .exc c args tb none cx) :: (tbH tb ++ H1))) (q : P x c args cx F H1)
noncomputable abbrev Thr (P : Addr → String → List V → Fz → Hp → Prop) : Value → Fz → Hp → Prop := Thr0 fun x c args _ F H => P x c args F H
section
variable {P Q : Addr → String → List V → Bool → Fz → Hp → Prop} {e : Value}
theorem Thr0.mk {x : Addr} {c : String} {args : List V} {cx : Bool} {H1 : Hp} (hr : Rem H x (.exc c args none none cx) H1) (p : P x c args cx F H1) : Thr0 P (.ref x) F H := ⟨x, c, args, none, cx, H1, rfl, hr.perm, p⟩
theorem Thr0.mono (h : Thr0 P e F H) (k : ∀ x c a b F1 H1, P x c a b F1 H1 → Q x c a b F1 H1) : Thr0 Q e F H := by obtain ⟨x, c, a, tb, cx, H1, h1, h2, h3⟩ := h; exact ⟨x, c, a, tb, cx, H1, h1, h2, k _ _ _ _ _ _ h3⟩
theorem Thr0.up {X : Addr × AO} (h : Thr0 (fun x c a b F1 H1 => P x c a b F1 (X :: H1)) e F H) : Thr0 P e F (X :: H) := by
  obtain ⟨x, c, a, tb, cx, H1, h1, h2, h3⟩ := h
  exact ⟨x, c, a, tb, cx, X :: H1, h1, (h2.cons X).trans ((List.Perm.swap ..).trans (List.Perm.cons _ List.perm_middle.symm)), h3⟩
theorem thr_no (h : Thr0 (fun _ _ _ _ _ _ => False) e F H) : False := by obtain ⟨_, _, _, _, _, _, _, _, h3⟩ := h; exact h3
end
theorem noted_thr2 {A' : Around} {env : Env} {outer : List Env} (hfr : A.frames = some (env :: outer)) {P : Addr → String → List V → Bool → Fz → Hp → Prop} {e : Value} (hq : PQ G (env :: outer) K R (fun e => Dn (Thr0 P e)) e s) :
    notedBy G.M A env (cameBackBy G.M A' env (PQ G (env :: outer) K R fun e => Dn (Thr0 P e))) e s := by
  obtain ⟨K1, H1, l1, r1, F1, m1, x, c, args, tb, cx, H2, rfl, hp, p⟩ := hq
  have r1 : Rep G (env :: outer) K1 (((x, .exc c args tb none cx) :: (tbH tb ++ H2)) ++ R) s := r1.perm (hp.append_right R)
  refine wpAny_mono (note hfr (E := No) R s r1) (fun _ s2 hq => ?_) fun e s2 q => (noPQ (v := e) q).elim
  obtain ⟨K2, H3, l2, r2, rfl, t, rfl⟩ := hq
  obtain ⟨_, o, ho, hro⟩ := r2.own _ (.head _)
  obtain ⟨vs, a, v5, e1, e2, e3, e4, e5, e6, e7⟩ := id hro
  show wpAny G.M A' (do
    if (← field (.ref x) 1) == .none then unsupported "frame.own-activation:exception-without-traceback"
    setFlight (.ref x) env.frame) _ _ s2
  refine wpAny_bind (wpAny_field ho e3 e6 ?_)
  rw [if_neg (show ¬ ((some t).elim Value.none Value.ref == Value.none) = true from by simp)]
  refine wpAny_mono (flight (E := No) R s2 r2) (fun _ s3 hq => ?_) fun e s2 q => (noPQ (v := e) q).elim
  obtain ⟨K3, H3, l3, r3, rfl, rfl⟩ := hq
  exact ⟨K3, _, l1, r3, F1, m1, x, c, args, some t, cx, H2, rfl, .refl _, p⟩
theorem noted_thr {env : Env} {outer : List Env} (hfr : A.frames = some (env :: outer)) {P : Addr → String → List V → Bool → Fz → Hp → Prop} : Noted G (env :: outer) A env (Thr0 P) := fun K R e s hq => noted_thr2 hfr hq
inductive Lv (L : Addr) (P : Addr → String → List V → Bool → Fz → Hp → Prop) (x : Addr) (c : String) (a : List V) (b : Bool) (F : Fz) (H : Hp) : Prop where
  | intro (ρ : List (Str × Option V)) (H' : Hp) (hr : Rem H L (.ns ρ) H') (q : P x c a b F H')
theorem leaves_thr {env : Env} {L : Addr} (hfr : A.frames = some fr) (hL : env.frame = some L) {P : Addr → String → List V → Bool → Fz → Hp → Prop} :
    Leaves G fr A env (Thr0 (Lv L P)) (Thr0 P) := fun fresh K R e s hq => by
  obtain ⟨K1, H1, l1, r1, F1, m1, x, c, args, tb, cx, H2, rfl, hp, ρ, H3, hrem, p⟩ := hq
  have r1 : Rep G (env :: fr) K1 (((x, .exc c args tb none cx) :: (tbH tb ++ H2)) ++ R) s := r1.perm (hp.append_right R)
  have hfr' : (A.deeper env).frames = some (env :: fr) := Around.frames_deeper hfr
  unfold leaving
  refine wpAny_bind (wpAny_mono (note hfr' (E := No) R s r1) (fun _ s2 hq => ?_) fun e s2 q => (noPQ (v := e) q).elim)
  obtain ⟨K2, H4, l2, r2, rfl, t, rfl⟩ := hq
  refine wpAny_mono (flight (E := No) R s2 r2) (fun _ s3 hq => ?_) fun e s2 q => (noPQ (v := e) q).elim
  obtain ⟨K3, H5, l3, r3, rfl, rfl⟩ := hq
  have hr3 : Rem ((x, AO.exc c args (some t) none cx) :: (t, AO.tb) :: H2) L (.ns ρ) ((x, AO.exc c args (some t) none cx) :: (t, AO.tb) :: H3) := .tl (.tl hrem)
  have r4 : Rep G fr K3 (((x, AO.exc c args (some t) none cx) :: (t, AO.tb) :: H3) ++ R) s3 := (r3.pop.perm (hr3.perm.append_right R)).drop fun e he q => fresh e he (q.trans hL.symm)
  exact ⟨K3, _, l1, r4, F1, m1, x, c, args, some t, cx, H3, rfl, .refl _, p⟩
end
section
variable {G : Glob} {fr : List Env} {A : Around} {env : Env} {F K : Fz} {H R : Hp} {s : Shared} {E : Value → Fz → Hp → Prop} {Q : V → Fz → Hp → Prop}
theorem stop_new1 {y : V} (h : ∀ x, Q (.ref x) F ((x, .exc "StopIteration" [y] none none true) :: H)) : Cl G fr A F H (.typ "StopIteration") [y] Q E := cl_t1 fun K m v hv R s hR => by
  refine stop_call fun h' e hm => ?_
  obtain ⟨hk, hn, t, he, ht, hto⟩ := hm
  obtain ⟨le, r1⟩ := hR.newF (tk := s.toks) (dr := s.drawn) hk ht hto
  have fr1 := hR.fresh hn
  have hne : e ≠ t := fun q => by
    subst q
    rw [he] at hto
    exact absurd (congrArg Obj.cls (Option.some.inj hto)) (by simp)
  have r2 := Rep.adopt (x := .exc "StopIteration" [y] none none true) r1 (by unfold Fz.add; rw [if_neg hne]; exact fr1.1) fr1.2 he
    ⟨_, t, v, rfl, rfl, rfl, rfl, .tup (vs := [v]) (l := [y]) (Fz.add_self _ _ _) rfl (RVs.get (.cons (hv.mono le) .nil)), rfl, rfl, fun _ => hv.mono le, fun _ => rfl⟩
  exact ⟨_, _, le, r2, _, .ref, F, m.trans le, h e⟩
theorem raise_any {M : Model} {x : Sem Value} {E : Value → Shared → Prop} {Q : Flow → Shared → Prop} (hh : A.handled = none)
    (h : wpAny M A x (fun v s₁ => ∃ c, ExcRaiseFacts c ∧ ∃ e o vs, v = .ref e ∧ s₁.heap.get? e = some o ∧ o.cls = .type c ∧ o.data = .fields vs ∧ vs[1]? = some .none ∧ E (.ref e) s₁) E s) :
    wpAny M A (raiseStmt env (some x) none) Q E s := by
  unfold raiseStmt
  refine wpAny_bind (wpAny_mono h (fun v s₁ h₁ => ?_) fun _ _ x => x)
  obtain ⟨c, F, e, o, vs, rfl, he, hc, hd, h1, hE⟩ := h₁
  obtain ⟨hp, g, d, tk, os⟩ := s₁
  have hsub := F.isExc
  have hmeta := F.plainMeta
  obtain ⟨oc, od, odt, osl⟩ := o
  obtain rfl : oc = .type c := hc
  obtain rfl : odt = .fields vs := hd
  repeat (first | refine wpAny_loadPart he ?_ | wp_step)
  rw [h1]
  refine wpAny_pure ?_
  rw [if_neg (by decide)]
  refine wpAny_pure ?_
  unfold raiseNew
  refine wpAny_bind (wpAny_handled ?_)
  rw [hh]
  first
    | exact wpAny_throw hE
    | exact wpAny_bind (wpAny_pure (wpAny_throw hE))
theorem Ex_Raise {e : Expr} {pos : Pos} {Q : FV → Fz → Hp → Prop} (hh : A.handled = none)
    (h : Ev G fr A F H (eval e env) (fun v F1 H1 => ∃ x c args cx, v = .ref x ∧ Has H1 x (.exc c args none none cx) ∧ ExcRaiseFacts c ∧ E (.ref x) F1 H1) E) : Ex G fr A F H (exec (.Raise (some e) none pos) env) Q E := fun K m R s hR => by
  rw [arm_exec_Raise]
  show wpAny G.M A (do standAt pos; raiseStmt env (some (do let v ← eval e env; standAt pos; pure v)) none) _ _ s
  refine wpAny_bind (wpAny_standAt ?_)
  have key : wpAny G.M A (do let v ← eval e env; standAt pos; pure v) (fun v s₁ => ∃ c, ExcRaiseFacts c ∧ ∃ e o vs, v = .ref e ∧ s₁.heap.get? e = some o ∧ o.cls = .type c ∧ o.data = .fields vs ∧ vs[1]? = some .none ∧ PQ G fr K R (fun e => Dn (E e)) (.ref e) s₁) (PQ G fr K R fun e => Dn (E e)) s := by
    refine wpAny_bind (h.go m hR (.refl K) fun v x F1 K1 H1 s1 l1 m1 r1 hx hq => wpAny_bind (wpAny_standAt (wpAny_pure ?_)))
    obtain ⟨x, c, args, cx, rfl, hm, hf, q⟩ := hq
    obtain rfl := hx.i_ref
    obtain ⟨o, ho, vs, a, v5, e1, e2, e3, e4, e5, e6, e7⟩ := r1.has hm
    exact ⟨c, hf, x, o, vs, rfl, ho, e1, e3, e6, K1, H1, l1, r1, F1, m1, q⟩
  refine raise_any hh key
end
noncomputable def Hd (G : Glob) (fr : List Env) (A : Around) (env : Env) (F : Fz) (H : Hp) (x : Addr) (hs : List ExceptHandler) (Q : FV → Fz → Hp → Prop) (E : Value → Fz → Hp → Prop) : Prop := ∀ K, F.le K → TpAt G fr A K H (handleBy (.ref x) env hs) (FQ Q) E
structure Cat (c T : String) (b : Bool) : Prop where
  exc : isSubtype (.type T) (.type "BaseException") = pure true
  nt : isSubtype (.type ((Manifest.find? T).elim "type" fun x => x.metatype)) (.type "tuple") = pure false
  sub : isSubtype (.type c) (.type T) = pure b
inductive Drp : Hp → Hp → Prop where
  | nil {H : Hp} : Drp H H
  | cons {H H1 H2 : Hp} {a : Addr} {x : AO} (hr : Rem H a x H1) (hx : ∀ ρ, x ≠ .ns ρ) (t : Drp H1 H2) : Drp H H2
theorem Rep.drp {G : Glob} {fr : List Env} {K : Fz} {H H' R : Hp} {s : Shared} (d : Drp H H') (r : Rep G fr K (H ++ R) s) : Rep G fr K (H' ++ R) s := by
  induction d with
  | nil => exact r
  | cons hr hx _ ih => exact ih ((r.perm (hr.perm.append_right R)).dropNot hx)
theorem Drp.one {H H1 : Hp} {a : Addr} {x : AO} (hr : Rem H a x H1) (hx : ∀ ρ, x ≠ .ns ρ) : Drp H H1 := .cons hr hx .nil
theorem Drp.two {H H1 H2 : Hp} {a b : Addr} {x y : AO} (hr : Rem H a x H1) (hx : ∀ ρ, x ≠ .ns ρ) (hs : Rem H1 b y H2) (hy : ∀ ρ, y ≠ .ns ρ) : Drp H H2 := .cons hr hx (.cons hs hy .nil)
inductive Unb (env : Env) (n : Str) (F : Fz) (H : Hp) (Q : Fz → Hp → Prop) : Prop where
  | intro (ρ ρ' : List (Str × Option V)) (H' : Hp) (hu : Upd H env.locals (.ns ρ) (.ns ρ') H') (hs : SetL ρ n none ρ') (h : Q F H')
theorem Unb.mk {env : Env} {n : Str} {F : Fz} {H H' : Hp} {Q : Fz → Hp → Prop} {ρ ρ' : List (Str × Option V)} (hu : Upd H env.locals (.ns ρ) (.ns ρ') H') (hs : SetL ρ n none ρ') (h : Q F H') : Unb env n F H Q := ⟨ρ, ρ', H', hu, hs, h⟩
section
variable {G : Glob} {fr outer : List Env} {A : Around} {env : Env} {F K : Fz} {H R : Hp} {s : Shared} {E : Value → Fz → Hp → Prop} {Q : FV → Fz → Hp → Prop} {P PB : Addr → String → List V → Bool → Fz → Hp → Prop}
theorem unbind {n : Str} {pos : Pos} {Q : Fz → Hp → Prop} (m : F.le K) (h : Unb env n F H Q) (hk : autoParam (env.scope.kind = .function) tac0) (hl : autoParam (env.kindOf n = some .local) tac0) :
    TpAt G fr A K H (do bindName env n .none; unbindBehindTheSuite env n pos) (fun _ => Dn Q) E := fun R s hR => by
  obtain ⟨ρ, ρ', H', hu, hs, q⟩ := h
  obtain ⟨o, ho, r⟩ := hR.get hu.mem
  obtain ⟨ms, hn, nd, hp⟩ := nsOf ho r
  have hpk : (env.scope.kind == .class || (env.scope.kind == .module && env.locals != env.globals)) = false := by rw [hk]; rfl
  refine wpAny_bind (wpAny_bindName (wpAny_storeName_local hl hn (fun h₁ hn₁ hs₁ => ?_) hpk))
  unfold unbindBehindTheSuite
  refine wpAny_onRaise ?_
  unfold unbindName
  refine wpAny_bind (wpAny_point (wpAny_bind ?_))
  unfold deleteName
  simp only [hl, hpk]
  rw [if_neg (by decide)]
  refine wpAny_bind (wpAny_nsDel_keeps hn₁ fun h₂ v hn₂ hs₂ => ?_)
  simp only [if_true, Option.isSome_some, Bool.not_true, Bool.false_eq_true, if_false]
  refine wpAny_pure (wpAny_point ?_)
  obtain ⟨o', es, ep, ho', hd', hk', hf'⟩ := hn₂
  refine ⟨K, H', .refl K, hR.upd' (tk := s.toks + 1) (dr := s.drawn) hu (hs₁.trans hs₂).extBut ho' ⟨es, ep, hd', hk', by rw [hs.names.1]; exact nd, fun p hpm => ?_⟩ fun _ => ⟨_, rfl⟩, F, m, q⟩
  rcases hs.spec nd p hpm with ⟨h1, h2⟩ | ⟨h1, h2⟩
  · rw [h2]; trivial
  · have q := hp p h2
    cases e : p.2 with
    | none => trivial
    | some z =>
      simp only [e] at q ⊢
      obtain ⟨u, q1, q2⟩ := q
      exact ⟨u, by rw [hf' p.1]; simp only [if_neg h1]; exact q1, q2⟩
theorem pass {what : String} {x t : Addr} {c : String} {args : List V} {d : Option Addr} {cx : Bool} {α : Type} {Q' : α → Shared → Prop} {E' : Value → Shared → Prop} (hR : Rep G fr K (((x, .exc c args (some t) d cx) :: (t, .tb) :: H) ++ R) s)
    (h : ∀ s', Rep G fr K (((x, .exc c args (some t) d cx) :: (t, .tb) :: H) ++ R) s' → E' (.ref x) s') : wpAny G.M A (PySem.passOn what (.ref x) env : Sem α) Q' E' s := by
  obtain ⟨_, o, ho, hro⟩ := hR.own _ (.head _)
  obtain ⟨vs, a, v5, e1, e2, e3, e4, e5, e6, e7⟩ := id hro
  unfold PySem.passOn
  refine wpAny_bind (wpAny_field ho e3 e6 ?_)
  rw [if_neg (show ¬ ((some t).elim Value.none Value.ref == Value.none) = true from by simp)]
  refine wpAny_bind (wpAny_mono (flight (E := No) R s hR) (fun _ s3 hq => ?_) fun e s2 q => (noPQ (v := e) q).elim)
  obtain ⟨K3, H3, l3, r3, rfl, rfl⟩ := hq
  exact wpAny_throw (h s3 r3)
theorem Ex_Try {body : List Stmt} {h₀ : ExceptHandler} {hs : List ExceptHandler} {pos : Pos} (hfr : A.frames = some (env :: outer))
    (h : Ex G (env :: outer) A F H (execs body env) Q (Thr0 PB))
    (hd : ∀ x c args t cx F1 H1, PB x c args cx F1 H1 → Hd G (env :: outer) A env F1 ((x, .exc c args (some t) none cx) :: (t, .tb) :: H1) x (h₀ :: hs) Q E) :
    Ex G (env :: outer) A F H (exec (.Try body (h₀ :: hs) [] [] pos) env) Q E := fun K m R s hR => by
  refine wpAny_Try_except (wpAny_mono (h K m R s hR) (fun f s₁ hq => ?_) fun e s₁ hq => ?_)
  · cases f with
    | next => exact wpAny_execs_nil hq
    | brk => exact hq
    | cont => exact hq
    | ret v => exact hq
  · obtain ⟨K1, H1, l1, r1, F1, m1, x, c, args, tb, cx, H2, rfl, hp, p⟩ := hq
    have r1 : Rep G (env :: outer) K1 (((x, .exc c args tb none cx) :: (tbH tb ++ H2)) ++ R) s₁ := r1.perm (hp.append_right R)
    refine wpAny_mono (note hfr (E := No) R s₁ r1) (fun _ s2 hq => ?_) fun e s2 q => (noPQ (v := e) q).elim
    obtain ⟨K2, H3, l2, r2, rfl, t, rfl⟩ := hq
    refine wpAny_mono (flight (E := No) R s2 r2) (fun _ s3 hq => ?_) fun e s2 q => (noPQ (v := e) q).elim
    obtain ⟨K3, H4, l3, r3, rfl, rfl⟩ := hq
    exact (hd x c args t cx F1 H2 p K3 m1).last r3 l1
theorem Rep.isExc {x : Addr} {c : String} {args : List V} {tb d : Option Addr} {cx : Bool} (hR : Rep G fr K (H ++ R) s) (hx : Has H x (.exc c args tb d cx)) : s.TypeIs (.ref x) c := by
  obtain ⟨o, ho, vs, a, v5, e1, _⟩ := hR.has hx
  exact ⟨o, ho, e1⟩
theorem Hd_as {x t : Addr} {c T : String} {args : List V} {cx : Bool} {n nm : Str} {npos pos : Pos} {b₀ : Stmt} {suite : List Stmt} {rest : List ExceptHandler} (hfr : A.frames = some (env :: outer)) (hg : G.mg n = none) (hb : G.mb n = some (.type T)) (cat : Cat c T true)
    (h : Store env nm (.ref x) F ((x, .exc c args (some t) none cx) :: (t, .tb) :: H) fun F1 H1 => Ex G (env :: outer) (A.mark (some (.ref x))) F1 H1 (execs (b₀ :: suite) env) (fun fv F2 H2 => Unb env nm F2 H2 (Q fv)) (Thr0 fun x c a b F2 H2 => Unb env nm F2 H2 (P x c a b)))
    (hk : autoParam (env.scope.kind = .function) tac0) (hkn : autoParam (env.kindOf n = some .globalImplicit) tac0) (hl : autoParam (env.kindOf nm = some .local) tac0) (hgl : autoParam (env.globals = mainGlobals) tac0) (hbl : autoParam (env.builtins = builtinsNs) tac0) (hd : autoParam ((n == ("__debug__" : Str)) = false) tac14) :
    Hd G (env :: outer) A env F ((x, .exc c args (some t) none cx) :: (t, .tb) :: H) x (.ExceptHandler (some (.Name n npos)) (some nm) (b₀ :: suite) pos :: rest) Q (Thr0 P) := fun K m R s hR => by
  refine wpAny_handleBy_builtin_as (b := true) cat.exc cat.nt cat.sub (Name_function_global hk hkn (loadGlobal_builtin (by rw [hgl]; exact hR.glob.1) hg (by rw [hbl]; exact hR.glob.2.1) hb ⟨rfl, hR.isExc .hd, ?_⟩) hd)
  rw [if_pos rfl]
  refine wpAny_mono (flight (E := No) R s hR) (fun _ s3 hq => ?_) fun e s2 q => (noPQ (v := e) q).elim
  obtain ⟨K3, H3, l3, r3, rfl, rfl⟩ := hq
  refine wpAny_mono (store (E := No) (A := A.mark (some (.ref x))) m .ref h hk hl R s3 r3) (fun _ s4 hq => ?_) fun e s2 q => (noPQ (v := e) q).elim
  obtain ⟨K4, H4, l4, r4, F4, m4, q⟩ := hq
  refine wpAny_mono (q K4 m4 R s4 r4) (fun f s5 hq => ?_) fun e s5 hq => ?_
  · obtain ⟨K5, H5, l5, r5, fv, hf, F5, m5, q⟩ := hq
    refine wpAny_mono (unbind (E := No) m5 q hk hl R s5 r5) (fun _ s6 hq => ?_) fun e s2 q => (noPQ (v := e) q).elim
    obtain ⟨K6, H6, l6, r6, F6, m6, q⟩ := hq
    exact ⟨K6, H6, l4.trans (l5.trans l6), r6, fv, hf.mono l6, F6, m6, q⟩
  · obtain ⟨K5, H5, l5, r5, F5, m5, x', c', args', tb', cx', H6, rfl, hp, q⟩ := hq
    have r5 : Rep G (env :: outer) K5 (((x', .exc c' args' tb' none cx') :: (tbH tb' ++ H6)) ++ R) s5 := r5.perm (hp.append_right R)
    refine wpAny_mono (note (A := A.mark (some (.ref x))) hfr (E := No) R s5 r5) (fun _ s6 hq => ?_) fun e s2 q => (noPQ (v := e) q).elim
    obtain ⟨K6, H7, l6, r6, rfl, t', rfl⟩ := hq
    have q' : Unb env nm F5 ((x', .exc c' args' (some t') none cx') :: (t', .tb) :: H6) fun F7 H7 => ∃ H8, H7 = (x', .exc c' args' (some t') none cx') :: (t', .tb) :: H8 ∧ P x' c' args' cx' F7 H8 := by
      obtain ⟨ρ, ρ', H8, hu, hs, q⟩ := q
      exact ⟨ρ, ρ', _, .tl (.tl hu), hs, H8, rfl, q⟩
    refine wpAny_mono (unbind (E := No) m5 q' hk hl R s6 r6) (fun _ s7 hq => ?_) fun e s2 q => (noPQ (v := e) q).elim
    obtain ⟨K7, H7, l7, r7, F7, m7, H8, rfl, q⟩ := hq
    refine pass r7 fun s8 r8 => noted_thr2 (A := A.mark (some (.ref x))) (A' := A) hfr ⟨K7, _, l4.trans (l5.trans l7), r8, F7, m7, x', c', args', some t', cx', H8, rfl, .refl _, q⟩
theorem Ex_Finally {body : List Stmt} {f₀ : Stmt} {fs : List Stmt} {pos : Pos} (hfr : A.frames = some (env :: outer))
    (h : Ex G (env :: outer) A F H (execs body env) (fun fv F1 H1 => Ex G (env :: outer) A F1 H1 (execs (f₀ :: fs) env) (fun g F2 H2 => g = .next ∧ Q fv F2 H2) No) (Thr0 PB))
    (hx : ∀ x c args t cx F1 H1, PB x c args cx F1 H1 → Ex G (env :: outer) (A.mark (some (.ref x))) F1 ((x, .exc c args (some t) none cx) :: (t, .tb) :: H1) (execs (f₀ :: fs) env) (fun g F2 H2 => g = .next ∧ ∃ H3, H2 = (x, .exc c args (some t) none cx) :: (t, .tb) :: H3 ∧ P x c args cx F2 H3) No) :
    Ex G (env :: outer) A F H (exec (.Try body [] [] (f₀ :: fs) pos) env) Q (Thr0 P) := fun K m R s hR => by
  have raised : ∀ e s₁, PQ G (env :: outer) K R (fun e => Dn (Thr0 PB e)) e s₁ → FinallyRaised G.prog G.w A (PQ G (env :: outer) K R fun e => Dn (Thr0 P e)) env (f₀ :: fs) (PQ G (env :: outer) K R (FQ Q)) e s₁ := fun e s₁ hq => by
    obtain ⟨K1, H1, l1, r1, F1, m1, x, c, args, tb, cx, H2, rfl, hp, p⟩ := hq
    have r1 : Rep G (env :: outer) K1 (((x, .exc c args tb none cx) :: (tbH tb ++ H2)) ++ R) s₁ := r1.perm (hp.append_right R)
    refine ⟨ref_ne_byPass x, wpAny_mono (note hfr (E := No) R s₁ r1) (fun _ s2 hq => ?_) fun e s2 q => (noPQ (v := e) q).elim⟩
    obtain ⟨K2, H3, l2, r2, rfl, t, rfl⟩ := hq
    refine wpAny_mono (flight (E := No) R s2 r2) (fun _ s3 hq => ?_) fun e s2 q => (noPQ (v := e) q).elim
    obtain ⟨K3, H4, l3, r3, rfl, rfl⟩ := hq
    refine wpAny_mono (hx x c args t cx F1 H2 p K3 m1 R s3 r3) (fun g s4 hq => ?_) fun e s2 q => (noPQ (α := Value) (v := e) q).elim
    obtain ⟨K4, H4, l4, r4, gv, hg, F4, m4, e, H5, rfl, q⟩ := hq
    subst e
    cases hg
    exact pass r4 fun s5 r5 => ⟨K4, _, l1.trans l4, r5, F4, m4, x, c, args, some t, cx, H5, rfl, .refl _, q⟩
  refine wpAny_Try_finally (wpAny_mono (h K m R s hR) (fun f s₁ hq => ?_) fun e s₁ hq => ?_)
  · obtain ⟨K1, H1, l1, r1, fv, hf, F1, m1, q⟩ := hq
    have fin : wpAny G.M A (execs (f₀ :: fs) env) (fun g s' => match g with | .next => PQ G (env :: outer) K R (FQ Q) f s' | g => PQ G (env :: outer) K R (FQ Q) g s') (notedBy G.M A env (cameBackBy G.M A env (PQ G (env :: outer) K R fun e => Dn (Thr0 P e)))) s₁ := by
      refine wpAny_mono (q K1 m1 R s₁ r1) (fun g s' hg => ?_) fun e s₁ q => (noPQ (α := Value) (v := e) q).elim
      obtain ⟨K2, H2, l2, r2, gv, hg, F2, m2, e, q⟩ := hg
      subst e
      cases hg
      exact ⟨K2, H2, l1.trans l2, r2, fv, hf.mono l2, F2, m2, q⟩
    cases f with
    | next => exact wpAny_execs_nil fin
    | brk => exact fin
    | cont => exact fin
    | ret v => exact fin
  · have hq0 := hq
    obtain ⟨K1, H1, l1, r1, F1, m1, x, c, args, tb, cx, H2, rfl, hp, p⟩ := hq
    have r1 : Rep G (env :: outer) K1 (((x, .exc c args tb none cx) :: (tbH tb ++ H2)) ++ R) s₁ := r1.perm (hp.append_right R)
    refine wpAny_mono (note hfr (E := No) R s₁ r1) (fun _ s2 hq => ?_) fun e s2 q => (noPQ (v := e) q).elim
    obtain ⟨K2, H3, l2, r2, rfl, t, rfl⟩ := hq
    exact raised _ _ ⟨K2, _, l1, r2, F1, m1, x, c, args, some t, cx, H2, rfl, .refl _, p⟩
end
section
variable {K : Type} [DecidableEq K]
noncomputable def kvL (emb : K → V) (l : List (K × V)) : List (V × V) := l.map fun p => (emb p.1, p.2)
noncomputable def vAt (l : List (K × V)) (k : K) : Option V := (l.find? fun p => decide (p.1 = k)).map (·.2)
noncomputable def stV (l : List (K × V)) (k : K) (v : V) : List (K × V) := if l.any (fun p => p.1 = k) then l.map (fun p => if p.1 = k then (p.1, v) else p) else l ++ [(k, v)]
end
structure Kd (G : Glob) (K : Type) [DecidableEq K] where
  emb : K → V
  knd : KeyKind G.prog G.w K
  ok : ∀ k v h, keyHashV G.w (emb k) v h ↔ (knd.is k v = true ∧ h = knd.hash k)
  rv : ∀ F k v, RV F v (emb k) → knd.is k v = true
noncomputable def kStr (G : Glob) : Kd G Str where
  emb := .str
  knd := PySem.strKind G.prog G.w
  ok := fun k v h => by
    constructor
    · rintro (⟨x, t, e, rfl, rfl⟩ | ⟨i, t, e, _⟩)
      · cases e; exact ⟨PySem.strKind_is _ _ _ _, rfl⟩
      · cases e
    · rintro ⟨h1, rfl⟩
      obtain ⟨t, rfl⟩ := Value.isStrOf_shape h1
      exact .inl ⟨_, _, rfl, rfl, rfl⟩
  rv := fun F k v h => h.e_str (P := fun v => (PySem.strKind G.prog G.w).is k v = true) fun _ => PySem.strKind_is _ _ _ _
noncomputable def kInt (G : Glob) : Kd G Int where
  emb := .int
  knd := PySem.intKind G.prog G.w
  ok := fun k v h => by
    constructor
    · rintro (⟨x, t, e, _⟩ | ⟨i, t, e, rfl, rfl⟩)
      · cases e
      · cases e; exact ⟨PySem.intKind_is _ _ _ _, rfl⟩
    · rintro ⟨h1, rfl⟩
      obtain ⟨t, rfl⟩ := Value.isInt_shape h1
      exact .inr ⟨_, _, rfl, rfl, rfl⟩
  rv := fun F k v h => h.e_int (P := fun v => (PySem.intKind G.prog G.w).is k v = true) fun _ => PySem.intKind_is _ _ _ _
section
variable {G : Glob} {K : Type} [DecidableEq K] (kd : Kd G K) {F : Fz}
theorem RD.pairs : ∀ {es : List DictEntry} {l : List (K × V)}, RD G.w F es (kvL kd.emb l) → ∃ kvs : List (K × Value), (∀ e ∈ es, ∃ k, kd.knd.is k e.key = true ∧ e.hash = kd.knd.hash k) ∧ Pairs kd.knd es kvs ∧ kvs.map (·.1) = l.map (·.1) ∧ RVs F (kvs.map (·.2)) (l.map (·.2))
  | es, [], h => by
    cases h
    exact ⟨[], by simp, .nil, rfl, .nil⟩
  | es, p :: l, h => by
    cases h with
    | @cons e _ _ es _ hk hv t =>
      obtain ⟨kvs, h1, h2, h3, h4⟩ := RD.pairs t
      have hk' := (kd.ok _ _ _).mp hk
      refine ⟨(p.1, e.val) :: kvs, fun e' he => ?_, .cons hk'.1 rfl h2, by simp [h3], .cons hv h4⟩
      rcases List.mem_cons.mp he with rfl | he
      · exact ⟨p.1, hk'⟩
      · exact h1 e' he
theorem RD.of {es : List DictEntry} {l : List (K × V)} {kvs : List (K × Value)} (hk : ∀ e ∈ es, ∃ k, kd.knd.is k e.key = true ∧ e.hash = kd.knd.hash k) (hp : Pairs kd.knd es kvs) (he : kvs.map (·.1) = l.map (·.1)) (hr : RVs F (kvs.map (·.2)) (l.map (·.2))) : RD G.w F es (kvL kd.emb l) := by
  induction hp generalizing l with
  | nil =>
    cases l with
    | nil => exact .nil
    | cons _ _ => simp at he
  | @cons e kv es kvs h1 h2 h3 ih =>
    cases l with
    | nil => simp at he
    | cons p l =>
      simp only [List.map_cons, List.cons.injEq] at he hr
      cases hr with
      | cons r1 r2 =>
        obtain ⟨k, q1, q2⟩ := hk e (.head _)
        have : kv.1 = k := kd.knd.inj _ _ _ h1 q1
        exact .cons ((kd.ok _ _ _).mpr ⟨by rw [← he.1]; exact h1, by rw [← he.1, this]; exact q2⟩) (by rw [h2]; exact r1) (ih (fun e he => hk e (.tail _ he)) he.2 r2)
theorem st_rel {kvs : List (K × Value)} {l : List (K × V)} {k : K} {v : Value} {x : V} (he : kvs.map (·.1) = l.map (·.1)) (hr : RVs F (kvs.map (·.2)) (l.map (·.2))) (hv : RV F v x) :
    (stored kvs k v).map (·.1) = (stV l k x).map (·.1) ∧ RVs F ((stored kvs k v).map (·.2)) ((stV l k x).map (·.2)) := by
  have hany : (kvs.any fun kv => decide (kv.1 = k)) = l.any fun p => decide (p.1 = k) := by
    have : ∀ {α : Type} (m : List (K × α)), (m.any fun p => decide (p.1 = k)) = (m.map (·.1)).any fun q => decide (q = k) := fun m => by rw [List.any_map]; rfl
    rw [this, this, he]
  unfold stored stV
  rw [hany]
  by_cases h : (l.any fun p => decide (p.1 = k)) = true
  · rw [if_pos h, if_pos h]
    clear h hany
    induction kvs generalizing l with
    | nil =>
      cases l with
      | nil => exact ⟨rfl, .nil⟩
      | cons _ _ => simp at he
    | cons p kvs ih =>
      cases l with
      | nil => simp at he
      | cons q l =>
        simp only [List.map_cons, List.cons.injEq] at he hr ⊢
        cases hr with
        | cons r1 r2 =>
          obtain ⟨i1, i2⟩ := ih he.2 r2
          by_cases hq : q.1 = k
          · rw [if_pos hq, if_pos (he.1.trans hq)]
            exact ⟨⟨he.1, i1⟩, .cons hv i2⟩
          · rw [if_neg hq, if_neg (fun e => hq (he.1.symm.trans e))]
            exact ⟨⟨he.1, i1⟩, .cons r1 i2⟩
  · rw [if_neg h, if_neg h]
    rw [List.map_append, List.map_append, List.map_append, List.map_append]
    exact ⟨by rw [he]; rfl, hr.append (.cons hv .nil)⟩
end
noncomputable def DictF (G : Glob) (F : Fz) (a : Addr) (l : List (V × V)) : Prop := (a == sysModules) = false ∧ ∃ es n, F a = some { cls := .type "dict", dict := none, data := .dict es n, slots := #[] } ∧ RD G.w F es.toList l
theorem DictF.mono {G : Glob} {F F' : Fz} {a : Addr} {l : List (V × V)} (le : F.le F') (h : DictF G F a l) : DictF G F' a l := by obtain ⟨h1, es, n, h2, h3⟩ := h; exact ⟨h1, es, n, le _ _ h2, h3.mono le⟩
inductive DctIs (G : Glob) (F : Fz) (H : Hp) : Addr → List (V × V) → Prop where
  | frz {a : Addr} {l : List (V × V)} (h : DictF G F a l) : DctIs G F H a l
  | own {a : Addr} {l : List (V × V)} (ha : (a == sysModules) = false) (h : Has H a (.dict l)) : DctIs G F H a l
section
variable {G : Glob} {fr : List Env} {A : Around} {env : Env} {F : Fz} {H H' : Hp} {E : Value → Fz → Hp → Prop} {Q : V → Fz → Hp → Prop} {K : Type} [DecidableEq K] {kd : Kd G K}
theorem DctIs.obj {R : Hp} {s : Shared} {K' : Fz} {a : Addr} {l : List (V × V)} (h : DctIs G F H a l) (m : F.le K') (hR : Rep G fr K' (H ++ R) s) : (a == sysModules) = false ∧ ∃ es n, s.heap.get? a = some { cls := .type "dict", dict := none, data := .dict es n, slots := #[] } ∧ RD G.w K' es.toList l := by
  cases h with
  | frz h => obtain ⟨h1, es, n, h2, h3⟩ := h.mono m; exact ⟨h1, es, n, hR.fz _ _ h2, h3⟩
  | own ha h => obtain ⟨o, ho, es, n, rfl, hr⟩ := hR.has h; exact ⟨ha, es, n, ho, hr⟩
theorem dictOf {s : Shared} {K' : Fz} {a : Addr} {l : List (K × V)} {es : Array DictEntry} {n : Nat} (hnd : (l.map (·.1)).Nodup) (ho : s.heap.get? a = some { cls := .type "dict", dict := none, data := .dict es n, slots := #[] }) (hr : RD G.w K' es.toList (kvL kd.emb l)) :
    ∃ kvs, s.heap.DictOf kd.knd a kvs ∧ kvs.map (·.1) = l.map (·.1) ∧ RVs K' (kvs.map (·.2)) (l.map (·.2)) := by
  obtain ⟨kvs, h1, h2, h3, h4⟩ := hr.pairs
  exact ⟨kvs, ⟨_, es, n, ho, ⟨rfl, rfl, rfl⟩, rfl, fun e he => h1 e (by simpa using he), h2, by rw [h3]; exact hnd⟩, h3, h4⟩
theorem len_dict {a : Addr} {l : List (K × V)} (hd : DctIs G F H a (kvL kd.emb l)) (hnd : (l.map (·.1)).Nodup) (hl : (l.length : Int) < 2 ^ 63) (h : Q (.int l.length) F H) :
    Cl G fr A F H (.blt "len") [.ref a] Q E := cl_b1 fun K' m vo ho R s hR => by
  obtain rfl := ho.i_ref
  obtain ⟨ha, es, n, hob, hr⟩ := hd.obj m hR
  obtain ⟨kvs, hD, e1, e2⟩ := dictOf hnd hob hr
  have e3 : kvs.length = l.length := by rw [← List.length_map (f := fun p : K × Value => p.1), e1, List.length_map]
  refine call_len_dict ha hD (by rw [e3]; exact hl) ?_
  rw [e3]
  exact vret (hR.toks _) .int m h
noncomputable def SetI (G : Glob) (fr : List Env) (A : Around) (F : Fz) (H : Hp) (x i y : V) (Q : Fz → Hp → Prop) (E : Value → Fz → Hp → Prop) : Prop := ∀ K, F.le K → ∀ a j v, RV K a x → RV K j i → RV K v y → TpAt G fr A K H (setItem a j v) (fun _ => Dn Q) E
theorem Ex_Assign_sub {o i' : Expr} {pos' value pos} {Q : FV → Fz → Hp → Prop}
    (h : Ev G fr A F H (eval value env) (fun y F1 H1 => Ev G fr A F1 H1 (eval o env) (fun x F2 H2 => Ev G fr A F2 H2 (eval i' env) (fun z F3 H3 => SetI G fr A F3 H3 x z y (Q .next) E) E) E) E)
    (hs : autoParam (swapsWith value (some (.Subscript o i' pos')) pos.line env = pure false) tac0) : Ex G fr A F H (exec (.Assign [.Subscript o i' pos'] value pos) env) Q E := fun K m R s hR => by
  refine wpAny_Assign_Subscript (h.go m hR (.refl K) fun v y F1 K1 H1 s1 l1 m1 r1 hy h1 => h1.go m1 r1 l1 fun ov x F2 K2 H2 s2 l2 m2 r2 hx h2 => h2.go m2 r2 (l1.trans l2) fun iv z F3 K3 H3 s3 l3 m3 r3 hz hq => ?_) hs
  exact (hq K3 m3 ov iv v (hx.mono l3) hz (hy.mono (l2.trans l3))).seq r3 (l1.trans (l2.trans l3)) fun _ K4 H4 s4 l4 r4 q => by
    obtain ⟨F4, m4, q⟩ := q
    exact upPQ (l1.trans (l2.trans (l3.trans l4))) (fret r4 .next m4 q)
theorem set_dict {a : Addr} {l : List (K × V)} {k : K} {y : V} {Q : Fz → Hp → Prop} (hnd : (l.map (·.1)).Nodup) (hu : Upd H a (.dict (kvL kd.emb l)) (.dict (kvL kd.emb (stV l k y))) H') (hl : l.length ≤ sizeLine) (h : Q F H') : SetI G fr A F H (.ref a) (kd.emb k) y Q E := fun K' m vo vi v ho hi hy R s hR => by
  obtain rfl := ho.i_ref
  obtain ⟨ob, ho, es, n, rfl, hr⟩ := hR.get hu.mem
  obtain ⟨kvs, hD, e1, e2⟩ := dictOf hnd ho hr
  have e3 : kvs.length = l.length := by rw [← List.length_map (f := fun p : K × Value => p.1), e1, List.length_map]
  refine wpAny_setItem_pairs (kd.rv _ _ _ hi) hD (fun h' hD' hs' => ?_) (by rw [e3]; exact hl)
  obtain ⟨o', es', n', ho', hx, hd', hk', hp', hn'⟩ := hD'
  obtain ⟨s1, s2⟩ := st_rel (k := k) e1 e2 hy
  obtain ⟨c1, c2, c3⟩ := hx
  obtain ⟨oc, od, odt, osl⟩ := o'
  subst c1 c2 c3 hd'
  exact ⟨K', H', .refl K', hR.upd' (tk := s.toks + 1) (dr := s.drawn) hu hs'.extBut ho' ⟨es', n', rfl, RD.of kd (fun e he => hk' e (by simpa using he)) hp' s1 s2⟩ notNs_dict, F, m, h⟩
end
theorem each_opt {env : Env} : ∀ ks : List Expr, evalEachOpt (ks.map some) env = ks.map fun k => some (eval k env)
  | [] => rfl
  | k :: ks => by
    show some (eval k env) :: evalEachOpt (ks.map some) env = _
    rw [each_opt ks]; rfl
theorem each_map {env : Env} : ∀ vs : List Expr, evalEach vs env = vs.map fun v => eval v env
  | [] => rfl
  | v :: vs => by
    show eval v env :: evalEach vs env = _
    rw [each_map vs]; rfl
theorem dict_sh {env : Env} {pos : Pos} (ks vs : List Expr) : (evalEachOpt (ks.map some) env).zip ((evalEach vs env).map fun v => do let x ← v; standAt pos; pure x) = ((ks.map fun k => eval k env).zip (vs.map fun v => (do let x ← eval v env; standAt pos; pure x : Sem Value))).map fun p => (some p.1, p.2) := by
  rw [each_opt, each_map, List.map_map, show (ks.map fun k => some (eval k env)) = (ks.map fun k => eval k env).map some from (List.map_map ..).symm, List.zip_map_left]
  rfl
section
variable {G : Glob} {fr : List Env} {A : Around} {env : Env} {F : Fz} {H H' : Hp} {E : Value → Fz → Hp → Prop} {Q : V → Fz → Hp → Prop} {K : Type} [DecidableEq K]
noncomputable def Evp (G : Glob) (fr : List Env) (A : Around) (env : Env) (E : Value → Fz → Hp → Prop) : List Expr → List Expr → Fz → Hp → (List (V × V) → Fz → Hp → Prop) → Prop
  | k :: ks, v :: vs, F, H, Q => Ev G fr A F H (eval k env) (fun x F1 H1 => Ev G fr A F1 H1 (eval v env) (fun y F2 H2 => Evp G fr A env E ks vs F2 H2 fun r F3 H3 => Q ((x, y) :: r) F3 H3) E) E
  | [], [], F, H, Q => Q [] F H
  | _, _, _, _, _ => False
inductive RPs (K : Fz) : List (Value × Value) → List (V × V) → Prop where
  | nil : RPs K [] []
  | cons {a b : Value} {x y : V} {vs : List (Value × Value)} {l : List (V × V)} (h1 : RV K a x) (h2 : RV K b y) (t : RPs K vs l) : RPs K ((a, b) :: vs) ((x, y) :: l)
theorem Evp.run {pos : Pos} : ∀ {ks vs : List Expr} {F K K₀ : Fz} {H R : Hp} {s : Shared} {Q : List (V × V) → Fz → Hp → Prop} {P : List (Value × Value) → Shared → Prop}, Evp G fr A env E ks vs F H Q → F.le K → Rep G fr K (H ++ R) s → K₀.le K →
    (∀ ps l F1 K1 H1 s1, K.le K1 → Fz.le F1 K1 → Rep G fr K1 (H1 ++ R) s1 → RPs K1 ps l → Q l F1 H1 → P ps s1) → wpAny G.M A (evalPairs ((ks.map fun k => eval k env).zip (vs.map fun v => do let x ← eval v env; standAt pos; pure x))) P (PQ G fr K₀ R fun e => Dn (E e)) s := by
  intro ks
  induction ks with
  | nil =>
    intro vs F K K₀ H R s Q P h m hR le k
    cases vs with
    | cons => exact h.elim
    | nil => exact evalPairs_nil (k [] [] F K H s (.refl K) m hR .nil h)
  | cons ke ks ih =>
    intro vs F K K₀ H R s Q P h m hR le k
    cases vs with
    | nil => exact h.elim
    | cons ve vs =>
      refine evalPairs_cons ((show Ev _ _ _ _ _ _ _ _ from h).go m hR le fun a x F1 K1 H1 s1 l1 m1 r1 hx h1 => wpAny_bind (h1.go m1 r1 (le.trans l1) fun b y F2 K2 H2 s2 l2 m2 r2 hy h2 => wpAny_bind (wpAny_standAt (wpAny_pure ?_))))
      exact ih h2 m2 r2 (le.trans (l1.trans l2)) fun ps l F3 K3 H3 s3 l3 m3 r3 hps q => k _ _ F3 K3 H3 s3 (l1.trans (l2.trans l3)) m3 r3 (.cons (hx.mono (l2.trans l3)) (hy.mono l3) hps) q
theorem merged_nodup : ∀ {kvs acc : List (K × Value)}, ((acc ++ kvs).map (·.1)).Nodup → merged acc kvs = acc ++ kvs
  | [], acc, _ => by simp [merged]
  | p :: kvs, acc, h => by
    have hn : p.1 ∉ acc.map (·.1) := fun hm => by
      rw [List.map_append, List.map_cons, List.nodup_append] at h
      exact h.2.2 _ hm _ (.head _) rfl
    have hs : stored acc p.1 p.2 = acc ++ [p] := by
      unfold stored
      rw [if_neg]
      rw [List.any_eq_true]
      rintro ⟨q, hq, e⟩
      exact hn (List.mem_map.mpr ⟨q, hq, of_decide_eq_true e⟩)
    have : merged acc (p :: kvs) = merged (stored acc p.1 p.2) kvs := by simp [merged]
    rw [this, hs, merged_nodup (by simpa using h)]
    simp
theorem carries (kd : Kd G K) {Kz : Fz} : ∀ {ps : List (Value × Value)} {l : List (K × V)}, RPs Kz ps (kvL kd.emb l) → ∃ kvs, Carries kd.knd ps kvs ∧ kvs.map (·.1) = l.map (·.1) ∧ RVs Kz (kvs.map (·.2)) (l.map (·.2))
  | _, [], h => by cases h; exact ⟨[], trivial, rfl, .nil⟩
  | _, p :: l, h => by
    cases h with
    | @cons a b _ _ vs _ h1 h2 t =>
      obtain ⟨kvs, c1, c2, c3⟩ := carries kd t
      exact ⟨(p.1, b) :: kvs, ⟨kd.rv _ _ _ h1, rfl, c1⟩, by simp [c2], .cons h2 c3⟩
theorem Ev_Dict (kd : Kd G K) {keys : List (Option Expr)} {values ks : List Expr} {pos : Pos} (hks : keys = ks.map some) (hl0 : ks ≠ []) (hlen : ks.length ≤ 15) (hlen2 : ks.length = values.length)
    (h : Evp G fr A env E ks values F H (fun l F1 H1 => ∃ m : List (K × V), l = kvL kd.emb m ∧ (m.map (·.1)).Nodup ∧ ∀ a, (a == sysModules) = false → Q (.ref a) F1 ((a, .dict (kvL kd.emb m)) :: H1))) :
    Ev G fr A F H (eval (.Dict keys values pos) env) Q E := fun K' m R s hR => by
  have hsh := dict_sh (env := env) (pos := pos) ks values
  rw [← hks] at hsh
  refine wpAny_Dict_pairs (knd := kd.knd) hsh ?_ ?_ ?_
  · intro e
    have := congrArg List.length e
    simp only [List.length_zip, List.length_map, List.length_nil] at this
    have : 0 < ks.length := List.length_pos_iff.mpr hl0
    lia
  · simp only [List.length_zip, List.length_map]; lia
  have hlo : (s.heap.objs.size == sysModules) = false := beq_eq_false_iff_ne.mpr (Nat.ne_of_gt (modules_low hR.glob.2.2))
  have r1 := hR.new (D := s.heap.objs.size) (x := .dict []) (tk := s.toks) (dr := s.drawn) (fun b o e => Heap.get?_push_of_some { cls := .type "dict", data := .dict #[] } e) (none_at_size _) (Heap.get?_push_size _ rfl) ⟨#[], 0, rfl, .nil⟩
  refine wpAny_mono (Evp.run (pos := pos) (R := (s.heap.objs.size, .dict []) :: R) (P := fun vs s₁ => ∃ kvs, Carries kd.knd vs kvs ∧ s₁.heap.DictOf kd.knd s.heap.objs.size [] ∧ ∀ h', h'.DictOf kd.knd s.heap.objs.size (merged [] kvs) → Heap.SameBut s.heap.objs.size s₁.heap h' → PQ G fr K' R (VQ Q) (.ref s.heap.objs.size) { s₁ with heap := h', toks := s₁.toks + vs.length })
    h m (r1.perm List.perm_middle.symm) (.refl K') fun ps l F1 K1 H1 s1 l1 m1 r2 hps hq => ?_) (fun _ _ x => x) fun e s1 q => ?_
  · obtain ⟨ml, rfl, hnd, hq⟩ := hq
    obtain ⟨kvs, c1, c2, c3⟩ := carries kd hps
    have r3 : Rep G fr K1 ((s.heap.objs.size, .dict []) :: (H1 ++ R)) s1 := r2.perm List.perm_middle
    obtain ⟨_, o, ho, es, n, rfl, hr⟩ := r3.own _ (.head _)
    have hD : s1.heap.DictOf kd.knd s.heap.objs.size [] := by
      obtain ⟨kvs', hD, e1, e2⟩ := dictOf (kd := kd) (l := []) .nil ho hr
      cases kvs' with
      | nil => exact hD
      | cons _ _ => simp at e1
    refine ⟨kvs, c1, hD, fun h' hD' hs' => ?_⟩
    rw [merged_nodup (by simpa [c2] using hnd)] at hD'
    obtain ⟨o', es', n', ho', hx, hd', hk', hp', hn'⟩ := hD'
    obtain ⟨x1, x2, x3⟩ := hx
    obtain ⟨oc, od, odt, osl⟩ := o'
    subst x1 x2 x3 hd'
    exact ⟨K1, _, l1, r3.upd (x' := .dict (kvL kd.emb ml)) (tk := s1.toks + ps.length) (dr := s1.drawn) hs'.extBut ho' ⟨es', n', rfl, RD.of kd (fun e he => hk' e (by simpa using he)) (by simpa using hp') c2 c3⟩ notNs_dict, _, .ref, F1, m1, hq _ hlo⟩
  · obtain ⟨K1, H1, l1, r2, q⟩ := q
    exact ⟨K1, H1, l1, (r2.perm List.perm_middle).dropNot (fun _ e => nomatch e), q⟩
theorem Rep.freezeD {R : Hp} {s : Shared} {a : Addr} {l : List (V × V)} {K' : Fz} (ha : (a == sysModules) = false) (r : Rep G fr K' ((a, .dict l) :: H ++ R) s) : ∃ K2, K'.le K2 ∧ Rep G fr K2 (H ++ R) s ∧ DictF G K2 a l := by
  obtain ⟨o, ⟨es, n, rfl, hr⟩, le, r'⟩ := Rep.freeze r fun ρ q => nomatch q
  exact ⟨_, le, r', ha, es, n, Fz.add_self _ _ _, hr.mono le⟩
end
section
variable {G : Glob} {fr : List Env} {A : Around} {env : Env} {F : Fz} {H H' : Hp} {E : Value → Fz → Hp → Prop} {Q : V → Fz → Hp → Prop}
theorem pop_last {a : Addr} {l : List V} {x : V} (hu : Upd H a (.list (l ++ [x])) (.list l) H') (hl : l.length + 1 ≤ sizeLine) (h : Q x F H') : Cl G fr A F H (.blt "list.pop") [.ref a] Q E := cl_b1 fun K m v hv R s hR => by
  obtain rfl := hv.i_ref
  obtain ⟨o, ho, items, n, rfl, hr⟩ := hR.get hu.mem
  have e := hr.toArr
  rw [List.length_append, List.length_singleton] at e
  have hgx := hr.atA (i := l.length) (x := x) (by simp)
  obtain ⟨y, hy, hyx⟩ := hgx
  have hz : items.size ≤ sizeLine := Nat.le_trans (Nat.le_of_eq e) hl
  refine call_meets PySem.F.slot_list_pop ⟨_, ho, rfl⟩ PySem.F.entry_list_pop (PySem.F.args_list_pop_1 _) (PySem.MeetsSeq.list_pop_last a items n y (by rw [e]; exact hy) hz) ⟨ho, ?_⟩
  have g := Heap.get?_update_self (Obj.mapSeq fun xs => xs.eraseIdxIfInBounds (items.size - 1)) ho rfl
  refine ⟨K, H', .refl K, hR.upd' (tk := s.toks) (dr := s.drawn) hu (Heap.SameBut.update ..).extBut g ⟨_, _, rfl, ?_⟩ notNs_list, _, hyx, F, m, h⟩
  have e2 : (items.eraseIdxIfInBounds (items.size - 1)).toList = items.toList.take l.length := by
    unfold Array.eraseIdxIfInBounds
    rw [dif_pos (by rw [e]; exact Nat.lt_succ_self _), Array.toList_eraseIdx]
    have : items.size - 1 = l.length := by rw [e]; rfl
    rw [this, List.eraseIdx_eq_take_drop_succ, List.drop_eq_nil_of_le (by simp; lia)]
    simp
  show RVs K (items.eraseIdxIfInBounds (items.size - 1)).toList l
  rw [e2]
  have := hr.take l.length
  simpa using this
end
inductive Is (y : V) (F : Fz) (H : Hp) : V → Fz → Hp → Prop where
  | mk : Is y F H y F H
inductive IsL (ys : List V) (F : Fz) (H : Hp) : List V → Fz → Hp → Prop where
  | mk : IsL ys F H ys F H
noncomputable def calmFns : List Str := ["len", "int", "str", "abs", "divmod", "repr", "range", "type", "isinstance", "sum", "max", "min"]
noncomputable def calmMeths : List Str := ["index", "find", "startswith", "get", "lower", "split", "join"]
noncomputable def calm : Nat → Expr → Bool
  | 0, _ => false
  | n + 1, e => match e with
    | .Name .. => true
    | .Constant .. => true
    | .BinOp l _ r _ => calm n l && calm n r
    | .UnaryOp _ x _ => calm n x
    | .Subscript v s _ => calm n v && calm n s
    | .Slice l u s _ => l.all (calm n) && u.all (calm n) && s.all (calm n)
    | .Attribute v _ _ => calm n v
    | .Tuple es _ _ => es.all (calm n)
    | .Call (.Name f _) as ks _ => calmFns.contains f && as.all (calm n) && ks.isEmpty
    | .Call (.Attribute o m _) as ks _ => calmMeths.contains m && calm n o && as.all (calm n) && ks.isEmpty
    | _ => false
section
variable {G : Glob} {fr : List Env} {A : Around} {env : Env} {F : Fz} {H : Hp} {E : Value → Fz → Hp → Prop} {Q : V → Fz → Hp → Prop} {x y : V}
theorem Ev.is {t : Sem Value} (h : Ev G fr A F H t (Is x F H) No) (k : Q x F H) : Ev G fr A F H t Q E := h.mono (fun _ _ _ q => by cases q; exact k) fun _ _ _ e => e.elim
theorem Evs.is {t : Sem (List Value)} {xs : List V} {Q : List V → Fz → Hp → Prop} (h : Evs G fr A F H t (IsL xs F H) No) (k : Q xs F H) : Evs G fr A F H t Q E := fun K m R s hR =>
  wpAny_mono (h K m R s hR) (fun _ _ q => by obtain ⟨F1, H1, l, r, x, hx, F2, m2, q⟩ := q; cases q; exact ⟨F1, H, l, r, xs, hx, F, m2, k⟩) fun e _ q => (noPQ (v := e) q).elim
theorem Evs_nil' {pos} : Evs G fr A F H (spliced (backTo pos (starEach [] env))) (IsL [] F H) No := Evs_nil .mk
inductive MArgs (G : Glob) (fr : List Env) (A : Around) (env : Env) (F : Fz) (H : Hp) (pos : Pos) (args : List Expr) (x : V) (Q : V → Fz → Hp → Prop) (E : Value → Fz → Hp → Prop) (id : String) : Prop where
  | mk {xs : List V} (h1 : Evs G fr A F H (spliced (backTo pos (starEach args env))) (IsL xs F H) No) (h : Cl G fr A F H (.blt id) (x :: xs) Q E)
inductive MethC (G : Glob) (fr : List Env) (A : Around) (env : Env) (F : Fz) (H : Hp) (pos : Pos) (args : List Expr) (name : Str) (x : V) (Q : V → Fz → Hp → Prop) (E : Value → Fz → Hp → Prop) : Prop where
  | mk (T id : String) (h1 : PlainAttrs T) (h2 : Slot T name id) (h3 : typeOf (.builtin id) = pure (.type "method_descriptor")) (h4 : TyIs F H x T) (h : MArgs G fr A env F H pos args x Q E id)
theorem Ev_method' {o : Expr} {name : Str} {apos pos : Pos} {args : List Expr} (h1 : Ev G fr A F H (eval o env) (Is x F H) No)
    (h : MethC G fr A env F H pos args name x Q E) (hc : autoParam ((calm 8 o && args.all (calm 8)) = true) tac0)
    (hbase : autoParam (attributeBase o name env (eval o env) = eval o env) tac0)
    (hfew : autoParam (((backTo pos (starEach args env)).all (fun x => !x.1) && (backToKw pos (keywordEach [] env)).all (fun x => x.1.isSome)
      && decide (args.length + ([] : List Keyword).length + (if ([] : List Keyword).isEmpty then 0 else 1) < 30)) = true) tac0)
    (hline : autoParam ((apos.endLine == pos.line) = true) tac0)
    (hargs : ∀ f (Q : Args → Shared → Prop) E s, wpAny G.M A (spliced (backTo pos (starEach args env))) (fun vs s' => Q ⟨vs, []⟩ s') E s → wpAny G.M A (evalArgs f true (backTo pos (starEach args env)) []) Q E s := by intro _ _ _ _ h; first | exact evalArgs_plain h | exact Mine.evalArgs_nil' h)
    (hplain : autoParam ((backTo pos (starEach args env)).any (·.1) = false) tac0) :
    Ev G fr A F H (eval (.Call (.Attribute o name apos) args [] pos) env) Q E := by
  refine Ev_method (h1.is ?_) hbase hfew hline hargs hplain
  obtain ⟨T, id, a, b, c, d, e⟩ := h
  obtain ⟨h1, h⟩ := e
  exact ⟨T, id, a, b, c, d, h1.is h⟩
end
section
variable {G : Glob} {fr : List Env} {A : Around} {env : Env} {F : Fz} {H H' : Hp} {E : Value → Fz → Hp → Prop} {Q : V → Fz → Hp → Prop}
theorem get_stop {x : Addr} {args : List V} {tb d : Option Addr} {cx : Bool} (hx : Has H x (.exc "StopIteration" args tb d cx)) (hn : noBlt (args.headD .none)) (h : Q (args.headD .none) F H) :
    Op1 G fr A F H (fun v => getAttr v (Str.ofString "value") true) (.ref x) Q E := fun K m v hv R s hR => by
  obtain rfl := hv.i_ref
  obtain ⟨o, ho, vs, a, v5, hc, hd, hdt, _, _, _, h5, h8, _⟩ := hR.has hx
  exact stop_value ho hc hdt h5 (hn.handed (h8 rfl)) (vret (hR.toks _) (h8 rfl) m h)
end
section
variable {α : Type} {G : Glob} {fr : List Env} {A A' : Around} {env : Env} {F : Fz} {H H' : Hp} {E E' : Value → Fz → Hp → Prop} {P P' : Addr → String → List V → Bool → Fz → Hp → Prop}
theorem Cl.mono {f : V} {xs : List V} {Q Q' : V → Fz → Hp → Prop} (h : Cl G fr A F H f xs Q E) (k : ∀ x F1 H1, Q x F1 H1 → Q' x F1 H1) (e : ∀ x F1 H1, E x F1 H1 → E' x F1 H1) : Cl G fr A F H f xs Q' E' := fun K m v vs hv hvs R s hR =>
  wpAny_mono (h K m v vs hv hvs R s hR) (fun _ _ q => by obtain ⟨F1, H1, l, r, x, hx, F2, m2, q⟩ := q; exact ⟨F1, H1, l, r, x, hx, F2, m2, k _ _ _ q⟩) fun _ _ q => by obtain ⟨F1, H1, l, r, F2, m2, q⟩ := q; exact ⟨F1, H1, l, r, F2, m2, e _ _ _ q⟩
theorem Cl.up {F' : Fz} {f : V} {xs : List V} {Q : V → Fz → Hp → Prop} (h : Cl G fr A F H f xs Q E) (le : F.le F') : Cl G fr A F' H f xs Q E := fun K m => h K (le.trans m)
theorem Cl.perm {f : V} {xs : List V} {Q : V → Fz → Hp → Prop} (p : H'.Perm H) (h : Cl G fr A F H f xs Q E) : Cl G fr A F H' f xs Q E := fun K m v vs hv hvs R s hR => h K m v vs hv hvs R s (hR.perm (p.append_right R))
theorem Cl.dn {f : V} {xs : List V} {Q : V → Fz → Hp → Prop} (h : Cl G fr A F H f xs (fun x => Dn (Q x)) E) : Cl G fr A F H f xs Q E := fun K m v vs hv hvs R s hR =>
  wpAny_mono (h K m v vs hv hvs R s hR) (fun _ _ q => by obtain ⟨F1, H1, l, r, x, hx, F2, m2, F3, m3, q⟩ := q; exact ⟨F1, H1, l, r, x, hx, F3, m3.trans m2, q⟩) fun _ _ q => q
theorem Cl.keep {f : V} {xs : List V} {Q : V → Fz → Hp → Prop} (h : Cl G fr A F H f xs Q E) : Cl G fr A F H f xs (fun x F1 H1 => F.le F1 ∧ Dn (Q x) F1 H1) E := fun K m v vs hv hvs R s hR =>
  wpAny_mono (h K m v vs hv hvs R s hR) (fun _ _ q => by obtain ⟨F1, H1, l, r, x, hx, F2, m2, q⟩ := q; exact ⟨F1, H1, l, r, x, hx, F1, .refl _, m.trans l, F2, m2, q⟩) fun _ _ q => q
noncomputable abbrev ClD (G : Glob) (fr : List Env) (A : Around) (F : Fz) (H : Hp) (f : V) (xs : List V) (Q : V → Fz → Hp → Prop) (E : Value → Fz → Hp → Prop) : Prop := ∀ env A', Deep A A' env → Cl G (env :: fr) A' F H f xs Q E
theorem Cl.drpQ {f : V} {xs : List V} {Q : V → Fz → Hp → Prop} (h : Cl G fr A F H f xs (fun x F1 H1 => ∃ H2, Drp H1 H2 ∧ Q x F1 H2) E) : Cl G fr A F H f xs Q E := fun K m v vs hv hvs R s hR =>
  wpAny_mono (h K m v vs hv hvs R s hR) (fun _ _ q => by obtain ⟨F1, H1, l, r, x, hx, F2, m2, H2, d, q⟩ := q; exact ⟨F1, H2, l, r.drp d, x, hx, F2, m2, q⟩) fun _ _ q => q
inductive LvD (L : Addr) (P : Addr → String → List V → Bool → Fz → Hp → Prop) (x : Addr) (c : String) (a : List V) (b : Bool) (F : Fz) (H : Hp) : Prop where
  | intro (ρ : List (Str × Option V)) (H' H'' : Hp) (hr : Rem H L (.ns ρ) H') (hd : Drp H' H'') (q : P x c a b F H'')
theorem leaves_thrD {L : Addr} (hfr : A.frames = some fr) (hL : env.frame = some L) : Leaves G fr A env (Thr0 (LvD L P)) (Thr0 P) := fun fresh K R e s hq => by
  have cv : ∀ e s, PQ G fr K R (fun e => Dn (Thr0 (fun x c a b F H => ∃ H'', Drp H H'' ∧ P x c a b F H'') e)) e s → PQ G fr K R (fun e => Dn (Thr0 P e)) e s := fun e s q => by
    obtain ⟨K1, H1, l1, r1, F1, m1, x, c, a, tb, b, H2, e1, e2, H3, d, p⟩ := q
    have r2 : Rep G fr K1 (((x, .exc c a tb none b) :: tbH tb) ++ (H2 ++ R)) s := by
      have := r1.perm (e2.append_right R)
      simpa using this
    have r3 : Rep G fr K1 (H3 ++ (((x, .exc c a tb none b) :: tbH tb) ++ R)) s := by
      refine Rep.drp d (r2.perm ?_)
      rw [← List.append_assoc, ← List.append_assoc]
      exact List.perm_append_comm.append_right R
    refine ⟨K1, ((x, .exc c a tb none b) :: (tbH tb ++ H3)), l1, r3.perm ?_, F1, m1, x, c, a, tb, b, H3, e1, .refl _, p⟩
    show List.Perm _ ((((x, AO.exc c a tb none b) :: tbH tb) ++ H3) ++ R)
    rw [← List.append_assoc]
    exact List.perm_append_comm.append_right R
  have hq' : PQ G (env :: fr) K R (fun e => Dn (Thr0 (Lv L fun x c a b F H => ∃ H'', Drp H H'' ∧ P x c a b F H'') e)) e s := by
    obtain ⟨K1, H1, l1, r1, F1, m1, q⟩ := hq
    exact ⟨K1, H1, l1, r1, F1, m1, q.mono fun x c a b F H ⟨ρ, H', H'', h1, h2, h3⟩ => ⟨ρ, H', h1, H'', h2, h3⟩⟩
  exact wpAny_mono (leaves_thr (L := L) (P := fun x c a b F H => ∃ H'', Drp H H'' ∧ P x c a b F H'') hfr hL fresh K R e s hq') (fun _ s' q => cv _ _ q) fun e' s' q => cv _ _ q
end
noncomputable abbrev Rho := List (Str × Option V)
noncomputable abbrev QV := V → Rho → Fz → Hp → Prop
noncomputable abbrev QB := Bool → Rho → Fz → Hp → Prop
noncomputable abbrev QL := List V → Rho → Fz → Hp → Prop
noncomputable abbrev QF := FV → Rho → Fz → Hp → Prop
noncomputable abbrev QU := Rho → Fz → Hp → Prop
noncomputable abbrev QP := List (V × V) → Rho → Fz → Hp → Prop
inductive GlIs (G : Glob) (F : Fz) (x : Str) (y : V) : Prop where
  | g (v : Value) (h : G.mg x = some v) (r : RV F v y)
  | b (v : Value) (h0 : G.mg x = none) (h : G.mb x = some v) (r : RV F v y)
inductive FrIs (env : Env) (F : Fz) (x : Str) (y : V) : Prop where
  | mk (c : Addr) (h : env.cells.lookup x = some c) (hm : CellF F c y)
theorem GlIs.mono {G : Glob} {F F' : Fz} {x : Str} {y : V} (le : F.le F') (h : GlIs G F x y) : GlIs G F' x y := by
  cases h with
  | g v h r => exact .g v h (r.mono le)
  | b v h0 h r => exact .b v h0 h (r.mono le)
theorem FrIs.mono {env : Env} {F F' : Fz} {x : Str} {y : V} (le : F.le F') (h : FrIs env F x y) : FrIs env F' x y := by
  obtain ⟨c, h, hm⟩ := h
  exact ⟨c, h, hm.mono le⟩
noncomputable def lkp {α : Type} : List (Str × α) → Str → Option α
  | [], _ => none
  | p :: r, x => if p.1 = x then some p.2 else lkp r x
theorem lkp_mem {α : Type} {x : Str} {y : α} : ∀ {l : List (Str × α)}, lkp l x = some y → (x, y) ∈ l
  | p :: r, h => by
    by_cases e : p.1 = x
    · have h : (if p.1 = x then some p.2 else lkp r x) = some y := h
      rw [if_pos e] at h
      cases h; subst e; exact .head _
    · have h : (if p.1 = x then some p.2 else lkp r x) = some y := h
      rw [if_neg e] at h
      exact .tail _ (lkp_mem h)
structure Cx where
  G : Glob
  fr : List Env
  A : Around
  env : Env
  gl : List (Str × V)
  fl : List (Str × V)
  E : Value → Fz → Hp → Prop
  hd0 : Bool
structure CxOk (C : Cx) (F : Fz) : Prop where
  kind : C.env.scope.kind = .function
  glob : C.env.globals = mainGlobals
  blt : C.env.builtins = builtinsNs
  dbg : (C.env.scope.names.all fun p => !(p.1 == ("__debug__" : Str)) && !(p.1 == ("__classdict__" : Str))) = true
  nt : Noted C.G C.fr C.A C.env C.E
  hd : C.hd0 = true → C.A.handled = none
  gls : ∀ p ∈ C.gl, GlIs C.G F p.1 p.2
  fls : ∀ p ∈ C.fl, FrIs C.env F p.1 p.2
theorem CxOk.mono {C : Cx} {F F' : Fz} (le : F.le F') (h : CxOk C F) : CxOk C F' :=
  ⟨h.kind, h.glob, h.blt, h.dbg, h.nt, h.hd, fun p hp => (h.gls p hp).mono le, fun p hp => (h.fls p hp).mono le⟩
theorem lookup_mem' {β : Type} {x : Str} {k : β} : ∀ {l : List (Str × β)}, l.lookup x = some k → (x, k) ∈ l
  | (n, v) :: l, h => by
    by_cases e : x = n
    · subst e
      have h : (match x == x with | true => some v | false => l.lookup x) = some k := h
      rw [beq_self_eq_true] at h
      cases h; exact .head _
    · have h : (match x == n with | true => some v | false => l.lookup x) = some k := h
      rw [beq_eq_false_iff_ne.mpr e] at h
      exact .tail _ (lookup_mem' h)
theorem CxOk.nodbg {C : Cx} {F : Fz} (h : CxOk C F) {x : Str} {k : NameKind} (hk : C.env.kindOf x = some k) : (x == ("__debug__" : Str)) = false ∧ (x == ("__classdict__" : Str)) = false := by
  have := List.all_eq_true.mp h.dbg _ (lookup_mem' (l := C.env.scope.names) hk)
  simpa using this
noncomputable def fm (C : Cx) (ρ : Rho) (H : Hp) : Hp := (C.env.locals, .ns ρ) :: H
inductive Nx {α : Type} (C : Cx) (ρ : Rho) (Q : α → Rho → Fz → Hp → Prop) (x : α) (F : Fz) (H : Hp) : Prop where
  | mk (ok : CxOk C F) (q : Q x ρ F H)
inductive Un {α : Type} (C : Cx) (Q : α → Rho → Fz → Hp → Prop) (x : α) (F : Fz) (H : Hp) : Prop where
  | mk (ρ : Rho) (H' : Hp) (e : H = fm C ρ H') (ok : CxOk C F) (q : Q x ρ F H')
noncomputable def kE (C : Cx) (ρ : Rho) : Value → Fz → Hp → Prop := fun e F H => C.E e F (fm C ρ H)
section
variable {C : Cx} {ρ : Rho} {F K : Fz} {H : Hp}
theorem liftT {α : Type} {t : Sem α} {Q : α → Rho → Fz → Hp → Prop} (h : TpAt C.G C.fr C.A K H t (fun v => Dn (Nx C ρ Q v)) (kE C ρ)) : TpAt C.G C.fr C.A K (fm C ρ H) t (fun v => Dn (Un C Q v)) C.E := fun R s hR => by
  refine wpAny_mono (h _ s (hR.perm List.perm_middle.symm)) (fun v s1 hq => ?_) fun e s1 hq => ?_
  · obtain ⟨F', H', le, rep, F1, m1, ok, q⟩ := hq
    exact ⟨F', fm C ρ H', le, rep.perm List.perm_middle, F1, m1, ρ, H', rfl, ok, q⟩
  · obtain ⟨F', H', le, rep, F1, m1, q⟩ := hq
    exact ⟨F', fm C ρ H', le, rep.perm List.perm_middle, F1, m1, q⟩
theorem liftU {α : Type} {t : Sem α} {Q : FV → Rho → Fz → Hp → Prop} (h : TpAt C.G C.fr C.A K H t (fun _ => Dn (Nx C ρ Q .next)) (kE C ρ)) : TpAt C.G C.fr C.A K (fm C ρ H) t (fun _ => Dn (Un C Q .next)) C.E := fun R s hR => by
  refine wpAny_mono (h _ s (hR.perm List.perm_middle.symm)) (fun v s1 hq => ?_) fun e s1 hq => ?_
  · obtain ⟨F', H', le, rep, F1, m1, ok, q⟩ := hq
    exact ⟨F', fm C ρ H', le, rep.perm List.perm_middle, F1, m1, ρ, H', rfl, ok, q⟩
  · obtain ⟨F', H', le, rep, F1, m1, q⟩ := hq
    exact ⟨F', fm C ρ H', le, rep.perm List.perm_middle, F1, m1, q⟩
theorem liftV {t : Sem Value} {Q : QV} (h : EvAt C.G C.fr C.A K H t (Nx C ρ Q) (kE C ρ)) : EvAt C.G C.fr C.A K (fm C ρ H) t (Un C Q) C.E := fun R s hR => by
  refine wpAny_mono (h _ s (hR.perm List.perm_middle.symm)) (fun v s1 hq => ?_) fun e s1 hq => ?_
  · obtain ⟨F', H', le, rep, x, hx, F1, m1, ok, q⟩ := hq
    exact ⟨F', fm C ρ H', le, rep.perm List.perm_middle, x, hx, F1, m1, ρ, H', rfl, ok, q⟩
  · obtain ⟨F', H', le, rep, F1, m1, q⟩ := hq
    exact ⟨F', fm C ρ H', le, rep.perm List.perm_middle, F1, m1, q⟩
end
noncomputable def lkR : Rho → Str → Option V
  | [], _ => none
  | p :: r, x => if p.1 = x then p.2 else lkR r x
noncomputable def stR : Rho → Str → V → Option Rho
  | [], _, _ => none
  | p :: r, x, y => if p.1 = x then some ((p.1, some y) :: r) else match stR r x y with
    | none => none
    | some r' => some (p :: r')
theorem lkR_lk {x : Str} {y : V} : ∀ {ρ : Rho}, lkR ρ x = some y → Lk ρ x y
  | p :: r, h => by
    have h : (if p.1 = x then p.2 else lkR r x) = some y := h
    by_cases e : p.1 = x
    · rw [if_pos e] at h
      obtain ⟨p1, p2⟩ := p
      cases h; cases e; exact .hd
    · rw [if_neg e] at h
      exact .tl (lkR_lk h)
theorem stR_set {x : Str} {y : V} : ∀ {ρ ρ' : Rho}, stR ρ x y = some ρ' → SetL ρ x (some y) ρ'
  | p :: r, ρ', h => by
    have h : (if p.1 = x then some ((p.1, some y) :: r) else match stR r x y with
      | none => none
      | some r' => some (p :: r')) = some ρ' := h
    by_cases e : p.1 = x
    · rw [if_pos e] at h
      obtain ⟨p1, p2⟩ := p
      cases h; cases e; exact .hd
    · rw [if_neg e] at h
      cases q : stR r x y with
      | none => rw [q] at h; cases h
      | some r' => rw [q] at h; cases h; exact .tl (stR_set q)
inductive WK where
  | e (x : Expr) (ρ : Rho) (F : Fz) (H : Hp) (Q : QV)
  | t (x : Expr) (ρ : Rho) (F : Fz) (H : Hp) (Q : QB)
  | b (op : BoolOp) (xs : List Expr) (ρ : Rho) (F : Fz) (H : Hp) (Q : QB)
  | a (xs : List Expr) (ρ : Rho) (F : Fz) (H : Hp) (Q : QL)
  | s (ss : List Stmt) (ρ : Rho) (F : Fz) (H : Hp) (Q : QF)
  | d (ks vs : List Expr) (ρ : Rho) (F : Fz) (H : Hp) (Q : QP)
noncomputable def WK.F : WK → Fz
  | .e _ _ F _ _ => F
  | .t _ _ F _ _ => F
  | .b _ _ _ F _ _ => F
  | .a _ _ F _ _ => F
  | .s _ _ F _ _ => F
  | .d _ _ _ F _ _ => F
noncomputable def SmE (C : Cx) (x : Expr) (ρ : Rho) (F : Fz) (H : Hp) (Q : QV) : Prop := Ev C.G C.fr C.A F (fm C ρ H) (eval x C.env) (Un C Q) C.E
noncomputable def SmS (C : Cx) (st : Stmt) (ρ : Rho) (F : Fz) (H : Hp) (Q : QF) : Prop := Ex C.G C.fr C.A F (fm C ρ H) (exec st C.env) (Un C Q) C.E
noncomputable def Sm (C : Cx) : WK → Prop
  | .e x ρ F H Q => SmE C x ρ F H Q
  | .t x ρ F H Q => Tp C.G C.fr C.A F (fm C ρ H) (isTrue x C.env (eval x C.env)) (Un C Q) C.E
  | .b op xs ρ F H Q => Tp C.G C.fr C.A F (fm C ρ H) (allTrue op xs C.env) (Un C Q) C.E
  | .a xs ρ F H Q => ∀ pos, Evs C.G C.fr C.A F (fm C ρ H) (spliced (backTo pos (starEach xs C.env))) (Un C Q) C.E
  | .s ss ρ F H Q => Ex C.G C.fr C.A F (fm C ρ H) (execs ss C.env) (Un C Q) C.E
  | .d ks vs ρ F H Q => Evp C.G C.fr C.A C.env C.E ks vs F (fm C ρ H) (Un C Q)
noncomputable def bifW : Bool → Prop → Prop → Prop
  | true, P, _ => P
  | false, _, Q => Q
theorem bifW.sp {b : Bool} {P Q : Prop} (h1 : b = true → P) (h2 : b = false → Q) : bifW b P Q := by
  cases b with
  | true => exact h1 rfl
  | false => exact h2 rfl
noncomputable def iiW (x y : V) (k : Int → Int → Prop) (leaf : Prop) : Prop := match x with
  | .int i => match y with
    | .int j => k i j
    | _ => leaf
  | _ => leaf
noncomputable def ssW (x y : V) (k : Str → Str → Prop) (leaf : Prop) : Prop := match x with
  | .str i => match y with
    | .str j => k i j
    | _ => leaf
  | _ => leaf
theorem iiW.go {x y : V} {k : Int → Int → Prop} {leaf P : Prop} (h : iiW x y k leaf) (h1 : ∀ i j, x = .int i → y = .int j → k i j → P) (h2 : leaf → P) : P := by
  cases x with
  | int i =>
    cases y with
    | int j => exact h1 _ _ rfl rfl h
    | _ => exact h2 h
  | _ => exact h2 h
theorem ssW.go {x y : V} {k : Str → Str → Prop} {leaf P : Prop} (h : ssW x y k leaf) (h1 : ∀ i j, x = .str i → y = .str j → k i j → P) (h2 : leaf → P) : P := by
  cases x with
  | str i =>
    cases y with
    | str j => exact h1 _ _ rfl rfl h
    | _ => exact h2 h
  | _ => exact h2 h
noncomputable def binL (C : Cx) (f : Value → Value → Sem Value) (x y : V) (ρ : Rho) (F : Fz) (H : Hp) (Q : QV) : Prop := Op2 C.G C.fr C.A F H f x y (Nx C ρ Q) (kE C ρ)
noncomputable def binW (C : Cx) (op : Operator) (x y : V) (ρ : Rho) (F : Fz) (H : Hp) (Q : QV) : Prop := match op with
  | .Add => iiW x y (fun i j => Q (.int (i + j)) ρ F H) (binL C (binaryOp .Add) x y ρ F H Q)
  | .Sub => iiW x y (fun i j => Q (.int (i - j)) ρ F H) (binL C (binaryOp .Sub) x y ρ F H Q)
  | op => binL C (binaryOp op) x y ρ F H Q
noncomputable def inpW (C : Cx) (op : Operator) (x y : V) (ρ : Rho) (F : Fz) (H : Hp) (Q : QV) : Prop := match op with
  | .Add => iiW x y (fun i j => Q (.int (i + j)) ρ F H) (binL C (inplaceOp .Add) x y ρ F H Q)
  | .Sub => iiW x y (fun i j => Q (.int (i - j)) ρ F H) (binL C (inplaceOp .Sub) x y ρ F H Q)
  | op => binL C (inplaceOp op) x y ρ F H Q
inductive AB (Q : QB) (x : V) (ρ : Rho) (F : Fz) (H : Hp) : Prop where
  | mk (c : Bool) (e : x = .bool c) (q : Q c ρ F H)
noncomputable def noneW (y : V) (k leaf : Prop) : Prop := match y with
  | .none => k
  | _ => leaf
theorem noneW.go {y : V} {k leaf P : Prop} (h : noneW y k leaf) (h1 : y = .none → k → P) (h2 : leaf → P) : P := by
  cases y with
  | none => exact h1 rfl h
  | _ => exact h2 h
noncomputable def cmpL (C : Cx) (op : CmpOp) (x y : V) (ρ : Rho) (F : Fz) (H : Hp) (Q : QB) : Prop := Op2 C.G C.fr C.A F H (compareOp op) x y (Nx C ρ (AB Q)) (kE C ρ)
noncomputable def cmpW (C : Cx) (op : CmpOp) (x y : V) (ρ : Rho) (F : Fz) (H : Hp) (Q : QB) : Prop := match op with
  | .Lt => iiW x y (fun i j => Q (decide (i < j)) ρ F H) (cmpL C .Lt x y ρ F H Q)
  | .LtE => iiW x y (fun i j => Q (decide (i ≤ j)) ρ F H) (cmpL C .LtE x y ρ F H Q)
  | .Gt => iiW x y (fun i j => Q (decide (i > j)) ρ F H) (cmpL C .Gt x y ρ F H Q)
  | .GtE => iiW x y (fun i j => Q (decide (i ≥ j)) ρ F H) (cmpL C .GtE x y ρ F H Q)
  | .Eq => iiW x y (fun i j => Q (i == j) ρ F H) (ssW x y (fun i j => Q (i.cps.toList == j.cps.toList) ρ F H) (cmpL C .Eq x y ρ F H Q))
  | .NotEq => iiW x y (fun i j => Q (i != j) ρ F H) (ssW x y (fun i j => Q (i.cps.toList != j.cps.toList) ρ F H) (cmpL C .NotEq x y ρ F H Q))
  | .Is => noneW y (Q x.isN ρ F H) (cmpL C .Is x y ρ F H Q)
  | .IsNot => noneW y (Q (!x.isN) ρ F H) (cmpL C .IsNot x y ρ F H Q)
  | op => cmpL C op x y ρ F H Q
noncomputable def trW (C : Cx) (x : V) (ρ : Rho) (F : Fz) (H : Hp) (Q : QB) : Prop := match x with
  | .bool b => Q b ρ F H
  | .none => Q false ρ F H
  | .int i => Q (i != 0) ρ F H
  | x => Tr C.G C.fr C.A F H x (Nx C ρ Q) (kE C ρ)
noncomputable def negW (C : Cx) (op : UnaryOp) (x : V) (ρ : Rho) (F : Fz) (H : Hp) (Q : QV) : Prop := match op with
  | .USub => match x with
    | .int i => Q (.int (-i)) ρ F H
    | x => Op1 C.G C.fr C.A F H (unaryOp .USub) x (Nx C ρ Q) (kE C ρ)
  | op => Op1 C.G C.fr C.A F H (unaryOp op) x (Nx C ρ Q) (kE C ρ)
section
variable {C : Cx} {ρ : Rho} {F : Fz} {H : Hp} {Q : QV} {x y : V}
theorem liftOp2 {f : Value → Value → Sem Value} (h : binL C f x y ρ F H Q) : Op2 C.G C.fr C.A F (fm C ρ H) f x y (Un C Q) C.E := fun K m a b ha hb => liftV (h K m a b ha hb)
theorem liftOp1 {f : Value → Sem Value} (h : Op1 C.G C.fr C.A F H f x (Nx C ρ Q) (kE C ρ)) : Op1 C.G C.fr C.A F (fm C ρ H) f x (Un C Q) C.E := fun K m a ha => liftV (h K m a ha)
theorem liftCl {f : V} {xs : List V} (h : Cl C.G C.fr C.A F H f xs (Nx C ρ Q) (kE C ρ)) : Cl C.G C.fr C.A F (fm C ρ H) f xs (Un C Q) C.E := fun K m v vs hv hvs => liftV (h K m v vs hv hvs)
theorem liftTr {Q : QB} (h : Tr C.G C.fr C.A F H x (Nx C ρ Q) (kE C ρ)) : Tr C.G C.fr C.A F (fm C ρ H) x (Un C Q) C.E := fun K m a ha => liftT (h K m a ha)
theorem binW.sound {op : Operator} (ok : CxOk C F) (h : binW C op x y ρ F H Q) : Op2 C.G C.fr C.A F (fm C ρ H) (binaryOp op) x y (Un C Q) C.E := by
  cases op with
  | Add => exact iiW.go h (fun i j e1 e2 q => by subst e1 e2; exact add_ii ⟨_, _, rfl, ok, q⟩) liftOp2
  | Sub => exact iiW.go h (fun i j e1 e2 q => by subst e1 e2; exact sub_ii ⟨_, _, rfl, ok, q⟩) liftOp2
  | _ => exact liftOp2 h
theorem inpW.sound {op : Operator} (ok : CxOk C F) (h : inpW C op x y ρ F H Q) : Op2 C.G C.fr C.A F (fm C ρ H) (inplaceOp op) x y (Un C Q) C.E := by
  cases op with
  | Add => exact iiW.go h (fun i j e1 e2 q => by subst e1 e2; exact iadd_ii ⟨_, _, rfl, ok, q⟩) liftOp2
  | Sub => exact iiW.go h (fun i j e1 e2 q => by subst e1 e2; exact isub_ii ⟨_, _, rfl, ok, q⟩) liftOp2
  | _ => exact liftOp2 h
theorem cmpL.sound {op : CmpOp} {Q : QB} (h : cmpL C op x y ρ F H Q) : Op2 C.G C.fr C.A F (fm C ρ H) (compareOp op) x y (ABool (Un C Q)) C.E := fun K m a b ha hb R s hR =>
  wpAny_mono (liftV (h K m a b ha hb) R s hR) (fun v s1 hq => by
    obtain ⟨F', H', le, rep, z, hz, F1, m1, ρ1, H1, e, ok, c, ec, q⟩ := hq
    exact ⟨F', H', le, rep, z, hz, F1, m1, c, ec, ρ1, H1, e, ok, q⟩) fun _ _ q => q
theorem cmpW.sound {op : CmpOp} {Q : QB} (ok : CxOk C F) (h : cmpW C op x y ρ F H Q) : Op2 C.G C.fr C.A F (fm C ρ H) (compareOp op) x y (ABool (Un C Q)) C.E := by
  have mk : ∀ {b : Bool}, Q b ρ F H → ABool (Un C Q) (.bool b) F (fm C ρ H) := fun q => ⟨_, rfl, _, _, rfl, ok, q⟩
  cases op with
  | Lt => exact iiW.go h (fun i j e1 e2 q => by subst e1 e2; exact lt_ii (mk q)) cmpL.sound
  | LtE => exact iiW.go h (fun i j e1 e2 q => by subst e1 e2; exact le_ii (mk q)) cmpL.sound
  | Gt => exact iiW.go h (fun i j e1 e2 q => by subst e1 e2; exact gt_ii (mk q)) cmpL.sound
  | GtE => exact iiW.go h (fun i j e1 e2 q => by subst e1 e2; exact ge_ii (mk q)) cmpL.sound
  | Eq => exact iiW.go h (fun i j e1 e2 q => by subst e1 e2; exact eq_ii (mk q)) fun h => ssW.go h (fun i j e1 e2 q => by subst e1 e2; exact eq_ss (mk q)) cmpL.sound
  | NotEq => exact iiW.go h (fun i j e1 e2 q => by subst e1 e2; exact ne_ii (mk q)) fun h => ssW.go h (fun i j e1 e2 q => by subst e1 e2; exact ne_ss (mk q)) cmpL.sound
  | Is => exact noneW.go h (fun e q => by subst e; exact is_none (mk q)) cmpL.sound
  | IsNot => exact noneW.go h (fun e q => by subst e; exact isNot_none (mk q)) cmpL.sound
  | _ => exact cmpL.sound h
theorem trW.sound {Q : QB} (ok : CxOk C F) (h : trW C x ρ F H Q) : Tr C.G C.fr C.A F (fm C ρ H) x (Un C Q) C.E := by
  cases x with
  | bool => exact tr_bool ⟨_, _, rfl, ok, h⟩
  | none => exact tr_none ⟨_, _, rfl, ok, h⟩
  | int => exact tr_int ⟨_, _, rfl, ok, h⟩
  | _ => exact liftTr h
theorem negW.sound {op : UnaryOp} (ok : CxOk C F) (h : negW C op x ρ F H Q) : Op1 C.G C.fr C.A F (fm C ρ H) (unaryOp op) x (Un C Q) C.E := by
  cases op with
  | USub =>
    cases x with
    | int => exact neg_i ⟨_, _, rfl, ok, h⟩
    | _ => exact liftOp1 h
  | _ => exact liftOp1 h
end
noncomputable def isK (n : Nat) (e : Expr) : Bool := Nat.beq e.ctorIdx n
noncomputable def notStar (e : Expr) : Bool := !isK 22 e
noncomputable def notCall (e : Expr) : Bool := !isK 16 e
noncomputable def notComp (e : Expr) : Bool := !(isK 8 e || isK 9 e || isK 10 e)
noncomputable def notTup (e : Expr) : Bool := !isK 25 e
noncomputable def notSet (e : Expr) : Bool := !isK 7 e
noncomputable def plainFn (e : Expr) : Bool := isK 23 e || isK 21 e
noncomputable def valTest (e : Expr) : Bool := !(isK 0 e || isK 3 e || isK 5 e || isK 15 e)
theorem star_cons {e : Expr} {r : List Expr} {env : Env} (h : notStar e = true) : starEach (e :: r) env = (false, eval e env) :: starEach r env := by
  cases e <;> first | rfl | exact Bool.noConfusion h
theorem star_any {env : Env} {pos : Pos} : ∀ {l : List Expr}, l.all notStar = true → (backTo pos (starEach l env)).any (·.1) = false
  | [], _ => rfl
  | e :: r, h => by
    have h : (notStar e && r.all notStar) = true := h
    rw [star_cons (and_l h)]
    exact star_any (l := r) (and_r h)
theorem star_all {env : Env} {pos : Pos} : ∀ {l : List Expr}, l.all notStar = true → (backTo pos (starEach l env)).all (fun x => !x.1) = true
  | [], _ => rfl
  | e :: r, h => by
    have h : (notStar e && r.all notStar) = true := h
    rw [star_cons (and_l h)]
    exact star_all (l := r) (and_r h)
theorem base_notCall {o : Expr} {a : Str} {env : Env} {w : Sem Value} (h : notCall o = true) : attributeBase o a env w = w := by
  cases o <;> first | rfl | exact Bool.noConfusion h
theorem swaps_notComp {v : Expr} {t : Option Expr} {n : Nat} {env : Env} (h : notComp v = true) : swapsWith v t n env = pure false := by
  cases v <;> first | rfl | exact Bool.noConfusion h
section
variable (C : Cx) (w : WK → Prop)
inductive KAnd (F : Fz) (f : V) (P : Prop) : Prop where
  | mk (k : KOk F f) (h : P)
inductive Mth (T : String) (name : Str) (id : String) : Prop where
  | mk (h1 : PlainAttrs T) (h2 : Slot T name id) (h3 : typeOf (.builtin id) = pure (.type "method_descriptor"))
noncomputable def kApm (id : String) (x : V) (Q : QV) : QL := fun xs ρ F H => Cl C.G C.fr C.A F H (.blt id) (x :: xs) (Nx C ρ Q) (kE C ρ)
inductive MethW (args : List Expr) (name : Str) (x : V) (ρ : Rho) (F : Fz) (H : Hp) (Q : QV) : Prop where
  | mk (T id : String) (m : Mth T name id) (t : TyIs F H x T) (h : w (.a args ρ F H (kApm C id x Q)))
inductive LstW (xs : List V) (ρ : Rho) (F : Fz) (H : Hp) (Q : QV) : Prop where
  | own (hl : xs.length ≤ sizeLine) (h : ∀ a, Q (.ref a) ρ F ((a, .list xs) :: H))
  | at (f : Addr → Hp) (hp : ∀ a, ((a, .list xs) :: H).Perm (f a)) (hl : xs.length ≤ sizeLine) (h : ∀ a, Q (.ref a) ρ F (f a))
  | frz (hl : xs.length ≤ sizeLine) (h : Q (.lst xs) ρ F H)
inductive SlL (o : V) (lo hi st : Option Int) (Q : V → Fz → Hp → Prop) (F : Fz) (H : Hp) : Prop where
  | str (x : Str) (e : o = .str x) (hz : x.length ≤ sizeLine) (h0 : st = none) (h : Q (.str (Txt.slice x lo hi)) F H)
  | lst (l : List V) (hl : LstIs H o l) (hz : l.length ≤ sizeLine) (h0 : st ≠ some 0) (h : Q (.lst (slV l lo hi st)) F H)
noncomputable def kQ (ρ : Rho) (Q : QV) : V → Fz → Hp → Prop := fun x F H => Q x ρ F H
noncomputable def kPart (k : Option Int → QU) : QV := fun x ρ F H => match x with
  | .int i => k (some i) ρ F H
  | _ => False
noncomputable def partW (e : Option Expr) (ρ : Rho) (F : Fz) (H : Hp) (k : Option Int → QU) : Prop := match e with
  | none => k none ρ F H
  | some e => w (.e e ρ F H (kPart k))
noncomputable def kSlL4 (o : V) (lo hi : Option Int) (Q : QV) : Option Int → QU := fun st ρ F H => SlL o lo hi st (kQ ρ Q) F H
noncomputable def kSlL3 (o : V) (st : Option Expr) (lo : Option Int) (Q : QV) : Option Int → QU := fun hi ρ F H => partW w st ρ F H (kSlL4 o lo hi Q)
noncomputable def kSlL2 (o : V) (hi st : Option Expr) (Q : QV) : Option Int → QU := fun lo ρ F H => partW w hi ρ F H (kSlL3 w o st lo Q)
noncomputable def kSl (lo hi st : Option Expr) (Q : QV) : QV := fun o ρ F H => partW w lo ρ F H (kSlL2 w o hi st Q)
noncomputable def kBin2 (op : Operator) (x : V) (Q : QV) : QV := fun y ρ F H => binW C op x y ρ F H Q
noncomputable def kBin (op : Operator) (r : Expr) (Q : QV) : QV := fun x ρ F H => w (.e r ρ F H (kBin2 C op x Q))
noncomputable def kNeg (op : UnaryOp) (Q : QV) : QV := fun x ρ F H => negW C op x ρ F H Q
noncomputable def kCmp2 (op : CmpOp) (x : V) (Q : QB) : QV := fun y ρ F H => cmpW C op x y ρ F H Q
noncomputable def kCmp (op : CmpOp) (r : Expr) (Q : QB) : QV := fun x ρ F H => w (.e r ρ F H (kCmp2 C op x Q))
noncomputable def kB (Q : QV) : QB := fun b ρ F H => Q (.bool b) ρ F H
noncomputable def kOr2 (b : Expr) (x : V) (Q : QV) : QB := fun t ρ F H => bifW t (Q x ρ F H) (w (.e b ρ F H Q))
noncomputable def kOr (b : Expr) (Q : QV) : QV := fun x ρ F H => trW C x ρ F H (kOr2 w b x Q)
noncomputable def kIte (a b : Expr) (Q : QV) : QB := fun t ρ F H => bifW t (w (.e a ρ F H Q)) (w (.e b ρ F H Q))
inductive IteW (t a b : Expr) (ρ : Rho) (F : Fz) (H : Hp) (Q : QV) : Prop where
  | run (h : w (.t t ρ F H (kIte w a b Q)))
  | mk (P : QV) (h : w (.t t ρ F H (kIte w a b P))) (k : ∀ x ρ F H, CxOk C F → P x ρ F H → Q x ρ F H)
noncomputable def kTup (Q : QV) : QL := fun xs ρ F H => bifW (Nat.ble xs.length 1000) (Q (.tup xs) ρ F H) False
noncomputable def kLst (Q : QV) : QL := fun xs ρ F H => LstW xs ρ F H Q
noncomputable def kAttr (a : Str) (Q : QV) : QV := fun x ρ F H => Op1 C.G C.fr C.A F H (fun v => getAttr v a true) x (Nx C ρ Q) (kE C ρ)
noncomputable def kSub2 (v s : Expr) (o : V) (Q : QV) : QV := fun i ρ F H => binL C (subscriptTail v s) o i ρ F H Q
noncomputable def kSub (v s : Expr) (Q : QV) : QV := fun o ρ F H => w (.e s ρ F H (kSub2 C v s o Q))
noncomputable def kApp (f : V) (Q : QV) : QL := fun xs ρ F H => Cl C.G C.fr C.A F H f xs (Nx C ρ Q) (kE C ρ)
noncomputable def argW (f : V) (args : List Expr) (ρ : Rho) (F : Fz) (H : Hp) (Q : QV) : Prop := match args with
  | [] => kApp C f Q [] ρ F H
  | args => w (.a args ρ F H (kApp C f Q))
noncomputable def kCall (args : List Expr) (Q : QV) : QV := fun f ρ F H => match f with
  | .blt n => argW C w (.blt n) args ρ F H Q
  | .typ n => argW C w (.typ n) args ρ F H Q
  | f => KAnd F f (argW C w f args ρ F H Q)
noncomputable def kMeth (name : Str) (args : List Expr) (Q : QV) : QV := fun x ρ F H => MethW C w args name x ρ F H Q
noncomputable def kCons (x : V) (Q : QL) : QL := fun xs ρ F H => Q (x :: xs) ρ F H
noncomputable def kArg (r : List Expr) (Q : QL) : QV := fun x ρ F H => w (.a r ρ F H (kCons x Q))
noncomputable def kNot (Q : QB) : QB := fun b ρ F H => Q (!b) ρ F H
noncomputable def kTr (Q : QB) : QV := fun x ρ F H => trW C x ρ F H Q
noncomputable def kAll (op : BoolOp) (r : List Expr) (Q : QB) : QB := fun b ρ F H => match op with
  | .And => bifW b (w (.b .And r ρ F H Q)) (Q false ρ F H)
  | .Or => bifW b (Q true ρ F H) (w (.b .Or r ρ F H Q))
noncomputable def nameW (n : Str) (ρ : Rho) (F : Fz) (H : Hp) (Q : QV) (leaf : Prop) : Prop := match C.env.kindOf n with
  | some .local => (match lkR ρ n with
    | some y => Q y ρ F H
    | none => leaf)
  | some .globalImplicit => (match lkp C.gl n with
    | some y => Q y ρ F H
    | none => leaf)
  | some .free => (match lkp C.fl n with
    | some y => Q y ρ F H
    | none => leaf)
  | some .cell => (match lkp C.fl n with
    | some y => Q y ρ F H
    | none => leaf)
  | _ => leaf
noncomputable def constW (c : Const) (ρ : Rho) (F : Fz) (H : Hp) (Q : QV) (leaf : Prop) : Prop := match c with
  | .int i => Q (.int i) ρ F H
  | .str x => Q (.str x) ρ F H
  | .bool b => Q (.bool b) ρ F H
  | .none => Q .none ρ F H
  | _ => leaf
noncomputable def attr? : Expr → Option (Expr × Str × Pos)
  | .Attribute o name apos => some (o, name, apos)
  | _ => none
noncomputable def callW1 (f : Expr) (args : List Expr) (pos : Pos) (ρ : Rho) (F : Fz) (H : Hp) (Q : QV) (leaf : Prop) : Prop := match attr? f with
  | some p => bifW (notCall p.1 && (p.2.2.endLine == pos.line && (args.all notStar && Nat.ble args.length 9))) (w (.e p.1 ρ F H (kMeth C w p.2.1 args Q))) leaf
  | none => bifW (plainFn f && args.all notStar) (w (.e f ρ F H (kCall C w args Q))) leaf
noncomputable def oneW (ops : List CmpOp) (rs : List Expr) (k : CmpOp → Expr → Prop) (leaf : Prop) : Prop := match ops with
  | [] => leaf
  | op :: ops => (match ops with
    | [] => (match rs with
      | [] => leaf
      | r :: rs => (match rs with
        | [] => k op r
        | _ :: _ => leaf))
    | _ :: _ => leaf)
noncomputable def orW (op : BoolOp) (xs : List Expr) (k : Expr → Expr → Prop) (leaf : Prop) : Prop := match op with
  | .And => leaf
  | .Or => (match xs with
    | [] => leaf
    | a :: xs => (match xs with
      | [] => leaf
      | b :: xs => (match xs with
        | [] => k a b
        | _ :: _ => leaf)))
noncomputable def optAll : List (Option Expr) → Option (List Expr)
  | [] => some []
  | k :: ks => match k with
    | none => none
    | some k => match optAll ks with
      | none => none
      | some ks => some (k :: ks)
inductive DictW {K : Type} [DecidableEq K] (kd : Kd C.G K) (l : List (V × V)) (ρ : Rho) (F : Fz) (H : Hp) (Q : QV) : Prop where
  | own (m : List (K × V)) (e : l = kvL kd.emb m) (nd : (m.map (·.1)).Nodup) (h : ∀ a, (a == sysModules) = false → Q (.ref a) ρ F ((a, .dict (kvL kd.emb m)) :: H))
  | frz (m : List (K × V)) (e : l = kvL kd.emb m) (nd : (m.map (·.1)).Nodup) (h : ∀ a F', F.le F' → CxOk C F' → DictF C.G F' a (kvL kd.emb m) → Q (.ref a) ρ F' H)
noncomputable def kDict {K : Type} [DecidableEq K] (kd : Kd C.G K) (Q : QV) : QP := fun l ρ F H => DictW C kd l ρ F H Q
noncomputable def keyK (k : Expr) : Option Bool := match k with
  | .Constant c _ _ => (match c with
    | .str _ => some true
    | .int _ => some false
    | _ => none)
  | _ => none
noncomputable def kD3 (x y : V) (Q : QP) : QP := fun r ρ F H => Q ((x, y) :: r) ρ F H
noncomputable def kD2 (ks vs : List Expr) (x : V) (Q : QP) : QV := fun y ρ F H => w (.d ks vs ρ F H (kD3 x y Q))
noncomputable def kD1 (v : Expr) (ks vs : List Expr) (Q : QP) : QV := fun x ρ F H => w (.e v ρ F H (kD2 w ks vs x Q))
noncomputable def dW (ks vs : List Expr) (ρ : Rho) (F : Fz) (H : Hp) (Q : QP) : Prop := match ks with
  | [] => (match vs with
    | [] => Q [] ρ F H
    | _ :: _ => False)
  | k :: ks => (match vs with
    | [] => False
    | v :: vs => w (.e k ρ F H (kD1 w v ks vs Q)))
noncomputable def dictW (ks vs : List Expr) (ρ : Rho) (F : Fz) (H : Hp) (Q : QV) (leaf : Prop) : Prop := match ks with
  | [] => (match vs with
    | [] => ∀ a, (a == sysModules) = false → Q (.ref a) ρ F ((a, .dict []) :: H)
    | _ :: _ => leaf)
  | k :: ks => bifW (Nat.ble (k :: ks).length 15 && Nat.beq (k :: ks).length vs.length) (match keyK k with
    | some true => w (.d (k :: ks) vs ρ F H (kDict C (kStr C.G) Q))
    | some false => w (.d (k :: ks) vs ρ F H (kDict C (kInt C.G) Q))
    | none => leaf) leaf
noncomputable def dictsW (keys : List (Option Expr)) (vs : List Expr) (p : Pos) (ρ : Rho) (F : Fz) (H : Hp) (Q : QV) : Prop := match optAll keys with
  | some ks => dictW C w ks vs ρ F H Q (SmE C (.Dict keys vs p) ρ F H Q)
  | none => SmE C (.Dict keys vs p) ρ F H Q
noncomputable def slice? : Expr → Option (Option Expr × Option Expr × Option Expr × Pos)
  | .Slice lo hi st p => some (lo, hi, st, p)
  | _ => none
noncomputable def subW (v s : Expr) (ρ : Rho) (F : Fz) (H : Hp) (Q : QV) : Prop := match slice? s with
  | some p => w (.e v ρ F H (kSl w p.1 p.2.1 p.2.2.1 Q))
  | none => w (.e v ρ F H (kSub C w v s Q))
noncomputable def isNil {α : Type} : List α → Bool
  | [] => true
  | _ :: _ => false
noncomputable def eW (x : Expr) (ρ : Rho) (F : Fz) (H : Hp) (Q : QV) : Prop := match x with
  | .Constant c k p => constW c ρ F H Q (SmE C (.Constant c k p) ρ F H Q)
  | .Name n p => nameW C n ρ F H Q (SmE C (.Name n p) ρ F H Q)
  | .BinOp l op r _ => w (.e l ρ F H (kBin C w op r Q))
  | .UnaryOp op a _ => w (.e a ρ F H (kNeg C op Q))
  | .Compare l ops rs p => oneW ops rs (fun op r => bifW (behindInMarks op r) (SmE C (.Compare l [op] [r] p) ρ F H Q) (w (.e l ρ F H (kCmp C w op r (kB Q))))) (SmE C (.Compare l ops rs p) ρ F H Q)
  | .BoolOp op xs p => orW op xs (fun a b => w (.e a ρ F H (kOr C w b Q))) (SmE C (.BoolOp op xs p) ρ F H Q)
  | .IfExp t a b _ => IteW C w t a b ρ F H Q
  | .Call f args kws pos => bifW (isNil kws) (callW1 C w f args pos ρ F H Q (SmE C (.Call f args kws pos) ρ F H Q)) (SmE C (.Call f args kws pos) ρ F H Q)
  | .Tuple es k p => bifW (es.all notStar) (w (.a es ρ F H (kTup Q))) (SmE C (.Tuple es k p) ρ F H Q)
  | .List es p => bifW (es.all notStar) (w (.a es ρ F H (kLst Q))) (SmE C (.List es p) ρ F H Q)
  | .Attribute v a p => bifW (notCall v) (w (.e v ρ F H (kAttr C a Q))) (SmE C (.Attribute v a p) ρ F H Q)
  | .Subscript v s _ => subW C w v s ρ F H Q
  | .Dict keys vs p => dictsW C w keys vs p ρ F H Q
  | x => SmE C x ρ F H Q
noncomputable def tvW (x : Expr) (ρ : Rho) (F : Fz) (H : Hp) (Q : QB) : Prop := bifW (valTest x) (w (.e x ρ F H (kTr C Q))) (Sm C (.t x ρ F H Q))
noncomputable def tW (x : Expr) (ρ : Rho) (F : Fz) (H : Hp) (Q : QB) : Prop := match x with
  | .UnaryOp op x p => (match op with
    | .Not => w (.t x ρ F H (kNot Q))
    | op => Sm C (.t (.UnaryOp op x p) ρ F H Q))
  | .BoolOp op xs _ => w (.b op xs ρ F H Q)
  | .Compare l ops rs p => oneW ops rs (fun op r => bifW (behindInMarks op r) (Sm C (.t (.Compare l [op] [r] p) ρ F H Q)) (w (.e l ρ F H (kCmp C w op r Q)))) (Sm C (.t (.Compare l ops rs p) ρ F H Q))
  | x => tvW C w x ρ F H Q
noncomputable def bW (op : BoolOp) (xs : List Expr) (ρ : Rho) (F : Fz) (H : Hp) (Q : QB) : Prop := match xs with
  | [] => (match op with
    | .And => Q true ρ F H
    | .Or => Q false ρ F H)
  | x :: r => w (.t x ρ F H (kAll w op r Q))
noncomputable def aW (xs : List Expr) (ρ : Rho) (F : Fz) (H : Hp) (Q : QL) : Prop := match xs with
  | [] => Q [] ρ F H
  | e :: r => bifW (notStar e) (w (.e e ρ F H (kArg w r Q))) False
end
section
variable {C : Cx} {w : WK → Prop} {ρ : Rho} {F : Fz} {H : Hp}
theorem bifW.go {b : Bool} {P Q R : Prop} (h : bifW b P Q) (h1 : b = true → P → R) (h2 : b = false → Q → R) : R := by
  cases b with
  | true => exact h1 rfl h
  | false => exact h2 rfl h
noncomputable def Sd (C : Cx) (w : WK → Prop) : Prop := ∀ k : WK, CxOk C k.F → w k → Sm C k
theorem Sd.e (hw : Sd C w) {x : Expr} {Q : QV} (ok : CxOk C F) (h : w (.e x ρ F H Q)) : Ev C.G C.fr C.A F (fm C ρ H) (eval x C.env) (Un C Q) C.E := hw (.e x ρ F H Q) ok h
theorem Sd.k (hw : Sd C w) {x : Expr} {Q : QV} {P : V → Fz → Hp → Prop} (ok : CxOk C F) (h : w (.e x ρ F H Q)) (k : ∀ x ρ F H, CxOk C F → Q x ρ F H → P x F (fm C ρ H)) : Ev C.G C.fr C.A F (fm C ρ H) (eval x C.env) P C.E :=
  (hw.e ok h).mono (fun x F1 H1 q => by obtain ⟨ρ1, H1, e, ok, q⟩ := q; subst e; exact k _ _ _ _ ok q) fun _ _ _ e => e
theorem Tp.un {α : Type} {t : Sem α} {Q : α → Rho → Fz → Hp → Prop} {P : α → Fz → Hp → Prop} (h : Tp C.G C.fr C.A F (fm C ρ H) t (Un C Q) C.E) (k : ∀ x ρ F H, CxOk C F → Q x ρ F H → P x F (fm C ρ H)) : Tp C.G C.fr C.A F (fm C ρ H) t P C.E :=
  h.mono (fun x F1 H1 q => by obtain ⟨ρ1, H1, e, ok, q⟩ := q; subst e; exact k _ _ _ _ ok q) fun _ _ _ e => e
theorem Sd.a (hw : Sd C w) {xs : List Expr} {Q : QL} (ok : CxOk C F) (h : w (.a xs ρ F H Q)) (pos : Pos) : Evs C.G C.fr C.A F (fm C ρ H) (spliced (backTo pos (starEach xs C.env))) (Un C Q) C.E := hw (.a xs ρ F H Q) ok h pos
theorem Evs.mono {G : Glob} {fr : List Env} {A : Around} {F : Fz} {H : Hp} {E : Value → Fz → Hp → Prop} {P Q : List V → Fz → Hp → Prop} {t : Sem (List Value)} (h : Evs G fr A F H t P E) (k : ∀ x F1 H1, P x F1 H1 → Q x F1 H1) : Evs G fr A F H t Q E := fun K m R s hR =>
  wpAny_mono (h K m R s hR) (fun _ _ q => by obtain ⟨F1, H1, l, r, x, hx, F2, m2, q⟩ := q; exact ⟨F1, H1, l, r, x, hx, F2, m2, k _ _ _ q⟩) fun _ _ q => q
theorem Sd.ak (hw : Sd C w) {xs : List Expr} {Q : QL} {P : List V → Fz → Hp → Prop} (ok : CxOk C F) (h : w (.a xs ρ F H Q)) (pos : Pos) (k : ∀ x ρ F H, CxOk C F → Q x ρ F H → P x F (fm C ρ H)) : Evs C.G C.fr C.A F (fm C ρ H) (spliced (backTo pos (starEach xs C.env))) P C.E :=
  (hw.a ok h pos).mono fun x F1 H1 q => by obtain ⟨ρ1, H1, e, ok, q⟩ := q; subst e; exact k _ _ _ _ ok q
theorem has_fm : Has (fm C ρ H) C.env.locals (.ns ρ) := .hd
theorem nameW.sound {n : Str} {p : Pos} {Q : QV} (ok : CxOk C F) (h : nameW C n ρ F H Q (SmE C (.Name n p) ρ F H Q)) : SmE C (.Name n p) ρ F H Q := by
  have nd := fun {k : NameKind} (e : C.env.kindOf n = some k) => ok.nodbg e
  have un : ∀ {y}, Q y ρ F H → Un C Q y F (fm C ρ H) := fun q => ⟨_, _, rfl, ok, q⟩
  have free : ∀ {y}, lkp C.fl n = some y → FrIs C.env F n y := fun e => ok.fls _ (lkp_mem e)
  cases hk : C.env.kindOf n with
  | none => unfold nameW at h; rw [hk] at h; exact h
  | some k =>
    unfold nameW at h
    rw [hk] at h
    cases k with
    | «local» =>
      cases e : lkR ρ n with
      | none => rw [e] at h; exact h
      | some y => rw [e] at h; exact Ev_local has_fm (lkR_lk e) (un h) ok.kind hk (nd hk).1
    | globalImplicit =>
      cases e : lkp C.gl n with
      | none => rw [e] at h; exact h
      | some y =>
        rw [e] at h
        rcases ok.gls _ (lkp_mem e) with ⟨v, hv, r⟩ | ⟨v, h0, hv, r⟩
        · exact Ev_global hv r (un h) ok.kind hk ok.glob (nd hk).1
        · exact Ev_blt h0 hv r (un h) ok.kind hk ok.glob ok.blt (nd hk).1
    | free =>
      cases e : lkp C.fl n with
      | none => rw [e] at h; exact h
      | some y =>
        rw [e] at h
        obtain ⟨c, hc, hm⟩ := free e
        exact Ev_freeF hc hm (un h) ok.kind hk (nd hk).1 (nd hk).2
    | cell =>
      cases e : lkp C.fl n with
      | none => rw [e] at h; exact h
      | some y =>
        rw [e] at h
        obtain ⟨c, hc, o, v, ho, hd', hv⟩ := free e
        exact fun K m R s hR => wpAny_Name (wpAny_loadName_cell ok.kind hk hc ⟨o, hR.fz _ _ (m _ _ ho), hd'⟩ (vret hR (hv.mono m) m (un h))) (nd hk).1
    | _ => exact h
theorem constW.sound {c : Const} {k : Nat} {p : Pos} {Q : QV} (ok : CxOk C F) (h : constW c ρ F H Q (SmE C (.Constant c k p) ρ F H Q)) : SmE C (.Constant c k p) ρ F H Q := by
  cases c with
  | int => exact Ev_int ⟨_, _, rfl, ok, h⟩
  | str => exact Ev_str ⟨_, _, rfl, ok, h⟩
  | bool => exact Ev_bool ⟨_, _, rfl, ok, h⟩
  | none => exact Ev_none ⟨_, _, rfl, ok, h⟩
  | _ => exact h
theorem kPart.sound {k : Option Int → QU} {P : Option Int → Fz → Hp → Prop} {x : V} (ok : CxOk C F) (h : kPart k x ρ F H) (hk : ∀ o, k o ρ F H → P o F (fm C ρ H)) : AInt P x F (fm C ρ H) := by
  cases x with
  | int => exact ⟨_, rfl, hk _ h⟩
  | _ => exact h.elim
theorem partW.sound (hw : Sd C w) {e : Option Expr} {k : Option Int → QU} {P : Option Int → Fz → Hp → Prop} (ok : CxOk C F) (h : partW w e ρ F H k) (hk : ∀ o ρ F H, CxOk C F → k o ρ F H → P o F (fm C ρ H)) : EvP C.G C.fr C.A C.env F (fm C ρ H) e P C.E := by
  cases e with
  | none => exact EvP_none (hk _ _ _ _ ok h)
  | some e => exact EvP_some (hw.k ok h fun x ρ F H ok q => kPart.sound ok q fun o q => hk o _ _ _ ok q)
theorem Has.tail {a : Addr} {x : AO} (h : Has H a x) : Has (fm C ρ H) a x := .tl h
theorem LstIs.tail {x : V} {l : List V} (h : LstIs H x l) : LstIs (fm C ρ H) x l := by
  cases h with
  | lst => exact .lst
  | own h => exact .own h.tail
theorem TyIs.tail {x : V} {T : String} (h : TyIs F H x T) : TyIs F (fm C ρ H) x T := by
  cases h with
  | str => exact .str
  | int => exact .int
  | tup => exact .tup
  | list h => exact .list h.tail
  | dict h => exact .dict h.tail
  | frz h hc hd => exact .frz h hc hd
theorem Ev_slice {G : Glob} {fr : List Env} {A : Around} {env : Env} {F : Fz} {H : Hp} {E : Value → Fz → Hp → Prop} {Q : V → Fz → Hp → Prop} {value : Expr} {lower upper step : Option Expr} {p pos} (h : Ev G fr A F H (eval value env) (fun o F1 H1 => EvP G fr A env F1 H1 lower (fun lo F2 H2 => EvP G fr A env F2 H2 upper (fun hi F3 H3 => EvP G fr A env F3 H3 step (fun st F4 H4 => SlL o lo hi st Q F4 H4) E) E) E) E) :
    Ev G fr A F H (eval (.Subscript value (.Slice lower upper step p) pos) env) Q E := fun K m R s hR => by
  refine Subscript_ (h.go m hR (.refl K) fun v o F1 K1 H1 s1 l1 m1 r1 hx h1 => wpAny_Slice (h1.seq m1 r1 l1 fun o1 F2 K2 H2 s2 l2 m2 r2 h2 => h2.seq m2 r2 (l1.trans l2) fun o2 F3 K3 H3 s3 l3 m3 r3 h3 => h3.seq m3 r3 (l1.trans (l2.trans l3)) fun o3 F4 K4 H4 s4 l4 m4 r4 hq => ?_))
  have hsub : ∀ v, ∃ ops, subscripted (.Slice lower upper step p) false v (.ref s4.heap.objs.size) = operate ops (getItem v (.ref s4.heap.objs.size)) := fun v => by
    cases step with
    | none => exact ⟨_, rfl⟩
    | some e => exact ⟨_, rfl⟩
  have k1 : ∀ b o, s4.heap.get? b = some o → (s4.heap.push { cls := .type "slice", data := .fields #[partValue o1, partValue o2, partValue o3] }).get? b = some o := fun b o e => Heap.get?_push_of_some _ e
  have hx4 := hx.mono (l2.trans (l3.trans l4))
  have l14 := l1.trans (l2.trans (l3.trans l4))
  rcases hq with ⟨x, rfl, hsz, h0, q⟩ | ⟨l, hl, hsz, h0, q⟩
  · have h3 : o3 = none := by cases o3 with | none => rfl | some z => cases h0
    subst h3
    refine hx.e_str (P := fun v => wpAny _ _ (subscriptTail value _ v _) _ _ _) fun t => ?_
    obtain ⟨ops, hsub⟩ := hsub (.str x t)
    refine tail_any (typeIs_str _ _ _) PySem.F.slot_str_getitem.lookup (wpAny_getItem_str_slice (l := o1) (u := o2) (st := none) ⟨_, Heap.get?_push_size _ rfl, rfl, rfl⟩ rfl (post_val_or_str ⟨Nat.le_trans (Txt.slice_le x _ _) hsz, fun t' k => ?_⟩)) hsub
    exact ⟨K4, H4, l14, r4.keeps (tk := k) (dr := s4.drawn) fun b o e => Heap.get?_push_of_some _ e, _, .str, F4, m4, q⟩
  · obtain ⟨a, vs, rfl, hL, hr⟩ := hl.is r4 hx4
    have e := hr.toArr
    have hL' := hL.push { cls := .type "slice", data := .fields #[partValue o1, partValue o2, partValue o3] }
    obtain ⟨ops, hsub⟩ := hsub (.ref a)
    refine tail_any hL'.typeIs slot_list_getitem.lookup (wpAny_getItem_list_slice hL' ⟨_, Heap.get?_push_size _ rfl, rfl, rfl⟩ (isPart o1) (isPart o2) (isPart o3) h0 ?_ (by rw [e]; exact hsz)) hsub
    have r5 := r4.keeps (tk := s4.toks) (dr := s4.drawn) k1
    obtain ⟨le, r6⟩ := r5.newF (tk := s4.toks) (dr := s4.drawn) (D := (s4.heap.push { cls := .type "slice", data := .fields #[partValue o1, partValue o2, partValue o3] }).objs.size) (fun b o e => Heap.get?_push_of_some { cls := .type "list", data := .seq (slicePick vs (o1.map (·.1)) (o2.map (·.1)) (o3.map (·.1))) } e) (none_at_size _) (Heap.get?_push_size _ rfl)
    have hp := slicePick_rv hr (o1.map (·.1)) (o2.map (·.1)) (o3.map (·.1))
    exact ⟨_, H4, l14.trans le, r6, _, .lst (vs := (slicePick vs (o1.map (·.1)) (o2.map (·.1)) (o3.map (·.1))).toList) (Fz.add_self _ _ _) rfl rfl hp.length (hp.mono le).get, F4, m4.trans le, q⟩
theorem SlL.tail {o : V} {lo hi st : Option Int} {Q : QV} (ok : CxOk C F) (h : SlL o lo hi st (kQ ρ Q) F H) : SlL o lo hi st (Un C Q) F (fm C ρ H) := by
  rcases h with ⟨x, e, hz, h0, q⟩ | ⟨l, hl, hz, h0, q⟩
  · exact .str x e hz h0 ⟨_, _, rfl, ok, q⟩
  · exact .lst l hl.tail hz h0 ⟨_, _, rfl, ok, q⟩
theorem slice.sound (hw : Sd C w) {v : Expr} {lo hi st : Option Expr} {p pos : Pos} {Q : QV} (ok : CxOk C F) (h : w (.e v ρ F H (kSl w lo hi st Q))) : SmE C (.Subscript v (.Slice lo hi st p) pos) ρ F H Q :=
  Ev_slice (hw.k ok h fun o ρ F H ok q => partW.sound hw ok q fun lo ρ F H ok q => partW.sound hw ok q fun hi ρ F H ok q => partW.sound hw ok q fun st ρ F H ok q => SlL.tail ok q)
theorem meth.sound (hw : Sd C w) {o : Expr} {name : Str} {apos pos : Pos} {args : List Expr} {Q : QV} (ok : CxOk C F) (h0 : notCall o = true) (h1 : (apos.endLine == pos.line) = true) (h2 : args.all notStar = true) (h3 : args.length ≤ 9) (h : w (.e o ρ F H (kMeth C w name args Q))) : SmE C (.Call (.Attribute o name apos) args [] pos) ρ F H Q := by
  refine Ev_method (hw.k ok h fun x ρ F H ok q => ?_) (base_notCall h0) ?_ h1 ?_ (star_any h2)
  · obtain ⟨T, id, ⟨m1, m2, m3⟩, t, h⟩ := q
    exact ⟨T, id, m1, m2, m3, t.tail, hw.ak ok h pos fun xs ρ F H ok q => liftCl q⟩
  · rw [star_all h2]
    show (true && true && decide (args.length + 0 + 0 < 30)) = true
    rw [decide_eq_true (show args.length + 0 + 0 < 30 by lia)]
    rfl
  · intro f Q E s hq
    cases args with
    | nil => exact evalArgs_nil' hq
    | cons e r =>
      rw [star_cons (and_l h2)] at hq ⊢
      exact evalArgs_plain hq
theorem kCall.sound (hw : Sd C w) {args : List Expr} {Q : QV} {f : V} (ok : CxOk C F) (h : kCall C w args Q f ρ F H) : KOk F f ∧ argW C w f args ρ F H Q := by
  cases f with
  | blt => exact ⟨.blt, h⟩
  | typ => exact ⟨.typ, h⟩
  | _ => exact ⟨h.1, h.2⟩
theorem call.sound (hw : Sd C w) {f : Expr} {pos : Pos} {args : List Expr} {Q : QV} (ok : CxOk C F) (h0 : plainFn f = true) (h2 : args.all notStar = true) (h : w (.e f ρ F H (kCall C w args Q))) : SmE C (.Call f args [] pos) ρ F H Q := by
  have he : eval (.Call f args [] pos) C.env = (do callWith pos (← eval f C.env) [] (backTo pos (starEach args C.env)) (backToKw pos (keywordEach [] C.env))) := by
    cases f <;> first | rfl | exact Bool.noConfusion h0
  cases args with
  | nil =>
    refine Ev_Call0 (hw.k ok h fun f ρ F H ok q => ?_) he
    obtain ⟨hk, q⟩ := kCall.sound hw ok q
    exact ⟨hk, liftCl q⟩
  | cons e r =>
    refine Ev_Call (hw.k ok h fun f ρ F H ok q => ?_) he (star_cons (and_l h2)) (star_any (and_r h2))
    obtain ⟨hk, q⟩ := kCall.sound hw ok q
    exact ⟨hk, hw.ak ok q pos fun xs ρ F H ok q => liftCl q⟩
theorem nosome {α : Type} {x : α} {P : Prop} (h : none = some x) : P := by cases h
theorem attr?_eq {f : Expr} {p : Expr × Str × Pos} (h : attr? f = some p) : f = .Attribute p.1 p.2.1 p.2.2 := by
  cases f <;> first | (rw [← Option.some.inj h]; done) | exact nosome h
theorem slice?_eq {f : Expr} {p : Option Expr × Option Expr × Option Expr × Pos} (h : slice? f = some p) : f = .Slice p.1 p.2.1 p.2.2.1 p.2.2.2 := by
  cases f <;> first | (rw [← Option.some.inj h]; done) | exact nosome h
theorem callW1.sound (hw : Sd C w) {f : Expr} {pos : Pos} {args : List Expr} {Q : QV} (ok : CxOk C F) (h : callW1 C w f args pos ρ F H Q (SmE C (.Call f args [] pos) ρ F H Q)) : SmE C (.Call f args [] pos) ρ F H Q := by
  unfold callW1 at h
  cases e : attr? f with
  | none => rw [e] at h; exact bifW.go h (fun e h => call.sound hw ok (and_l e) (and_r e) h) fun _ h => h
  | some p =>
    rw [e] at h
    rw [attr?_eq e] at h ⊢
    exact bifW.go h (fun e h => meth.sound hw ok (and_l e) (and_l (and_r e)) (and_l (and_r (and_r e))) (Nat.le_of_ble_eq_true (and_r (and_r (and_r e)))) h) fun _ h => h
theorem oneW.go {ops : List CmpOp} {rs : List Expr} {k : CmpOp → Expr → Prop} {leaf P : Prop} (h : oneW ops rs k leaf) (h1 : ∀ op r, ops = [op] → rs = [r] → k op r → P) (h2 : leaf → P) : P := by
  cases ops with
  | nil => exact h2 h
  | cons op ops =>
    cases ops with
    | nil =>
      cases rs with
      | nil => exact h2 h
      | cons r rs =>
        cases rs with
        | nil => exact h1 _ _ rfl rfl h
        | cons => exact h2 h
    | cons => exact h2 h
theorem orW.go {op : BoolOp} {xs : List Expr} {k : Expr → Expr → Prop} {leaf P : Prop} (h : orW op xs k leaf) (h1 : ∀ a b, op = .Or → xs = [a, b] → k a b → P) (h2 : leaf → P) : P := by
  cases op with
  | And => exact h2 h
  | Or =>
    cases xs with
    | nil => exact h2 h
    | cons a xs =>
      cases xs with
      | nil => exact h2 h
      | cons b xs =>
        cases xs with
        | nil => exact h1 _ _ rfl rfl h
        | cons => exact h2 h
theorem isNil_eq {α : Type} {l : List α} (h : isNil l = true) : l = [] := by
  cases l with
  | nil => rfl
  | cons => cases h
theorem attr_eq {value : Expr} {attr : Str} {pos : Pos} {env : Env} (h : notCall value = true) : eval (.Attribute value attr pos) env = (do
      let o ← eval value env
      standAt pos.atName
      let r ← holding [o] (getAttr o attr true)
      letTemporaryGo value o r
      pure r) := by
  have e : eval (.Attribute value attr pos) env = (do
      let o ← attributeBase value attr env (eval value env)
      standAt pos.atName
      let r ← holding [o] (getAttr o attr true)
      letTemporaryGo value o r
      pure r) := rfl
  rw [e, base_notCall h]
theorem lst.sound (hw : Sd C w) {es : List Expr} {p : Pos} {Q : QV} (ok : CxOk C F) (h : w (.a es ρ F H (kLst Q))) : SmE C (.List es p) ρ F H Q := fun K m R s hR =>
  wpAny_List ((hw.a ok h _).go m hR (.refl K) fun vs xs F1 K1 H1 s1 l1 m1 r1 hxs hq => by
    obtain ⟨ρ1, H1, rfl, ok, q⟩ := hq
    rcases q with ⟨hl, q⟩ | ⟨f, hp, hl, q⟩ | ⟨hl, q⟩
    · refine ⟨hxs.length.symm ▸ hl, K1, fm C ρ1 ((s1.heap.objs.size, .list xs) :: H1), l1, ?_, _, .ref, F1, m1, _, _, rfl, ok, q _⟩
      exact Rep.perm (H := (s1.heap.objs.size, .list xs) :: (fm C ρ1 H1 ++ R)) (r1.new (tk := s1.toks) (dr := s1.drawn) (fun b o e => Heap.get?_push_of_some _ e) (none_at_size _) (Heap.get?_push_size _ rfl) ⟨vs.toArray, 0, rfl, hxs⟩) (.swap ..)
    · refine ⟨hxs.length.symm ▸ hl, K1, fm C ρ1 (f s1.heap.objs.size), l1, ?_, _, .ref, F1, m1, _, _, rfl, ok, q _⟩
      exact Rep.perm (H := (s1.heap.objs.size, .list xs) :: (fm C ρ1 H1 ++ R)) (r1.new (tk := s1.toks) (dr := s1.drawn) (fun b o e => Heap.get?_push_of_some _ e) (none_at_size _) (Heap.get?_push_size _ rfl) ⟨vs.toArray, 0, rfl, hxs⟩) ((List.Perm.swap ..).trans (((hp _).append_right R).cons _))
    · refine ⟨hxs.length.symm ▸ hl, ?_⟩
      obtain ⟨le, r⟩ := r1.newF (tk := s1.toks) (dr := s1.drawn) (fun b o e => Heap.get?_push_of_some _ e) (none_at_size s1.heap) (Heap.get?_push_size s1.heap (o := { cls := .type "list", data := .seq vs.toArray }) rfl)
      exact ⟨_, fm C ρ1 H1, l1.trans le, r, _, .lst (Fz.add_self _ _ _) rfl rfl hxs.length (hxs.mono le).get, F1, m1.trans le, _, _, rfl, ok, q⟩)
theorem ite.sound (hw : Sd C w) {a b : Expr} {Q : QV} {t : Bool} (ok : CxOk C F) (q : bifW t (w (.e a ρ F H Q)) (w (.e b ρ F H Q))) : if t then Ev C.G C.fr C.A F (fm C ρ H) (eval a C.env) (Un C Q) C.E else Ev C.G C.fr C.A F (fm C ρ H) (eval b C.env) (Un C Q) C.E := by
  cases t with
  | true => exact hw.e ok q
  | false => exact Bif_f (hw.e ok q)
theorem cmpE.sound {op : CmpOp} {x y : V} {Q : QV} (ok : CxOk C F) (q : cmpW C op x y ρ F H (kB Q)) : Op2 C.G C.fr C.A F (fm C ρ H) (compareOp op) x y (Un C Q) C.E := fun K m a b ha hb R s hR => wpAny_mono (cmpW.sound ok q K m a b ha hb R s hR) (fun v s1 hq => by
      obtain ⟨F', H', le, rep, z, hz, F1, m1, c, ec, ρ1, H1, e, ok, q⟩ := hq
      subst ec
      exact ⟨F', H', le, rep, _, hz, F1, m1, ρ1, H1, e, ok, q⟩) fun _ _ q => q
theorem or.sound (hw : Sd C w) {b : Expr} {x : V} {Q : QV} (ok : CxOk C F) (q : trW C x ρ F H (kOr2 w b x Q)) : Tr C.G C.fr C.A F (fm C ρ H) x (fun t F2 H2 => if t then Un C Q x F2 H2 else Ev C.G C.fr C.A F2 H2 (eval b C.env) (Un C Q) C.E) C.E := fun K m a ha R s hR =>
  wpAny_mono (trW.sound ok q K m a ha R s hR) (fun t s1 hq => by
    obtain ⟨F', H', le, rep, F1, m1, ρ1, H1, e, ok, q⟩ := hq
    subst e
    refine ⟨F', _, le, rep, F1, m1, ?_⟩
    cases t with
    | true => exact ⟨_, _, rfl, ok, q⟩
    | false => exact Bif_f (hw.e ok q)) fun _ _ q => q
theorem subW.sound (hw : Sd C w) {v s : Expr} {p : Pos} {Q : QV} (ok : CxOk C F) (h : subW C w v s ρ F H Q) : SmE C (.Subscript v s p) ρ F H Q := by
  unfold subW at h
  cases e : slice? s with
  | none => rw [e] at h; exact Ev_Subscript (hw.k ok h fun x ρ F H ok q => hw.k ok q fun y ρ F H ok q => liftOp2 q)
  | some t => rw [e] at h; rw [slice?_eq e]; exact slice.sound hw ok h
theorem Evp.mono {G : Glob} {fr : List Env} {A : Around} {env : Env} {E : Value → Fz → Hp → Prop} : ∀ {ks vs : List Expr} {F : Fz} {H : Hp} {P P' : List (V × V) → Fz → Hp → Prop}, Evp G fr A env E ks vs F H P → (∀ l F1 H1, P l F1 H1 → P' l F1 H1) → Evp G fr A env E ks vs F H P' := by
  intro ks
  induction ks with
  | nil =>
    intro vs F H P P' hh k
    cases vs with
    | nil => exact k _ _ _ hh
    | cons _ _ => exact hh.elim
  | cons ke ks ih =>
    intro vs F H P P' hh k
    cases vs with
    | nil => exact hh.elim
    | cons ve vs => exact Ev.mono hh (fun x F1 H1 q => Ev.mono q (fun y F2 H2 q => ih q fun l F3 H3 q => k _ _ _ q) fun _ _ _ e => e) fun _ _ _ e => e
theorem dW.sound (hw : Sd C w) {ks vs : List Expr} {Q : QP} (ok : CxOk C F) (h : dW w ks vs ρ F H Q) : Sm C (.d ks vs ρ F H Q) := by
  cases ks with
  | nil =>
    cases vs with
    | nil => exact ⟨_, _, rfl, ok, h⟩
    | cons => exact h.elim
  | cons k ks =>
    cases vs with
    | nil => exact h.elim
    | cons v vs => exact hw.k ok h fun x ρ F H ok q => hw.k ok q fun y ρ F H ok q => Evp.mono (hw (.d ks vs ρ F H _) ok q) fun l F1 H1 q => by obtain ⟨ρ1, H2, e, ok, q⟩ := q; exact ⟨ρ1, H2, e, ok, q⟩
theorem optAll_eq : ∀ {keys : List (Option Expr)} {ks : List Expr}, optAll keys = some ks → keys = ks.map some
  | [], _, h => by cases h; rfl
  | none :: _, _, h => nosome h
  | some k :: keys, ks, h => by
    have h : (match optAll keys with
      | none => none
      | some ks => some (k :: ks)) = some ks := h
    cases e : optAll keys with
    | none => rw [e] at h; exact nosome h
    | some l => rw [e] at h; cases h; rw [optAll_eq e]; rfl
theorem Ev.permQ {G : Glob} {fr : List Env} {A : Around} {F : Fz} {H : Hp} {E : Value → Fz → Hp → Prop} {Q : V → Fz → Hp → Prop} {t : Sem Value} (h : Ev G fr A F H t (fun x F1 H1 => ∃ H2, H1.Perm H2 ∧ Q x F1 H2) E) : Ev G fr A F H t Q E := fun K m R s hR =>
  wpAny_mono (h K m R s hR) (fun _ _ q => by obtain ⟨F1, H1, l, r, x, hx, F2, m2, H2, p, q⟩ := q; exact ⟨F1, H2, l, r.perm (p.append_right R), x, hx, F2, m2, q⟩) fun _ _ q => q
theorem dict.sound (hw : Sd C w) {K : Type} [DecidableEq K] (kd : Kd C.G K) {keys : List (Option Expr)} {k : Expr} {ks vs : List Expr} {p : Pos} {Q : QV} (ok : CxOk C F) (hk : keys = (k :: ks).map some) (h1 : (k :: ks).length ≤ 15) (h2 : (k :: ks).length = vs.length) (h : w (.d (k :: ks) vs ρ F H (kDict C kd Q))) : SmE C (.Dict keys vs p) ρ F H Q := by
  have h3 := hw (.d (k :: ks) vs ρ F H _) ok h
  refine fun K' m R s hR => wpAny_mono (Ev.permQ (Q := fun x F2 H2 => (Un C Q x F2 H2) ∨ ∃ a ρ1 H1 l, x = .ref a ∧ (a == sysModules) = false ∧ H2 = (a, .dict l) :: fm C ρ1 H1 ∧ CxOk C F2 ∧ ∀ F', F2.le F' → CxOk C F' → DictF C.G F' a l → Q (.ref a) ρ1 F' H1) (Ev_Dict kd hk (fun e => nomatch e) h1 h2 (Evp.mono h3 fun l F1 H1 q => ?_)) K' m R s hR) (fun v s1 hq => ?_) fun _ _ e => e
  · obtain ⟨ρ1, H2, rfl, ok, q⟩ := q
    rcases q with ⟨m, e, nd, h⟩ | ⟨m, e, nd, h⟩
    · exact ⟨m, e, nd, fun a ha => ⟨_, .swap .., .inl ⟨_, _, rfl, ok, h a ha⟩⟩⟩
    · exact ⟨m, e, nd, fun a ha => ⟨_, .refl _, .inr ⟨a, _, _, _, rfl, ha, rfl, ok, fun F' le ok' hd => h a F' le ok' hd⟩⟩⟩
  · obtain ⟨K1, H1, l1, r1, x, hx, F1, m1, q⟩ := hq
    rcases q with q | ⟨a, ρ1, H2, l, rfl, ha, rfl, ok, q⟩
    · exact ⟨K1, H1, l1, r1, x, hx, F1, m1, q⟩
    · obtain rfl := hx.i_ref
      obtain ⟨K2, l2, r2, hd⟩ := Rep.freezeD ha r1
      exact ⟨K2, _, l1.trans l2, r2, _, .ref, K2, .refl _, _, _, rfl, ok.mono (m1.trans l2), q K2 (m1.trans l2) (ok.mono (m1.trans l2)) hd⟩
theorem Ev_Dict0' {G : Glob} {fr : List Env} {A : Around} {env : Env} {F : Fz} {H : Hp} {E : Value → Fz → Hp → Prop} {Q : V → Fz → Hp → Prop} {pos} (h : ∀ a, (a == sysModules) = false → Q (.ref a) F ((a, .dict []) :: H)) : Ev G fr A F H (eval (.Dict [] [] pos) env) Q E := fun K m R s hR =>
  wpAny_Dict_empty ⟨K, (s.heap.objs.size, .dict []) :: H, .refl K, hR.new (x := .dict []) (tk := s.toks) (dr := s.drawn) (fun b o e => Heap.get?_push_of_some _ e) (none_at_size _) (Heap.get?_push_size _ rfl) ⟨#[], 0, rfl, .nil⟩, _, .ref, F, m, h _ (beq_eq_false_iff_ne.mpr (Nat.ne_of_gt (modules_low hR.glob.2.2)))⟩
theorem dictsW.sound (hw : Sd C w) {keys : List (Option Expr)} {vs : List Expr} {p : Pos} {Q : QV} (ok : CxOk C F) (h : dictsW C w keys vs p ρ F H Q) : SmE C (.Dict keys vs p) ρ F H Q := by
  unfold dictsW at h
  cases e : optAll keys with
  | none => rw [e] at h; exact h
  | some ks =>
    rw [e] at h
    have hk := optAll_eq e
    cases ks with
    | nil =>
      cases vs with
      | nil =>
        subst hk
        exact Ev.permQ (Ev_Dict0' fun a ha => ⟨_, .swap .., _, _, rfl, ok, h a ha⟩)
      | cons => exact h
    | cons k ks =>
      refine bifW.go h (fun e h => ?_) fun _ h => h
      have h1 := Nat.le_of_ble_eq_true (and_l e)
      have h2 := Nat.eq_of_beq_eq_true (and_r e)
      cases e3 : keyK k with
      | none => rw [e3] at h; exact h
      | some b =>
        rw [e3] at h
        cases b with
        | true => exact dict.sound hw (kStr C.G) ok hk h1 h2 h
        | false => exact dict.sound hw (kInt C.G) ok hk h1 h2 h
theorem eW.sound (hw : Sd C w) {x : Expr} {Q : QV} (ok : CxOk C F) (h : eW C w x ρ F H Q) : SmE C x ρ F H Q := by
  cases x with
  | Constant => exact constW.sound ok h
  | Name => exact nameW.sound ok h
  | BinOp => exact Ev_BinOp (hw.k ok h fun x ρ F H ok q => hw.k ok q fun y ρ F H ok q => binW.sound ok q)
  | UnaryOp => exact Ev_UnaryOp (hw.k ok h fun x ρ F H ok q => negW.sound ok q)
  | Compare =>
    refine oneW.go h (fun op r e1 e2 h => ?_) fun h => h
    subst e1 e2
    exact bifW.go h (fun _ h => h) fun e h => Ev_Compare1 (hw.k ok h fun x ρ F H ok q => hw.k ok q fun y ρ F H ok q => cmpE.sound ok q) e
  | BoolOp =>
    refine orW.go h (fun a b e1 e2 h => ?_) fun h => h
    subst e1 e2
    exact Ev_or (hw.k ok h fun x ρ F H ok q => or.sound hw ok q)
  | IfExp =>
    rcases h with h | ⟨P, h, k⟩
    · exact Ev_IfExp (Tp.un (hw (.t _ ρ F H _) ok h) fun t ρ F H ok q => ite.sound hw ok q)
    · refine (Ev_IfExp (Tp.un (hw (.t _ ρ F H _) ok h) fun t ρ F H ok q => ite.sound hw ok q)).mono (fun x F1 H1 q => ?_) fun _ _ _ e => e
      obtain ⟨ρ1, H1, e, ok, q⟩ := q
      exact ⟨ρ1, H1, e, ok, k _ _ _ _ ok q⟩
  | Call =>
    refine bifW.go h (fun e h => ?_) fun _ h => h
    have e := isNil_eq e
    subst e
    exact callW1.sound hw ok h
  | Tuple => exact bifW.go h (fun e h => Ev_Tuple (hw.ak ok h _ fun xs ρ F H ok q => bifW.go q (fun e q => ⟨Nat.le_trans (Nat.le_of_ble_eq_true e) (by decide), _, _, rfl, ok, q⟩) fun _ q => q.elim)) fun _ h => h
  | List => exact bifW.go h (fun e h => lst.sound hw ok h) fun _ h => h
  | Attribute => exact bifW.go h (fun e h => Ev_Attribute (hw.k ok h fun x ρ F H ok q => liftOp1 q) (attr_eq e)) fun _ h => h
  | Subscript => exact subW.sound hw ok h
  | Dict => exact dictsW.sound hw ok h
  | _ => exact h
theorem val_eq {x : Expr} {env : Env} {whole : Sem Value} (h : valTest x = true) : isTrue x env whole = (do let v ← whole; standAt x.pos; holding [v] (truthy v)) := by
  cases x <;> first | rfl | exact Bool.noConfusion h
theorem tvW.sound (hw : Sd C w) {x : Expr} {Q : QB} (ok : CxOk C F) (h : tvW C w x ρ F H Q) : Sm C (.t x ρ F H Q) :=
  bifW.go h (fun e h => It_value (hw.k ok h fun x ρ F H ok q => trW.sound ok q) (val_eq e)) fun _ h => h
theorem tW.sound (hw : Sd C w) {x : Expr} {Q : QB} (ok : CxOk C F) (h : tW C w x ρ F H Q) : Sm C (.t x ρ F H Q) := by
  cases x with
  | UnaryOp op x p =>
    cases op with
    | Not => exact It_Not (Tp.un (hw (.t _ ρ F H _) ok h) fun t ρ F H ok q => ⟨_, _, rfl, ok, q⟩)
    | _ => exact h
  | BoolOp => exact It_BoolOp (hw (.b _ _ ρ F H _) ok h)
  | Compare =>
    refine oneW.go h (fun op r e1 e2 h => ?_) fun h => h
    subst e1 e2
    exact bifW.go h (fun _ h => h) fun e h => It_Compare1 (hw.k ok h fun x ρ F H ok q => hw.k ok q fun y ρ F H ok q => cmpW.sound ok q) e
  | _ => exact tvW.sound hw ok h
theorem bW.sound (hw : Sd C w) {op : BoolOp} {xs : List Expr} {Q : QB} (ok : CxOk C F) (h : bW w op xs ρ F H Q) : Sm C (.b op xs ρ F H Q) := by
  cases xs with
  | nil =>
    cases op with
    | And => exact It_and_nil ⟨_, _, rfl, ok, h⟩
    | Or => exact It_or_nil ⟨_, _, rfl, ok, h⟩
  | cons =>
    cases op with
    | And =>
      refine It_and (Tp.un (hw (.t _ ρ F H _) ok h) fun t ρ F H ok q => ?_)
      cases t with
      | true => exact hw (.b .And _ ρ F H _) ok q
      | false => exact Bif_f ⟨_, _, rfl, ok, q⟩
    | Or =>
      refine It_or (Tp.un (hw (.t _ ρ F H _) ok h) fun t ρ F H ok q => ?_)
      cases t with
      | true => exact ⟨_, _, rfl, ok, q⟩
      | false => exact Bif_f (hw (.b .Or _ ρ F H _) ok q)
theorem aW.sound (hw : Sd C w) {xs : List Expr} {Q : QL} (ok : CxOk C F) (h : aW w xs ρ F H Q) : Sm C (.a xs ρ F H Q) := fun pos => by
  cases xs with
  | nil => exact Evs_nil ⟨_, _, rfl, ok, h⟩
  | cons => exact bifW.go h (fun e h => Evs_cons (hw.k ok h fun x ρ F H ok q => hw.ak ok q pos fun xs ρ F H ok q => ⟨_, _, rfl, ok, q⟩) (star_cons e)) fun _ h => h.elim
end
section
variable {G : Glob} {fr : List Env} {A : Around} {env : Env} {F : Fz} {H : Hp} {E : Value → Fz → Hp → Prop}
theorem Ex_Assign_Sto {x : Str} {pos' value pos} {Q : FV → Fz → Hp → Prop} (h : Ev G fr A F H (eval value env) (fun y F1 H1 => Sto G fr A env F1 H1 x y (Q .next) E) E)
    (hs : swapsWith value (some (.Name x pos')) pos.line env = pure false) : Ex G fr A F H (exec (.Assign [.Name x pos'] value pos) env) Q E := fun K m R s hR =>
  wpAny_Assign_Name (h.go m hR (.refl K) fun v y F1 K1 H1 s1 l1 m1 r1 hy hq =>
    (hq K1 m1 v hy).seq r1 l1 fun _ K2 H2 s2 l2 r2 ⟨F2, m2, q⟩ => upPQ (l1.trans l2) (fret r2 .next m2 q)) hs
theorem As_Sto {x : Str} {pos} {y : V} {Q : Fz → Hp → Prop} (h : Sto G fr A env F H x y Q E) : As G fr A env F H (.Name x pos) y Q E := fun K m v hv R s hR => wpAny_assign_Name (h K m v hv R s hR)
theorem Op2.mono {f : Value → Value → Sem Value} {x y : V} {P Q : V → Fz → Hp → Prop} (h : Op2 G fr A F H f x y P E) (k : ∀ x F H, P x F H → Q x F H) : Op2 G fr A F H f x y Q E := fun K m a b ha hb R s hR =>
  wpAny_mono (h K m a b ha hb R s hR) (fun _ _ q => by obtain ⟨F1, H1, l, r, x, hx, F2, m2, q⟩ := q; exact ⟨F1, H1, l, r, x, hx, F2, m2, k _ _ _ q⟩) fun _ _ q => q
theorem swapped_notTup {es : List Expr} {k : Nat} {q : Pos} {v : Expr} (h : notTup v = true) : swappedStores [.Tuple es k q] v env = pure none := by
  cases v <;> first | rfl | exact Bool.noConfusion h
end
noncomputable def stA : Rho → List Str → List V → Option Rho
  | ρ, [], ys => match ys with
    | [] => some ρ
    | _ :: _ => none
  | ρ, x :: xs, ys => match ys with
    | [] => none
    | y :: ys => match stR ρ x y with
      | some ρ' => stA ρ' xs ys
      | none => none
noncomputable def optW {α : Type} (o : Option α) (k : α → Prop) : Prop := match o with
  | some x => k x
  | none => False
theorem optW.go {α : Type} {o : Option α} {k : α → Prop} {P : Prop} (h : optW o k) (h1 : ∀ x, o = some x → k x → P) : P := by
  cases o with
  | some x => exact h1 x rfl h
  | none => exact h.elim
section
variable (C : Cx) (w : WK → Prop)
noncomputable def kAugS (x : Str) (Q : QF) : QV := fun r ρ F H => optW (stR ρ x r) fun ρ' => Q .next ρ' F H
noncomputable def stoW (x : Str) (y : V) (ρ : Rho) (F : Fz) (H : Hp) (Q : QF) : Prop := match C.env.kindOf x with
  | some .local => kAugS x Q y ρ F H
  | some .cell => StoreC C.env x y F H (Nx C ρ Q .next)
  | _ => False
noncomputable def kSto (x : Str) (Q : QF) : QV := fun y ρ F H => stoW C x y ρ F H Q
noncomputable def kAug (op : Operator) (x : Str) (y : V) (Q : QF) : QV := fun z ρ F H => inpW C op y z ρ F H (kAugS x Q)
noncomputable def kUnp (xs : List Str) (Q : QF) : QV := fun x ρ F H => match x with
  | .tup ys => optW (stA ρ xs ys) fun ρ' => Q .next ρ' F H
  | _ => False
noncomputable def kIt3 (o y : V) (Q : QF) : QV := fun i ρ F H => SetI C.G C.fr C.A F H o i y (Nx C ρ Q .next) (kE C ρ)
noncomputable def kIt2 (i : Expr) (y : V) (Q : QF) : QV := fun o ρ F H => w (.e i ρ F H (kIt3 C o y Q))
noncomputable def kIt1 (o i : Expr) (Q : QF) : QV := fun y ρ F H => w (.e o ρ F H (kIt2 C w i y Q))
noncomputable def kAt2 (a : Str) (y : V) (Q : QF) : QV := fun o ρ F H => SetA C.G C.fr C.A F H a o y (Nx C ρ Q .next) (kE C ρ)
noncomputable def kAt1 (o : Expr) (a : Str) (Q : QF) : QV := fun y ρ F H => w (.e o ρ F H (kAt2 C a y Q))
noncomputable def kDrop (Q : QF) : QV := fun x ρ F H => noneW x (Q .next ρ F H) False
noncomputable def kRet (Q : QF) : QV := fun x ρ F H => Q (.ret x) ρ F H
inductive RetW (e : Expr) : Rho → Fz → Hp → QF → Prop where
  | run {ρ : Rho} {F : Fz} {H : Hp} {Q : QF} (h : w (.e e ρ F H (kRet Q))) : RetW e ρ F H Q
  | frz {ρ ρ' : Rho} {F : Fz} {H H' : Hp} {Q : QF} (x : Str) {a : Addr} {l : List V} (hx : lkR ρ x = some (.ref a)) (hr : Rem H a (.list l) H') (hs : stR ρ x (.lst l) = some ρ') (h : RetW e ρ' F H' Q) : RetW e ρ F H Q
noncomputable def kIf (a b : List Stmt) (Q : QF) : QB := fun t ρ F H => bifW t (w (.s a ρ F H Q)) (w (.s b ρ F H Q))
inductive IfW (t : Expr) (a b : List Stmt) (ρ : Rho) (F : Fz) (H : Hp) (Q : QF) : Prop where
  | run (h : w (.t t ρ F H (kIf w a b Q)))
  | mk (T : QB) (P : QF) (h : w (.t t ρ F H T)) (k1 : ∀ c ρ F H, CxOk C F → T c ρ F H → kIf w a b P c ρ F H) (k2 : ∀ fv ρ F H, CxOk C F → P fv ρ F H → Q fv ρ F H)
noncomputable def kMid (P : QU) (Q : QF) : QF := fun fv ρ F H => match fv with
  | .next => P ρ F H
  | fv => Q fv ρ F H
noncomputable def kTurn (Qn : QU) (Q : QF) : QF := fun fv ρ F H => match fv with
  | .next => Qn ρ F H
  | .cont => Qn ρ F H
  | .brk => Q .next ρ F H
  | .ret x => Q (.ret x) ρ F H
noncomputable def kSeq (r : List Stmt) (Q : QF) : QF := fun fv ρ F H => match fv with
  | .next => w (.s r ρ F H Q)
  | fv => Q fv ρ F H
noncomputable def kBody (body : List Stmt) (Q : QF) : QF := fun _ ρ F H => w (.s body ρ F H Q)
noncomputable def asW (t : Expr) (y : V) (ρ : Rho) (F : Fz) (H : Hp) (Q : QF) : Prop := match t with
  | .Name x _ => stoW C x y ρ F H Q
  | .Tuple es _ _ => optW (namesOf? es) fun xs => bifW (C.hd0 && xs.all fun x => decide (C.env.kindOf x = some .local)) (kUnp xs Q y ρ F H) False
  | _ => False
inductive ForW (tg : Expr) (body : List Stmt) (x : V) (ρ : Rho) (F : Fz) (H : Hp) (Q : QF) : Prop where
  | mk (l : List V) (it : Iterable C.G C.A x l) (I : Nat → QU) (h0 : I 0 ρ F H) (hI : ∀ k ρ F H, I k ρ F H → CxOk C F)
      (step : ∀ k y ρ F H, l[k]? = some y → I k ρ F H → ∀ Qn : QU, (∀ ρ F H, I (k + 1) ρ F H → Qn ρ F H) → asW C tg y ρ F H (kBody w body (kTurn Qn Q)))
      (fin : ∀ ρ F H, I l.length ρ F H → Q .next ρ F H)
  | frz (a : Addr) (l : List V) (H' : Hp) (e : x = .ref a) (hr : Rem H a (.list l) H') (it : Iterable C.G C.A (.lst l) l) (I : Nat → QU) (h0 : I 0 ρ F H') (hI : ∀ k ρ F H, I k ρ F H → CxOk C F)
      (step : ∀ k y ρ F H, l[k]? = some y → I k ρ F H → ∀ Qn : QU, (∀ ρ F H, I (k + 1) ρ F H → Qn ρ F H) → asW C tg y ρ F H (kBody w body (kTurn Qn Q)))
      (fin : ∀ ρ F H, I l.length ρ F H → Q .next ρ F H)
noncomputable def kFor (tg : Expr) (body : List Stmt) (Q : QF) : QV := fun x ρ F H => ForW C w tg body x ρ F H Q
noncomputable def asgW (t v : Expr) (p : Pos) (ρ : Rho) (F : Fz) (H : Hp) (Q : QF) : Prop := match t with
  | .Name x _ => w (.e v ρ F H (kSto C x Q))
  | .Tuple es k q => (match namesOf? es with
    | some xs => bifW (C.hd0 && (notTup v && xs.all fun x => decide (C.env.kindOf x = some .local))) (w (.e v ρ F H (kUnp xs Q))) (SmS C (.Assign [.Tuple es k q] v p) ρ F H Q)
    | none => SmS C (.Assign [.Tuple es k q] v p) ρ F H Q)
  | .Subscript o i _ => w (.e v ρ F H (kIt1 C w o i Q))
  | .Attribute o a _ => w (.e v ρ F H (kAt1 C w o a Q))
  | t => SmS C (.Assign [t] v p) ρ F H Q
noncomputable def asgsW (ts : List Expr) (v : Expr) (p : Pos) (ρ : Rho) (F : Fz) (H : Hp) (Q : QF) : Prop := match ts with
  | [] => SmS C (.Assign [] v p) ρ F H Q
  | t :: ts => (match ts with
    | [] => bifW (notComp v) (asgW C w t v p ρ F H Q) (SmS C (.Assign [t] v p) ρ F H Q)
    | u :: us => SmS C (.Assign (t :: u :: us) v p) ρ F H Q)
noncomputable def augW (t : Expr) (op : Operator) (v : Expr) (p : Pos) (ρ : Rho) (F : Fz) (H : Hp) (Q : QF) : Prop := match nameOf? t with
  | some n => bifW (decide (C.env.kindOf n.1 = some .local)) (optW (lkR ρ n.1) fun y => w (.e v ρ F H (kAug C op n.1 y Q))) (SmS C (.AugAssign t op v p) ρ F H Q)
  | none => SmS C (.AugAssign t op v p) ρ F H Q
noncomputable def stW (st : Stmt) (ρ : Rho) (F : Fz) (H : Hp) (Q : QF) : Prop := match st with
  | .Expr e p => bifW (notComp e) (w (.e e ρ F H (kDrop Q))) (SmS C (.Expr e p) ρ F H Q)
  | .Return v p => (match v with
    | some e => RetW w e ρ F H Q
    | none => SmS C (.Return none p) ρ F H Q)
  | .Assign ts v p => asgsW C w ts v p ρ F H Q
  | .AugAssign t op v p => augW C w t op v p ρ F H Q
  | .If t a b _ => IfW C w t a b ρ F H Q
  | .For tg it body els p => bifW (isNil els && notSet it) (w (.e it ρ F H (kFor C w tg body Q))) (SmS C (.For tg it body els p) ρ F H Q)
  | .Pass _ => Q .next ρ F H
  | .Break _ => Q .brk ρ F H
  | .Continue _ => Q .cont ρ F H
  | st => SmS C st ρ F H Q
noncomputable def sW (ss : List Stmt) (ρ : Rho) (F : Fz) (H : Hp) (Q : QF) : Prop := match ss with
  | [] => Q .next ρ F H
  | st :: r => stW C w st ρ F H (kSeq w r Q)
noncomputable def WF (k : WK) : Prop := match k with
  | .e x ρ F H Q => eW C w x ρ F H Q
  | .t x ρ F H Q => tW C w x ρ F H Q
  | .b op xs ρ F H Q => bW w op xs ρ F H Q
  | .a xs ρ F H Q => aW w xs ρ F H Q
  | .s ss ρ F H Q => sW C w ss ρ F H Q
  | .d ks vs ρ F H Q => dW w ks vs ρ F H Q
end
noncomputable def W (C : Cx) : Nat → WK → Prop
  | 0 => Sm C
  | n + 1 => WF C (W C n)
section
variable {C : Cx} {w : WK → Prop} {ρ : Rho} {F : Fz} {H : Hp}
theorem kAugS.sound {x : Str} {y : V} {Q : QF} (ok : CxOk C F) (h : kAugS x Q y ρ F H) : Store C.env x y F (fm C ρ H) (Un C Q .next) :=
  optW.go h fun ρ' e q => .mk .hd (stR_set e) ⟨_, _, rfl, ok, q⟩
theorem stoW.sound {x : Str} {y : V} {Q : QF} (ok : CxOk C F) (h : stoW C x y ρ F H Q) : Sto C.G C.fr C.A C.env F (fm C ρ H) x y (Un C Q .next) C.E := by
  unfold stoW at h
  cases hk : C.env.kindOf x with
  | none => rw [hk] at h; exact h.elim
  | some k =>
    rw [hk] at h
    cases k with
    | «local» => exact Sto_l (kAugS.sound ok h) ok.kind hk
    | cell =>
      obtain ⟨c, z, H', hc, hu, q⟩ := h
      exact Sto_c (.mk hc (.tl hu) ⟨_, _, rfl, q.1, q.2⟩) ok.kind hk
    | _ => exact h.elim
theorem stA.sound {Q : QF} (ok : CxOk C F) : ∀ {xs : List Str} {ys : List V} {ρ ρ' : Rho}, stA ρ xs ys = some ρ' → Q .next ρ' F H → Stores C.env xs ys F (fm C ρ H) (Un C Q .next) ∧ xs.length = ys.length
  | [], [], _, _, h, q => by cases h; exact ⟨⟨_, _, rfl, ok, q⟩, rfl⟩
  | [], _ :: _, _, _, h, _ => nosome h
  | _ :: _, [], _, _, h, _ => nosome h
  | x :: xs, y :: ys, ρ, ρ', h, q => by
    have h : (match stR ρ x y with
      | some ρ' => stA ρ' xs ys
      | none => none) = some ρ' := h
    cases e : stR ρ x y with
    | none => rw [e] at h; exact nosome h
    | some ρ1 =>
      rw [e] at h
      obtain ⟨h1, h2⟩ := stA.sound ok h q
      exact ⟨.mk .hd (stR_set e) h1, congrArg (· + 1) h2⟩
theorem kUnp.sound {xs : List Str} {Q : QF} {x : V} (ok : CxOk C F) (h : kUnp xs Q x ρ F H) : ∃ ys, x = .tup ys ∧ xs.length = ys.length ∧ Stores C.env xs ys F (fm C ρ H) (Un C Q .next) := by
  cases x with
  | tup ys => exact optW.go h fun ρ' e q => ⟨ys, rfl, (stA.sound ok e q).2, (stA.sound ok e q).1⟩
  | _ => exact h.elim
theorem Sd.s (hw : Sd C w) {ss : List Stmt} {Q : QF} (ok : CxOk C F) (h : w (.s ss ρ F H Q)) : Ex C.G C.fr C.A F (fm C ρ H) (execs ss C.env) (Un C Q) C.E := hw (.s ss ρ F H Q) ok h
theorem asW.sound {t : Expr} {y : V} {Q : QF} (ok : CxOk C F) (h : asW C t y ρ F H Q) : As C.G C.fr C.A C.env F (fm C ρ H) t y (Un C Q .next) C.E := by
  cases t with
  | Name => exact As_Sto (stoW.sound ok h)
  | Tuple =>
    exact optW.go h fun xs e h => bifW.go h (fun e1 h => by
      obtain ⟨ys, rfl, hl, hs⟩ := kUnp.sound ok h
      exact As_Tuple (ok.hd (and_l e1)) e (and_r e1) hl hs ok.kind) fun _ h => h.elim
  | _ => exact h.elim
theorem kTurn.sound {Qn : QU} {Q : QF} {x : FV} (ok : CxOk C F) (h : kTurn Qn Q x ρ F H) : Turn (fun F H => ∃ ρ H', H = fm C ρ H' ∧ CxOk C F ∧ Qn ρ F H') (Un C Q) x F (fm C ρ H) := by
  cases x with
  | next => exact ⟨_, _, rfl, ok, h⟩
  | cont => exact ⟨_, _, rfl, ok, h⟩
  | brk => exact ⟨_, _, rfl, ok, h⟩
  | ret x => exact ⟨_, _, rfl, ok, h⟩
theorem Ex.un {ss : Sem Flow} {Q : QF} {P : FV → Fz → Hp → Prop} (h : Ex C.G C.fr C.A F (fm C ρ H) ss (Un C Q) C.E) (k : ∀ x ρ F H, CxOk C F → Q x ρ F H → P x F (fm C ρ H)) : Ex C.G C.fr C.A F (fm C ρ H) ss P C.E :=
  h.mono (fun x F1 H1 q => by obtain ⟨ρ1, H1, e, ok, q⟩ := q; subst e; exact k _ _ _ _ ok q) fun _ _ _ e => e
theorem Turn.mono {I I' : Fz → Hp → Prop} {Q : FV → Fz → Hp → Prop} {x : FV} (h : Turn I Q x F H) (k : I F H → I' F H) : Turn I' Q x F H := by
  cases x with
  | next => exact k h
  | cont => exact k h
  | brk => exact h
  | ret => exact h
inductive ForL (C : Cx) (w : WK → Prop) (tg : Expr) (body : List Stmt) (Q : QF) (x : V) (F : Fz) (H : Hp) : Prop where
  | mk (ρ : Rho) (H1 : Hp) (e : H = fm C ρ H1) (ok : CxOk C F) (l : List V) (it : Iterable C.G C.A x l) (I : Nat → QU) (h0 : I 0 ρ F H1) (hI : ∀ k ρ F H, I k ρ F H → CxOk C F)
      (step : ∀ k y ρ F H, l[k]? = some y → I k ρ F H → ∀ Qn : QU, (∀ ρ F H, I (k + 1) ρ F H → Qn ρ F H) → asW C tg y ρ F H (kBody w body (kTurn Qn Q)))
      (fin : ∀ ρ F H, I l.length ρ F H → Q .next ρ F H)
theorem ForW.ev {tg it : Expr} {body : List Stmt} {Q : QF} (h : Ev C.G C.fr C.A F (fm C ρ H) (eval it C.env) (Un C (kFor C w tg body Q)) C.E) : Ev C.G C.fr C.A F (fm C ρ H) (eval it C.env) (ForL C w tg body Q) C.E := fun K m R s hR =>
  wpAny_mono (h K m R s hR) (fun v s1 hq => by
    obtain ⟨K1, H1, l1, r1, x, hx, F1, m1, ρ1, H2, rfl, ok, q⟩ := hq
    rcases q with ⟨l, it, I, h0, hI, step, fin⟩ | ⟨a, l, H3, rfl, hr, it, I, h0, hI, step, fin⟩
    · exact ⟨K1, _, l1, r1, x, hx, F1, m1, ρ1, H2, rfl, ok, l, it, I, h0, hI, step, fin⟩
    · obtain rfl := hx.i_ref
      obtain ⟨K2, l2, r2, hv⟩ := list_freeze (r1.perm ((Rem.tl hr : Rem (fm C ρ1 H2) a (.list l) (fm C ρ1 H3)).perm.append_right R))
      exact ⟨K2, _, l1.trans l2, r2, _, hv, F1, m1.trans l2, ρ1, H3, rfl, ok, l, it, I, h0, hI, step, fin⟩) fun _ _ q => q
theorem for.sound (hw : Sd C w) {tg it : Expr} {body : List Stmt} {p : Pos} {Q : QF} (ok : CxOk C F) (hs : notSet it = true) (h : w (.e it ρ F H (kFor C w tg body Q))) : SmS C (.For tg it body [] p) ρ F H Q := by
  refine Ex_For ok.nt ((ForW.ev (hw.e ok h)).mono (fun x F H q => ?_) fun _ _ _ e => e) ?_
  · obtain ⟨ρ, H, rfl, ok, l, it, I, h0, hI, step, fin⟩ := q
    refine ⟨l, it, fun k F H => ∃ ρ H', H = fm C ρ H' ∧ I k ρ F H', ⟨_, _, rfl, h0⟩, fun k y F2 H2 hy hi Qn hn => ?_, fun F2 H2 hi => ?_⟩
    · obtain ⟨ρ2, H2, rfl, hi⟩ := hi
      have q := step k y ρ2 F2 H2 hy hi (fun ρ F H => I (k + 1) ρ F H) fun _ _ _ q => q
      refine fun K m v hv R s hR => wpAny_mono (asW.sound (hI _ _ _ _ hi) q K m v hv R s hR) (fun _ s1 hq => ?_) fun _ _ q => q
      obtain ⟨F', H', le, rep, F1, m1, ρ1, H1, e, ok, q⟩ := hq
      subst e
      exact ⟨F', _, le, rep, F1, m1, (hw.s ok q).un fun x ρ F H ok q => (kTurn.sound ok q).mono fun q => by
        obtain ⟨ρ1, H1, e, _, q⟩ := q
        exact hn _ _ ⟨_, _, e, q⟩⟩
    · obtain ⟨ρ2, H2, rfl, hi⟩ := hi
      exact ⟨_, _, rfl, hI _ _ _ _ hi, fin _ _ _ hi⟩
  · intro x
    cases it <;> first | rfl | exact Bool.noConfusion hs
end
section
variable {C : Cx} {w : WK → Prop} {ρ : Rho} {F : Fz} {H : Hp}
theorem liftSetI {x i y : V} {Q : QF} (h : SetI C.G C.fr C.A F H x i y (Nx C ρ Q .next) (kE C ρ)) : SetI C.G C.fr C.A F (fm C ρ H) x i y (Un C Q .next) C.E := fun K m a j v ha hj hv => liftU (α := Unit) (h K m a j v ha hj hv)
theorem liftSetA {a : Str} {x y : V} {Q : QF} (h : SetA C.G C.fr C.A F H a x y (Nx C ρ Q .next) (kE C ρ)) : SetA C.G C.fr C.A F (fm C ρ H) a x y (Un C Q .next) C.E := fun K m o v ho hv => liftU (α := Unit) (h K m o v ho hv)
theorem asgW.sound (hw : Sd C w) {t v : Expr} {p : Pos} {Q : QF} (ok : CxOk C F) (hv : notComp v = true) (h : asgW C w t v p ρ F H Q) : SmS C (.Assign [t] v p) ρ F H Q := by
  cases t with
  | Name => exact Ex_Assign_Sto (hw.k ok h fun y ρ F H ok q => stoW.sound ok q) (swaps_notComp hv)
  | Subscript => exact Ex_Assign_sub (hw.k ok h fun y ρ F H ok q => hw.k ok q fun x ρ F H ok q => hw.k ok q fun i ρ F H ok q => liftSetI q) (swaps_notComp hv)
  | Attribute => exact Ex_Assign_Attr (hw.k ok h fun y ρ F H ok q => hw.k ok q fun x ρ F H ok q => liftSetA q) (swaps_notComp hv)
  | Tuple es k q =>
    have h : (match namesOf? es with
      | some xs => bifW (C.hd0 && (notTup v && xs.all fun x => decide (C.env.kindOf x = some .local))) (w (.e v ρ F H (kUnp xs Q))) (SmS C (.Assign [.Tuple es k q] v p) ρ F H Q)
      | none => SmS C (.Assign [.Tuple es k q] v p) ρ F H Q) := h
    cases e : namesOf? es with
    | none => rw [e] at h; exact h
    | some xs =>
      rw [e] at h
      exact bifW.go h (fun e1 h => Ex_Assign_Tuple (ok.hd (and_l e1)) e (and_r (and_r e1)) (hw.k ok h fun y ρ F H ok q => kUnp.sound ok q) (show swapsWith v (some (.Tuple es k q)) p.line C.env = pure false from swaps_notComp hv) (swapped_notTup (and_l (and_r e1))) ok.kind) fun _ h => h
  | _ => exact h
theorem asgsW.sound (hw : Sd C w) {ts : List Expr} {v : Expr} {p : Pos} {Q : QF} (ok : CxOk C F) (h : asgsW C w ts v p ρ F H Q) : SmS C (.Assign ts v p) ρ F H Q := by
  cases ts with
  | nil => exact h
  | cons t ts =>
    cases ts with
    | nil => exact bifW.go h (fun e h => asgW.sound hw ok e h) fun _ h => h
    | cons => exact h
theorem augW.sound (hw : Sd C w) {t : Expr} {op : Operator} {v : Expr} {p : Pos} {Q : QF} (ok : CxOk C F) (h : augW C w t op v p ρ F H Q) : SmS C (.AugAssign t op v p) ρ F H Q := by
  unfold augW at h
  cases e : nameOf? t with
  | none => rw [e] at h; exact h
  | some n =>
    rw [e] at h
    rw [nameOf_eq e] at h ⊢
    refine bifW.go h (fun e1 h => optW.go h fun y e2 h => ?_) fun _ h => h
    exact Ex_AugAssign has_fm (lkR_lk e2) (hw.k ok h fun z ρ F H ok q => (inpW.sound ok q).mono fun r F H q => by
      obtain ⟨ρ1, H1, e, ok, q⟩ := q
      subst e
      exact kAugS.sound ok q) ok.kind (of_decide_eq_true e1)
theorem drop.sound {x : V} {Q : QF} (ok : CxOk C F) (h : kDrop Q x ρ F H) : x = .none ∧ Un C Q .next F (fm C ρ H) :=
  noneW.go h (fun e q => ⟨e, _, _, rfl, ok, q⟩) fun h => h.elim
theorem if.sound (hw : Sd C w) {a b : List Stmt} {Q : QF} {t : Bool} (ok : CxOk C F) (q : kIf w a b Q t ρ F H) : if t then Ex C.G C.fr C.A F (fm C ρ H) (execs a C.env) (Un C Q) C.E else Ex C.G C.fr C.A F (fm C ρ H) (execs b C.env) (Un C Q) C.E := by
  cases t with
  | true => exact hw.s ok q
  | false => exact Bif_f (hw.s ok q)
theorem ret.sound (hw : Sd C w) {e : Expr} {p : Pos} {Q : QF} (ok : CxOk C F) (h : RetW w e ρ F H Q) : SmS C (.Return (some e) p) ρ F H Q := by
  induction h with
  | run h => exact Ex_Return (hw.k ok h fun x ρ F H ok q => ⟨_, _, rfl, ok, q⟩)
  | frz x hx hr hs _ ih => exact Ex_freeze x (.tl hr) .hd (lkR_lk hx) (stR_set hs) (ih ok)
theorem stW.sound (hw : Sd C w) {st : Stmt} {Q : QF} (ok : CxOk C F) (h : stW C w st ρ F H Q) : SmS C st ρ F H Q := by
  cases st with
  | Expr => exact bifW.go h (fun e h => Ex_Expr (hw.k ok h fun x ρ F H ok q => drop.sound ok q) (by show (C.env.scope.kind == .module && _) = false; rw [ok.kind]; rfl) (swaps_notComp e)) fun _ h => h
  | Return v p =>
    cases v with
    | none => exact h
    | some e => exact ret.sound hw ok h
  | Assign => exact asgsW.sound hw ok h
  | AugAssign => exact augW.sound hw ok h
  | If =>
    rcases h with h | ⟨T, P, h, k1, k2⟩
    · exact Ex_If (Tp.un (hw (.t _ ρ F H _) ok h) fun t ρ F H ok q => if.sound hw ok q)
    · refine Ex.un (Ex_If (Tp.un (hw (.t _ ρ F H _) ok h) fun t ρ F H ok q => if.sound (Q := P) hw ok (k1 _ _ _ _ ok q))) fun x ρ F H ok q => ⟨_, _, rfl, ok, k2 _ _ _ _ ok q⟩
  | For =>
    refine bifW.go h (fun e h2 => ?_) fun _ h => h
    have e1 := isNil_eq (and_l e)
    subst e1
    exact for.sound hw ok (and_r e) h2
  | Pass => exact Ex_Pass ⟨_, _, rfl, ok, h⟩
  | Break => exact Ex_Break ⟨_, _, rfl, ok, h⟩
  | Continue => exact Ex_Continue ⟨_, _, rfl, ok, h⟩
  | _ => exact h
inductive KVal {α : Type} (f : α → V) (ρ : Rho) (F : Fz) (H : Hp) : QV where
  | mk (a : α) : KVal f ρ F H (f a) ρ F H
theorem IteW.val {α : Type} (f : α → V) {t a b : Expr} {Q : QV} (h : w (.t t ρ F H (kIte w a b (KVal f ρ F H)))) (k : ∀ x, Q (f x) ρ F H) : IteW C w t a b ρ F H Q :=
  .mk _ h fun x ρ1 F1 H1 _ q => by
    cases q with
    | mk a => exact k a
inductive St {α : Type} (R : α → Rho) (F : Fz) (Hh : α → Hp) (P : α → Prop) : QU where
  | mk (a : α) (h : P a) : St R F Hh P (R a) F (Hh a)
theorem IfW.mid (P : QU) {t : Expr} {a b : List Stmt} {Q : QF} (h : w (.t t ρ F H (kIf w a b (kMid P Q)))) (k : ∀ ρ F H, CxOk C F → P ρ F H → Q .next ρ F H) : IfW C w t a b ρ F H Q :=
  .mk _ _ h (fun _ _ _ _ _ q => q) fun fv ρ F H ok q => by
    cases fv with
    | next => exact k _ _ _ ok q
    | _ => exact q
theorem ForW.st {α : Type} {tg : Expr} {body : List Stmt} {x : V} {Q : QF} (ok : CxOk C F) {l : List V} (it : Iterable C.G C.A x l) (R : α → Rho) (Hh : α → Hp) (P : Nat → α → Prop) (a0 : α) (h0 : P 0 a0)
    (step : ∀ k y a, l[k]? = some y → P k a → ∀ Qn : QU, (∀ a, P (k + 1) a → Qn (R a) F (Hh a)) → asW C tg y (R a) F (Hh a) (kBody w body (kTurn Qn Q)))
    (fin : ∀ a, P l.length a → Q .next (R a) F (Hh a)) : ForW C w tg body x (R a0) F (Hh a0) Q :=
  .mk l it (fun k => St R F Hh (P k)) (.mk a0 h0) (fun k ρ F H q => by cases q; exact ok) (fun k y ρ F H hy q Qn hn => by
    cases q with
    | mk a h => exact step k y a hy h Qn fun a h => hn _ _ _ (.mk a h)) fun ρ F H q => by
    cases q with
    | mk a h => exact fin a h
theorem seq.sound (hw : Sd C w) {r : List Stmt} {Q : QF} {x : FV} (ok : CxOk C F) (h : kSeq w r Q x ρ F H) : Then C.G C.fr C.A C.env r (Un C Q) C.E x F (fm C ρ H) := by
  cases x with
  | next => exact hw.s ok h
  | _ => exact ⟨_, _, rfl, ok, h⟩
theorem sW.sound (hw : Sd C w) {ss : List Stmt} {Q : QF} (ok : CxOk C F) (h : sW C w ss ρ F H Q) : Sm C (.s ss ρ F H Q) := by
  cases ss with
  | nil => exact Ex_nil ⟨_, _, rfl, ok, h⟩
  | cons st r => exact Ex_cons ((stW.sound hw ok h).un fun x ρ F H ok q => seq.sound hw ok q)
theorem W.sound : ∀ n, Sd C (W C n)
  | 0 => fun k _ h => h
  | n + 1 => fun k ok h => by
    have hw := W.sound n
    cases k with
    | e => exact eW.sound hw ok h
    | t => exact tW.sound hw ok h
    | b => exact bW.sound hw ok h
    | a => exact aW.sound hw ok h
    | s => exact sW.sound hw ok h
    | d => exact dW.sound hw ok h
noncomputable def kWh (w : WK → Prop) (body : List Stmt) (Qt Q : QF) : QB := fun t ρ F H => bifW t (w (.s body ρ F H Qt)) (Q .next ρ F H)
theorem W_While {test : Expr} {body : List Stmt} {p : Pos} {Q : QF} (k : Nat) (I : Nat → QU) (n : Nat) (h0 : I n ρ F H) (nt : Noted C.G C.fr C.A C.env C.E) (hI : ∀ k ρ F H, I k ρ F H → CxOk C F)
    (step : ∀ n ρ F H, I n ρ F H → ∀ Qn : QU, (∀ m ρ F H, m < n → I m ρ F H → Qn ρ F H) → W C k (.t test ρ F H (kWh (W C k) body (kTurn Qn Q) Q))) : SmS C (.While test body [] p) ρ F H Q := by
  refine Ex_While (fun k F H => ∃ ρ H', H = fm C ρ H' ∧ I k ρ F H') n ⟨_, _, rfl, h0⟩ (fun n F1 H1 hi Qn hn => ?_) nt
  obtain ⟨ρ1, H1, rfl, hi⟩ := hi
  refine Tp.un (W.sound k (.t test ρ1 F1 H1 _) (hI _ _ _ _ hi) (step n ρ1 F1 H1 hi (fun ρ F H => ∃ m, m < n ∧ I m ρ F H) fun m ρ F H hm q => ⟨m, hm, q⟩)) fun t ρ F H ok q => ?_
  cases t with
  | true =>
    refine ((W.sound k).s ok q).un fun x ρ F H ok q => (kTurn.sound ok q).mono fun q => ?_
    obtain ⟨ρ1, H1, e, _, m, hm, q⟩ := q
    exact hn m _ _ hm ⟨_, _, e, q⟩
  | false => exact Bif_f ⟨_, _, rfl, ok, q⟩
inductive StW {α : Type} (R : α → Rho) (F : Fz) (Hh : α → Hp) (μ : α → Nat) (P : α → Prop) : Nat → QU where
  | mk (a : α) (h : P a) : StW R F Hh μ P (μ a) (R a) F (Hh a)
theorem WhileW.st {α : Type} {test : Expr} {body : List Stmt} {p : Pos} {Q : QF} (ok : CxOk C F) (k : Nat) (R : α → Rho) (Hh : α → Hp) (μ : α → Nat) (P : α → Prop) (a0 : α) (h0 : P a0)
    (step : ∀ a, P a → ∀ Qn : QU, (∀ a', μ a' < μ a → P a' → Qn (R a') F (Hh a')) → W C k (.t test (R a) F (Hh a) (kWh (W C k) body (kTurn Qn Q) Q))) : SmS C (.While test body [] p) (R a0) F (Hh a0) Q :=
  W_While k (StW R F Hh μ P) (μ a0) (.mk a0 h0) ok.nt (fun k ρ F H q => by cases q; exact ok) fun n ρ1 F1 H1 q Qn hn => by
    cases q with
    | mk a h => exact step a h Qn fun a' hm h => hn _ _ _ _ hm (.mk a' h)
noncomputable def retV : FV → V
  | .ret x => x
  | _ => .none
noncomputable def kRt (Q : V → Fz → Hp → Prop) : QF := fun fv ρ F H => Q (retV fv) F H
theorem W.ex {Q : V → Fz → Hp → Prop} (n : Nat) {ss : List Stmt} (ok : CxOk C F) (h : W C n (.s ss ρ F H (kRt Q))) : Ex C.G C.fr C.A F ((C.env.locals, .ns ρ) :: H) (execs ss C.env) (Ret C.env.locals Q) C.E :=
  ((W.sound n).s ok h).un fun x ρ F H ok q => ⟨ρ, H, .hd, by cases x <;> exact q⟩
noncomputable def kRe (Q : V → Fz → Hp → Prop) : QV := fun x ρ F H => Q x F H
theorem W.ev {Q : V → Fz → Hp → Prop} (n : Nat) {e : Expr} (ok : CxOk C F) (h : W C n (.e e ρ F H (kRe Q))) : Ev C.G C.fr C.A F ((C.env.locals, .ns ρ) :: H) (eval e C.env) (RetE C.env.locals Q) C.E :=
  (W.sound n).k ok h fun x ρ F H ok q => ⟨ρ, H, .hd, q⟩
end
section
variable {C : Cx} {w : WK → Prop} {ρ : Rho} {F : Fz} {H : Hp}
theorem ForW.s2 {α β : Type} {tg : Expr} {body : List Stmt} {x : V} {Q : QF} (ok : CxOk C F) {l : List V} (it : Iterable C.G C.A x l) (R : α → β → Rho) (Hh : α → β → Hp) (P : Nat → α → β → Prop) (z1 : α) (z2 : β) (h0 : P 0 z1 z2)
    (step : ∀ k y a1 a2, l[k]? = some y → P k a1 a2 → ∀ Qn : QU, (∀ a1 a2, P (k + 1) a1 a2 → Qn (R a1 a2) F (Hh a1 a2)) → asW C tg y (R a1 a2) F (Hh a1 a2) (kBody w body (kTurn Qn Q)))
    (fin : ∀ a1 a2, P l.length a1 a2 → Q .next (R a1 a2) F (Hh a1 a2)) : ForW C w tg body x (R z1 z2) F (Hh z1 z2) Q :=
  .st ok it (fun p : α × β => R p.1 p.2) (fun p => Hh p.1 p.2) (fun k p => P k p.1 p.2) (z1, z2) h0 (fun k y p hy h Qn hn => step k y (p.1) (p.2) hy h Qn fun a1 a2 h => hn (a1, a2) h) fun p h => fin (p.1) (p.2) h
theorem WhileW.s3 {α β γ : Type} {test : Expr} {body : List Stmt} {p : Pos} {Q : QF} (ok : CxOk C F) (k : Nat) (R : α → β → γ → Rho) (Hh : α → β → γ → Hp) (μ : α → β → γ → Nat) (P : α → β → γ → Prop) (z1 : α) (z2 : β) (z3 : γ) (h0 : P z1 z2 z3)
    (step : ∀ a1 a2 a3, P a1 a2 a3 → ∀ Qn : QU, (∀ b1 b2 b3, μ b1 b2 b3 < μ a1 a2 a3 → P b1 b2 b3 → Qn (R b1 b2 b3) F (Hh b1 b2 b3)) → W C k (.t test (R a1 a2 a3) F (Hh a1 a2 a3) (kWh (W C k) body (kTurn Qn Q) Q))) : SmS C (.While test body [] p) (R z1 z2 z3) F (Hh z1 z2 z3) Q :=
  WhileW.st ok k (fun p : α × β × γ => R p.1 p.2.1 p.2.2) (fun p => Hh p.1 p.2.1 p.2.2) (fun p => μ p.1 p.2.1 p.2.2) (fun p => P p.1 p.2.1 p.2.2) (z1, z2, z3) h0 fun p h Qn hn => step (p.1) (p.2.1) (p.2.2) h Qn fun a1 a2 a3 hm h => hn (a1, a2, a3) hm h
theorem ForW.s4 {α β γ δ : Type} {tg : Expr} {body : List Stmt} {x : V} {Q : QF} (ok : CxOk C F) {l : List V} (it : Iterable C.G C.A x l) (R : α → β → γ → δ → Rho) (Hh : α → β → γ → δ → Hp) (P : Nat → α → β → γ → δ → Prop) (z1 : α) (z2 : β) (z3 : γ) (z4 : δ) (h0 : P 0 z1 z2 z3 z4)
    (step : ∀ k y a1 a2 a3 a4, l[k]? = some y → P k a1 a2 a3 a4 → ∀ Qn : QU, (∀ a1 a2 a3 a4, P (k + 1) a1 a2 a3 a4 → Qn (R a1 a2 a3 a4) F (Hh a1 a2 a3 a4)) → asW C tg y (R a1 a2 a3 a4) F (Hh a1 a2 a3 a4) (kBody w body (kTurn Qn Q)))
    (fin : ∀ a1 a2 a3 a4, P l.length a1 a2 a3 a4 → Q .next (R a1 a2 a3 a4) F (Hh a1 a2 a3 a4)) : ForW C w tg body x (R z1 z2 z3 z4) F (Hh z1 z2 z3 z4) Q :=
  .st ok it (fun p : α × β × γ × δ => R p.1 p.2.1 p.2.2.1 p.2.2.2) (fun p => Hh p.1 p.2.1 p.2.2.1 p.2.2.2) (fun k p => P k p.1 p.2.1 p.2.2.1 p.2.2.2) (z1, z2, z3, z4) h0 (fun k y p hy h Qn hn => step k y (p.1) (p.2.1) (p.2.2.1) (p.2.2.2) hy h Qn fun a1 a2 a3 a4 h => hn (a1, a2, a3, a4) h) fun p h => fin (p.1) (p.2.1) (p.2.2.1) (p.2.2.2) h
theorem ForW.s5 {α β γ δ ε : Type} {tg : Expr} {body : List Stmt} {x : V} {Q : QF} (ok : CxOk C F) {l : List V} (it : Iterable C.G C.A x l) (R : α → β → γ → δ → ε → Rho) (Hh : α → β → γ → δ → ε → Hp) (P : Nat → α → β → γ → δ → ε → Prop) (z1 : α) (z2 : β) (z3 : γ) (z4 : δ) (z5 : ε) (h0 : P 0 z1 z2 z3 z4 z5)
    (step : ∀ k y a1 a2 a3 a4 a5, l[k]? = some y → P k a1 a2 a3 a4 a5 → ∀ Qn : QU, (∀ a1 a2 a3 a4 a5, P (k + 1) a1 a2 a3 a4 a5 → Qn (R a1 a2 a3 a4 a5) F (Hh a1 a2 a3 a4 a5)) → asW C tg y (R a1 a2 a3 a4 a5) F (Hh a1 a2 a3 a4 a5) (kBody w body (kTurn Qn Q)))
    (fin : ∀ a1 a2 a3 a4 a5, P l.length a1 a2 a3 a4 a5 → Q .next (R a1 a2 a3 a4 a5) F (Hh a1 a2 a3 a4 a5)) : ForW C w tg body x (R z1 z2 z3 z4 z5) F (Hh z1 z2 z3 z4 z5) Q :=
  .st ok it (fun p : α × β × γ × δ × ε => R p.1 p.2.1 p.2.2.1 p.2.2.2.1 p.2.2.2.2) (fun p => Hh p.1 p.2.1 p.2.2.1 p.2.2.2.1 p.2.2.2.2) (fun k p => P k p.1 p.2.1 p.2.2.1 p.2.2.2.1 p.2.2.2.2) (z1, z2, z3, z4, z5) h0 (fun k y p hy h Qn hn => step k y (p.1) (p.2.1) (p.2.2.1) (p.2.2.2.1) (p.2.2.2.2) hy h Qn fun a1 a2 a3 a4 a5 h => hn (a1, a2, a3, a4, a5) h) fun p h => fin (p.1) (p.2.1) (p.2.2.1) (p.2.2.2.1) (p.2.2.2.2) h
theorem WhileW.s5 {α β γ δ ε : Type} {test : Expr} {body : List Stmt} {p : Pos} {Q : QF} (ok : CxOk C F) (k : Nat) (R : α → β → γ → δ → ε → Rho) (Hh : α → β → γ → δ → ε → Hp) (μ : α → β → γ → δ → ε → Nat) (P : α → β → γ → δ → ε → Prop) (z1 : α) (z2 : β) (z3 : γ) (z4 : δ) (z5 : ε) (h0 : P z1 z2 z3 z4 z5)
    (step : ∀ a1 a2 a3 a4 a5, P a1 a2 a3 a4 a5 → ∀ Qn : QU, (∀ b1 b2 b3 b4 b5, μ b1 b2 b3 b4 b5 < μ a1 a2 a3 a4 a5 → P b1 b2 b3 b4 b5 → Qn (R b1 b2 b3 b4 b5) F (Hh b1 b2 b3 b4 b5)) → W C k (.t test (R a1 a2 a3 a4 a5) F (Hh a1 a2 a3 a4 a5) (kWh (W C k) body (kTurn Qn Q) Q))) : SmS C (.While test body [] p) (R z1 z2 z3 z4 z5) F (Hh z1 z2 z3 z4 z5) Q :=
  WhileW.st ok k (fun p : α × β × γ × δ × ε => R p.1 p.2.1 p.2.2.1 p.2.2.2.1 p.2.2.2.2) (fun p => Hh p.1 p.2.1 p.2.2.1 p.2.2.2.1 p.2.2.2.2) (fun p => μ p.1 p.2.1 p.2.2.1 p.2.2.2.1 p.2.2.2.2) (fun p => P p.1 p.2.1 p.2.2.1 p.2.2.2.1 p.2.2.2.2) (z1, z2, z3, z4, z5) h0 fun p h Qn hn => step (p.1) (p.2.1) (p.2.2.1) (p.2.2.2.1) (p.2.2.2.2) h Qn fun a1 a2 a3 a4 a5 hm h => hn (a1, a2, a3, a4, a5) hm h
inductive TB (b : Bool) (ρ : Rho) (F : Fz) (H : Hp) : QB where
  | mk {c : Bool} (h : c = b) : TB b ρ F H c ρ F H
theorem bifW.tb {b x : Bool} (h : b = x) : bifW b (TB x ρ F H true ρ F H) (TB x ρ F H false ρ F H) := by
  cases b with
  | true => exact .mk h
  | false => exact .mk h
theorem IfW.t (c : Bool) {t : Expr} {a b : List Stmt} {Q : QF} (h : w (.t t ρ F H (TB c ρ F H))) (k : kIf w a b Q c ρ F H) : IfW C w t a b ρ F H Q :=
  .mk _ _ h (fun c1 ρ1 F1 H1 _ q => by
    cases q with
    | mk h => subst h; exact k) fun _ _ _ _ _ q => q
theorem Cl.permQ {G : Glob} {fr : List Env} {A : Around} {F : Fz} {H : Hp} {f : V} {xs : List V} {Q : V → Fz → Hp → Prop} {E : Value → Fz → Hp → Prop} (h : Cl G fr A F H f xs (fun x F1 H1 => ∃ H2, H1.Perm H2 ∧ Q x F1 H2) E) : Cl G fr A F H f xs Q E := fun K m v vs hv hvs R s hR =>
  wpAny_mono (h K m v vs hv hvs R s hR) (fun _ _ q => by obtain ⟨F1, H1, l, r, x, hx, F2, m2, H2, p, q⟩ := q; exact ⟨F1, H2, l, r.perm (p.append_right R), x, hx, F2, m2, q⟩) fun _ _ q => q
inductive At (ρ : Rho) (F : Fz) (H : Hp) : QU where
  | mk : At ρ F H ρ F H
theorem At.of {ρ ρ' : Rho} {F : Fz} {H : Hp} (e : ρ = ρ') : At ρ' F H ρ F H := by subst e; exact .mk
theorem IfW.at (ρ1 : Rho) (H1 : Hp) {t : Expr} {a b : List Stmt} {Q : QF} (h : w (.t t ρ F H (kIf w a b (kMid (At ρ1 F H1) Q)))) (k : Q .next ρ1 F H1) : IfW C w t a b ρ F H Q :=
  .mid _ h fun ρ F H _ q => by
    cases q with
    | mk => exact k
theorem bifW.no {b : Bool} {P Q : Prop} (e : b = false) (h : Q) : bifW b P Q := by subst e; exact h
theorem bifW.yes {b : Bool} {P Q : Prop} (e : b = true) (h : P) : bifW b P Q := by subst e; exact h
end
noncomputable def okScope (scope : Scope) : Bool := (!scope.isCoroutine && !scope.isGenerator) && (decide (scope.kind = .function) && scope.names.all fun p => !(p.1 == ("__debug__" : Str)) && !(p.1 == ("__classdict__" : Str)))
noncomputable def okDef (ns rest : List Str) (scope : Scope) : Bool := (decide (ns ++ rest).Nodup && (scope.names.all fun x => x.2 != .cell)) && ((ns.all fun x => decide (scope.names.lookup x = some .local)) && okScope scope)
theorem okScope.ok {scope : Scope} {G : Glob} {fr : List Env} {A : Around} {F : Fz} {qual : Str} {L a : Addr} {cd : Value} {cl : List (Str × Addr)} {gl fl : List (Str × V)} {E : Value → Fz → Hp → Prop} (h : okScope scope = true) (hh : A.handled = none) (nt : Noted G (envX qual scope L a cd cl :: fr) A (envX qual scope L a cd cl) E) (hg : ∀ p ∈ gl, GlIs G F p.1 p.2)
    (hf : ∀ p ∈ fl, FrIs (envX qual scope L a cd cl) F p.1 p.2) : CxOk ⟨G, envX qual scope L a cd cl :: fr, A, envX qual scope L a cd cl, gl, fl, E, true⟩ F where
  kind := of_decide_eq_true (and_l (and_r h))
  glob := rfl
  blt := rfl
  dbg := and_r (and_r h)
  nt := nt
  hd := fun _ => hh
  gls := hg
  fls := hf
theorem bnot {b : Bool} (h : (!b) = true) : b = false := by cases b with | false => rfl | true => cases h
section
variable {G : Glob} {fr : List Env} {A : Around} {F : Fz} {H : Hp} {Q : V → Fz → Hp → Prop} {n : Nat}
theorem def_w {gl : List (Str × V)} (hg : ∀ p ∈ gl, GlIs G F p.1 p.2) {a : Addr} {fo : Obj} {name qual : Str} {params : Arguments} {scope : Scope} {dV kV doc pm cdv ct : Value} {an : Option Addr} {body : List Stmt} {xs : List V} (hf : F a = some fo)
    (hd : fo.data = .func (fnX name qual params body scope [] dV kV doc pm an cdv ct)) (hcd : CodeF F cdv qual) (hA : Ok fr A (n + 1))
    (ns rest : List Str) (hn : ns.length = xs.length) (hok : okDef ns rest scope = true) (hbind : ∀ vs : List Value, vs.length = xs.length → bindArgs (fnX name qual params body scope [] dV kV doc pm an cdv ct) ⟨vs, []⟩ = pure (ns.zip vs))
    (h : ∀ L A', Ok (envX qual scope L a cdv [] :: fr) A' n → CxOk ⟨G, envX qual scope L a cdv [] :: fr, A', envX qual scope L a cdv [], gl, [], No, true⟩ F → W ⟨G, envX qual scope L a cdv [] :: fr, A', envX qual scope L a cdv [], gl, [], No, true⟩ 90 (.s body (mkRho ns xs rest) F H (kRt Q))) : Cl G fr A F H (.ref a) xs Q No :=
  call_def (E' := fun _ => No) hf hd hcd ns rest hn (of_decide_eq_true (and_l (and_l hok))) hbind (and_r (and_l hok)) (and_l (and_r hok)) hA.room (fun _ => leaves_no) (fun L A' hD => by
    have ok := okScope.ok (G := G) (fr := fr) (qual := qual) (L := L) (a := a) (cd := cdv) (cl := []) (fl := []) (and_r (and_r hok)) (hA.deep hD).handled noted_no hg (nofun)
    exact W.ex 90 ok (h L A' (hA.deep hD) ok)) (bnot (and_l (and_l (and_r (and_r hok))))) (bnot (and_r (and_l (and_r (and_r hok))))) (of_decide_eq_true (and_l (and_r (and_r (and_r hok)))))
theorem def_c {gl : List (Str × V)} (hg : ∀ p ∈ gl, GlIs G F p.1 p.2) {a : Addr} {fo : Obj} {name qual : Str} {params : Arguments} {scope : Scope} {dV kV doc pm cdv ct : Value} {an : Option Addr} {body : List Stmt} {xs : List V} (hf : F a = some fo)
    (hd : fo.data = .func (fnX name qual params body scope [] dV kV doc pm an cdv ct)) (hcd : CodeF F cdv qual) (hA : Ok fr A (n + 1))
    (ks : List Bool) (ns rest cns : List Str) {inits : List (Option V)} (hn : ns.length = xs.length) (hnd : (decide (ns ++ rest).Nodup && (decide (namesB ks ns ++ rest).Nodup && okScope scope)) = true) (hbind : ∀ vs : List Value, vs.length = xs.length → bindArgs (fnX name qual params body scope [] dV kV doc pm an cdv ct) ⟨vs, []⟩ = pure (ns.zip vs))
    (hkind : kindB (fun x => scope.names.lookup x) ks ns = true) (hcm : ((ks.zip ns).all fun p => p.1 || cns.contains p.2) = true) (hcn : ∀ n, (cellsFrom n scope.names []).map (·.1) = cns) (hcnd : cns.Nodup) (hck : (cns.all fun x => decide (scope.names.lookup x = some .cell)) = true) (hin : cns.map (initB ks ns xs) = inits)
    (h : ∀ L cs A', cs.length = cns.length → Ok (envX qual scope L a cdv (cns.zip cs) :: fr) A' n → CxOk ⟨G, envX qual scope L a cdv (cns.zip cs) :: fr, A', envX qual scope L a cdv (cns.zip cs), gl, [], No, true⟩ F →
      W ⟨G, envX qual scope L a cdv (cns.zip cs) :: fr, A', envX qual scope L a cdv (cns.zip cs), gl, [], No, true⟩ 90 (.s body (mkRhoB ks ns xs rest) F (cs.zip (inits.map AO.cell) ++ H) (kRt Q))) : Cl G fr A F H (.ref a) xs Q No :=
  call_cells (E' := fun _ => No) hf hd hcd ks ns rest cns hn (of_decide_eq_true (and_l hnd)) (of_decide_eq_true (and_l (and_r hnd))) hbind hkind hcm hcn hcnd hck hin hA.room (fun _ _ => leaves_no) (fun L cs A' hcs hD => by
    have ok := okScope.ok (G := G) (fr := fr) (qual := qual) (L := L) (a := a) (cd := cdv) (cl := cns.zip cs) (fl := []) (and_r (and_r hnd)) (hA.deep hD).handled noted_no hg (nofun)
    exact W.ex 90 ok (h L cs A' hcs (hA.deep hD) ok)) (bnot (and_l (and_l (and_r (and_r hnd))))) (bnot (and_r (and_l (and_r (and_r hnd))))) (of_decide_eq_true (and_l (and_r (and_r (and_r hnd)))))
theorem def_code {gl : List (Str × V)} (hg : ∀ p ∈ gl, GlIs G F p.1 p.2) {a : Addr} {fo : Obj} {name qual : Str} {params : Arguments} {scope : Scope} {dV kV doc pm cdv ct : Value} {an : Option Addr} {body : List Stmt} {xs : List V} (hf : F a = some fo)
    (hd : fo.data = .func (fnX name qual params body scope [] dV kV doc pm an cdv ct)) (hcd : CodeF F cdv qual) (hA : Ok fr A (n + 1))
    (ks : List Bool) (ns rest cns : List Str) {inits : List (Option V)} (hn : ns.length = xs.length) (hnd : (decide (ns ++ rest).Nodup && (decide (namesB ks ns ++ rest).Nodup && okScope scope)) = true) (hbind : ∀ vs : List Value, vs.length = xs.length → bindArgs (fnX name qual params body scope [] dV kV doc pm an cdv ct) ⟨vs, []⟩ = pure (ns.zip vs))
    (hkind : kindB (fun x => scope.names.lookup x) ks ns = true) (hcm : ((ks.zip ns).all fun p => p.1 || cns.contains p.2) = true) (hcn : ∀ n, (cellsFrom n scope.names []).map (·.1) = cns) (hcnd : cns.Nodup) (hck : (cns.all fun x => decide (scope.names.lookup x = some .cell)) = true) (hin : cns.map (initB ks ns xs) = inits)
    (h : ∀ L cs A', cs.length = cns.length → Ok (envX qual scope L a cdv (cns.zip cs) :: fr) A' n → CxOk ⟨G, envX qual scope L a cdv (cns.zip cs) :: fr, A', envX qual scope L a cdv (cns.zip cs), gl, [], No, true⟩ F →
      W ⟨G, envX qual scope L a cdv (cns.zip cs) :: fr, A', envX qual scope L a cdv (cns.zip cs), gl, [], No, true⟩ 90 (.s body (mkRhoB ks ns xs rest) F (cs.zip (inits.map AO.cell) ++ H) (kRt Q)))
    {vs : List Value} (hvs : RVs F vs xs) {R : Hp} {s : Shared} (hR : Rep G fr F (H ++ R) s) :
    codeAny G.M A (.call (.ref a) ⟨vs, []⟩) (fun r s' => match r with | .ok (.ret v) => PQ G fr F R (VQ Q) v s' | .ok _ => False | .error e => PQ G fr F R (fun e => Dn (No e)) e s') s :=
  code_cells (E' := fun _ => No) hf hd hcd ks ns rest cns hn (of_decide_eq_true (and_l hnd)) (of_decide_eq_true (and_l (and_r hnd))) hbind hkind hcm hcn hcnd hck hin hA.room (fun _ _ => leaves_no) (fun L cs A' hcs hD => by
    have ok := okScope.ok (G := G) (fr := fr) (qual := qual) (L := L) (a := a) (cd := cdv) (cl := cns.zip cs) (fl := []) (and_r (and_r hnd)) (hA.deep hD).handled noted_no hg (nofun)
    exact W.ex 90 ok (h L cs A' hcs (hA.deep hD) ok)) (.refl F) hvs hR (bnot (and_l (and_l (and_r (and_r hnd))))) (bnot (and_r (and_l (and_r (and_r hnd))))) (of_decide_eq_true (and_l (and_r (and_r (and_r hnd)))))
theorem fn_w {gl fl : List (Str × V)} (hg : ∀ p ∈ gl, GlIs G F p.1 p.2) {a : Addr} {name qual : Str} {params : Arguments} {scope : Scope} {cl : List (Str × Addr)} {body : List Stmt} {xs : List V} (hf : FnF F a name qual params body scope cl) (hfl : ∀ p ∈ fl, ∃ c, cl.lookup p.1 = some c ∧ CellF F c p.2) (hA : Ok fr A (n + 1))
    (ns rest : List Str) (hn : ns.length = xs.length) (hok : okDef ns rest scope = true) (hbind : ∀ doc pm c ctv, ∀ vs : List Value, vs.length = xs.length → bindArgs (fnX name qual params body scope cl .none .none doc pm none c ctv) ⟨vs, []⟩ = pure (ns.zip vs))
    (h : ∀ L A' cdv, Ok (envX qual scope L a cdv cl :: fr) A' n → CxOk ⟨G, envX qual scope L a cdv cl :: fr, A', envX qual scope L a cdv cl, gl, fl, No, true⟩ F → W ⟨G, envX qual scope L a cdv cl :: fr, A', envX qual scope L a cdv cl, gl, fl, No, true⟩ 90 (.s body (mkRho ns xs rest) F H (kRt Q))) : Cl G fr A F H (.ref a) xs Q No :=
  call_fn (E' := fun _ => No) hf ns rest hn (of_decide_eq_true (and_l (and_l hok))) hbind (and_r (and_l hok)) (and_l (and_r hok)) hA.room (fun _ _ => leaves_no) (fun L A' cdv hD => by
    have ok := okScope.ok (G := G) (fr := fr) (qual := qual) (L := L) (a := a) (cd := cdv) (cl := cl) (fl := fl) (and_r (and_r hok)) (hA.deep hD).handled noted_no hg (fun p hp => by obtain ⟨c, h1, h2⟩ := hfl p hp; exact ⟨c, h1, h2⟩)
    exact W.ex 90 ok (h L A' cdv (hA.deep hD) ok)) (bnot (and_l (and_l (and_r (and_r hok))))) (bnot (and_r (and_l (and_r (and_r hok))))) (of_decide_eq_true (and_l (and_r (and_r (and_r hok)))))
end
section
variable {C : Cx} {ρ : Rho} {F : Fz} {H H1 : Hp} {Q : QF}
end
section
variable {G : Glob} {fr : List Env} {A : Around} {F : Fz} {H : Hp} {Q : V → Fz → Hp → Prop} {P : Addr → String → List V → Bool → Fz → Hp → Prop} {n : Nat}
theorem Cl.no {f : V} {xs : List V} {E : Value → Fz → Hp → Prop} (h : Cl G fr A F H f xs Q No) : Cl G fr A F H f xs Q E := h.mono (fun _ _ _ q => q) fun _ _ _ e => e.elim
theorem Cl.keepE {f : V} {xs : List V} {E : Value → Fz → Hp → Prop} (h : Cl G fr A F H f xs Q E) : Cl G fr A F H f xs (fun x F1 H1 => F.le F1 ∧ Dn (Q x) F1 H1) fun e F1 H1 => F.le F1 ∧ Dn (E e) F1 H1 := fun K m v vs hv hvs R s hR =>
  wpAny_mono (h K m v vs hv hvs R s hR) (fun _ _ q => by obtain ⟨F1, H1, l, r, x, hx, F2, m2, q⟩ := q; exact ⟨F1, H1, l, r, x, hx, F1, .refl _, m.trans l, F2, m2, q⟩) fun _ _ q => by obtain ⟨F1, H1, l, r, F2, m2, q⟩ := q; exact ⟨F1, H1, l, r, F1, .refl _, m.trans l, F2, m2, q⟩
theorem Cl.dnE {f : V} {xs : List V} (h : Cl G fr A F H f xs (fun x => Dn (Q x)) (Thr0 fun x c a b => Dn (P x c a b))) : Cl G fr A F H f xs Q (Thr0 P) := fun K m v vs hv hvs R s hR =>
  wpAny_mono (Cl.dn h K m v vs hv hvs R s hR) (fun _ _ q => q) fun _ _ q => by
    obtain ⟨F1, H1, l, r, F2, m2, x, c, a, tb, b, H2, e1, e2, F3, l3, q⟩ := q
    exact ⟨F1, H1, l, r, F3, l3.trans m2, x, c, a, tb, b, H2, e1, e2, q⟩
theorem fn_e {gl fl : List (Str × V)} (hg : ∀ p ∈ gl, GlIs G F p.1 p.2) {a : Addr} {name qual : Str} {params : Arguments} {scope : Scope} {cl : List (Str × Addr)} {body : List Stmt} {xs : List V} (hf : FnF F a name qual params body scope cl) (hfl : ∀ p ∈ fl, ∃ c, cl.lookup p.1 = some c ∧ CellF F c p.2) (hA : Ok fr A (n + 1))
    (ns rest : List Str) (hn : ns.length = xs.length) (hok : okDef ns rest scope = true) (hbind : ∀ doc pm c ctv, ∀ vs : List Value, vs.length = xs.length → bindArgs (fnX name qual params body scope cl .none .none doc pm none c ctv) ⟨vs, []⟩ = pure (ns.zip vs))
    (h : ∀ L A' cdv, Deep A A' (envX qual scope L a cdv cl) → Ok (envX qual scope L a cdv cl :: fr) A' n → CxOk ⟨G, envX qual scope L a cdv cl :: fr, A', envX qual scope L a cdv cl, gl, fl, Thr0 (LvD L P), true⟩ F → W ⟨G, envX qual scope L a cdv cl :: fr, A', envX qual scope L a cdv cl, gl, fl, Thr0 (LvD L P), true⟩ 90 (.s body (mkRho ns xs rest) F H (kRt Q))) : Cl G fr A F H (.ref a) xs Q (Thr0 P) :=
  call_fn (E' := fun L => Thr0 (LvD L P)) hf ns rest hn (of_decide_eq_true (and_l (and_l hok))) hbind (and_r (and_l hok)) (and_l (and_r hok)) hA.room (fun L c => leaves_thrD (L := L) hA.frames rfl) (fun L A' cdv hD => by
    have ok := okScope.ok (G := G) (fr := fr) (qual := qual) (L := L) (a := a) (cd := cdv) (cl := cl) (fl := fl) (and_r (and_r hok)) (hA.deep hD).handled (noted_thr (P := LvD L P) (hA.deep hD).frames) hg (fun p hp => by obtain ⟨c, h1, h2⟩ := hfl p hp; exact ⟨c, h1, h2⟩)
    exact W.ex 90 ok (h L A' cdv hD (hA.deep hD) ok)) (bnot (and_l (and_l (and_r (and_r hok))))) (bnot (and_r (and_l (and_r (and_r hok))))) (of_decide_eq_true (and_l (and_r (and_r (and_r hok)))))
end
section
variable {C : Cx} {ρ : Rho} {F : Fz} {H : Hp}
theorem kE.thr {P : Addr → String → List V → Bool → Fz → Hp → Prop} {e : Value} (he : C.E = Thr0 (LvD C.env.locals P)) (h : Thr0 P e F H) : kE C ρ e F H := by
  show C.E e F (fm C ρ H)
  rw [he]
  exact Thr0.up (h.mono fun x c a b F1 H1 p => ⟨ρ, H1, H1, .hd, .nil, p⟩)
theorem kE.thrB {P : Addr → String → List V → Bool → Fz → Hp → Prop} {e : Value} (he : C.E = Thr0 P) (h : Thr0 (fun x c a b F H => P x c a b F (fm C ρ H)) e F H) : kE C ρ e F H := by
  show C.E e F (fm C ρ H)
  rw [he]
  exact Thr0.up h
theorem W_try (n : Nat) {outer : List Env} {body : List Stmt} {h₀ : ExceptHandler} {hs : List ExceptHandler} {pos : Pos} {Q : QF} (PB : Addr → String → List V → Bool → Fz → Hp → Prop) (ok : CxOk C F) (hfr : C.A.frames = some (C.env :: outer)) (hf : C.fr = C.env :: outer)
    (h : CxOk { C with E := Thr0 PB } F → W { C with E := Thr0 PB } n (.s body ρ F H fun fv ρ F H => CxOk C F ∧ Q fv ρ F H))
    (hd : ∀ x c args t cx F1 H1, PB x c args cx F1 H1 → Hd C.G (C.env :: outer) C.A C.env F1 ((x, .exc c args (some t) none cx) :: (t, .tb) :: H1) x (h₀ :: hs) (Un C Q) C.E) : SmS C (.Try body (h₀ :: hs) [] [] pos) ρ F H Q := by
  have ok2 : CxOk { C with E := Thr0 PB } F := ⟨ok.kind, ok.glob, ok.blt, ok.dbg, by show Noted C.G C.fr C.A C.env (Thr0 PB); rw [hf]; exact noted_thr hfr, ok.hd, ok.gls, ok.fls⟩
  have h1 := (W.sound n).s ok2 (h ok2)
  show Ex C.G C.fr C.A F (fm C ρ H) _ (Un C Q) C.E
  have h2 : Ex C.G C.fr C.A F (fm C ρ H) (execs body C.env) (Un C Q) (Thr0 PB) := h1.mono (fun x F1 H1 q => by obtain ⟨ρ1, H2, e, _, ok, q⟩ := q; exact ⟨ρ1, H2, e, ok, q⟩) fun _ _ _ e => e
  rw [hf] at h2 ⊢
  exact Ex_Try (outer := outer) hfr h2 hd
theorem W_finally (n : Nat) {outer : List Env} {body : List Stmt} {f₀ : Stmt} {fs : List Stmt} {pos : Pos} {Q : QF} {P : Addr → String → List V → Bool → Fz → Hp → Prop} (PB : Addr → String → List V → Bool → Fz → Hp → Prop) (he : C.E = Thr0 P) (ok : CxOk C F) (hfr : C.A.frames = some (C.env :: outer)) (hf : C.fr = C.env :: outer)
    (h : CxOk { C with E := Thr0 PB } F → W { C with E := Thr0 PB } n (.s body ρ F H fun fv ρ F H => CxOk { C with E := No } F ∧ W { C with E := No } n (.s (f₀ :: fs) ρ F H fun g ρ F H => g = .next ∧ CxOk C F ∧ Q fv ρ F H)))
    (hx : ∀ x c args t cx F1 H1, PB x c args cx F1 H1 → Ex C.G (C.env :: outer) (C.A.mark (some (.ref x))) F1 ((x, .exc c args (some t) none cx) :: (t, .tb) :: H1) (execs (f₀ :: fs) C.env) (fun g F2 H2 => g = .next ∧ ∃ H3, H2 = (x, .exc c args (some t) none cx) :: (t, .tb) :: H3 ∧ P x c args cx F2 H3) No) : SmS C (.Try body [] [] (f₀ :: fs) pos) ρ F H Q := by
  have ok2 : CxOk { C with E := Thr0 PB } F := ⟨ok.kind, ok.glob, ok.blt, ok.dbg, by show Noted C.G C.fr C.A C.env (Thr0 PB); rw [hf]; exact noted_thr hfr, ok.hd, ok.gls, ok.fls⟩
  have h1 := (W.sound n).s ok2 (h ok2)
  show Ex C.G C.fr C.A F (fm C ρ H) _ (Un C Q) C.E
  have h2 : Ex C.G C.fr C.A F (fm C ρ H) (execs body C.env) (fun fv F1 H1 => Ex C.G C.fr C.A F1 H1 (execs (f₀ :: fs) C.env) (fun g F2 H2 => g = .next ∧ Un C Q fv F2 H2) No) (Thr0 PB) := h1.mono (fun x F1 H1 q => by
    obtain ⟨ρ1, H2, e, _, ok3, q⟩ := q
    subst e
    exact ((W.sound n).s (C := { C with E := No }) ok3 q).mono (fun g F3 H3 q => by obtain ⟨ρ1, H2, e, _, q1, q2, q3⟩ := q; exact ⟨q1, ρ1, H2, e, q2, q3⟩) fun _ _ _ e => e) fun _ _ _ e => e
  rw [he]
  rw [hf] at h2 ⊢
  exact Ex_Finally (outer := outer) hfr h2 hx
inductive Rz (C : Cx) (ρ : Rho) (x : V) (F : Fz) (H : Hp) : Prop where
  | mk (a : Addr) (c : String) (args : List V) (cx : Bool) (e : x = .ref a) (hm : Has H a (.exc c args none none cx)) (hf : ExcRaiseFacts c) (h : kE C ρ (.ref a) F H)
theorem W_raise (n : Nat) {e : Expr} {pos : Pos} {Q : QF} (ok : CxOk C F) (hh : C.A.handled = none) (h : W C n (.e e ρ F H fun x ρ F H => Rz C ρ x F H)) : SmS C (.Raise (some e) none pos) ρ F H Q :=
  Ex_Raise hh ((W.sound n).k ok h fun x ρ F H ok q => by
    obtain ⟨a, c, args, cx, e, hm, hf, h⟩ := q
    exact ⟨a, c, args, cx, e, .tl hm, hf, h⟩)
end
noncomputable def word (T : Str) (i : Nat) (w : Str) : Bool := (Txt.slice T (some i) (some (i + (w.length : Int)))).cps.toList == w.cps.toList
noncomputable def chr (c : Nat) (w : Str) : Bool := (⟨#[c]⟩ : Str).cps.toList == w.cps.toList
theorem len_le {x y : Nat} {T : Str} : (⟨T.cps.extract x y⟩ : Str).length ≤ T.cps.size := by
  show (T.cps.extract x y).size ≤ _
  rw [Array.size_extract]; exact Nat.le_trans (Nat.sub_le _ _) (Nat.min_le_right _ _)
theorem ext_app {T : Str} {i j k : Nat} (h1 : i ≤ j) (h2 : j ≤ k) : (⟨T.cps.extract i j⟩ : Str) ++ (⟨T.cps.extract j k⟩ : Str) = ⟨T.cps.extract i k⟩ := by
  show (⟨T.cps.extract i j ++ T.cps.extract j k⟩ : Str) = _
  rw [Array.extract_append_extract]
  congr 2 <;> lia
structure Nothing (T : Str) (i c : Nat) : Prop where
  str : chr c "\"" = false
  obj : chr c "{" = false
  arr : chr c "[" = false
  null : (chr c "n" && word T i "null") = false
  tru : (chr c "t" && word T i "true") = false
  fls : (chr c "f" && word T i "false") = false
  num : intAt T.cps T.cps.size (signAt T.cps T.cps.size i) = none
  nan : (chr c "N" && word T i "NaN") = false
  inf : (chr c "I" && word T i "Infinity") = false
  ninf : (chr c "-" && word T i "-Infinity") = false
theorem slice_ext {T : Str} {i j : Nat} (h : i ≤ j) (hj : j ≤ T.cps.size) : Txt.slice T (some (i : Int)) (some (j : Int)) = ⟨T.cps.extract i j⟩ := by
  have e := slice_closes (x := T) (i := i) (j := j) ⟨by lia, by lia, by simp; lia⟩
  rw [beq_iff_eq] at e
  rw [e]
  congr 1
  apply Array.ext'
  rw [Array.toList_extract, List.extract]
  have : ((j : Int) - (i : Int)).toNat = j - i := Int.toNat_sub _ _
  rw [this, Int.toNat_natCast]
noncomputable def digL : List Nat → Nat
  | [] => 0
  | c :: r => if dig c then 1 + digL r else 0
noncomputable def sgnL : List Nat → Nat
  | [] => 0
  | c :: _ => if c = 45 then 1 else 0
noncomputable def intL : List Nat → Option Nat
  | [] => none
  | c :: r => if c = 48 then some 1 else if 49 ≤ c ∧ c ≤ 57 then some (1 + digL r) else none
noncomputable def fracL : List Nat → Nat
  | [] => 0
  | c :: r => if c = 46 then (if digL r = 0 then 0 else 1 + digL r) else 0
noncomputable def esgnL : List Nat → Nat
  | [] => 0
  | c :: _ => if c = 45 ∨ c = 43 then 1 else 0
noncomputable def expL : List Nat → Nat
  | [] => 0
  | c :: r => if c = 101 ∨ c = 69 then (if digL (r.drop (esgnL r)) = 0 then 0 else 1 + esgnL r + digL (r.drop (esgnL r))) else 0
noncomputable def numL (l : List Nat) : Option (Nat × Nat × Nat) := match intL (l.drop (sgnL l)) with
  | none => none
  | some k => some (sgnL l + k, fracL (l.drop (sgnL l + k)), expL (l.drop (sgnL l + k + fracL (l.drop (sgnL l + k)))))
section
variable {T : Array Nat}
theorem drop_cases (p : Nat) : (T.toList.drop p = [] ∧ T.size ≤ p) ∨ ∃ c, T.toList.drop p = c :: T.toList.drop (p + 1) ∧ p < T.size ∧ T.getD p 0 = c := by
  rcases Nat.lt_or_ge p T.size with h | h
  · refine .inr ⟨T[p], ?_, h, ?_⟩
    · rw [List.drop_eq_getElem_cons (by simpa using h)]; simp
    · simp [Array.getD, h]
  · exact .inl ⟨List.drop_eq_nil_of_le (by simpa using h), h⟩
theorem many_dig : ∀ (n p : Nat), n = T.size - p → many dig T n p = digL (T.toList.drop p)
  | 0, p, h => by
    rcases drop_cases (T := T) p with ⟨e, _⟩ | ⟨c, e, hp, _⟩
    · rw [e]; rfl
    · exact absurd h (Nat.ne_of_lt (Nat.sub_pos_of_lt hp))
  | n + 1, p, h => by
    rcases drop_cases (T := T) p with ⟨e, hz⟩ | ⟨c, e, hp, hc⟩
    · exact absurd (h.trans (Nat.sub_eq_zero_of_le hz)) (Nat.succ_ne_zero _)
    · have m : many dig T (n + 1) p = if dig (T.getD p 0) then 1 + many dig T n (p + 1) else 0 := rfl
      rw [m, e, hc, many_dig n (p + 1) (by rw [Nat.sub_succ, ← h]; rfl)]
      rfl
theorem digs_L (p : Nat) : digs T T.size p = digL (T.toList.drop p) := many_dig _ p rfl
theorem sign_L (p : Nat) : signAt T T.size p = p + sgnL (T.toList.drop p) := by
  unfold signAt
  rcases drop_cases (T := T) p with ⟨e, hz⟩ | ⟨c, e, hp, hc⟩
  · rw [e, if_neg (nlt hz)]; rfl
  · rw [e, hc]
    simp only [sgnL]
    by_cases h : c = 45
    · rw [if_pos ⟨hp, h⟩, if_pos h]
    · rw [if_neg (fun q => h q.2), if_neg h]; rfl
theorem int_L (p : Nat) : intAt T T.size p = (intL (T.toList.drop p)).map (p + ·) := by
  unfold intAt
  rcases drop_cases (T := T) p with ⟨e, hz⟩ | ⟨c, e, hp, hc⟩
  · rw [e, if_neg (nlt hz), if_neg (nlt hz)]; rfl
  · rw [e, hc, digs_L]
    simp only [intL]
    by_cases h : c = 48
    · rw [if_pos ⟨hp, h⟩, if_pos h]; rfl
    · rw [if_neg (fun q => h q.2), if_neg h]
      by_cases h2 : 49 ≤ c ∧ c ≤ 57
      · rw [if_pos ⟨hp, h2⟩, if_pos h2]; exact congrArg some (Nat.add_assoc p 1 _)
      · rw [if_neg (fun q => h2 q.2), if_neg h2]; rfl
theorem frac_L (p : Nat) : fracAt T T.size p = if fracL (T.toList.drop p) = 0 then none else some (p + fracL (T.toList.drop p)) := by
  unfold fracAt
  rcases drop_cases (T := T) p with ⟨e, hz⟩ | ⟨c, e, hp, hc⟩
  · rw [e, if_neg (nlt hz)]; rfl
  · rw [e, hc, digs_L]
    have d : fracL (c :: List.drop (p + 1) T.toList) = if c = 46 then (if digL (List.drop (p + 1) T.toList) = 0 then 0 else 1 + digL (List.drop (p + 1) T.toList)) else 0 := rfl
    by_cases h : c = 46
    · rw [if_pos h] at d
      by_cases h2 : digL (T.toList.drop (p + 1)) = 0
      · rw [if_pos h2] at d
        rw [d, if_neg (fun q => absurd q.2.2 (by rw [h2]; decide))]; rfl
      · rw [if_neg h2] at d
        rw [d, if_pos ⟨hp, h, Nat.pos_of_ne_zero h2⟩, if_neg (fun q => absurd (Nat.add_eq_zero_iff.mp q).1 (by decide))]
        exact congrArg some (Nat.add_assoc ..)
    · rw [if_neg h] at d
      rw [d, if_neg (fun q => h q.2.1)]; rfl
theorem esgn_L (p : Nat) : expSign T T.size p = p + esgnL (T.toList.drop p) := by
  unfold expSign
  rcases drop_cases (T := T) p with ⟨e, hz⟩ | ⟨c, e, hp, hc⟩
  · rw [e, if_neg (nlt hz)]; rfl
  · rw [e, hc]
    simp only [esgnL]
    by_cases h : c = 45 ∨ c = 43
    · rw [if_pos ⟨hp, h⟩, if_pos h]
    · rw [if_neg (fun q => h q.2), if_neg h]; rfl
theorem exp_L (p : Nat) : expAt T T.size p = if expL (T.toList.drop p) = 0 then none else some (p + expL (T.toList.drop p)) := by
  unfold expAt
  rcases drop_cases (T := T) p with ⟨e, hz⟩ | ⟨c, e, hp, hc⟩
  · rw [e, if_neg (nlt hz)]; rfl
  · rw [e, hc, esgn_L, digs_L]
    have d : expL (c :: List.drop (p + 1) T.toList) = if c = 101 ∨ c = 69 then (if digL ((List.drop (p + 1) T.toList).drop (esgnL (List.drop (p + 1) T.toList))) = 0 then 0 else 1 + esgnL (List.drop (p + 1) T.toList) + digL ((List.drop (p + 1) T.toList).drop (esgnL (List.drop (p + 1) T.toList)))) else 0 := rfl
    rw [List.drop_drop] at d
    by_cases h : c = 101 ∨ c = 69
    · rw [if_pos h] at d
      by_cases h2 : digL (T.toList.drop (p + 1 + esgnL (T.toList.drop (p + 1)))) = 0
      · rw [if_pos h2] at d
        rw [d, if_neg (fun q => absurd q.2.2 (by rw [h2]; decide))]; rfl
      · rw [if_neg h2] at d
        rw [d, if_pos ⟨hp, h, Nat.pos_of_ne_zero h2⟩, if_neg (fun q => absurd (Nat.add_eq_zero_iff.mp (Nat.add_eq_zero_iff.mp q).1).1 (by decide))]
        rw [Nat.add_assoc p 1, Nat.add_assoc p]
    · rw [if_neg h] at d
      rw [d, if_neg (fun q => h q.2.1)]; rfl
end
inductive Lx where
  | str | obj | arr
  | null | tru | fls
  | whole (n : Nat) | broken (n : Nat)
  | con (w : Str)
  | stop
noncomputable def preL (w : Str) (l : List Nat) : Bool := w.cps.toList.isPrefixOf l
noncomputable def lexL : List Nat → Lx
  | [] => .stop
  | c :: r =>
    if c = 34 then .str else if c = 123 then .obj else if c = 91 then .arr
    else if preL "null" (c :: r) then .null else if preL "true" (c :: r) then .tru else if preL "false" (c :: r) then .fls
    else match numL (c :: r) with
      | some (n1, n2, n3) => if n2 = 0 ∧ n3 = 0 then .whole n1 else .broken (n1 + n2 + n3)
      | none => if preL "NaN" (c :: r) then .con "NaN" else if preL "Infinity" (c :: r) then .con "Infinity" else if preL "-Infinity" (c :: r) then .con "-Infinity" else .stop
theorem chr_eq {c a : Nat} {w : Str} (hw : w.cps.toList = [a]) : chr c w = decide (c = a) := by
  unfold chr; rw [hw]
  by_cases h : c = a
  · subst h; simp
  · simp [h]
theorem slice_nat {T : Str} {i n : Nat} (hi : i ≤ T.cps.size) : (Txt.slice T (some (i : Int)) (some ((i : Int) + (n : Int)))).cps.toList = (T.cps.toList.drop i).take n := by
  rcases Nat.le_total (i + n) T.cps.size with h | h
  · have := slice_ext (T := T) (i := i) (j := i + n) (by lia) h
    rw [show ((i + n : Nat) : Int) = (i : Int) + (n : Int) by lia] at this
    rw [this]
    show (T.cps.extract i (i + n)).toList = _
    rw [Array.toList_extract, List.extract, Nat.add_sub_cancel_left]
  · have hcl : Txt.slice T (some (i : Int)) (some ((i : Int) + (n : Int))) = Txt.slice T (some (i : Int)) (some ((T.cps.size : Nat) : Int)) := by
      have hs : T.length = T.cps.size := rfl
      unfold Txt.slice
      have : ∀ x : Int, (T.cps.size : Int) ≤ x → Builtin.Str.strSliceIndices (some (i : Int)) (some x) 1 T.length = Builtin.Str.strSliceIndices (some (i : Int)) (some ((T.cps.size : Nat) : Int)) 1 T.length := fun x hx => by
        unfold Builtin.Str.strSliceIndices
        rw [hs]
        have e1 : min x (T.cps.size : Int) = min ((T.cps.size : Nat) : Int) (T.cps.size : Int) := by lia
        simp only [show (1 : Int) > 0 by decide, if_true]
        congr 1
        all_goals first | rfl | (try simp only [e1]) | skip
        all_goals (repeat' split) <;> lia
      rw [this _ (by lia)]
    rw [hcl, slice_ext hi (Nat.le_refl _)]
    show (T.cps.extract i T.cps.size).toList = _
    rw [Array.toList_extract, List.extract]
    rw [List.take_of_length_le (by simp), List.take_of_length_le (by simp; lia)]
theorem word_pre {T : Str} {i : Nat} {w : Str} (hi : i ≤ T.cps.size) : word T i w = preL w (T.cps.toList.drop i) := by
  unfold word preL
  have := slice_nat (T := T) (i := i) (n := w.length) hi
  rw [this]
  have hl : w.length = w.cps.toList.length := by simp [Str.length]
  rw [hl]
  generalize w.cps.toList = l
  generalize T.cps.toList.drop i = m
  induction l generalizing m with
  | nil => rfl
  | cons a l ih =>
    cases m with
    | nil => rfl
    | cons b m =>
      simp only [List.length_cons, List.take_succ_cons, List.isPrefixOf_cons_cons]
      rw [← ih m]
      have : ((b :: List.take l.length m) == (a :: l)) = ((b == a) && (List.take l.length m == l)) := rfl
      rw [this]
      congr 1
      by_cases h : a = b
      · subst h; simp
      · have h' : b ≠ a := fun q => h q.symm
        rw [beq_eq_false_iff_ne.mpr h, beq_eq_false_iff_ne.mpr h']
theorem pre_first {w : Str} {a : Nat} {l' : List Nat} (hw : w.cps.toList = a :: l') {c : Nat} {r : List Nat} (h : preL w (c :: r) = true) : c = a := by
  unfold preL at h
  rw [hw, List.isPrefixOf_cons_cons, Bool.and_eq_true] at h
  exact (beq_iff_eq.mp h.1).symm
theorem cw {T : Str} {i c : Nat} {r : List Nat} {w v : Str} {a : Nat} {l' : List Nat} (hi : i ≤ T.cps.size) (hl : T.cps.toList.drop i = c :: r) (hv : v.cps.toList = [a]) (hw : w.cps.toList = a :: l') : (chr c v && word T i w) = preL w (c :: r) := by
  rw [word_pre hi, hl, chr_eq hv]
  cases h : preL w (c :: r) with
  | false => simp
  | true => have := pre_first hw h; simp [this]
section
variable {T : Str} {i c : Nat}
theorem lex_at (hc : T.cps[i]? = some c) : i ≤ T.cps.size ∧ T.cps.toList.drop i = c :: T.cps.toList.drop (i + 1) := by
  rcases drop_cases (T := T.cps) i with ⟨e, hi⟩ | ⟨c', e, hi, hc'⟩
  · rw [Array.getElem?_eq_none hi] at hc; cases hc
  · have : T.cps.getD i 0 = c := by simp [Array.getD_eq_getD_getElem?, hc]
    rw [hc'] at this
    subst this
    exact ⟨Nat.le_of_lt hi, e⟩
theorem lex_str (hc : T.cps[i]? = some c) (h : chr c "\"" = true) : lexL (T.cps.toList.drop i) = .str := by
  rw [chr_eq rfl, decide_eq_true_eq] at h
  rw [(lex_at hc).2]; simp [lexL, h]
theorem lex_obj (hc : T.cps[i]? = some c) (h : chr c "{" = true) : lexL (T.cps.toList.drop i) = .obj := by
  rw [chr_eq rfl, decide_eq_true_eq] at h
  rw [(lex_at hc).2]; simp [lexL, h]
theorem lex_arr (hc : T.cps[i]? = some c) (h : chr c "[" = true) : lexL (T.cps.toList.drop i) = .arr := by
  rw [chr_eq rfl, decide_eq_true_eq] at h
  rw [(lex_at hc).2]; simp [lexL, h]
theorem no_pre {w : Str} {a : Nat} {l' r : List Nat} (hw : w.cps.toList = a :: l') (hne : c ≠ a) : preL w (c :: r) = false := by
  cases q : preL w (c :: r) with
  | false => rfl
  | true => exact absurd (pre_first hw q) hne
theorem lex_null (hc : T.cps[i]? = some c) (h : (chr c "n" && word T i "null") = true) : lexL (T.cps.toList.drop i) = .null := by
  obtain ⟨hi, e⟩ := lex_at hc
  rw [cw hi e rfl rfl] at h
  have hcc := pre_first (w := "null") (a := 110) rfl h
  subst hcc
  rw [e]; simp [lexL, h]
theorem lex_tru (hc : T.cps[i]? = some c) (h : (chr c "t" && word T i "true") = true) : lexL (T.cps.toList.drop i) = .tru := by
  obtain ⟨hi, e⟩ := lex_at hc
  rw [cw hi e rfl rfl] at h
  have hcc := pre_first (w := "true") (a := 116) rfl h
  subst hcc
  rw [e]; simp [lexL, h, no_pre (w := "null") (a := 110) (c := 116) rfl (by decide)]
theorem lex_fls (hc : T.cps[i]? = some c) (h : (chr c "f" && word T i "false") = true) : lexL (T.cps.toList.drop i) = .fls := by
  obtain ⟨hi, e⟩ := lex_at hc
  rw [cw hi e rfl rfl] at h
  have hcc := pre_first (w := "false") (a := 102) rfl h
  subst hcc
  rw [e]; simp [lexL, h, no_pre (w := "null") (a := 110) (c := 102) rfl (by decide), no_pre (w := "true") (a := 116) (c := 102) rfl (by decide)]
theorem lex_rest (hc : c ≠ 34) (h2 : c ≠ 123) (h3 : c ≠ 91) (h4 : c ≠ 110) (h5 : c ≠ 116) (h6 : c ≠ 102) (r : List Nat) : lexL (c :: r) = match numL (c :: r) with
      | some (n1, n2, n3) => if n2 = 0 ∧ n3 = 0 then .whole n1 else .broken (n1 + n2 + n3)
      | none => if preL "NaN" (c :: r) then .con "NaN" else if preL "Infinity" (c :: r) then .con "Infinity" else if preL "-Infinity" (c :: r) then .con "-Infinity" else .stop := by
  have hlx : lexL (c :: r) = if c = 34 then .str else if c = 123 then .obj else if c = 91 then .arr
    else if preL "null" (c :: r) then .null else if preL "true" (c :: r) then .tru else if preL "false" (c :: r) then .fls
    else match numL (c :: r) with
      | some (n1, n2, n3) => if n2 = 0 ∧ n3 = 0 then .whole n1 else .broken (n1 + n2 + n3)
      | none => if preL "NaN" (c :: r) then .con "NaN" else if preL "Infinity" (c :: r) then .con "Infinity" else if preL "-Infinity" (c :: r) then .con "-Infinity" else .stop := rfl
  rw [hlx, if_neg hc, if_neg h2, if_neg h3, if_neg (by rw [no_pre (w := "null") (a := 110) rfl h4]; simp), if_neg (by rw [no_pre (w := "true") (a := 116) rfl h5]; simp), if_neg (by rw [no_pre (w := "false") (a := 102) rfl h6]; simp)]
theorem num_not (h : c = 45 ∨ (48 ≤ c ∧ c ≤ 57)) : c ≠ 34 ∧ c ≠ 123 ∧ c ≠ 91 ∧ c ≠ 110 ∧ c ≠ 116 ∧ c ≠ 102 :=
  h.elim (fun e => by rw [e]; decide) fun q => ⟨Nat.ne_of_gt (Nat.lt_of_lt_of_le (by decide) q.1), Nat.ne_of_lt (Nat.lt_of_le_of_lt q.2 (by decide)), Nat.ne_of_lt (Nat.lt_of_le_of_lt q.2 (by decide)), Nat.ne_of_lt (Nat.lt_of_le_of_lt q.2 (by decide)), Nat.ne_of_lt (Nat.lt_of_le_of_lt q.2 (by decide)), Nat.ne_of_lt (Nat.lt_of_le_of_lt q.2 (by decide))⟩
theorem num_first (hc : T.cps[i]? = some c) {q : Nat} (hq : intAt T.cps T.cps.size (signAt T.cps T.cps.size i) = some q) : c = 45 ∨ (48 ≤ c ∧ c ≤ 57) := by
  obtain ⟨_, e⟩ := lex_at hc
  rw [sign_L, int_L, e] at hq
  unfold sgnL at hq
  by_cases hm : c = 45
  · exact .inl hm
  · simp only [if_neg hm, Nat.add_zero] at hq
    rw [e] at hq
    simp only [intL] at hq
    split at hq
    · rename_i q; exact .inr (by rw [q]; decide)
    · split at hq
      · rename_i q; exact .inr ⟨Nat.le_of_succ_le q.1, q.2⟩
      · cases hq
theorem num_none (hc : T.cps[i]? = some c) (hn : intAt T.cps T.cps.size (signAt T.cps T.cps.size i) = none) : numL (c :: T.cps.toList.drop (i + 1)) = none := by
  obtain ⟨_, e⟩ := lex_at hc
  rw [sign_L, int_L, Option.map_eq_none_iff, ← List.drop_drop, e] at hn
  unfold numL
  rw [hn]
theorem lex_num (hc : T.cps[i]? = some c) {q : Nat} (hq : intAt T.cps T.cps.size (signAt T.cps T.cps.size i) = some q) :
    ∃ n, expEnd T.cps T.cps.size (fracEnd T.cps T.cps.size q) = i + n ∧ lexL (T.cps.toList.drop i) = (if (fracAt T.cps T.cps.size q).isSome || (expAt T.cps T.cps.size (fracEnd T.cps T.cps.size q)).isSome then .broken n else .whole n) := by
  have hf := num_first hc hq
  obtain ⟨_, e⟩ := lex_at hc
  obtain ⟨z1, z2, z3, z4, z5, z6⟩ := num_not hf
  rw [e, lex_rest z1 z2 z3 z4 z5 z6]
  rw [sign_L, int_L, ← List.drop_drop, e] at hq
  cases hk : intL ((c :: T.cps.toList.drop (i + 1)).drop (sgnL (c :: T.cps.toList.drop (i + 1)))) with
  | none => rw [hk] at hq; cases hq
  | some k =>
    rw [hk] at hq
    generalize hn1 : sgnL (c :: T.cps.toList.drop (i + 1)) + k = n1
    have hqn : q = i + n1 := by have h9 : i + sgnL (c :: T.cps.toList.drop (i + 1)) + k = q := Option.some.inj hq; exact h9.symm.trans ((Nat.add_assoc ..).trans (congrArg (i + ·) hn1))
    subst hqn
    have hn : numL (c :: T.cps.toList.drop (i + 1)) = some (n1, fracL (T.cps.toList.drop (i + n1)), expL (T.cps.toList.drop (i + n1 + fracL (T.cps.toList.drop (i + n1))))) := by
      unfold numL
      rw [hk]
      simp only [← e, List.drop_drop]
      simp only [e, hn1, Nat.add_assoc]
    rw [hn]
    generalize hn2 : fracL (T.cps.toList.drop (i + n1)) = n2
    generalize hn3 : expL (T.cps.toList.drop (i + n1 + n2)) = n3
    have hfe : fracEnd T.cps T.cps.size (i + n1) = i + n1 + n2 := by
      show (fracAt T.cps T.cps.size (i + n1)).getD (i + n1) = _
      rw [frac_L, hn2]
      by_cases q : n2 = 0
      · rw [if_pos q, q]; rfl
      · rw [if_neg q]; rfl
    have hee : expEnd T.cps T.cps.size (i + n1 + n2) = i + n1 + n2 + n3 := by
      show (expAt T.cps T.cps.size (i + n1 + n2)).getD (i + n1 + n2) = _
      rw [exp_L, hn3]
      by_cases q : n3 = 0
      · rw [if_pos q, q]; rfl
      · rw [if_neg q]; rfl
    refine ⟨n1 + n2 + n3, by rw [hfe, hee]; exact (congrArg (· + n3) (Nat.add_assoc i n1 n2)).trans (Nat.add_assoc i (n1 + n2) n3), ?_⟩
    rw [hfe, frac_L, exp_L, hn2, hn3]
    by_cases z2 : n2 = 0 <;> by_cases z3 : n3 = 0 <;> simp [z2, z3]
theorem lex_con {w v : Str} {a : Nat} {l' : List Nat} (hw : w.cps.toList = a :: l') (hv : v.cps.toList = [a]) (hc : T.cps[i]? = some c) (hn : intAt T.cps T.cps.size (signAt T.cps T.cps.size i) = none) (h : (chr c v && word T i w) = true)
    (hk : w = "NaN" ∧ a = 78 ∨ w = "Infinity" ∧ a = 73 ∨ w = "-Infinity" ∧ a = 45) : lexL (T.cps.toList.drop i) = .con w := by
  obtain ⟨hi, e⟩ := lex_at hc
  rw [cw hi e hv hw] at h
  have hcc := pre_first hw h
  subst hcc
  have hno := num_none hc hn
  have z : c ≠ 34 ∧ c ≠ 123 ∧ c ≠ 91 ∧ c ≠ 110 ∧ c ≠ 116 ∧ c ≠ 102 := by rcases hk with ⟨-, q⟩ | ⟨-, q⟩ | ⟨-, q⟩ <;> rw [q] <;> decide
  rw [e, lex_rest z.1 z.2.1 z.2.2.1 z.2.2.2.1 z.2.2.2.2.1 z.2.2.2.2.2, hno]
  rcases hk with ⟨rfl, rfl⟩ | ⟨rfl, rfl⟩ | ⟨rfl, rfl⟩
  · simp [h]
  · simp [h, no_pre (w := "NaN") (a := 78) (c := 73) rfl (by decide)]
  · simp [h, no_pre (w := "NaN") (a := 78) (c := 45) rfl (by decide), no_pre (w := "Infinity") (a := 73) (c := 45) rfl (by decide)]
theorem lex_stop (hc : T.cps[i]? = some c) (hN : Nothing T i c) : lexL (T.cps.toList.drop i) = .stop := by
  obtain ⟨hi, e⟩ := lex_at hc
  have hno := num_none hc hN.num
  have d : ∀ {w : Str} {a : Nat}, w.cps.toList = [a] → chr c w = false → c ≠ a := fun hw q => by rw [chr_eq hw] at q; exact of_decide_eq_false q
  have w1 : (chr c "n" && word T i "null") = preL "null" (c :: T.cps.toList.drop (i + 1)) := cw hi e rfl rfl
  have w2 : (chr c "t" && word T i "true") = preL "true" (c :: T.cps.toList.drop (i + 1)) := cw hi e rfl rfl
  have w3 : (chr c "f" && word T i "false") = preL "false" (c :: T.cps.toList.drop (i + 1)) := cw hi e rfl rfl
  have w4 : (chr c "N" && word T i "NaN") = preL "NaN" (c :: T.cps.toList.drop (i + 1)) := cw hi e rfl rfl
  have w5 : (chr c "I" && word T i "Infinity") = preL "Infinity" (c :: T.cps.toList.drop (i + 1)) := cw hi e rfl rfl
  have w6 : (chr c "-" && word T i "-Infinity") = preL "-Infinity" (c :: T.cps.toList.drop (i + 1)) := cw hi e rfl rfl
  have hlx : lexL (c :: T.cps.toList.drop (i + 1)) = if c = 34 then .str else if c = 123 then .obj else if c = 91 then .arr
    else if preL "null" (c :: T.cps.toList.drop (i + 1)) then .null else if preL "true" (c :: T.cps.toList.drop (i + 1)) then .tru else if preL "false" (c :: T.cps.toList.drop (i + 1)) then .fls
    else match numL (c :: T.cps.toList.drop (i + 1)) with
      | some (n1, n2, n3) => if n2 = 0 ∧ n3 = 0 then .whole n1 else .broken (n1 + n2 + n3)
      | none => if preL "NaN" (c :: T.cps.toList.drop (i + 1)) then .con "NaN" else if preL "Infinity" (c :: T.cps.toList.drop (i + 1)) then .con "Infinity" else if preL "-Infinity" (c :: T.cps.toList.drop (i + 1)) then .con "-Infinity" else .stop := rfl
  rw [e, hlx, if_neg (d (a := 34) rfl hN.str), if_neg (d (a := 123) rfl hN.obj), if_neg (d (a := 91) rfl hN.arr), if_neg (by rw [← w1, hN.null]; simp), if_neg (by rw [← w2, hN.tru]; simp), if_neg (by rw [← w3, hN.fls]; simp), hno]
  simp only [← w4, ← w5, ← w6, hN.nan, hN.inf, hN.ninf, Bool.false_eq_true, if_false]
end
noncomputable def stm (n : Nat) : Option Stmt := PySem.Challenge.pw_dm0199_06.main.body[n]?
noncomputable def sub (s : Option Stmt) (n : Nat) : Option Stmt := match s with
  | some (.FunctionDef _ _ body _ _ _ _ _ _ _) => body[n]?
  | _ => none
inductive FnS (F : Fz) (f : Addr) (st : Option Stmt) (qual : Str) (clos : List (Str × Addr)) : Prop where
  | intro (name : Str) (params : Arguments) (body : List Stmt) (scope : Scope) (pos : Pos) (h1 : st = some (.FunctionDef name params body [] none [] scope none name pos)) (h2 : FnF F f name qual params body scope clos)
theorem FnS.mono {F F' : Fz} {f : Addr} {st : Option Stmt} {qual : Str} {clos : List (Str × Addr)} (le : F.le F') (h : FnS F f st qual clos) : FnS F' f st qual clos := by obtain ⟨a, b, c, d, e, g, k⟩ := h; exact ⟨a, b, c, d, e, g, k.mono le⟩
theorem FnS.ok {F : Fz} {f : Addr} {st : Option Stmt} {qual : Str} {clos : List (Str × Addr)} (h : FnS F f st qual clos) : KOk F (.ref f) := by obtain ⟨_, _, _, _, _, _, k⟩ := h; exact k.ok
inductive Cap (F : Fz) (clos : List (Str × Addr)) (x : Str) (y : V) : Prop where
  | intro (c : Addr) (h1 : clos.lookup x = some c) (h2 : CellF F c y)
theorem Cap.out {F : Fz} {clos : List (Str × Addr)} {x : Str} {y : V} (h : Cap F clos x y) : ∃ c, clos.lookup x = some c ∧ CellF F c y := by obtain ⟨c, h1, h2⟩ := h; exact ⟨c, h1, h2⟩
theorem Cap.mono {F F' : Fz} {clos : List (Str × Addr)} {x : Str} {y : V} (le : F.le F') (h : Cap F clos x y) : Cap F' clos x y := by obtain ⟨c, a, b⟩ := h; exact ⟨c, a, b.mono le⟩
structure Parts where
  po : V
  pa : V
  ps : V
  mb : Addr
  st : V
  pf : V
  pi : V
  pc : V
  oh : V
  oph : V
  mm : V
inductive ScanF (F : Fz) (f : Addr) (p : Parts) : Prop where
  | intro (qual : Str) (clos : List (Str × Addr)) (pat : Addr) (h0 : FnS F f (sub (stm 3) 11) qual clos) (h1 : Cap F clos "parse_object" p.po) (h2 : Cap F clos "parse_array" p.pa) (h3 : Cap F clos "parse_string" p.ps) (h4 : Cap F clos "match_number" (.ref p.mb)) (h5 : Cap F clos "strict" p.st) (h6 : Cap F clos "parse_float" p.pf) (h7 : Cap F clos "parse_int" p.pi) (h8 : Cap F clos "parse_constant" p.pc)
    (h9 : Cap F clos "object_hook" p.oh) (h10 : Cap F clos "object_pairs_hook" p.oph) (h11 : Cap F clos "memo" p.mm) (h12 : Cap F clos "_scan_once" (.ref f)) (hb : BoundF F p.mb pat) (o1 : KOk F p.po) (o2 : KOk F p.pa) (o3 : KOk F p.ps) (o5 : KOk F p.pi)
noncomputable def gtx (T : Str) : Option (Nat × Nat) → Str
  | none => ""
  | some (x, y) => ⟨T.cps.extract x y⟩
noncomputable def gok (T : Str) : Option (Nat × Nat) → Prop
  | none => True
  | some (x, y) => x < y ∧ y ≤ T.cps.size
theorem gtx_len {T : Str} {o : Option (Nat × Nat)} : (gtx T o).length ≤ T.cps.size := by
  cases o with
  | none => exact Nat.zero_le _
  | some p => exact len_le
section
variable {G : Glob} {fr : List Env} {A : Around} {env : Env} {F : Fz} {H : Hp} {E : Value → Fz → Hp → Prop} {T : Str}
theorem tr_grp {o : Option (Nat × Nat)} {Q : Bool → Fz → Hp → Prop} (hT : T.cps.size ≤ 1000000) (ho : gok T o) (h : Q o.isSome F H) : Tr G fr A F H (grp? T o) Q E := by
  cases o with
  | none => exact tr_none h
  | some p =>
    obtain ⟨x, y⟩ := p
    have hl : (T.cps.extract x y).size = y - x := by rw [Array.size_extract, Nat.min_eq_left ho.2]
    refine tr_str (x := ⟨T.cps.extract x y⟩) ?_ ?_
    · show ((T.cps.extract x y).size : Int) < _
      rw [hl]; exact Int.lt_of_le_of_lt (Int.ofNat_le.mpr (Nat.le_trans (Nat.sub_le _ _) (Nat.le_trans ho.2 hT))) (by decide)
    · have : (((⟨T.cps.extract x y⟩ : Str).length : Int) != 0) = true := by
        show (((T.cps.extract x y).size : Int) != 0) = true
        rw [hl]; have := ho.1; simp; lia
      rw [this]; exact h
end
noncomputable def fnData (st : Stmt) (pm cd : Value) : FuncData := match st with
  | .FunctionDef name args body _ _ _ scope _ _ _ => { name, qualname := name, params := args, body := .stmts body, scope, globals := mainGlobals, closure := [], defaults := .none, kwdefaults := .none, pyModule := pm, code := cd, builtins := builtinsNs }
  | _ => default
inductive IsDefC (F : Fz) (st : Option Stmt) (a c : Addr) : Prop where
  | intro (s : Stmt) (o : Obj) (pm : Value) (h1 : st = some s) (h2 : F a = some o) (h3 : o.data = .func (fnData s pm (.ref c))) (h4 : CodeF F (.ref c) (fnData s pm (.ref c)).qualname)
noncomputable def IsDef (F : Fz) (st : Option Stmt) (a : Addr) : Prop := ∃ c, IsDefC F st a c
theorem IsDefC.mono {F F' : Fz} {st : Option Stmt} {a c : Addr} (le : F.le F') (h : IsDefC F st a c) : IsDefC F' st a c := by obtain ⟨s, o, pm, h1, h2, h3, h4⟩ := h; exact ⟨s, o, pm, h1, le _ _ h2, h3, h4.mono le⟩
theorem IsDef.mono {F F' : Fz} {st : Option Stmt} {a : Addr} (le : F.le F') (h : IsDef F st a) : IsDef F' st a := by obtain ⟨c, h⟩ := h; exact ⟨c, h.mono le⟩
theorem IsDefC.ok {F : Fz} {st : Option Stmt} {a c : Addr} (h : IsDefC F st a c) : KOk F (.ref a) := by obtain ⟨_, _, _, _, h2, h3, _⟩ := h; exact .fn h2 h3
theorem IsDef.ok {F : Fz} {st : Option Stmt} {a : Addr} (h : IsDef F st a) : KOk F (.ref a) := by obtain ⟨_, h⟩ := h; exact h.ok
theorem Ex_cellF {G : Glob} {fr : List Env} {A : Around} {F : Fz} {H H1 : Hp} {t : Sem Flow} {Q : FV → Fz → Hp → Prop} {E : Value → Fz → Hp → Prop} {c : Addr} {y : V} (hr : Rem H c (.cell (some y)) H1) (h : ∀ F', F.le F' → CellF F' c y → Ex G fr A F' H1 t Q E) : Ex G fr A F H t Q E := fun K m R s hR => by
  obtain ⟨o, ⟨v, hd, hv⟩, le, r⟩ := Rep.freeze (hR.perm (hr.perm.append_right R)) (fun _ e => nomatch e)
  exact (h _ (m.trans le) ⟨o, v, Fz.add_self _ _ _, hd, hv.mono le⟩).last (.refl _) r le
inductive Cells (F : Fz) : List Addr → List V → Prop where
  | nil : Cells F [] []
  | cons {c : Addr} {y : V} {cs : List Addr} {ys : List V} (h : CellF F c y) (t : Cells F cs ys) : Cells F (c :: cs) (y :: ys)
theorem Cells.mono {F F' : Fz} {cs : List Addr} {ys : List V} (le : F.le F') (h : Cells F cs ys) : Cells F' cs ys := by
  induction h with
  | nil => exact .nil
  | cons h _ ih => exact .cons (h.mono le) ih
inductive RemC : Hp → List Addr → List V → Hp → Prop where
  | nil {H : Hp} : RemC H [] [] H
  | cons {H H1 H2 : Hp} {c : Addr} {y : V} {cs : List Addr} {ys : List V} (hr : Rem H c (.cell (some y)) H1) (t : RemC H1 cs ys H2) : RemC H (c :: cs) (y :: ys) H2
theorem RemC.freeze {G : Glob} {fr : List Env} {R : Hp} {s : Shared} {H H1 : Hp} {cs : List Addr} {ys : List V} (hr : RemC H cs ys H1) : ∀ {K : Fz}, Rep G fr K (H ++ R) s → ∃ K', K.le K' ∧ Rep G fr K' (H1 ++ R) s ∧ Cells K' cs ys := by
  induction hr with
  | nil => exact fun r => ⟨_, .refl _, r, .nil⟩
  | cons hr _ ih =>
    intro K r
    obtain ⟨o, ⟨v, hd, hv⟩, le, r1⟩ := Rep.freeze (r.perm (hr.perm.append_right R)) (fun _ e => nomatch e)
    obtain ⟨K2, l2, r2, h2⟩ := ih r1
    exact ⟨K2, le.trans l2, r2, .cons (CellF.mono l2 ⟨o, v, Fz.add_self _ _ _, hd, hv.mono le⟩) h2⟩
theorem Cells.get {F : Fz} {cs : List Addr} {ys : List V} (h : Cells F cs ys) : ∀ (i : Nat) {c : Addr} {y : V}, cs[i]? = some c → ys[i]? = some y → CellF F c y := by
  induction h with
  | nil => intro i c y e; simp at e
  | cons h _ ih =>
    intro i c y e1 e2
    cases i with
    | zero => simp at e1 e2; subst e1 e2; exact h
    | succ i => simp at e1 e2; exact ih i e1 e2
theorem Has.of_upd {H H' : Hp} {a : Addr} {x x' : AO} (h : Upd H a x x' H') : Has H a x := by
  induction h with
  | hd => exact .hd
  | tl _ ih => exact .tl ih
inductive OuterF (F : Fz) (g f m : Addr) : Prop where
  | intro (qual : Str) (clos : List (Str × Addr)) (h1 : FnS F g (sub (stm 3) 12) qual clos) (h2 : Cap F clos "_scan_once" (.ref f)) (h3 : Cap F clos "memo" (.ref m))
theorem OuterF.mono {F F' : Fz} {g f m : Addr} (le : F.le F') (h : OuterF F g f m) : OuterF F' g f m := by obtain ⟨a, b, h1, h2, h3⟩ := h; exact ⟨a, b, h1.mono le, h2.mono le, h3.mono le⟩
theorem OuterF.ok {F : Fz} {g f m : Addr} (h : OuterF F g f m) : KOk F (.ref g) := by obtain ⟨a, b, h1, h2, h3⟩ := h; exact h1.ok
theorem ScanF.mono {F F' : Fz} {f : Addr} {p : Parts} (le : F.le F') (h : ScanF F f p) : ScanF F' f p := by
  obtain ⟨qual, clos, pat, h0, h1, h2, h3, h4, h5, h6, h7, h8, h9, h10, h11, h12, hb, o1, o2, o3, o5⟩ := h
  exact ⟨qual, clos, pat, h0.mono le, h1.mono le, h2.mono le, h3.mono le, h4.mono le, h5.mono le, h6.mono le, h7.mono le, h8.mono le, h9.mono le, h10.mono le, h11.mono le, h12.mono le, hb.mono le, o1.mono le, o2.mono le, o3.mono le, o5.mono le⟩
theorem ScanF.ok {F : Fz} {f : Addr} {p : Parts} (h : ScanF F f p) : KOk F (.ref f) := by obtain ⟨_, _, _, h0, _⟩ := h; exact h0.ok
inductive Emp (m : Addr) (Q : Fz → Hp → Prop) (F : Fz) (H : Hp) : Prop where
  | intro (l : List (V × V)) (H2 : Hp) (hu : Upd H m (.dict l) (.dict []) H2) (hl : l.length ≤ sizeLine) (h : Q F H2)
inductive Hd1 (p : Addr × AO) (P : Fz → Hp → Prop) (F : Fz) (H : Hp) : Prop where
  | intro (H3 : Hp) (e : H = p :: H3) (h : P F H3)
structure CtxA (ρ : List (Str × V)) (p : Parts) : Prop where
  po : ρ.lookup (Str.ofString "parse_object") = some p.po
  pa : ρ.lookup (Str.ofString "parse_array") = some p.pa
  ps : ρ.lookup (Str.ofString "parse_string") = some p.ps
  st : ρ.lookup (Str.ofString "strict") = some p.st
  pf : ρ.lookup (Str.ofString "parse_float") = some p.pf
  pi : ρ.lookup (Str.ofString "parse_int") = some p.pi
  pc : ρ.lookup (Str.ofString "parse_constant") = some p.pc
  oh : ρ.lookup (Str.ofString "object_hook") = some p.oh
  oph : ρ.lookup (Str.ofString "object_pairs_hook") = some p.oph
  mm : ρ.lookup (Str.ofString "memo") = some p.mm
theorem nl1 : typeLookup (.type "Exception") "parse_object" = pure none := by rw [typeLookup_type, builtinLookup_eq_fast]; kernel_rfl
theorem nl2 : typeLookup (.type "Exception") "parse_array" = pure none := by rw [typeLookup_type, builtinLookup_eq_fast]; kernel_rfl
theorem nl3 : typeLookup (.type "Exception") "parse_string" = pure none := by rw [typeLookup_type, builtinLookup_eq_fast]; kernel_rfl
theorem nl4 : typeLookup (.type "Exception") "strict" = pure none := by rw [typeLookup_type, builtinLookup_eq_fast]; kernel_rfl
theorem nl5 : typeLookup (.type "Exception") "parse_float" = pure none := by rw [typeLookup_type, builtinLookup_eq_fast]; kernel_rfl
theorem nl6 : typeLookup (.type "Exception") "parse_int" = pure none := by rw [typeLookup_type, builtinLookup_eq_fast]; kernel_rfl
theorem nl7 : typeLookup (.type "Exception") "parse_constant" = pure none := by rw [typeLookup_type, builtinLookup_eq_fast]; kernel_rfl
theorem nl8 : typeLookup (.type "Exception") "object_hook" = pure none := by rw [typeLookup_type, builtinLookup_eq_fast]; kernel_rfl
theorem nl9 : typeLookup (.type "Exception") "object_pairs_hook" = pure none := by rw [typeLookup_type, builtinLookup_eq_fast]; kernel_rfl
theorem nl10 : typeLookup (.type "Exception") "memo" = pure none := by rw [typeLookup_type, builtinLookup_eq_fast]; kernel_rfl
noncomputable def ScQ (G : Glob) (fr : List Env) (A : Around) (F : Fz) (H : Hp) (f : Addr) (p : Parts) (T : Str) (i : Nat) (Q : V → Fz → Hp → Prop) (P : Addr → String → List V → Bool → Fz → Hp → Prop) : Lx → Prop
  | .str => ClD G fr A F H p.ps [.str T, .int ((i : Int) + 1), p.st] Q (Thr0 P)
  | .obj => ClD G fr A F H p.po [.tup [.str T, .int ((i : Int) + 1)], p.st, .ref f, p.oh, p.oph, p.mm] Q (Thr0 P)
  | .arr => ClD G fr A F H p.pa [.tup [.str T, .int ((i : Int) + 1)], .ref f] Q (Thr0 P)
  | .whole n => ClD G fr A F H p.pi [.str ⟨T.cps.extract i (i + n)⟩] (fun x F2 H2 => Q (.tup [x, .int ((i + n : Nat) : Int)]) F2 H2) (Thr0 P)
  | .stop => ∀ x b, P x "StopIteration" [.int i] b F H
  | _ => False
structure BtS (G : Glob) : Prop where
  i0 : G.mg (Str.ofString "IndexError") = none
  i1 : G.mb (Str.ofString "IndexError") = some (.type "IndexError")
  s0 : G.mg (Str.ofString "StopIteration") = none
  s1 : G.mb (Str.ofString "StopIteration") = some (.type "StopIteration")
noncomputable def scF (f : Addr) (p : Parts) : List (Str × V) := [("parse_string", p.ps), ("strict", p.st), ("parse_object", p.po), ("_scan_once", .ref f), ("object_hook", p.oh), ("object_pairs_hook", p.oph), ("memo", p.mm), ("parse_array", p.pa), ("match_number", .ref p.mb), ("parse_float", p.pf), ("parse_int", p.pi), ("parse_constant", p.pc)]
theorem kCall.of {C : Cx} {w : WK → Prop} {args : List Expr} {f : V} {ρ : Rho} {F : Fz} {H : Hp} {Q : QV} (k : KOk F f) (h : argW C w f args ρ F H Q) : kCall C w args Q f ρ F H := by
  cases f <;> first | exact h | exact ⟨k, h⟩
theorem Cl.part {C : Cx} {fr : List Env} {A : Around} {ρ : Rho} {F F1 : Fz} {H : Hp} {v : V} {xs : List V} {P : Addr → String → List V → Bool → Fz → Hp → Prop} {Q1 : V → Fz → Hp → Prop} {Q3 : QV} (ok : CxOk C F) (hf : C.fr = C.env :: fr) (hD : Deep A C.A C.env) (he : C.E = Thr0 (LvD C.env.locals P)) (l1 : F.le F1) (h : ClD C.G fr A F H v xs Q1 (Thr0 P)) (k : ∀ x F2 H2, F1.le F2 → CxOk C F2 → Dn (Q1 x) F2 H2 → Q3 x ρ F2 H2) :
    Cl C.G C.fr C.A F1 H v xs (Nx C ρ Q3) (kE C ρ) := by
  rw [hf]
  exact ((h _ _ hD).up l1).keep.mono (fun x F2 H2 q => ⟨ok.mono (l1.trans q.1), k x F2 H2 q.1 (ok.mono (l1.trans q.1)) q.2⟩) fun e F2 H2 q => kE.thr he q
structure NumP (T : Str) (i n q e2 : Nat) (o1 o2 : Option (Nat × Nat)) : Prop where
  g1 : gok T o1
  g2 : gok T o2
  e : e2 = i + n
  z : (o1.isSome || o2.isSome) = false → q = i + n
  t : (⟨T.cps.extract i q⟩ : Str) ++ gtx T o1 ++ gtx T o2 = ⟨T.cps.extract i (i + n)⟩
theorem num_parts {T : Str} {i n q : Nat} (hi : i ≤ q) (hn : expEnd T.cps T.cps.size (fracEnd T.cps T.cps.size q) = i + n) : NumP T i n q (expEnd T.cps T.cps.size (fracEnd T.cps T.cps.size q)) ((fracAt T.cps T.cps.size q).map fun e => (q, e)) ((expAt T.cps T.cps.size (fracEnd T.cps T.cps.size q)).map fun e => (fracEnd T.cps T.cps.size q, e)) := by
  have ex0 : ∀ {k : Nat}, (⟨T.cps.extract k k⟩ : Str) = "" := fun {k} => by
    show (⟨T.cps.extract k k⟩ : Str) = ⟨#[]⟩
    exact congrArg Str.mk (by simp; lia)
  have key : ∀ {k : Nat} {o : Option Nat}, (∀ e, o = some e → k < e ∧ e ≤ T.cps.size) → gok T (o.map fun e => (k, e)) ∧ gtx T (o.map fun e => (k, e)) = ⟨T.cps.extract k (o.getD k)⟩ ∧ k ≤ o.getD k ∧ (o.isSome = false → o.getD k = k) ∧ (o.map fun e => (k, e)).isSome = o.isSome := by
    intro k o h
    cases o with
    | none => exact ⟨trivial, ex0.symm, Nat.le_refl _, fun _ => rfl, rfl⟩
    | some e => exact ⟨h e rfl, rfl, Nat.le_of_lt (h e rfl).1, nofun, rfl⟩
  obtain ⟨a1, a2, a3, a4, a5⟩ := key (k := q) (o := fracAt T.cps T.cps.size q) fun e h => fracAt_lt h
  obtain ⟨b1, b2, b3, b4, b5⟩ := key (k := fracEnd T.cps T.cps.size q) (o := expAt T.cps T.cps.size (fracEnd T.cps T.cps.size q)) fun e h => expAt_lt h
  have a3 : q ≤ fracEnd T.cps T.cps.size q := a3
  have b3 : fracEnd T.cps T.cps.size q ≤ expEnd T.cps T.cps.size (fracEnd T.cps T.cps.size q) := b3
  have a4 : (fracAt T.cps T.cps.size q).isSome = false → fracEnd T.cps T.cps.size q = q := a4
  have b4 : (expAt T.cps T.cps.size (fracEnd T.cps T.cps.size q)).isSome = false → expEnd T.cps T.cps.size (fracEnd T.cps T.cps.size q) = fracEnd T.cps T.cps.size q := b4
  refine ⟨a1, b1, hn, fun h => ?_, ?_⟩
  · rw [a5, b5, Bool.or_eq_false_iff] at h
    rw [← hn, b4 h.2, a4 h.1]
  · rw [a2, b2, ← hn]
    show ((⟨T.cps.extract i q⟩ : Str) ++ ⟨T.cps.extract q (fracEnd T.cps T.cps.size q)⟩) ++ ⟨T.cps.extract (fracEnd T.cps T.cps.size q) (expEnd T.cps T.cps.size (fracEnd T.cps T.cps.size q))⟩ = _
    rw [ext_app hi a3, ext_app (Nat.le_trans hi a3) b3]
section
variable {C : Cx} {ρ : Rho} {F : Fz} {H : Hp} {T : Str} {o : Option (Nat × Nat)}
theorem trW_grp {Q : QB} (ok : CxOk C F) (hT : T.cps.size ≤ 1000000) (ho : gok T o) (h : Q o.isSome ρ F H) : trW C (grp? T o) ρ F H Q := by
  cases o with
  | none => exact h
  | some p => exact tr_grp (o := some p) hT ho ⟨ok, h⟩
end
theorem BtS.gl {G : Glob} {F : Fz} (bt : BtS G) : ∀ p ∈ ([("IndexError", .typ "IndexError"), ("StopIteration", .typ "StopIteration")] : List (Str × V)), GlIs G F p.1 p.2 := by
  simp only [List.forall_mem_cons]
  exact ⟨.b _ bt.i0 bt.i1 .typ, .b _ bt.s0 bt.s1 .typ, nofun⟩
theorem scan {G : Glob} {fr : List Env} {A : Around} {F : Fz} {H : Hp} {f : Addr} {p : Parts} {P : Addr → String → List V → Bool → Fz → Hp → Prop} {Q : V → Fz → Hp → Prop} {T : Str} {i : Nat} (hS : ScanF F f p) (hA : Ok fr A 1) (hT : T.cps.size ≤ 1000000) (bt : BtS G) {c : Nat} (hc : T.cps[i]? = some c)
    (h : ScQ G fr A F H f p T i Q P (lexL (T.cps.toList.drop i))) : Cl G fr A F H (.ref f) [.str T, .int i] Q (Thr0 P) := by
  obtain ⟨qual, clos, pat, hf, h1, h2, h3, h4, h5, h6, h7, h8, h9, h10, h11, h12, hb, o1, o2, o3, o5⟩ := hS
  obtain ⟨name, params, body, scope, pos, hst, hf⟩ := hf
  cases Option.some.inj hst.symm
  have hTs : T.length ≤ sizeLine := Nat.le_trans (show T.cps.size ≤ 1000000 from hT) (by decide)
  have hfl : ∀ q ∈ scF f p, ∃ c, clos.lookup q.1 = some c ∧ CellF F c q.2 := by
    simp only [scF, List.forall_mem_cons]
    exact ⟨h3.out, h5.out, h1.out, h12.out, h9.out, h10.out, h11.out, h2.out, h4.out, h6.out, h7.out, h8.out, nofun⟩
  refine Cl.dn ?_
  clear h1 h2 h3 h4 h5 h6 h7 h8 h9 h10 h11 h12
  refine fn_e bt.gl hf hfl hA ["string", "idx"] ["nextchar", "m", "integer", "frac", "exp", "res"] rfl (by decide +kernel) (fun doc pm c ctv vs hv => by obtain ⟨a, b, rfl⟩ := len2 hv; rfl) fun L A' cdv hD hA ok => ?_
  refine W_try 40 (outer := fr) (fun _ _ _ _ _ _ => False) ok hA.frames rfl (fun _ => sub_str (by lia) (by have := (Array.getElem?_eq_some_iff.mp hc).1; lia) (c := c) (by rw [Int.toNat_natCast]; exact hc) ⟨by assumption, ok, ?_⟩) fun _ _ _ _ _ _ _ hq => hq.elim
  refine .run (bifW.sp (fun hb1 => ?_) fun hb1 => ?_)
  · rw [lex_str hc hb1] at h
    exact .run (kCall.of o3 (Cl.part ok rfl hD rfl (.refl F) h fun x F2 H2 _ _ q => q))
  refine .run (bifW.sp (fun hb2 => ?_) fun hb2 => ?_)
  · rw [lex_obj hc hb2] at h
    exact .run (kCall.of o1 (Cl.part ok rfl hD rfl (.refl F) h fun x F2 H2 _ _ q => q))
  refine .run (bifW.sp (fun hb3 => ?_) fun hb3 => ?_)
  · rw [lex_arr hc hb3] at h
    exact .run (kCall.of o2 (Cl.part ok rfl hD rfl (.refl F) h fun x F2 H2 _ _ q => q))
  refine .t (chr c "n" && word T i "null") (bifW.sp (fun e => .str T rfl hTs rfl (bifW.tb (by rw [show chr c "n" = true from e]; rfl))) fun e => .mk (by rw [show chr c "n" = false from e]; rfl)) (bifW.sp (fun hw => ?_) fun hw0 => ?_)
  · rw [lex_null hc hw] at h
    exact h.elim
  refine .t (chr c "t" && word T i "true") (bifW.sp (fun e => .str T rfl hTs rfl (bifW.tb (by rw [show chr c "t" = true from e]; rfl))) fun e => .mk (by rw [show chr c "t" = false from e]; rfl)) (bifW.sp (fun hw => ?_) fun hw1 => ?_)
  · rw [lex_tru hc hw] at h
    exact h.elim
  refine .t (chr c "f" && word T i "false") (bifW.sp (fun e => .str T rfl hTs rfl (bifW.tb (by rw [show chr c "f" = true from e]; rfl))) fun e => .mk (by rw [show chr c "f" = false from e]; rfl)) (bifW.sp (fun hw => ?_) fun hw2 => ?_)
  · rw [lex_fls hc hw] at h
    exact h.elim
  have hi := (Array.getElem?_eq_some_iff.mp hc).1
  refine ⟨hb.ok, match_num hb hi (Nat.le_trans hT (by decide)) (fun hno => ⟨ok, ?_⟩) fun q hq m F1 l1 hm => ⟨ok.mono l1, ?_⟩⟩
  · refine .run ?_
    refine .t (chr c "N" && word T i "NaN") (bifW.sp (fun e => .str T rfl hTs rfl (bifW.tb (by rw [show chr c "N" = true from e]; rfl))) fun e => .mk (by rw [show chr c "N" = false from e]; rfl)) (bifW.sp (fun hw => ?_) fun hw3 => ?_)
    · rw [lex_con rfl rfl hc hno hw (.inl ⟨rfl, rfl⟩)] at h
      exact h.elim
    refine .t (chr c "I" && word T i "Infinity") (bifW.sp (fun e => .str T rfl hTs rfl (bifW.tb (by rw [show chr c "I" = true from e]; rfl))) fun e => .mk (by rw [show chr c "I" = false from e]; rfl)) (bifW.sp (fun hw => ?_) fun hw4 => ?_)
    · rw [lex_con rfl rfl hc hno hw (.inr (.inl ⟨rfl, rfl⟩))] at h
      exact h.elim
    refine .t (chr c "-" && word T i "-Infinity") (bifW.sp (fun e => .str T rfl hTs rfl (bifW.tb (by rw [show chr c "-" = true from e]; rfl))) fun e => .mk (by rw [show chr c "-" = false from e]; rfl)) (bifW.sp (fun hw => ?_) fun hw5 => ?_)
    · rw [lex_con rfl rfl hc hno hw (.inr (.inr ⟨rfl, rfl⟩))] at h
      exact h.elim
    rw [lex_stop hc ⟨hb1, hb2, hb3, hw0, hw1, hw2, hno, hw3, hw4, hw5⟩] at h
    refine W_raise 40 ok hA.handled (stop_new1 fun x2 => ⟨ok, x2, _, _, _, rfl, .hd, owsi_raise, kE.thr rfl (Thr0.mk .hd (h x2 true))⟩)
  · obtain ⟨n, hn, hlx⟩ := lex_num hc hq
    rw [hlx] at h
    have ok1 := ok.mono l1
    have hq2 := intAt_lt hq
    have hs2 := signAt_le (T := T.cps) (lim := T.cps.size) (p := i)
    have N := num_parts (by lia) hn
    have i1 : (fracAt T.cps T.cps.size q).isSome = ((fracAt T.cps T.cps.size q).map fun e => (q, e)).isSome := by cases fracAt T.cps T.cps.size q <;> rfl
    have i2 : (expAt T.cps T.cps.size (fracEnd T.cps T.cps.size q)).isSome = ((expAt T.cps T.cps.size (fracEnd T.cps T.cps.size q)).map fun e => (fracEnd T.cps T.cps.size q, e)).isSome := by cases expAt T.cps T.cps.size (fracEnd T.cps T.cps.size q) <;> rfl
    rw [i1, i2] at h
    clear hlx hn hq2 hs2 i1 i2 hq
    generalize (fracAt T.cps T.cps.size q).map (fun e => (q, e)) = o1' at *
    generalize (expAt T.cps T.cps.size (fracEnd T.cps T.cps.size q)).map (fun e => (fracEnd T.cps T.cps.size q, e)) = o2' at *
    generalize expEnd T.cps T.cps.size (fracEnd T.cps T.cps.size q) = e2 at *
    obtain ⟨g1, g2, rfl, hz, ht⟩ := N
    have s1 := len_le (T := T) (x := i) (y := q)
    have s2 := gtx_len (T := T) (o := o1')
    have s3 := gtx_len (T := T) (o := o2')
    refine .run ⟨"re.Match", _, ⟨plainAttrs_Match, slot_groups, type_groups⟩, hm.ty, groups hm hTs ⟨ok1, ?_⟩⟩
    refine .t (o1'.isSome || o2'.isSome) (trW_grp ok1 hT g1 (bifW.sp (fun e => .mk (by rw [e]; rfl)) fun e => trW_grp ok1 hT g2 (bifW.sp (fun e2 => .mk (by rw [e, e2]; rfl)) fun e2 => .mk (by rw [e, e2]; rfl)))) (bifW.sp (fun hx => ?_) fun hx => ?_)
    · rw [if_pos hx] at h
      exact (show False from h).elim
    · rw [if_neg (by rw [hx]; exact Bool.false_ne_true)] at h
      rw [hz hx] at *
      refine kCall.of (o5.mono l1) (Cl.part ok rfl hD rfl l1 h fun x F2 H2 l2 ok q => ?_)
      exact .run ⟨"re.Match", _, ⟨plainAttrs_Match, slot_end, type_end⟩, (hm.mono l2).ty, mend (hm.mono l2) ⟨ok, q⟩⟩
noncomputable def itN : Bool → String
  | true => "tuple_iterator"
  | false => "list_iterator"
section
variable {prog : Program} {w : World} {A : Around} {E : Value → Shared → Prop} {s : Shared}
end
section
variable {G : Glob} {fr : List Env} {A : Around} {F K : Fz} {H H' R : Hp} {s : Shared} {E : Value → Shared → Prop}
end
noncomputable abbrev zO (f0 : Value) (TI TO : Addr) : Obj := { cls := .type "zip", dict := none, data := .fields #[f0, .bool false, .bool false, .ref TI, .ref TO], slots := #[] }
noncomputable abbrev pO (a b : Value) : Obj := { cls := .type "tuple", data := .seq #[a, b] }
noncomputable abbrev ZH (f0 : Value) (o : AO) (c : String) (z TI TO i1 i2 a1 a2 : Addr) (k1 k2 : Nat) : Hp :=
  [(z, .raw (zO f0 TI TO)), (TI, .raw (pO (.ref i1) (.ref i2))), (TO, o), (i1, .flds c #[.ref a1, .int (k1 : Nat) 0]), (i2, .flds c #[.ref a2, .int (k2 : Nat) 0])]
noncomputable abbrev anyP : AO := .such fun o => ∃ a b, o = pO a b
section
variable {G : Glob} {fr : List Env} {A : Around} {F K : Fz} {H H' R : Hp} {s : Shared} {E : Value → Shared → Prop} {b : Bool} {z TI TO i1 i2 a1 a2 : Addr}
end
noncomputable abbrev itO (b : Bool) (a : Addr) : Obj := { cls := .type (itN b), data := .fields #[.ref a, .int 0 0] }
section
variable {G : Glob} {fr : List Env} {A : Around} {F : Fz} {H : Hp} {E : Value → Fz → Hp → Prop} {Q : V → Fz → Hp → Prop} {b : Bool} {l1 l2 : List V}
end
section
variable {prog : Program} {w : World} {A : Around} {E : Value → Shared → Prop}
end
section
variable {G : Glob} {fr : List Env} {A : Around} {env : Env} {F : Fz} {H : Hp} {E : Value → Fz → Hp → Prop} {Q : V → Fz → Hp → Prop}
end
section
variable {G : Glob} {fr : List Env} {A : Around} {F : Fz} {H H' : Hp} {E : Value → Fz → Hp → Prop} {Q : V → Fz → Hp → Prop}
end
section
variable {G : Glob} {fr : List Env} {A : Around} {F : Fz} {H H' : Hp} {E : Value → Fz → Hp → Prop} {Q : V → Fz → Hp → Prop}
theorem list_copy {x : V} {l : List V} (hx : LstIs H x l) (hl : l.length ≤ sizeLine) (h : Q (.lst l) F H) : Cl G fr A F H (.typ "list") [x] Q E := cl_t1 fun K m v hv R s hR => by
  obtain ⟨a, vs, rfl, ⟨o, ho, c1, n, d1⟩, q1⟩ := hx.is hR hv
  refine call_list_seq a (.inl rfl) ho c1 d1 (fun h' c' hk hg => ?_) (by rw [q1.toArr]; exact hl)
  obtain ⟨le, r⟩ := hR.newF (tk := s.toks) (dr := s.drawn) hk (none_at_size s.heap) hg
  exact ⟨_, H, le, r, _, .lst (vs := vs.toList) (n := c') (Fz.add_self _ _ _) rfl rfl q1.length (q1.mono le).get, F, m.trans le, h⟩
end
section
variable {G : Glob} {fr : List Env} {A : Around} {F : Fz} {H H' : Hp} {E : Value → Fz → Hp → Prop} {Q : V → Fz → Hp → Prop}
end
section
variable {G : Glob} {fr : List Env} {A : Around} {F : Fz} {H H' : Hp} {E : Value → Fz → Hp → Prop} {Q : V → Fz → Hp → Prop}
noncomputable abbrev viewO (a : Addr) : Obj := { cls := .type "dict_values", data := .fields #[.ref a] }
end
noncomputable def selB (start stop step : Int) (i : Nat) : Bool :=
  if step > 0 then start ≤ i && i < stop && (i - start) % step == 0
  else stop < i && i ≤ start && (start - i) % (-step) == 0
noncomputable def cutB (start stop step : Int) (xs : Array Value) : Array Value := (xs.toList.zipIdx.filterMap fun (x, k) => if selB start stop step k then none else some x).toArray
section
variable {G : Glob} {fr : List Env} {A : Around} {F : Fz} {H H' : Hp} {E : Value → Shared → Prop} {s : Shared}
end
section
variable {C : Cx} {ρ : Rho} {F : Fz} {H : Hp} {Q : QF}
noncomputable abbrev cpC (C : Cx) (scope : Scope) (cl : List (Str × Addr)) (a : Addr) : Cx := { C with env := compEnvC scope cl a C.env, fl := [], E := No }
theorem W_turn (n : Nat) {scope : Scope} {cl : List (Str × Addr)} {nms : List Str} {x : Str} {px : Pos} {elt : Expr} {l : List V} {f : Nat → V} (ok : CxOk C F) (hk : okScope (relabel scope C.env) = true)
    (h : ∀ k y a ρ, l[k]? = some y → ρ.map (·.1) = nms → CxOk (cpC C scope cl a) F → asW (cpC C scope cl a) (.Name x px) y ρ F H fun _ ρ F' H' => W (cpC C scope cl a) n (.e elt ρ F' H' fun z ρ F5 H5 => z = f k ∧ F5 = F ∧ H5 = H ∧ ρ.map (·.1) = nms)) :
    MapTurn C.G C.fr C.A (fun a => compEnvC scope cl a C.env) nms (.Name x px) elt l F H f := fun k y a ρ hy hρ => by
  have ok2 : CxOk (cpC C scope cl a) F := ⟨of_decide_eq_true (and_l (and_r hk)), ok.glob, ok.blt, and_r (and_r hk), noted_no, ok.hd, ok.gls, nofun⟩
  refine fun K m v hv R s hR => wpAny_mono (asW.sound ok2 (h k y a ρ hy hρ ok2) K m v hv R s hR) (fun _ s1 hq => ?_) fun _ _ q => q
  obtain ⟨F', H', le, rep, F1, m1, ρ1, H1, rfl, ok3, q⟩ := hq
  refine ⟨F', _, le, rep, F1, m1, ?_⟩
  exact (W.sound n).k ok3 q fun z ρ F5 H5 ok q => ⟨q.2.1, _, _, .hd, q.2.2.2, q.1, q.2.2.1⟩
theorem W_mapE (n : Nat) {scope : Scope} {cl : List (Str × Addr)} {x : Str} {px pos : Pos} {elt iter : Expr} {Q : QV} (nms : List Str) (ok : CxOk C F) (hclos : closureFor scope C.env = pure cl)
    (h : W C n (.e iter ρ F H fun z ρ F1 H1 => ∃ l, Iterable C.G C.A z l ∧ l.length ≤ sizeLine ∧ ∃ f : Nat → V, MapTurn C.G C.fr C.A (fun a => compEnvC scope cl a C.env) nms (.Name x px) elt l F1 (fm C ρ H1) f ∧ Q (.lst ((List.range l.length).map f)) ρ F1 H1))
    (hnd : nms.Nodup) (hcell : (scope.names.all fun x => x.2 != .cell) = true) (hkind : scope.kind = .function) (hnames : (scope.names.all fun x => (x.2 != .local) || decide (scope.names.lookup x.1 = some .local)) = true)
    (hs : ∀ z, foldedSetIterable iter C.env z = pure z := by intro _; rfl) : SmE C (.ListComp elt [⟨.Name x px, iter, [], 0⟩] scope pos) ρ F H Q :=
  Ev_map nms hclos ((W.sound n).k ok h fun z ρ F1 H1 ok q => by
    obtain ⟨l, h1, h2, f, h3, h4⟩ := q
    exact ⟨l, h1, h2, f, h3, _, _, rfl, ok, h4⟩) hnd hcell hkind hnames hs
end
section
variable {prog : Program} {w : World} {A : Around} {E : Value → Shared → Prop} {s : Shared} {X N I : String}
end
section
variable {G : Glob} {fr : List Env} {A : Around} {env : Env} {F K : Fz} {H R : Hp} {s : Shared} {E : Value → Fz → Hp → Prop} {Q : V → Fz → Hp → Prop}
end
section
variable {G : Glob} {fr : List Env} {A : Around} {F : Fz} {H : Hp} {Q : V → Fz → Hp → Prop} {n : Nat}
end
section
variable {G : Glob} {fr : List Env} {A : Around} {env : Env} {F K : Fz} {H H1 R : Hp} {s : Shared} {E : Value → Fz → Hp → Prop} {Q : V → Fz → Hp → Prop}
end
section
variable {G : Glob} {fr : List Env} {A : Around} {env : Env} {F K : Fz} {H R : Hp} {s : Shared} {E : Value → Fz → Hp → Prop} {Q : V → Fz → Hp → Prop}
end
section
variable {C : Cx} {ρ : Rho} {F : Fz} {H : Hp} {w : WK → Prop}
end
section
variable {G : Glob} {fr : List Env} {A : Around} {F : Fz} {H H' : Hp} {E : Value → Fz → Hp → Prop} {Q : V → Fz → Hp → Prop}
noncomputable def strIs (i : Str) : Value → Bool
  | .str a _ => a == i
  | _ => false
theorem RVs.all_str {F : Fz} {vs : List Value} {zs : List Str} (h : RVs F vs (zs.map .str)) {P : Value → Prop} (k : ∀ z ∈ zs, ∀ t, P (.str z t)) : ∀ v ∈ vs, P v := by
  intro v hv
  induction vs generalizing zs with
  | nil => cases hv
  | cons w vs ih =>
    cases zs with
    | nil => cases h
    | cons z zs =>
      cases h with
      | cons h t =>
        rcases List.mem_cons.mp hv with rfl | hv
        · exact h.e_str (P := P) fun t => k z (.head _) t
        · exact ih t (fun z hz => k z (.tail _ hz)) hv
theorem RVs.any_str {F : Fz} {i : Str} {vs : List Value} {zs : List Str} (h : RVs F vs (zs.map .str)) : vs.any (strIs i) = zs.any (· == i) := by
  induction vs generalizing zs with
  | nil =>
    cases zs with
    | nil => rfl
    | cons => cases h
  | cons v vs ih =>
    cases zs with
    | nil => cases h
    | cons z zs =>
      cases h with
      | cons h t =>
        have e : strIs i v = (z == i) := h.e_str (P := fun v => strIs i v = (z == i)) fun t => rfl
        rw [List.any_cons, List.any_cons, ih t, e]
end
noncomputable def TabI (F : Fz) (qs : List (Pos × Str)) (l : List (Nat × Nat × Addr)) : Prop := ∀ p ∈ qs, ∀ c, tabFind p.1 l = some c → CodeF F (.ref c) p.2
theorem TabI.nil {F : Fz} {qs : List (Pos × Str)} : TabI F qs [] := nofun
theorem TabI.mono {F F' : Fz} {qs : List (Pos × Str)} {l : List (Nat × Nat × Addr)} (le : F.le F') (h : TabI F qs l) : TabI F' qs l := fun p hp c e => (h p hp c e).mono le
theorem tabFind_snoc (p : Pos) (x : Nat × Nat × Addr) : ∀ l, tabFind p (l ++ [x]) = match tabFind p l with | some c => some c | none => tabFind p [x]
  | [] => rfl
  | t :: l => by
    show (if t.1 = p.line ∧ t.2.1 = p.col then some t.2.2 else tabFind p (l ++ [x])) = match (if t.1 = p.line ∧ t.2.1 = p.col then some t.2.2 else tabFind p l) with | some c => some c | none => tabFind p [x]
    split
    · rfl
    · exact tabFind_snoc p x l
noncomputable def atPos (p q : Pos) : Bool := decide (p.line = q.line) && decide (p.col = q.col)
theorem TabI.snoc {F : Fz} {qs : List (Pos × Str)} {l : List (Nat × Nat × Addr)} {pos : Pos} {q : Str} {c : Addr} (h : TabI F qs l) (hq : (qs.all fun p => !atPos p.1 pos || p.2 == q) = true) (hc : CodeF F (.ref c) q) : TabI F qs (l ++ [(pos.line, pos.col, c)]) := fun p hp d e => by
  rw [tabFind_snoc] at e
  cases e2 : tabFind p.1 l with
  | some c2 => rw [e2] at e; cases e; exact h p hp _ e2
  | none =>
    rw [e2] at e
    have e : (if pos.line = p.1.line ∧ pos.col = p.1.col then some c else none) = some d := e
    split at e
    · rename_i hp2
      cases e
      have := List.all_eq_true.mp hq p hp
      have ha : atPos p.1 pos = true := by unfold atPos; rw [hp2.1, hp2.2]; simp
      rw [ha] at this
      have : (p.2 == q) = true := this
      rw [eq_of_beq this]; exact hc
    · cases e
section
variable {G : Glob} {fr : List Env} {A : Around} {env : Env} {F K : Fz} {H R : Hp} {s : Shared} {E : Value → Fz → Hp → Prop}
theorem Ex_FunctionDefT {name : Str} {params : Arguments} {body : List Stmt} {scope : Scope} {pos : Pos} {c P : Addr} {l : List (Nat × Nat × Addr)} {H1 : Hp} {clos : List (Str × Addr)} {qs : List (Pos × Str)} {Q : FV → Fz → Hp → Prop}
    (hcode : env.code = .ref c) (hC : CodeOk F c P) (hB : BOk G P) (hrem : Rem H P (.raw (tabObj (tabOf l))) H1) (T : TabI F qs l) (hmem : (pos, qualnameIn env name name) ∈ qs) (hq : (qs.all fun p => !atPos p.1 pos || p.2 == qualnameIn env name name) = true) (hcl : closureFor scope env = pure clos)
    (h : ∀ f l' F', F.le F' → FnF F' f name (qualnameIn env name name) params body scope clos → TabI F' qs l' → Sto G fr A env F' ((P, .raw (tabObj (tabOf l'))) :: H1) name (.ref f) (Q .next) E)
    (hd0 : params.defaults = []) (hk0 : params.kw_defaults = []) (ha : annTrees params none env = []) (hg : env.globals = mainGlobals) :
    Ex G fr A F H (exec (.FunctionDef name params body [] none [] scope none name pos) env) Q E := by
  intro K m R s hR
  have hP : s.heap.get? P = some (tabObj (tabOf l)) := by
    obtain ⟨_, o, ho, hro⟩ := (hR.perm (hrem.perm.append_right R)).own _ (.head _)
    have hro' : o = tabObj (tabOf l) := hro
    subst hro'; exact ho
  cases hf : tabFind pos l with
  | none =>
    refine nestDef_K hd0 hk0 ha (makeFunction_K (mg := G.mg) hcl hg hR.glob.1 hcode ((hC.mono m) _ hR.fz) hP (tab_triples l) (by rw [tab_among, hf]; rfl) hB.1 (hB.2 _ fun a o e => hR.fz a o (hR.base a o e)) fun c' ctv doc h' tk he h1 h2 hc hP' => ?_)
    obtain ⟨F', le, hfn, hcf, r⟩ := made (o := fnMade name (qualnameIn env name name) params body scope clos doc ((G.mg "__name__").getD .none) c' ctv) (tk := tk) rfl hR hrem he h1 h2 hc hP'
    exact (h h'.objs.size _ F' (m.trans le) ⟨doc, _, c', ctv, hfn, hcf⟩ ((T.mono (m.trans le)).snoc hq hcf) F' (.refl F') _ .ref).seq r le fun _ K2 H2 s2 l2 r2 hq => by
      obtain ⟨F2, m2, q⟩ := hq
      exact upPQ (le.trans l2) (fret r2 .next m2 q)
  | some c' =>
    refine nestDef_K hd0 hk0 ha (makeFunction_hit (mg := G.mg) hcl hg hR.glob.1 hcode ((hC.mono m) _ hR.fz) hP (tab_triples l) (by rw [tab_among, hf]; rfl) (hB.2 _ fun a o e => hR.fz a o (hR.base a o e)) fun ctv doc h' tk he h1 => ?_)
    obtain ⟨le, r⟩ := hR.newF (h' := h'.push (fnMade name (qualnameIn env name name) params body scope clos doc ((G.mg "__name__").getD .none) c' ctv)) (tk := tk) (dr := s.drawn) (fun b o e => Heap.get?_push_of_some _ (he b o e)) (Heap.get?_none_of_le h1) (Heap.get?_push_size _ rfl)
    have r := r.perm (hrem.perm.append_right R)
    exact (h h'.objs.size l _ (m.trans le) ⟨doc, _, c', ctv, Fz.add_self _ _ _, ((T.mono (m.trans le)) _ hmem c' hf)⟩ (T.mono (m.trans le)) _ (.refl _) _ .ref).seq r le fun _ K2 H2 s2 l2 r2 hq => by
      obtain ⟨F2, m2, q⟩ := hq
      exact upPQ (le.trans l2) (fret r2 .next m2 q)
theorem Ev_LambdaT {params : Arguments} {body : Expr} {scope : Scope} {pos : Pos} {c P : Addr} {l : List (Nat × Nat × Addr)} {H1 : Hp} {clos : List (Str × Addr)} {qs : List (Pos × Str)} {Q : V → Fz → Hp → Prop}
    (hcode : env.code = .ref c) (hC : CodeOk F c P) (hB : BOk G P) (hrem : Rem H P (.raw (tabObj (tabOf l))) H1) (T : TabI F qs l) (hmem : (pos, env.qual ++ "<lambda>") ∈ qs) (hq : (qs.all fun p => !atPos p.1 pos || p.2 == env.qual ++ "<lambda>") = true) (hcl : closureFor scope env = pure clos)
    (h : ∀ f l' F', F.le F' → LamF F' f "<lambda>" (env.qual ++ "<lambda>") params body scope clos → TabI F' qs l' → Q (.ref f) F' ((P, .raw (tabObj (tabOf l'))) :: H1))
    (hdef : defaultsOf params env = ([], [])) (hg : env.globals = mainGlobals) :
    Ev G fr A F H (eval (.Lambda params body scope pos) env) Q E := by
  intro K m R s hR
  have hP : s.heap.get? P = some (tabObj (tabOf l)) := by
    obtain ⟨_, o, ho, hro⟩ := (hR.perm (hrem.perm.append_right R)).own _ (.head _)
    have hro' : o = tabObj (tabOf l) := hro
    subst hro'; exact ho
  cases hf : tabFind pos l with
  | none =>
    refine kla_eval hdef (kla_makeFunction (mg := G.mg) hcl hg hR.glob.1 hcode ((hC.mono m) _ hR.fz) hP (tab_triples l) (by rw [tab_among, hf]; rfl) hB.1 (hB.2 _ fun a o e => hR.fz a o (hR.base a o e)) fun c' ctv h' tk he h1 h2 hc hP' => ?_)
    obtain ⟨F', le, hfn, hcf, r⟩ := made (o := kla_obj "<lambda>" (env.qual ++ "<lambda>") params body scope clos ((G.mg "__name__").getD .none) c' ctv) (tk := tk) rfl hR hrem he h1 h2 hc hP'
    exact ⟨F', _, le, r, _, .ref, F', .refl F', h h'.objs.size _ F' (m.trans le) ⟨_, c', ctv, hfn, hcf⟩ ((T.mono (m.trans le)).snoc hq hcf)⟩
  | some c' =>
    refine kla_eval hdef (kla_makeFunctionHit (mg := G.mg) hcl hg hR.glob.1 hcode ((hC.mono m) _ hR.fz) hP (tab_triples l) (by rw [tab_among, hf]; rfl) (hB.2 _ fun a o e => hR.fz a o (hR.base a o e)) fun ctv h' tk he h1 => ?_)
    obtain ⟨le, r⟩ := hR.newF (h' := h'.push (kla_obj "<lambda>" (env.qual ++ "<lambda>") params body scope clos ((G.mg "__name__").getD .none) c' ctv)) (tk := tk) (dr := s.drawn) (fun b o e => Heap.get?_push_of_some _ (he b o e)) (Heap.get?_none_of_le h1) (Heap.get?_push_size _ rfl)
    exact ⟨_, _, le, r.perm (hrem.perm.append_right R), _, .ref, _, .refl _, h h'.objs.size l _ (m.trans le) ⟨_, c', ctv, Fz.add_self _ _ _, ((T.mono (m.trans le)) _ hmem c' hf)⟩ (T.mono (m.trans le))⟩
end
section
variable {C : Cx} {ρ : Rho} {F : Fz} {H H1 : Hp}
theorem W_defT {name : Str} {params : Arguments} {body : List Stmt} {scope : Scope} {pos : Pos} {c P : Addr} {l : List (Nat × Nat × Addr)} {clos : List (Str × Addr)} {qs : List (Pos × Str)} {Q : QF} (ok : CxOk C F)
    (hcode : C.env.code = .ref c) (hC : CodeOk F c P) (hB : BOk C.G P) (hrem : Rem H P (.raw (tabObj (tabOf l))) H1) (T : TabI F qs l) (hmem : (pos, qualnameIn C.env name name) ∈ qs) (hq : (qs.all fun p => !atPos p.1 pos || p.2 == qualnameIn C.env name name) = true) (hcl : closureFor scope C.env = pure clos)
    (hd0 : params.defaults = []) (hk0 : params.kw_defaults = []) (ha : annTrees params none C.env = [])
    (h : ∀ f l' F', F.le F' → FnF F' f name (qualnameIn C.env name name) params body scope clos → TabI F' qs l' → CxOk C F' → stoW C name (.ref f) ρ F' ((P, .raw (tabObj (tabOf l'))) :: H1) Q) :
    SmS C (.FunctionDef name params body [] none [] scope none name pos) ρ F H Q :=
  Ex_FunctionDefT hcode hC hB (.tl hrem) T hmem hq hcl (fun f l' F' le hf ht K m v hv R s hR => by
    have r := stoW.sound (ok.mono le) (h f l' F' le hf ht (ok.mono le)) K m v hv R s (hR.perm (.swap ..))
    exact r) hd0 hk0 ha ok.glob
theorem W_lamT {params : Arguments} {body : Expr} {scope : Scope} {pos : Pos} {c P : Addr} {l : List (Nat × Nat × Addr)} {clos : List (Str × Addr)} {qs : List (Pos × Str)} {Q : QV} (ok : CxOk C F)
    (hcode : C.env.code = .ref c) (hC : CodeOk F c P) (hB : BOk C.G P) (hrem : Rem H P (.raw (tabObj (tabOf l))) H1) (T : TabI F qs l) (hmem : (pos, C.env.qual ++ "<lambda>") ∈ qs) (hq : (qs.all fun p => !atPos p.1 pos || p.2 == C.env.qual ++ "<lambda>") = true) (hcl : closureFor scope C.env = pure clos)
    (hdef : defaultsOf params C.env = ([], []))
    (h : ∀ f l' F', F.le F' → LamF F' f "<lambda>" (C.env.qual ++ "<lambda>") params body scope clos → TabI F' qs l' → CxOk C F' → Q (.ref f) ρ F' ((P, .raw (tabObj (tabOf l'))) :: H1)) :
    SmE C (.Lambda params body scope pos) ρ F H Q :=
  Ev.permQ (Ev_LambdaT hcode hC hB (.tl hrem) T hmem hq hcl (fun f l' F' le hf ht => ⟨_, .swap .., ρ, _, rfl, ok.mono le, h f l' F' le hf ht (ok.mono le)⟩) hdef ok.glob)
end
theorem scan_outer {G : Glob} {fr : List Env} {A : Around} {F : Fz} {H : Hp} {g f m : Addr} {P : Addr → String → List V → Bool → Fz → Hp → Prop} {Q : V → Fz → Hp → Prop} {T i : V} (hO : OuterF F g f m) (hk : KOk F (.ref f)) (hA : Ok fr A 1)
    (h : ClD G fr A F H (.ref f) [T, i] (fun x => Emp m (Q x)) (Thr0 fun x c a b => Emp m (P x c a b))) : Cl G fr A F H (.ref g) [T, i] Q (Thr0 P) := by
  obtain ⟨qual, clos, hf, h1, h2⟩ := hO
  obtain ⟨name, params, body, scope, pos, hst, hf⟩ := hf
  cases Option.some.inj hst.symm
  have hfl : ∀ q ∈ ([("_scan_once", .ref f), ("memo", .ref m)] : List (Str × V)), ∃ c, clos.lookup q.1 = some c ∧ CellF F c q.2 := by
    simp only [List.forall_mem_cons]
    exact ⟨h1.out, h2.out, nofun⟩
  refine Cl.dnE (fn_e (gl := []) nofun hf hfl hA ["string", "idx"] [] rfl (by decide +kernel) (fun doc pm c ctv vs hv => by obtain ⟨a, b, rfl⟩ := len2 hv; rfl) fun L A' cdv hD hA ok => ?_)
  refine W_finally 40 (outer := fr) (fun x c a b F1 H1 => F.le F1 ∧ Hd1 (L, .ns (mkRho ["string", "idx"] [T, i] [])) (Dn (Emp m (P x c a b))) F1 H1) rfl ok hA.frames rfl (fun ok1 => ?_) ?_
  · refine .run ⟨hk, (h _ _ hD).keepE.mono (fun x F2 H2 q => ?_) fun e F2 H2 q => ?_⟩
    · obtain ⟨le, F3, l3, l, H4, hu, hl, q⟩ := q
      have ok2 := ok.mono le
      have ok3 := ok1.mono le
      refine ⟨ok3, ⟨ok2.kind, ok2.glob, ok2.blt, ok2.dbg, noted_no, ok2.hd, ok2.gls, ok2.fls⟩, ?_⟩
      exact ⟨"dict", _, ⟨PySem.F.plainAttrs_dict, PySem.F.slot_dict_clear, PySem.F.type_dict_clear⟩, .dict (Has.of_upd hu), clear hu hl ⟨⟨ok2.kind, ok2.glob, ok2.blt, ok2.dbg, noted_no, ok2.hd, ok2.gls, ok2.fls⟩, rfl, ok2, F3, l3, q⟩⟩
    · obtain ⟨le, F3, l3, x, c, a, tb, b, H3, e1, e2, q⟩ := q
      refine kE.thrB rfl ⟨x, c, a, tb, b, H3, e1, e2, le, H3, rfl, F3, l3, q⟩
  · rintro x c a t b F1 H1 ⟨le, H2, rfl, F2, m2, l, H4, hu, hl, q⟩
    obtain ⟨c2, k2, h2⟩ := h2.out
    refine Ex_cons (Ex_Expr (Ev_method' (Ev_freeF k2 (h2.mono le) .mk) ⟨"dict", _, PySem.F.plainAttrs_dict, PySem.F.slot_dict_clear, PySem.F.type_dict_clear, .dict (.tl (.tl (.tl (Has.of_upd hu)))), .mk Evs_nil' (clear (.tl (.tl (.tl hu))) hl ⟨rfl, ?_⟩)⟩))
    exact Ex_nil ⟨rfl, _, rfl, _, _, _, .hd, .nil, F2, m2, q⟩
theorem W_cells {C : Cx} {ρ : Rho} {F : Fz} {H H1 : Hp} {st : Stmt} {cs : List Addr} {ys : List V} {Q : QF} (hr : RemC H cs ys H1) (ok : CxOk C F) (h : ∀ F', F.le F' → Cells F' cs ys → CxOk C F' → SmS C st ρ F' H1 Q) : SmS C st ρ F H Q := fun K m R s hR => by
  obtain ⟨K', le, r, hc⟩ := RemC.freeze (R := (C.env.locals, .ns ρ) :: R) hr (hR.perm List.perm_middle.symm)
  exact Ex.last (h _ (m.trans le) hc (ok.mono (m.trans le))) (.refl _) (r.perm List.perm_middle) le
noncomputable def posS : Option Stmt → Pos
  | some (.FunctionDef _ _ _ _ _ _ _ _ _ p) => p
  | _ => ⟨0, 0, 0, 0⟩
noncomputable def qsMk : List (Pos × Str) := [(posS (sub (stm 3) 11), "py_make_scanner.<locals>._scan_once"), (posS (sub (stm 3) 12), "py_make_scanner.<locals>.scan_once")]
theorem makeT {G : Glob} {fr : List Env} {A : Around} {F : Fz} {H1 : Hp} {a c P x D pat m : Addr} {args : List V} {cx : Bool} {ρ : List (Str × V)} {p : Parts} {E : Value → Fz → Hp → Prop} {Q : V → Fz → Hp → Prop} {l0 : List (Nat × Nat × Addr)}
    (hf : IsDefC F (stm 3) a c) (hC : CodeOk F c P) (hB : BOk G P) (hA : Ok fr A 1) (hN : G.mg (Str.ofString "NUMBER_RE") = some (.ref pat)) (hpat : PatF F pat)
    (hρ : CtxA ρ p) (hmm : p.mm = .ref m) (nb : noBlt p.po ∧ noBlt p.pa ∧ noBlt p.ps ∧ noBlt p.st ∧ noBlt p.pf ∧ noBlt p.pi ∧ noBlt p.pc ∧ noBlt p.oh ∧ noBlt p.oph)
    (ok : KOk F p.po ∧ KOk F p.pa ∧ KOk F p.ps ∧ KOk F p.pi) (T : TabI F qsMk l0)
    (h : ∀ F' g f mb l, F.le F' → TabI F' qsMk l → OuterF F' g f m → ScanF F' f { p with mb } → Q (.ref g) F' ((P, .raw (tabObj (tabOf l))) :: (x, .exc "Exception" args none (some D) cx) :: (D, .attrs ρ) :: H1)) :
    Cl G fr A F ((P, .raw (tabObj (tabOf l0))) :: (x, .exc "Exception" args none (some D) cx) :: (D, .attrs ρ) :: H1) (.ref a) [.ref x] Q E := by
  obtain ⟨n1, n2, n3, n4, n5, n6, n7, n8, n9⟩ := nb
  obtain ⟨o1, o2, o3, o6⟩ := ok
  obtain ⟨s, o, pm, hs, hf, hd, hc⟩ := hf
  obtain rfl := Option.some.inj hs.symm
  refine Cl.no (def_c (gl := [("NUMBER_RE", .ref pat)]) (by simp only [List.forall_mem_cons]; exact ⟨.g _ hN .ref, nofun⟩) hf hd hc hA [true] ["context"] ["scan_once"] ["strict", "parse_string", "parse_object", "parse_int", "parse_float", "parse_constant", "parse_array", "object_pairs_hook", "object_hook", "memo", "match_number", "_scan_once"] rfl (by decide +kernel) (fun vs hv => by obtain ⟨a, rfl⟩ := len1 hv; rfl) (by rfl) (by rfl) (fun n => rfl) (by decide) (by rfl) rfl fun L cs A' hcs hA ok => ?_)
  obtain ⟨c12, t0, rfl, h0⟩ := lenC hcs
  obtain ⟨c11, t1, rfl, h1⟩ := lenC h0
  obtain ⟨c10, t2, rfl, h2⟩ := lenC h1
  obtain ⟨c9, t3, rfl, h3⟩ := lenC h2
  obtain ⟨c8, t4, rfl, h4⟩ := lenC h3
  obtain ⟨c7, t5, rfl, h5⟩ := lenC h4
  obtain ⟨c6, t6, rfl, h6⟩ := lenC h5
  obtain ⟨c5, t7, rfl, h7⟩ := lenC h6
  obtain ⟨c4, t8, rfl, h8⟩ := lenC h7
  obtain ⟨c3, t9, rfl, h9⟩ := lenC h8
  obtain ⟨c2, t10, rfl, h10⟩ := lenC h9
  obtain ⟨c1, t11, rfl, h11⟩ := lenC h10
  obtain rfl := len0 h11
  refine get_exc (c := "") (.tl (.tl (.tl (.tl (.tl (.tl (.tl (.tl (.tl (.tl (.tl (.tl (.tl .hd))))))))))))) (.tl (.tl (.tl (.tl (.tl (.tl (.tl (.tl (.tl (.tl (.tl (.tl (.tl (.tl .hd)))))))))))))) hρ.po n1 nl1 ⟨ok, c10, none, _, rfl, .tl (.tl .hd), ok, ?_⟩
  refine get_exc (c := "") (.tl (.tl (.tl (.tl (.tl (.tl (.tl (.tl (.tl (.tl (.tl (.tl (.tl .hd))))))))))))) (.tl (.tl (.tl (.tl (.tl (.tl (.tl (.tl (.tl (.tl (.tl (.tl (.tl (.tl .hd)))))))))))))) hρ.pa n2 nl2 ⟨ok, c6, none, _, rfl, .tl (.tl (.tl (.tl (.tl (.tl .hd))))), ok, ?_⟩
  refine get_exc (c := "") (.tl (.tl (.tl (.tl (.tl (.tl (.tl (.tl (.tl (.tl (.tl (.tl (.tl .hd))))))))))))) (.tl (.tl (.tl (.tl (.tl (.tl (.tl (.tl (.tl (.tl (.tl (.tl (.tl (.tl .hd)))))))))))))) hρ.ps n3 nl3 ⟨ok, c11, none, _, rfl, .tl .hd, ok, ?_⟩
  refine get_match hpat fun mb F1 l1 hbd => ⟨ok.mono l1, c2, none, _, rfl, .tl (.tl (.tl (.tl (.tl (.tl (.tl (.tl (.tl (.tl .hd))))))))), ok.mono l1, ?_⟩
  have ok := ok.mono l1
  have hC := hC.mono l1
  have T := T.mono l1
  refine get_exc (c := "") (.tl (.tl (.tl (.tl (.tl (.tl (.tl (.tl (.tl (.tl (.tl (.tl (.tl .hd))))))))))))) (.tl (.tl (.tl (.tl (.tl (.tl (.tl (.tl (.tl (.tl (.tl (.tl (.tl (.tl .hd)))))))))))))) hρ.st n4 nl4 ⟨ok, c12, none, _, rfl, .hd, ok, ?_⟩
  refine get_exc (c := "") (.tl (.tl (.tl (.tl (.tl (.tl (.tl (.tl (.tl (.tl (.tl (.tl (.tl .hd))))))))))))) (.tl (.tl (.tl (.tl (.tl (.tl (.tl (.tl (.tl (.tl (.tl (.tl (.tl (.tl .hd)))))))))))))) hρ.pf n5 nl5 ⟨ok, c8, none, _, rfl, .tl (.tl (.tl (.tl .hd))), ok, ?_⟩
  refine get_exc (c := "") (.tl (.tl (.tl (.tl (.tl (.tl (.tl (.tl (.tl (.tl (.tl (.tl (.tl .hd))))))))))))) (.tl (.tl (.tl (.tl (.tl (.tl (.tl (.tl (.tl (.tl (.tl (.tl (.tl (.tl .hd)))))))))))))) hρ.pi n6 nl6 ⟨ok, c9, none, _, rfl, .tl (.tl (.tl .hd)), ok, ?_⟩
  refine get_exc (c := "") (.tl (.tl (.tl (.tl (.tl (.tl (.tl (.tl (.tl (.tl (.tl (.tl (.tl .hd))))))))))))) (.tl (.tl (.tl (.tl (.tl (.tl (.tl (.tl (.tl (.tl (.tl (.tl (.tl (.tl .hd)))))))))))))) hρ.pc n7 nl7 ⟨ok, c7, none, _, rfl, .tl (.tl (.tl (.tl (.tl .hd)))), ok, ?_⟩
  refine get_exc (c := "") (.tl (.tl (.tl (.tl (.tl (.tl (.tl (.tl (.tl (.tl (.tl (.tl (.tl .hd))))))))))))) (.tl (.tl (.tl (.tl (.tl (.tl (.tl (.tl (.tl (.tl (.tl (.tl (.tl (.tl .hd)))))))))))))) hρ.oh n8 nl8 ⟨ok, c4, none, _, rfl, .tl (.tl (.tl (.tl (.tl (.tl (.tl (.tl .hd))))))), ok, ?_⟩
  refine get_exc (c := "") (.tl (.tl (.tl (.tl (.tl (.tl (.tl (.tl (.tl (.tl (.tl (.tl (.tl .hd))))))))))))) (.tl (.tl (.tl (.tl (.tl (.tl (.tl (.tl (.tl (.tl (.tl (.tl (.tl (.tl .hd)))))))))))))) hρ.oph n9 nl9 ⟨ok, c5, none, _, rfl, .tl (.tl (.tl (.tl (.tl (.tl (.tl .hd)))))), ok, ?_⟩
  refine get_exc (c := "") (.tl (.tl (.tl (.tl (.tl (.tl (.tl (.tl (.tl (.tl (.tl (.tl (.tl .hd))))))))))))) (.tl (.tl (.tl (.tl (.tl (.tl (.tl (.tl (.tl (.tl (.tl (.tl (.tl (.tl .hd)))))))))))))) hρ.mm (by rw [hmm]; trivial) nl10 ⟨ok, c3, none, _, rfl, .tl (.tl (.tl (.tl (.tl (.tl (.tl (.tl (.tl .hd)))))))), ok, ?_⟩
  refine W_defT (qs := qsMk) ok rfl hC hB (.tl (.tl (.tl (.tl (.tl (.tl (.tl (.tl (.tl (.tl (.tl (.tl .hd)))))))))))) T (.head _) rfl rfl rfl rfl rfl fun f t1 F2 l2 hf2 T ok => ?_
  refine ⟨c1, none, _, rfl, .tl (.tl (.tl (.tl (.tl (.tl (.tl (.tl (.tl (.tl (.tl (.tl .hd))))))))))), ok, ?_⟩
  refine W_cells (cs := [c12, c11, c10, c9, c8, c7, c6, c5, c4, c3, c2, c1]) (.cons (.tl .hd) (.cons (.tl .hd) (.cons (.tl .hd) (.cons (.tl .hd) (.cons (.tl .hd) (.cons (.tl .hd) (.cons (.tl .hd) (.cons (.tl .hd) (.cons (.tl .hd) (.cons (.tl .hd) (.cons (.tl .hd) (.cons (.tl .hd) .nil)))))))))))) ok fun F3 l3 ec ok => ?_
  refine W_defT (qs := qsMk) ok rfl ((hC.mono l2).mono l3) hB .hd (T.mono l3) (.tail _ (.head _)) rfl rfl rfl rfl rfl fun g t2 F4 l4 hf3 T ok => ?_
  have m3 := l3.trans l4
  have m2 := l2.trans m3
  have m1 := l1.trans m2
  exact .run (h F4 g f mb _ m1 T ⟨_, _, ⟨_, _, _, _, _, rfl, hf3⟩, ⟨c1, rfl, (ec.mono l4).get 11 rfl rfl⟩, ⟨c3, rfl, hmm ▸ (ec.mono l4).get 9 rfl rfl⟩⟩
        ⟨_, _, pat, ⟨_, _, _, _, _, rfl, hf2.mono m3⟩, ⟨c10, rfl, (ec.mono l4).get 2 rfl rfl⟩, ⟨c6, rfl, (ec.mono l4).get 6 rfl rfl⟩, ⟨c11, rfl, (ec.mono l4).get 1 rfl rfl⟩, ⟨c2, rfl, (ec.mono l4).get 10 rfl rfl⟩, ⟨c12, rfl, (ec.mono l4).get 0 rfl rfl⟩, ⟨c8, rfl, (ec.mono l4).get 4 rfl rfl⟩, ⟨c9, rfl, (ec.mono l4).get 3 rfl rfl⟩, ⟨c7, rfl, (ec.mono l4).get 5 rfl rfl⟩, ⟨c4, rfl, (ec.mono l4).get 8 rfl rfl⟩, ⟨c5, rfl, (ec.mono l4).get 7 rfl rfl⟩, ⟨c3, rfl, (ec.mono l4).get 9 rfl rfl⟩, ⟨c1, rfl, (ec.mono l4).get 11 rfl rfl⟩, hbd.mono m2, o1.mono m1, o2.mono m1, o3.mono m1, o6.mono m1⟩)
section
variable {G : Glob} {fr : List Env} {A : Around} {env : Env} {F K : Fz} {H R : Hp} {s : Shared} {E : Value → Fz → Hp → Prop} {Q : V → Fz → Hp → Prop}
end
section
variable {C : Cx} {w : WK → Prop} {ρ : Rho} {F : Fz} {H : Hp}
inductive StF {α : Type} (R : α → Rho) (FF : α → Fz) (Hh : α → Hp) (P : α → Prop) : QU where
  | mk (a : α) (h : P a) : StF R FF Hh P (R a) (FF a) (Hh a)
theorem ForW.stF {α : Type} {tg : Expr} {body : List Stmt} {x : V} {Q : QF} {l : List V} (it : Iterable C.G C.A x l) (R : α → Rho) (FF : α → Fz) (Hh : α → Hp) (P : Nat → α → Prop) (a0 : α) (ok : CxOk C (FF a0)) (h0 : P 0 a0) (hF : ∀ k a, P k a → (FF a0).le (FF a))
    (step : ∀ k y a, l[k]? = some y → P k a → CxOk C (FF a) → ∀ Qn : QU, (∀ a, P (k + 1) a → Qn (R a) (FF a) (Hh a)) → asW C tg y (R a) (FF a) (Hh a) (kBody w body (kTurn Qn Q)))
    (fin : ∀ a, P l.length a → CxOk C (FF a) → Q .next (R a) (FF a) (Hh a)) : ForW C w tg body x (R a0) (FF a0) (Hh a0) Q :=
  .mk l it (fun k => StF R FF Hh (P k)) (.mk a0 h0) (fun k ρ F H q => by cases q with | mk a h => exact ok.mono (hF _ _ h)) (fun k y ρ F H hy q Qn hn => by
    cases q with
    | mk a h => exact step k y a hy h (ok.mono (hF _ _ h)) Qn fun a h => hn _ _ _ (.mk a h)) fun ρ F H q => by
    cases q with
    | mk a h => exact fin a h (ok.mono (hF _ _ h))
end
section
variable {G : Glob} {fr : List Env} {A : Around} {env : Env} {F : Fz} {H : Hp} {E : Value → Fz → Hp → Prop}
end
section
variable {C : Cx} {ρ : Rho} {F : Fz} {H : Hp} {Q : QF}
end
noncomputable def Dq (x : V) (dp : Nat) : Prop := ∃ d, VD x d ∧ d.canLay0 = true ∧ d.depth ≤ dp
noncomputable def Dqs (l : List V) (dp : Nat) : Prop := ∃ ds, VDs l ds ∧ PyData.canLayAll0 ds = true ∧ PyData.depthAll ds ≤ dp
theorem Dqs.nil {dp : Nat} : Dqs [] dp := ⟨[], .nil, rfl, Nat.zero_le _⟩
theorem Dqs.cons {x : V} {l : List V} {dp : Nat} (h : Dq x dp) (t : Dqs l dp) : Dqs (x :: l) dp := by
  obtain ⟨d, h1, h2, h3⟩ := h
  obtain ⟨ds, g1, g2, g3⟩ := t
  exact ⟨d :: ds, .cons h1 g1, by show (_ && _) = true; rw [h2, g2]; rfl, Nat.max_le.mpr ⟨h3, g3⟩⟩
theorem Dq.tup {l : List V} {dp : Nat} (h : Dqs l dp) : Dq (.tup l) (dp + 1) := by
  obtain ⟨ds, g1, g2, g3⟩ := h
  exact ⟨.tuple ds, .tup g1, g2, Nat.succ_le_succ g3⟩
theorem Dq.lst {l : List V} {dp : Nat} (h : Dqs l dp) : Dq (.lst l) (dp + 1) := by
  obtain ⟨ds, g1, g2, g3⟩ := h
  exact ⟨.list ds, .lst g1, g2, Nat.succ_le_succ g3⟩
theorem Dq.int {i : Int} {dp : Nat} : Dq (.int i) dp := ⟨.int i, .int, rfl, Nat.zero_le _⟩
theorem Dq.str {x : Str} {dp : Nat} (h : PyData.strOk x = true) : Dq (.str x) dp := ⟨.str x, .str, h, Nat.zero_le _⟩
theorem Dq.mono {x : V} {dp dp' : Nat} (h : Dq x dp) (hd : dp ≤ dp') : Dq x dp' := by obtain ⟨d, h1, h2, h5⟩ := h; exact ⟨d, h1, h2, Nat.le_trans h5 hd⟩
theorem ne_same {G : Glob} {fr : List Env} {A : Around} {F : Fz} {H : Hp} {E : Value → Fz → Hp → Prop} {Q : V → Fz → Hp → Prop} {x : V} {dp : Nat} (hx : Dq x dp) (hu : A.units + dp < cLine) (h : Q (.bool false) F H) : Op2 G fr A F H (compareOp .NotEq) x x Q E := fun K m v w hv hw R s hR => by
  obtain ⟨d, h1, h2, h3⟩ := hx
  obtain ⟨as, ra⟩ := reads_of hR.fz h1 hv
  obtain ⟨bs, rb⟩ := reads_of hR.fz h1 hw
  refine PySem.SeqAt.compareNe_reads ra rb h2 h2 (Nat.lt_of_le_of_lt (Nat.add_le_add_left (Nat.le_trans (Nat.min_le_left _ _) h3) _) hu) ?_
  rw [PySem.SeqAt.eqv_refl d h2]
  exact vret hR .bool m h
section
variable {G : Glob} {fr : List Env} {A : Around} {env : Env} {F K : Fz} {H R : Hp} {s : Shared} {E : Value → Fz → Hp → Prop} {Q : V → Fz → Hp → Prop}
inductive OwnL (H : Hp) : List Addr → List (List V) → Prop where
  | nil : OwnL H [] []
  | cons {a : Addr} {l : List V} {as : List Addr} {ls : List (List V)} (h : Has H a (.list l)) (t : OwnL H as ls) : OwnL H (a :: as) (l :: ls)
theorem readsAll_of {F : Fz} {h : Heap} (k : ∀ a o, F a = some o → h.get? a = some o) {l : List V} {vs : List Value} (hr : RVs F vs l) : ∀ {ds : List PyData}, VDs l ds → ∃ as, ReadsAll h vs ds as := by
  induction hr with
  | nil => intro ds hd; cases hd; exact ⟨_, .nil⟩
  | cons h2 t2 ih =>
    intro ds hd
    cases hd with
    | cons h1 t1 =>
      obtain ⟨as, r1⟩ := reads_of k h1 h2
      obtain ⟨bs, r2⟩ := ih t1
      exact ⟨_, .cons r1 r2⟩
theorem own_reads {dp : Nat} (hR : Rep G fr K (H ++ R) s) {as : List Addr} {ls : List (List V)} (ow : OwnL H as ls) : (∀ l ∈ ls, Dqs l dp) → ∃ ds : List PyData, VDs (ls.map .lst) ds ∧ PyData.canLayAll0 ds = true ∧ PyData.depthAll ds ≤ dp + 1 ∧ ∃ bs, ReadsAll s.heap (as.map .ref) ds bs := by
  induction ow with
  | nil => exact fun _ => ⟨[], .nil, rfl, Nat.zero_le _, _, .nil⟩
  | cons h t ih =>
    intro hd
    obtain ⟨ds, g1, g2, g3⟩ := hd _ (.head _)
    obtain ⟨es, i1, i2, i3, bs, i4⟩ := ih fun l hl => hd l (.tail _ hl)
    obtain ⟨o, ho, items, n, rfl, hr⟩ := hR.has h
    obtain ⟨cs, r⟩ := readsAll_of hR.fz hr g1
    exact ⟨.list ds :: es, .cons (.lst g1) i1, by show (_ && _) = true; rw [show (PyData.list ds).canLay0 = true from g2, i2]; rfl, Nat.max_le.mpr ⟨Nat.succ_le_succ g3, i3⟩, _, .cons (.list ho rfl rfl r) i4⟩
theorem refs_of {as : List Addr} : ∀ {vs : List Value}, RVs K vs (as.map .ref) → vs = as.map .ref := by
  induction as with
  | nil => intro vs h; cases h; rfl
  | cons a as ih => intro vs h; cases h with | cons h t => rw [h.i_ref, ih t]; rfl
theorem ne_own2 {a : Addr} {as : List Addr} {ls : List (List V)} {dp : Nat} (h1 : Has H a (.list (as.map .ref))) (h2 : OwnL H as ls) (hd : ∀ l ∈ ls, Dqs l dp) (hu : A.units + (dp + 2) < cLine) (h : Q (.bool false) F H) : Op2 G fr A F H (compareOp .NotEq) (.lst (ls.map .lst)) (.ref a) Q E := fun K m v w hv hw R s hR => by
  obtain rfl := hw.i_ref
  obtain ⟨ds, i1, i2, i3, bs, i4⟩ := own_reads hR h2 hd
  obtain ⟨as2, ra⟩ := reads_of hR.fz (.lst i1) hv
  obtain ⟨o, ho, items, n, rfl, hr⟩ := hR.has h1
  have rb : Reads s.heap (.ref a) (.list ds) (a :: bs) := .list ho rfl rfl (by rw [refs_of hr]; exact i4)
  refine PySem.SeqAt.compareNe_reads ra rb i2 i2 (Nat.lt_of_le_of_lt (Nat.add_le_add_left (Nat.le_trans (Nat.min_le_left _ _) (Nat.succ_le_succ i3)) _) hu) ?_
  rw [PySem.SeqAt.eqv_refl (.list ds) i2]
  exact vret hR .bool m h
end
section
variable {G : Glob} {fr : List Env} {A : Around} {F : Fz} {H : Hp} {E : Value → Fz → Hp → Prop} {Q : V → Fz → Hp → Prop}
theorem nin_strs {x : V} {zs : List Str} {i : Str} (hx : LstIs H x (zs.map .str)) (h : Q (.bool (!zs.any (· == i))) F H) : Op2 G fr A F H (compareOp .NotIn) (.str i) x Q E := fun K m a b ha hb R s hR => by
  obtain ⟨c, vs, rfl, hL, hr⟩ := hx.is hR hb
  refine ha.e_str (P := fun a => wpAny _ _ (compareOp .NotIn a _) _ _ _) fun t => ?_
  refine PySem.SeqAt.notIn_listAt (strIs i) hL (fun y hy => hr.all_str (P := fun y => PySem.SeqAt.EqAt A.in1 s y (.str i t) (strIs i y)) (fun z _ u => PySem.SeqAt.EqAt.str_str z u i t) y (by simpa using hy)) ?_
  rw [← Array.any_toList, hr.any_str]
  exact vret hR .bool m h
theorem list_dict {a : Addr} {l : List (Str × V)} (hh : A.handled = none) (hd : DctIs G F H a (kvL (kStr G).emb l)) (hnd : (l.map (·.1)).Nodup) (hl : l.length ≤ sizeLine)
    (h : Q (.lst (l.map fun p => .str p.1)) F H) : Cl G fr A F H (.typ "list") [.ref a] Q E := cl_t1 fun K m v hv' R s hR => by
  obtain rfl := hv'.i_ref
  obtain ⟨ha, es, n, ho, hr⟩ := hd.obj m hR
  obtain ⟨kvs, hm, h1, h2⟩ := dictOf (kd := kStr G) hnd ho hr
  obtain ⟨ep, hm⟩ := hm.dictAt
  have hlen : kvs.length = l.length := by rw [← List.length_map (f := fun p : Str × Value => p.1), h1, List.length_map]
  refine PySem.W.kdl_call (PySem.W.kdl_dict (ep := ep) ha) hh hm (by rw [hlen]; exact hl) fun h' tk acc c hk hD hacc => ?_
  obtain ⟨le, r⟩ := hR.newF (tk := tk) (dr := s.drawn) hk (none_at_size s.heap) hD
  refine ⟨_, H, le, r, _, .lst (vs := acc.toList) (n := c) (Fz.add_self _ _ _) rfl rfl ?_ ?_, F, m.trans le, h⟩
  · rw [Array.length_toList, hacc.1, hlen, List.length_map]
  · intro i v x e1 e2
    obtain ⟨k, y, e3, e4⟩ := hacc.2 i v (by rw [← Array.getElem?_toList]; exact e1)
    rw [List.getElem?_map] at e2
    have e5 : (kvs.map (·.1))[i]? = some k := by rw [List.getElem?_map, e3]; rfl
    rw [h1, List.getElem?_map] at e5
    cases q : l[i]? with
    | none => rw [q] at e5; cases e5
    | some p =>
      rw [q] at e2 e5
      cases e2; cases e5
      obtain ⟨t, rfl⟩ := Value.isStrOf_shape e4
      exact .str
end
section
variable {G : Glob} {fr : List Env} {A : Around} {env : Env} {F K : Fz} {H R : Hp} {E : Value → Shared → Prop} {Q : V → Fz → Hp → Prop} {n : Nat}
end
section
variable {G : Glob} {fr : List Env} {A : Around} {env : Env} {F : Fz} {H H' : Hp} {E : Value → Fz → Hp → Prop}
end
section
variable {C : Cx} {ρ : Rho} {F : Fz} {H : Hp}
end
theorem bounds_all (n : Nat) : sliceBounds none none none n = ((0 : Int), (n : Int), 1) := by
  unfold sliceBounds
  simp
theorem cut_all {α : Type} (l : List α) (n : Nat) : ∀ k : Nat, k + l.length ≤ n → (l.zipIdx k).filterMap (fun (p : α × Nat) => if selB 0 n 1 p.2 then none else some p.1) = [] := by
  induction l with
  | nil => intro k _; simp
  | cons x l ih =>
    intro k hk
    rw [List.length_cons] at hk
    rw [List.zipIdx_cons, List.filterMap_cons]
    have e : selB 0 n 1 k = true := by
      unfold selB
      rw [if_pos (by decide), Int.emod_one]
      have h1 : ((k : Int) < n) := Int.ofNat_lt.mpr (Nat.lt_of_lt_of_le (Nat.lt_add_of_pos_right (Nat.succ_pos _)) hk)
      have h2 : ((0 : Int) ≤ k) := Int.natCast_nonneg k
      simp [h1, h2]
    rw [e, ih (k + 1) (Nat.le_trans (Nat.le_of_eq (Nat.add_right_comm k 1 _)) hk)]
    rfl
section
variable {G : Glob} {fr : List Env} {A : Around} {F : Fz} {H H' : Hp} {E : Value → Shared → Prop} {s : Shared}
theorem del_all {l sl : Addr} {items : Array Value} {n : Nat} {Q : Unit → Shared → Prop} (ho : s.heap.get? l = some { cls := .type "list", dict := none, data := .seq items n, slots := #[] })
    (hs : s.heap.IsSliceOf sl .none .none .none) (hsz : items.size ≤ sizeLine) (h : Q () { s with heap := s.heap.update l (Obj.mapSeq fun xs => cutB 0 items.size 1 xs) }) : wpAny G.M A (delItem (.ref l) (.ref sl)) Q E s := by
  obtain ⟨os, hos, hcs, hds⟩ := hs
  have hTs : s.TypeIs (.ref sl) "slice" := ⟨os, hos, hcs⟩
  have hT : s.TypeIs (.ref l) "list" := ⟨_, ho, rfl⟩
  refine wpAny_delItem_slot hT (by decide) PySem.F.slot_list_delitem (wpAny_call_entry PySem.F.slot_list_delitem hT PySem.F.entry_list_delitem ?_ (PySem.F.args_list_delitem_2 _ _))
  show wpAny _ _ (Builtin.List.listSubscript? (.ref sl) >>= _) _ _ s
  refine wpAny_bind ?_
  unfold Builtin.List.listSubscript?
  refine wpAny_bind (wpAny_specialOf hTs slice_no_index ?_)
  simp only [Option.isNone_none, if_true]
  refine wpAny_pure ?_
  show wpAny _ _ (typeOf (.ref sl) >>= _) _ _ s
  refine wpAny_bind (wpAny_typeOf hTs ?_)
  rw [if_neg (by decide), listSliceParts_eq]
  refine wpAny_bind (wpAny_bind (wpAny_field hos hds (x := .none) rfl (wpAny_bind (wpAny_listPart .none ?_))))
  rw [if_neg (show ¬ ((rawPart none == rawInt 0) = true) from Bool.false_ne_true)]
  refine wpAny_bind (wpAny_field hos hds (x := .none) rfl (wpAny_bind (wpAny_listPart .none ?_)))
  refine wpAny_bind (wpAny_field hos hds (x := .none) rfl (wpAny_bind (wpAny_listPart .none (wpAny_pure ?_))))
  refine wpAny_bind (m := Builtin.List.listItems (.ref l)) ?_
  unfold Builtin.List.listItems
  refine wpAny_bind (wpAny_seqItems ho rfl (wpAny_pure ?_))
  refine wpAny_bind (wpAny_of_eq (sliceIndices_raw none none none items.size nofun) ?_)
  rw [bounds_all]
  refine wpAny_bind (wpAny_rule ?_)
  show wpAny _ _ (updateSeq l (fun xs => cutB 0 items.size 1 xs) >>= _) _ _ _
  refine wpAny_bind ?_
  have hz2 : (cutB 0 items.size 1 items).size ≤ sizeLine + 1 := by
    unfold cutB
    rw [List.size_toArray]
    refine Nat.le_trans (List.length_filterMap_le _ _) ?_
    rw [List.length_zipIdx, Array.length_toList]
    exact Nat.le_succ_of_le hsz
  refine wpAny_updateSeq (hz := hsz) (_hz' := hz2) ho rfl ?_
  refine wpAny_bind (wpAny_letGo ?_)
  exact wpAny_pure ⟨_, rfl, h⟩
end
inductive DelA (o : V) (Q : Fz → Hp → Prop) (F : Fz) (H : Hp) : Prop where
  | mk (a : Addr) (l : List V) (H' : Hp) (e1 : o = .ref a) (hu : Upd H a (.list l) (.list []) H') (hl : l.length ≤ sizeLine) (h : Q F H')
theorem Ex_DelAll {G : Glob} {fr : List Env} {A : Around} {env : Env} {F : Fz} {H : Hp} {E : Value → Fz → Hp → Prop} {Q : FV → Fz → Hp → Prop} {value : Expr} {p q pos} (h : Ev G fr A F H (eval value env) (fun o F1 H1 => DelA o (Q .next) F1 H1) E) :
    Ex G fr A F H (exec (.Delete [.Subscript value (.Slice none none none p) q] pos) env) Q E := fun K m R s hR => by
  refine wpAny_Delete ?_
  rw [arm_deleteEach_cons, arm_deleteEach_nil]
  refine wpAny_bind (wpAny_delete_Subscript (h.go m hR (.refl K) fun v o F1 K1 H1 s1 l1 m1 r1 hx hq => wpAny_Slice ?_))
  rw [evalPart_none]
  refine wpAny_pure (wpAny_pure (wpAny_pure ?_))
  obtain ⟨a, l, H3, rfl, hu, hl, hq⟩ := hq
  obtain rfl := hx.i_ref
  have r3 := r1.keeps (h' := s1.heap.push { cls := .type "slice", data := .fields #[.none, .none, .none] }) (tk := s1.toks) (dr := s1.drawn) fun b o e => Heap.get?_push_of_some _ e
  obtain ⟨o, ho, items, n, rfl, hr⟩ := r3.get hu.mem
  have e := hr.toArr
  refine del_all ho ⟨_, Heap.get?_push_size _ rfl, rfl, rfl⟩ (by rw [e]; exact hl) ?_
  have g := Heap.get?_update_self (Obj.mapSeq fun xs => cutB 0 items.size 1 xs) ho rfl
  have e2 : (cutB 0 items.size 1 items).toList = [] := by
    have := cut_all items.toList items.size 0 (by simp)
    unfold cutB
    simpa using this
  have r4 := r3.upd' (tk := s1.toks) (dr := s1.drawn) hu (Heap.SameBut.update ..).extBut g ⟨_, _, rfl, by
    rw [e2]
    exact .nil⟩ notNs_list
  exact wpAny_pure ⟨K1, H3, l1, r4, _, .next, F1, m1, hq⟩
section
variable {C : Cx} {ρ : Rho} {F : Fz} {H : Hp} {Q : QF}
theorem W_delAll (n : Nat) {v : Expr} {p q pos : Pos} (ok : CxOk C F) (h : W C n (.e v ρ F H fun o ρ F H => DelA o (fun F H => Q .next ρ F H) F H)) : SmS C (.Delete [.Subscript v (.Slice none none none p) q] pos) ρ F H Q :=
  Ex_DelAll ((W.sound n).k ok h fun o ρ F H ok h => by
    obtain ⟨a, l, H', e1, hu, hl, h⟩ := h
    exact ⟨a, l, _, e1, .tl hu, hl, _, _, rfl, ok.mono (.refl _), h⟩)
end
noncomputable def gl06 (ag : Nat → Addr) : List (Str × V) := [("len", .blt "len"), ("int", .typ "int"), ("range", .typ "range"), ("list", .typ "list"), ("divmod", .blt "divmod"), ("Exception", .typ "Exception"), ("StopIteration", .typ "StopIteration"), ("py_make_scanner", .ref (ag 3)), ("_law_figures", .ref (ag 5)), ("_law_context", .ref (ag 6)), ("_law_shut", .ref (ag 7)), ("_law_build", .ref (ag 8)), ("_law_walk", .ref (ag 9))]
noncomputable abbrev Gl (G : Glob) (F : Fz) (ag : Nat → Addr) : Prop := ∀ p ∈ gl06 ag, GlIs G F p.1 p.2
theorem Gl.mono {G : Glob} {F F' : Fz} {ag : Nat → Addr} (le : F.le F') (h : Gl G F ag) : Gl G F' ag := fun p hp => (h p hp).mono le
theorem m_append : Mth "list" "append" "list.append" := ⟨PySem.F.plainAttrs_list, slot_list_append, type_list_append⟩
theorem m_pop : Mth "list" "pop" "list.pop" := ⟨PySem.F.plainAttrs_list, PySem.F.slot_list_pop, PySem.F.type_list_pop⟩
theorem line_le {n m : Nat} (h : n ≤ m) (hm : m ≤ 1000000) : n ≤ sizeLine := Nat.le_trans h (Nat.le_trans hm (by decide))
theorem szl {n : Nat} (h : Nat.ble n 1000 = true) : n ≤ sizeLine := Nat.le_trans (Nat.le_of_ble_eq_true h) (by decide)
theorem j_eq {j k : Nat} (e : ((j : Int) == (k : Int)) = true) : j = k := Int.ofNat.inj (eq_of_beq e)
noncomputable def gh (l : List (Option V)) (k : Nat) : Option V := l.getD k none
theorem drop_at {T : Str} {i k c : Nat} {l : List Nat} (hd : T.cps.toList.drop i = l) (hk : l[k]? = some c) : T.cps[i + k]? = some c := by
  rw [← hd, List.getElem?_drop, Array.getElem?_toList] at hk
  exact hk
theorem drop_ext {T w : Str} {i : Nat} {r : List Nat} (h : T.cps.toList.drop i = w.cps.toList ++ r) : (⟨T.cps.extract i (i + w.length)⟩ : Str) = w := by
  obtain ⟨w⟩ := w
  congr 1
  apply Array.ext'
  rw [Array.toList_extract, List.extract, h, Nat.add_sub_cancel_left]
  exact List.take_left
noncomputable def ltL : List Str := ["a", "b", "c"]
noncomputable def ltS (k : Nat) : Str := ltL.getD k "a"
noncomputable def ltV (k : Nat) : V := .str (ltS k)
noncomputable def ltM (k : Nat) : Str × V := (ltS k, .bool true)
noncomputable def put (l : List Nat) (k : Nat) : List Nat := if l.contains k then l else l ++ [k]
structure Nok (l : List Nat) : Prop where
  nd : l.Nodup
  lt : ∀ k ∈ l, k < 3
theorem Nok.nil : Nok [] := ⟨.nil, nofun⟩
theorem Nok.put {l : List Nat} {k : Nat} (h : Nok l) (hk : k < 3) : Nok (put l k) := by
  unfold Mine.put
  split
  · exact h
  · rename_i hc
    refine ⟨?_, fun j hj => ?_⟩
    · rw [List.nodup_append]
      refine ⟨h.nd, by simp, fun a ha b hb e => ?_⟩
      rw [List.mem_singleton] at hb
      subst hb; subst e
      exact hc (List.contains_iff_mem.mpr ha)
    · rcases List.mem_append.mp hj with hj | hj
      · exact h.lt j hj
      · rw [List.mem_singleton.mp hj]; exact hk
theorem lt_inj : ∀ i j : Fin 3, ltS i.val = ltS j.val → i = j := by decide +kernel
theorem lt_eq {i j : Nat} (hi : i < 3) (hj : j < 3) : (ltS i = ltS j) ↔ i = j := ⟨fun h => congrArg Fin.val (lt_inj ⟨i, hi⟩ ⟨j, hj⟩ h), fun h => by rw [h]⟩
theorem nd_len : ∀ (n : Nat) (l : List Nat), l.Nodup → (∀ k ∈ l, k < n) → l.length ≤ n
  | 0, [], _, _ => Nat.le_refl _
  | 0, _ :: _, _, h => absurd (h _ (.head _)) (Nat.not_lt_zero _)
  | n + 1, l, hn, h => by
    by_cases hm : n ∈ l
    · have h1 := nd_len n (l.erase n) (hn.erase n) fun k hk => by
        obtain ⟨q1, q2⟩ := hn.mem_erase_iff.mp hk
        have := h k q2
        omega
      rw [List.length_erase_of_mem hm] at h1
      omega
    · exact Nat.le_succ_of_le (nd_len n l hn fun k hk => by
        have := h k hk
        rcases Nat.lt_or_ge k n with q | q
        · exact q
        · obtain rfl : k = n := by omega
          exact (hm hk).elim)
theorem Nok.len {l : List Nat} (h : Nok l) : l.length ≤ 3 := nd_len 3 l h.nd h.lt
theorem Nok.nds {l : List Nat} (h : Nok l) : ((l.map ltM).map (·.1)).Nodup := by
  rw [List.map_map]
  refine List.pairwise_map.mpr (h.nd.imp_of_mem fun {a b} ha hb hne q => hne ?_)
  exact (lt_eq (h.lt a ha) (h.lt b hb)).mp q
theorem put_st {l : List Nat} {k : Nat} (h : Nok l) (hk : k < 3) : stV (l.map ltM) (ltS k) (.bool true) = (put l k).map ltM := by
  have e : (l.map ltM).any (fun p => decide (p.1 = ltS k)) = l.contains k := by
    rw [List.any_map, Bool.eq_iff_iff, List.any_eq_true, List.contains_iff_mem]
    constructor
    · rintro ⟨j, hj, q⟩
      have := (lt_eq (h.lt j hj) hk).mp (of_decide_eq_true q)
      exact this ▸ hj
    · intro hj
      exact ⟨k, hj, decide_eq_true rfl⟩
  unfold stV put
  rw [e]
  split
  · rw [List.map_map]
    apply List.map_congr_left
    intro j hj
    show (if ltS j = ltS k then (ltS j, V.bool true) else ltM j) = ltM j
    split <;> rfl
  · rw [List.map_append]; rfl
theorem any_lt {l : List Nat} {k : Nat} (h : Nok l) (hk : k < 3) : (l.map ltS).any (· == ltS k) = l.contains k := by
  rw [List.any_map, Bool.eq_iff_iff, List.any_eq_true, List.contains_iff_mem]
  constructor
  · rintro ⟨j, hj, q⟩
    have := (lt_eq (h.lt j hj) hk).mp (eq_of_beq q)
    exact this ▸ hj
  · intro hj
    exact ⟨k, hj, beq_self_eq_true _⟩
structure Figs (base most : Int) (fs : List Int) : Prop where
  hl : (fs.length : Int) ≤ most
  hb : ∀ f ∈ fs, 0 ≤ f ∧ f < base
theorem Figs.snoc {base most left : Int} {fs : List Int} (h : Figs base most fs) (hb : 0 < base) (hl : (fs.length : Int) < most) : Figs base most (fs ++ [left.fmod base]) :=
  ⟨by rw [List.length_append, List.length_singleton]; lia, fun f hf => by
    rcases List.mem_append.mp hf with hf | hf
    · exact h.2 f hf
    · rw [List.mem_singleton] at hf
      subst hf
      exact ⟨Int.fmod_nonneg_of_pos _ hb, Int.fmod_lt_of_pos _ hb⟩⟩
theorem Figs.less {most x : Int} {fs : List Int} (hl : (fs.length : Int) < most) : most.toNat - (fs ++ [x]).length < most.toNat - fs.length := by rw [List.length_append, List.length_singleton]; exact Nat.sub_succ_lt_self _ _ (Int.lt_toNat.mpr hl)
noncomputable def figR (zs : List Int) (base most : Int) (lst : Addr) (on ol og : Option V) : Rho := [("script", some (.lst (zs.map .int))), ("base", some (.int base)), ("most", some (.int most)), ("figures", some (.ref lst)), ("number", on), ("left", ol), ("figure", og)]
theorem figs {G : Glob} {fr : List Env} {A : Around} {F : Fz} {H : Hp} {a : Addr} {ag : Nat → Addr} (hg : Gl G F ag)
    (hf : IsDef F (stm 5) a) (hA : Ok fr A 1) (zs : List Int) (base most : Int) (hb : 0 < base) (hb2 : base < 1073741824) (hmost : 0 ≤ most ∧ most < 1000) {Q : V → Fz → Hp → Prop}
    (h : ∀ fs, Figs base most fs → Q (.lst (fs.map .int)) F H) : Cl G fr A F H (.ref a) [.lst (zs.map .int), .int base, .int most] Q No := by
  obtain ⟨c, s, o, pm, hs, hf, hd, hc⟩ := hf
  obtain rfl := Option.some.inj hs.symm
  refine Cl.freeze ?_
  refine def_w hg hf hd hc hA ["script", "base", "most"] ["figures", "number", "left", "figure"] rfl (by decide +kernel) (fun vs hv => by obtain ⟨a, b, c, rfl⟩ := len3 hv; rfl) fun L A' hA ok => ?_
  refine LstW.own (Nat.zero_le _) fun lst => ?_
  refine ForW.s4 ok (iter_lst hA.handled) (fun fs on ol og => figR zs base most lst on ol og) (fun fs on ol og => (lst, .list (fs.map .int)) :: H) (fun _ fs on ol og => Figs base most fs) (z1 := []) (z2 := none) (z3 := none) (z4 := none) ⟨hmost.1, nofun⟩ ?_ ?_
  · intro k y fs on ol og hy hfs Qn hn
    obtain ⟨z, rfl⟩ : ∃ z, y = .int z := by
      obtain ⟨z, _, rfl⟩ := List.mem_map.mp (List.mem_of_getElem? hy)
      exact ⟨z, rfl⟩
    refine .val .int (bifW.sp (fun _ => mul_ii (.of_left (by decide)) ⟨ok, .mk _⟩) fun _ => mul_ii (.of_left (by decide)) ⟨ok, .mk _⟩) fun left => ?_
    refine WhileW.s3 ok 40 (fun fs left og => figR zs base most lst (some (.int z)) (some (.int left)) og) (fun fs _ _ => (lst, .list (fs.map .int)) :: H) (fun fs _ _ => most.toNat - fs.length) (fun fs _ _ => Figs base most fs) (z1 := fs) (z2 := left) (z3 := og) hfs ?_
    clear hfs
    intro fs left og hfs Qw hw
    refine len_list .hd (by have := hfs.1; rw [List.length_map]; lia) ⟨ok, ?_⟩
    refine bifW.sp (fun hlt => ?_) fun hge => ?_
    · rw [List.length_map] at hlt
      refine divmod_ii (by lia) (Int.natAbs_lt_natAbs_of_nonneg_of_lt (Int.le_of_lt hb) hb2) ⟨ok, ?_⟩
      refine ⟨"list", _, m_append, .list .hd, ?_⟩
      refine append .hd (by have := hfs.1; rw [List.length_map]; exact line_le (by lia) (Nat.le_refl _)) ⟨ok, ?_⟩
      have hfs' := hfs.snoc hb (of_decide_eq_true hlt) (left := left)
      rw [show fs.map V.int ++ [V.int (left.fmod base)] = (fs ++ [left.fmod base]).map .int by rw [List.map_append]; rfl]
      exact .run (bifW.sp (fun _ => hn _ _ _ _ hfs') fun _ => hw _ _ _ (Figs.less (of_decide_eq_true hlt)) hfs')
    · exact hn _ _ _ _ hfs
  · intro fs on ol og hfs
    exact .run ⟨_, _, _, rfl, .hd, h fs hfs⟩
section
variable {G : Glob} {fr : List Env} {A : Around} {F : Fz} {H : Hp} {Q : V → Fz → Hp → Prop} {n : Nat}
theorem lam_w {gl fl : List (Str × V)} (hg : ∀ p ∈ gl, GlIs G F p.1 p.2) {a : Addr} {name qual : Str} {params : Arguments} {scope : Scope} {cl : List (Str × Addr)} {body : Expr} {xs : List V} (hf : LamF F a name qual params body scope cl) (hfl : ∀ p ∈ fl, ∃ c, cl.lookup p.1 = some c ∧ CellF F c p.2) (hA : Ok fr A (n + 1))
    (ns : List Str) (hn : ns.length = xs.length) (hok : okDef ns [] scope = true) (hbind : ∀ pm c ctv, ∀ vs : List Value, vs.length = xs.length → bindArgs (kla_fn name qual params body scope cl pm c ctv) ⟨vs, []⟩ = pure (ns.zip vs))
    (h : ∀ L A' cdv, Ok (envX qual scope L a cdv cl :: fr) A' n → CxOk ⟨G, envX qual scope L a cdv cl :: fr, A', envX qual scope L a cdv cl, gl, fl, No, true⟩ F → W ⟨G, envX qual scope L a cdv cl :: fr, A', envX qual scope L a cdv cl, gl, fl, No, true⟩ 90 (.e body (mkRho ns xs []) F H (kRe Q))) : Cl G fr A F H (.ref a) xs Q No :=
  call_lam (E' := fun _ => No) hf ns hn (by have := of_decide_eq_true (and_l (and_l hok)); rw [List.append_nil] at this; exact this) hbind (and_r (and_l hok)) (and_l (and_r hok)) hA.room (fun _ _ => leaves_no) (fun L A' cdv hD => by
    have ok := okScope.ok (G := G) (fr := fr) (qual := qual) (L := L) (a := a) (cd := cdv) (cl := cl) (fl := fl) (and_r (and_r hok)) (hA.deep hD).handled noted_no hg (fun p hp => by obtain ⟨c, h1, h2⟩ := hfl p hp; exact ⟨c, h1, h2⟩)
    exact W.ev 90 ok (h L A' cdv (hA.deep hD) ok)) (bnot (and_l (and_l (and_r (and_r hok))))) (bnot (and_r (and_l (and_r (and_r hok))))) (of_decide_eq_true (and_l (and_r (and_r (and_r hok)))))
end
inductive Caps (F : Fz) (cl : List (Str × Addr)) : List (Str × V) → Prop where
  | nil : Caps F cl []
  | cons {n : Str} {y : V} {l : List (Str × V)} {c : Addr} (h : cl.lookup n = some c) (hc : CellF F c y) (t : Caps F cl l) : Caps F cl ((n, y) :: l)
theorem Caps.out {F : Fz} {cl : List (Str × Addr)} {fl : List (Str × V)} (h : Caps F cl fl) : ∀ p ∈ fl, ∃ c, cl.lookup p.1 = some c ∧ CellF F c p.2 := by
  induction h with
  | nil => exact nofun
  | cons h hc _ ih =>
    intro p hp
    rcases List.mem_cons.mp hp with rfl | hp
    · exact ⟨_, h, hc⟩
    · exact ih p hp
inductive PtF (F : Fz) (k : Nat) (f : Addr) (fl : List (Str × V)) : Prop where
  | mk (q : Str) (cl : List (Str × Addr)) (h : FnS F f (sub (stm 6) k) q cl) (hc : ∀ p ∈ fl, ∃ c, cl.lookup p.1 = some c ∧ CellF F c p.2)
theorem PtF.mono {F F' : Fz} {k : Nat} {f : Addr} {fl : List (Str × V)} (le : F.le F') (h : PtF F k f fl) : PtF F' k f fl := by
  obtain ⟨q, cl, h, hc⟩ := h
  exact ⟨q, cl, h.mono le, fun p hp => by obtain ⟨c, h1, h2⟩ := hc p hp; exact ⟨c, h1, h2.mono le⟩⟩
theorem PtF.ok {F : Fz} {k : Nat} {f : Addr} {fl : List (Str × V)} (h : PtF F k f fl) : KOk F (.ref f) := by obtain ⟨q, cl, h, hc⟩ := h; exact h.ok
noncomputable def asV : Option Stmt → Option Expr
  | some (.Assign _ v _) => some v
  | _ => none
inductive PtL (F : Fz) (f : Addr) (fl : List (Str × V)) : Prop where
  | mk (q : Str) (cl : List (Str × Addr)) (params : Arguments) (body : Expr) (scope : Scope) (pos : Pos) (hs : asV (sub (stm 6) 7) = some (.Lambda params body scope pos)) (h : LamF F f "<lambda>" q params body scope cl) (hc : ∀ p ∈ fl, ∃ c, cl.lookup p.1 = some c ∧ CellF F c p.2)
theorem PtL.mono {F F' : Fz} {f : Addr} {fl : List (Str × V)} (le : F.le F') (h : PtL F f fl) : PtL F' f fl := by
  obtain ⟨q, cl, params, body, scope, pos, hs, h, hc⟩ := h
  exact ⟨q, cl, params, body, scope, pos, hs, h.mono le, fun p hp => by obtain ⟨c, h1, h2⟩ := hc p hp; exact ⟨c, h1, h2.mono le⟩⟩
theorem PtL.ok {F : Fz} {f : Addr} {fl : List (Str × V)} (h : PtL F f fl) : KOk F (.ref f) := by obtain ⟨q, cl, params, body, scope, pos, hs, h, _⟩ := h; exact h.ok
structure Nm where
  a : List Nat
  b : List Nat
noncomputable def Nm.get (n : Nm) (w : Nat) : List Nat := if w < 2 then n.a else n.b
noncomputable def Nm.set (n : Nm) (w : Nat) (l : List Nat) : Nm := if w < 2 then ⟨l, n.b⟩ else ⟨n.a, l⟩
noncomputable def Nm.put (n : Nm) (w k : Nat) : Nm := n.set w (Mine.put (n.get w) k)
noncomputable def Nm.clr (n : Nm) (w : Nat) : Nm := n.set w []
structure Nm.ok (n : Nm) : Prop where
  a : Nok n.a
  b : Nok n.b
theorem Nm.ok.get {n : Nm} (h : n.ok) (w : Nat) : Nok (n.get w) := by
  unfold Nm.get; split
  · exact h.a
  · exact h.b
theorem Nm.ok.set {n : Nm} (h : n.ok) (w : Nat) {l : List Nat} (hl : Nok l) : (n.set w l).ok := by
  unfold Nm.set; split
  · exact ⟨hl, h.b⟩
  · exact ⟨h.a, hl⟩
theorem Nm.ok.put {n : Nm} (h : n.ok) (w : Nat) {k : Nat} (hk : k < 3) : (n.put w k).ok := h.set w ((h.get w).put hk)
theorem Nm.ok.clr {n : Nm} (h : n.ok) (w : Nat) : (n.clr w).ok := h.set w .nil
structure Kc where
  ag : Nat → Addr
  sl : Addr
  kl : Addr
  m0 : Addr
  m1 : Addr
  g : Nat → Addr
  f : Nat → Addr
noncomputable def Kc.m (q : Kc) (w : Nat) : Addr := if w < 2 then q.m0 else q.m1
noncomputable def dcO (G : Glob) (l : List Nat) : AO := .dict (kvL (kStr G).emb (l.map ltM))
noncomputable def rf3 (g : Nat → Addr) : List V := [.ref (g 0), .ref (g 1), .ref (g 2)]
noncomputable def hpR (G : Glob) (q : Kc) (n : Nm) (H : Hp) : Hp := (q.sl, .list (rf3 q.g)) :: (q.kl, .list (rf3 q.f)) :: (q.m0, dcO G n.a) :: (q.m1, dcO G n.b) :: H
theorem rf3_at {g : Nat → Addr} : ∀ {w : Nat}, w < 3 → (rf3 g)[((w : Nat) : Int).toNat]? = some (.ref (g w))
  | 0, _ => rfl
  | 1, _ => rfl
  | 2, _ => rfl
  | _ + 3, h => absurd h (by omega)
section
variable {G : Glob} {fr : List Env} {A : Around} {F : Fz} {H : Hp} {Q : V → Fz → Hp → Prop} {q : Kc} {n : Nm}
theorem hpR_has (w : Nat) : Has (hpR G q n H) (q.m w) (dcO G (n.get w)) := by
  unfold Kc.m Nm.get
  split
  · exact .tl (.tl .hd)
  · exact .tl (.tl (.tl .hd))
theorem hpR_upd (w : Nat) (l : List Nat) : Upd (hpR G q n H) (q.m w) (dcO G (n.get w)) (dcO G l) (hpR G q (n.set w l) H) := by
  unfold Kc.m Nm.get Nm.set
  split
  · exact .tl (.tl .hd)
  · exact .tl (.tl (.tl .hd))
noncomputable def flN (w : Nat) : List (Str × V) := [("who", .int (w : Int))]
noncomputable def flO (q : Kc) : List (Str × V) := [("kept", .ref q.kl), ("scanners", .ref q.sl)]
noncomputable def flM (q : Kc) (w : Nat) : List (Str × V) := [("memo", .ref (q.m w)), ("who", .int (w : Int))]
theorem p_name {w i k : Nat} {f f0 : Addr} {T : Str} {st oh oph : V} (hg : Gl G F q.ag) (hp : PtF F 0 f (flN w)) (hA : Ok fr A 1) (hT : T.cps.size ≤ 1000000) (hk : k < 3) (hc : T.cps[i]? = some (97 + k)) (hn : n.ok) (hs : (q.m w == sysModules) = false)
    (h : Q (.tup [.tup [.str "names", .int (w : Int), .lst (((n.put w k).get w).map ltV)], .int ((i : Int) + 2)]) F (hpR G q (n.put w k) H)) : Cl G fr A F (hpR G q n H) (.ref f) [.tup [.str T, .int (i : Int)], st, .ref f0, oh, oph, .ref (q.m w)] Q No := by
  obtain ⟨qn, cl, hf, hcl⟩ := hp
  obtain ⟨name, params, body, scope, pos, hst, hf⟩ := hf
  cases Option.some.inj hst.symm
  have hp63 : ((i : Nat) : Int) < 2 ^ 63 := Int.lt_of_lt_of_le (Int.ofNat_lt.mpr (Nat.lt_of_lt_of_le (Array.getElem?_eq_some_iff.mp hc).1 hT)) (by decide)
  have ek : (⟨#[97 + k]⟩ : Str) = ltS k := by
    have : ∀ k : Fin 3, (⟨#[97 + k.val]⟩ : Str) = ltS k.val := by decide +kernel
    exact this ⟨k, hk⟩
  have hN := hn.get w
  have hN2 := (hn.put w hk).get w
  have hgs : (n.put w k).get w = Mine.put (n.get w) k := by
    unfold Nm.put Nm.set Nm.get
    by_cases e : w < 2
    · rw [if_pos e, if_pos e, if_pos e]
    · rw [if_neg e, if_neg e, if_neg e]
  refine fn_w hg hf hcl hA ["pair", "strict", "asking", "hook", "pairs_hook", "own"] ["string", "at"] rfl (by decide +kernel) (fun doc pm c ctv vs hv => by obtain ⟨a, b, c, d, e, f, rfl⟩ := len6 hv; rfl) fun L A' cdv hA ok => ?_
  refine sub_str (Int.natCast_nonneg _) hp63 (by rw [Int.toNat_natCast]; exact hc) ⟨ok, ?_⟩
  rw [ek]
  have hl3 := hN.len
  refine set_dict (kd := kStr G) (k := ltS k) (l := (n.get w).map ltM) (y := .bool true) hN.nds (by rw [put_st hN hk]; exact hpR_upd w _) (by rw [List.length_map]; exact line_le (m := 3) hl3 (by decide)) ⟨ok, ?_⟩
  have h1 := hN2.nds
  have h2 := hN2.len
  refine .run (list_dict (l := ((n.put w k).get w).map ltM) hA.handled (.own hs (hpR_has w)) h1 (by rw [List.length_map]; exact line_le (m := 3) h2 (by decide)) ⟨ok, ?_⟩)
  rw [List.map_map]
  exact h
theorem p_num {w : Nat} {f : Addr} {t : Str} (hg : Gl G F q.ag) (hp : PtL F f (flM q w)) (hA : Ok fr A 1) (hn : n.ok) (hs : (q.m w == sysModules) = false)
    (h : Q (.tup [.str "number", .int (w : Int), .str t, .int ((n.get w).length : Nat)]) F (hpR G q n H)) : Cl G fr A F (hpR G q n H) (.ref f) [.str t] Q No := by
  obtain ⟨qn, cl, params, body, scope, pos, hst, hf, hcl⟩ := hp
  cases Option.some.inj hst.symm
  have hN := hn.get w
  have hl3 := hN.len
  refine lam_w hg hf hcl hA ["text"] rfl (by decide +kernel) (fun pm c ctv vs hv => by obtain ⟨a, rfl⟩ := len1 hv; rfl) fun L A' cdv hA ok => ?_
  refine len_dict (kd := kStr G) (l := (n.get w).map ltM) (.own hs (hpR_has w)) hN.nds (by rw [List.length_map]; omega) ⟨ok, ?_⟩
  rw [List.length_map]
  exact h
end
inductive Kn where
  | nil
  | leaf (k a : Nat) (r : Kn)
  | box (k : Nat) (i r : Kn)
noncomputable def sgL : List Str := ["{a}", "{b}", "{c}", "5", "?", "[", "\"0O[", "\"1O[", "\"2O[", "\"0I[", "\"1I[", "\"2I["]
noncomputable def sgS (k : Nat) : Str := sgL.getD k "5"
noncomputable def sg (k : Nat) : List Nat := (sgS k).cps.toList
noncomputable def clC (k : Nat) : List Nat := if k = 5 then [93] else [93, 34]
noncomputable def Kn.size : Kn → Nat
  | .nil => 0
  | .leaf _ _ r => r.size + 1
  | .box _ i r => i.size + r.size + 1
noncomputable def tx : Kn → List Nat
  | .nil => []
  | .leaf k _ r => sg k ++ 32 :: tx r
  | .box k i r => sg k ++ (tx i ++ (clC k ++ 32 :: tx r))
noncomputable def Kn.ok (d p : Nat) : Kn → Prop
  | .nil => True
  | .leaf k a r => k < 5 ∧ a = p ∧ r.ok d (p + ((sg k).length + 1))
  | .box k i r => match d with
    | 0 => False
    | d + 1 => (5 ≤ k ∧ k < 12) ∧ i.ok d (p + (sg k).length) ∧ r.ok (d + 1) (p + ((sg k).length + ((tx i).length + ((clC k).length + 1))))
noncomputable def foV : Kn → List V
  | .nil => []
  | .leaf k a r => .tup [.int ((k : Nat) : Int), .int ((a : Nat) : Int)] :: foV r
  | .box k i r => .tup [.int ((k : Nat) : Int), .lst (foV i)] :: foV r
structure Wk where
  f : Option Nat
  vs : List V
  n : Nm
noncomputable def Wk.cons (v : V) (w : Wk) : Wk := ⟨w.f, v :: w.vs, w.n⟩
noncomputable def nmV (w : Nat) (l : List Nat) : V := .tup [.str "names", .int ((w : Nat) : Int), .lst (l.map ltV)]
noncomputable def nuV (w c : Nat) : V := .tup [.str "number", .int ((w : Nat) : Int), .str "5", .int ((c : Nat) : Int)]
noncomputable def whoK (k w : Nat) : Nat := if k = 5 then w else k % 3
noncomputable def clrK (k w : Nat) (n : Nm) : Nm := if 5 < k ∧ k < 9 then n.clr (whoK k w) else n
noncomputable def boxV (k w : Nat) (vs : List V) : V := if k = 5 then .lst vs else .tup [.str "other", .int ((whoK k w : Nat) : Int), .lst vs]
noncomputable def walkK : Kn → Nat → Nm → Wk
  | .nil, _, n => ⟨none, [], n⟩
  | .leaf k a r, w, n =>
    if k < 3 then (walkK r w (n.put w k)).cons (nmV w ((n.put w k).get w))
    else if k = 3 then (walkK r w n).cons (nuV w (n.get w).length)
    else ⟨some a, [], n⟩
  | .box k i r, w, n => match walkK i (whoK k w) n with
    | ⟨none, vs, m⟩ => (walkK r w (clrK k w m)).cons (boxV k w vs)
    | ⟨some a, _, m⟩ => ⟨some a, [], clrK k w m⟩
inductive NR where
  | val (v : V) (n : Nm)
  | flt (a : Nat) (n : Nm)
noncomputable def nd1 : Kn → Nat → Nm → NR
  | .nil, _, n => .val .none n
  | .leaf k a _, w, n => if k < 3 then .val (nmV w ((n.put w k).get w)) (n.put w k) else if k = 3 then .val (nuV w (n.get w).length) n else .flt a n
  | .box k i _, w, n => match walkK i (whoK k w) n with
    | ⟨none, vs, m⟩ => .val (boxV k w vs) (clrK k w m)
    | ⟨some a, _, m⟩ => .flt a (clrK k w m)
noncomputable def NR.go (r : Kn) (w : Nat) : NR → Wk
  | .val v m => (walkK r w m).cons v
  | .flt a m => ⟨some a, [], m⟩
noncomputable def Kn.some? : Kn → Prop
  | .nil => False
  | _ => True
noncomputable def Kn.rest : Kn → Kn
  | .nil => .nil
  | .leaf _ _ r => r
  | .box _ _ r => r
noncomputable def ndC : Kn → List Nat
  | .nil => []
  | .leaf k _ _ => sg k
  | .box k i _ => sg k ++ (tx i ++ clC k)
theorem walk_nd : ∀ {x : Kn}, x.some? → ∀ w n, walkK x w n = (nd1 x w n).go x.rest w
  | .leaf k a r, _, w, n => by
    show (if k < 3 then (walkK r w (n.put w k)).cons (nmV w ((n.put w k).get w)) else if k = 3 then (walkK r w n).cons (nuV w (n.get w).length) else ⟨some a, [], n⟩ : Wk) = NR.go r w (if k < 3 then .val (nmV w ((n.put w k).get w)) (n.put w k) else if k = 3 then .val (nuV w (n.get w).length) n else .flt a n)
    split
    · rfl
    · split <;> rfl
  | .box k i r, _, w, n => by
    show (match walkK i (whoK k w) n with
      | ⟨none, vs, m⟩ => (walkK r w (clrK k w m)).cons (boxV k w vs)
      | ⟨some a, _, m⟩ => ⟨some a, [], clrK k w m⟩ : Wk) = NR.go r w (match walkK i (whoK k w) n with
      | ⟨none, vs, m⟩ => .val (boxV k w vs) (clrK k w m)
      | ⟨some a, _, m⟩ => .flt a (clrK k w m))
    generalize walkK i (whoK k w) n = q
    obtain ⟨f, vs, m⟩ := q
    cases f <;> rfl
theorem tx_nd : ∀ {x : Kn}, x.some? → tx x = ndC x ++ 32 :: tx x.rest
  | .leaf k a r, _ => rfl
  | .box k i r, _ => by show sg k ++ (tx i ++ (clC k ++ 32 :: tx r)) = (sg k ++ (tx i ++ clC k)) ++ 32 :: tx r; simp
theorem rest_lt : ∀ {x : Kn}, x.some? → x.rest.size < x.size
  | .leaf _ _ _, _ => Nat.lt_succ_self _
  | .box _ i r, _ => Nat.lt_succ_of_le (Nat.le_add_left _ _)
theorem ok_rest {d p : Nat} : ∀ {x : Kn}, x.some? → x.ok d p → x.rest.ok d (p + ((ndC x).length + 1))
  | .leaf k a r, _, h => h.2.2
  | .box k i r, _, h => by
    cases d with
    | zero => exact h.elim
    | succ d =>
      have e : (ndC (.box k i r)).length + 1 = (sg k).length + ((tx i).length + ((clC k).length + 1)) := by show (sg k ++ (tx i ++ clC k)).length + 1 = _; rw [List.length_append, List.length_append]; omega
      rw [e]
      exact h.2.2
theorem sg_head : ∀ k : Fin 12, (sg k.val).head?.any (fun c => c != 93 && c != 33) = true ∧ 1 ≤ (sg k.val).length ∧ (sg k.val).length ≤ 4 := by decide +kernel
theorem cl_len (k : Nat) : 1 ≤ (clC k).length ∧ (clC k).length ≤ 2 := by unfold clC; split <;> exact ⟨by decide, by decide⟩
theorem nd_head {d p : Nat} : ∀ {x : Kn}, x.some? → x.ok d p → ∃ c l, ndC x = c :: l ∧ c ≠ 93 ∧ c ≠ 33
  | .leaf k a r, _, h => by
    have := (sg_head ⟨k, by have := h.1; omega⟩).1
    show ∃ c l, sg k = c :: l ∧ _
    cases e : sg k with
    | nil => simp [e] at this
    | cons c l => simp [e] at this; exact ⟨c, l, rfl, this⟩
  | .box k i r, _, h => by
    cases d with
    | zero => exact h.elim
    | succ d =>
      have := (sg_head ⟨k, h.1.2⟩).1
      show ∃ c l, sg k ++ _ = c :: l ∧ _
      cases e : sg k with
      | nil => simp [e] at this
      | cons c l => simp [e] at this; exact ⟨c, _, rfl, this⟩
theorem tx_len {d : Nat} : ∀ {x : Kn} {p : Nat}, x.ok d p → (tx x).length ≤ 7 * x.size
  | .nil, _, _ => Nat.le_refl _
  | .leaf k a r, p, h => by
    have h1 := (sg_head ⟨k, by have := h.1; omega⟩).2.2
    have h1 : (sg k).length ≤ 4 := h1
    have h2 := tx_len h.2.2
    show (sg k ++ 32 :: tx r).length ≤ 7 * (r.size + 1)
    rw [List.length_append, List.length_cons]; omega
  | .box k i r, p, h => by
    cases d with
    | zero => exact h.elim
    | succ d =>
      have h0 := (sg_head ⟨k, h.1.2⟩).2.2
      have h0 : (sg k).length ≤ 4 := h0
      have h3 := (cl_len k).2
      have h1 := tx_len h.2.1
      have h2 := tx_len h.2.2
      show (sg k ++ (tx i ++ (clC k ++ 32 :: tx r))).length ≤ 7 * (i.size + r.size + 1)
      rw [List.length_append, List.length_append, List.length_append, List.length_cons]; omega
theorem clrK_ok {k w : Nat} {n : Nm} (h : n.ok) : (clrK k w n).ok := by
  unfold clrK; split
  · exact h.clr _
  · exact h
theorem walk_ok : ∀ (x : Kn) (w : Nat) (n : Nm), n.ok → (walkK x w n).n.ok
  | .nil, w, n, h => h
  | .leaf k a r, w, n, h => by
    show (if k < 3 then (walkK r w (n.put w k)).cons (nmV w ((n.put w k).get w)) else if k = 3 then (walkK r w n).cons (nuV w (n.get w).length) else ⟨some a, [], n⟩ : Wk).n.ok
    split
    · rename_i hk
      exact walk_ok r w _ (h.put w hk)
    · split
      · exact walk_ok r w _ h
      · exact h
  | .box k i r, w, n, h => by
    have h1 := walk_ok i (whoK k w) n h
    show (match walkK i (whoK k w) n with
      | ⟨none, vs, m⟩ => (walkK r w (clrK k w m)).cons (boxV k w vs)
      | ⟨some a, _, m⟩ => ⟨some a, [], clrK k w m⟩ : Wk).n.ok
    generalize walkK i (whoK k w) n = q at h1
    obtain ⟨f, vs, m⟩ := q
    cases f with
    | none => exact walk_ok r w _ (clrK_ok h1)
    | some a => exact clrK_ok h1
theorem nd_ok {x : Kn} {w : Nat} {n : Nm} (hs : x.some?) (h : n.ok) : (match nd1 x w n with | .val _ m => m.ok | .flt _ m => m.ok) := by
  cases x with
  | nil => exact hs.elim
  | leaf k a r =>
    show (match (if k < 3 then .val (nmV w ((n.put w k).get w)) (n.put w k) else if k = 3 then .val (nuV w (n.get w).length) n else .flt a n : NR) with | .val _ m => m.ok | .flt _ m => m.ok)
    by_cases h1 : k < 3
    · rw [if_pos h1]; exact h.put w h1
    · rw [if_neg h1]
      by_cases h3 : k = 3
      · rw [if_pos h3]; exact h
      · rw [if_neg h3]; exact h
  | box k i r =>
    have h1 := walk_ok i (whoK k w) n h
    show (match (match walkK i (whoK k w) n with
      | ⟨none, vs, m⟩ => .val (boxV k w vs) (clrK k w m)
      | ⟨some a, _, m⟩ => .flt a (clrK k w m) : NR) with | .val _ m => m.ok | .flt _ m => m.ok)
    generalize walkK i (whoK k w) n = q at h1
    obtain ⟨f, vs, m⟩ := q
    cases f with
    | none => exact clrK_ok h1
    | some a => exact clrK_ok h1
theorem Cl.fr1 {G : Glob} {fr : List Env} {A : Around} {F : Fz} {H : Hp} {y : Addr × AO} {f : V} {xs : List V} {Q : V → Fz → Hp → Prop} {P : Addr → String → List V → Bool → Fz → Hp → Prop} (h : Cl G fr A F H f xs (fun v F1 H1 => Q v F1 (y :: H1)) (Thr0 fun x c a b F1 H1 => P x c a b F1 (y :: H1))) : Cl G fr A F (y :: H) f xs Q (Thr0 P) := fun K m v vs hv hvs R s hR =>
  wpAny_mono (h K m v vs hv hvs (y :: R) s (hR.perm List.perm_middle.symm)) (fun v1 s1 q => by
    obtain ⟨K1, H1, l1, r1, x, hx, F1, m1, q⟩ := q
    exact ⟨K1, y :: H1, l1, r1.perm List.perm_middle, x, hx, F1, m1, q⟩) fun e s1 q => by
    obtain ⟨K1, H1, l1, r1, F1, m1, x, c, a, tb, b, H2, e1, e2, q⟩ := q
    exact ⟨K1, y :: H1, l1, r1.perm List.perm_middle, F1, m1, x, c, a, tb, b, y :: H2, e1, (e2.cons y).trans ((List.Perm.swap _ _ _).trans (List.Perm.cons _ List.perm_middle.symm)), q⟩
theorem kE.thrD {C : Cx} {ρ : Rho} {F : Fz} {H : Hp} {P : Addr → String → List V → Bool → Fz → Hp → Prop} {e : Value} (he : C.E = Thr0 (LvD C.env.locals P)) (h : Thr0 (fun x c a b F H => ∃ H2, Drp H H2 ∧ P x c a b F H2) e F H) : kE C ρ e F H := by
  show C.E e F (fm C ρ H)
  rw [he]
  exact Thr0.up (h.mono fun x c a b F1 H1 p => by obtain ⟨H2, d, p⟩ := p; exact ⟨ρ, H1, H2, .hd, d, p⟩)
inductive RdW (F : Fz) (q : Kc) (w : Nat) : Prop where
  | mk (p : Parts) (po pa ps pi : Addr) (hS : ScanF F (q.f w) p) (eo : p.po = .ref po) (ko : PtF F 0 po (flN w)) (ea : p.pa = .ref pa) (ka : PtF F 1 pa []) (es : p.ps = .ref ps) (ks : PtF F 2 ps (flO q)) (ei : p.pi = .ref pi) (ki : PtL F pi (flM q w)) (em : p.mm = .ref (q.m w)) (hO : OuterF F (q.g w) (q.f w) (q.m w))
structure Std (G : Glob) (F : Fz) (q : Kc) : Prop where
  gl : Gl G F q.ag
  rd : ∀ w, w < 3 → RdW F q w
  bt : BtS G
  sm : ∀ w, (q.m w == sysModules) = false
theorem RdW.ok {F : Fz} {q : Kc} {w : Nat} (h : RdW F q w) : KOk F (.ref (q.f w)) ∧ KOk F (.ref (q.g w)) := by
  obtain ⟨p, po, pa, ps, pi, hS, _, _, _, _, _, _, _, _, _, hO⟩ := h
  exact ⟨hS.ok, hO.ok⟩
noncomputable def NodeQ (G : Glob) (F : Fz) (q : Kc) (H : Hp) (p : Nat) (x : Kn) (Q : V → Fz → Hp → Prop) (P : Addr → String → List V → Bool → Fz → Hp → Prop) : NR → Prop
  | .val v n => Q (.tup [v, .int ((p + (ndC x).length : Nat) : Int)]) F (hpR G q n H)
  | .flt a n => ∀ ex cx, P ex "StopIteration" [.int ((a : Nat) : Int)] cx F (hpR G q n H)
noncomputable def NodeP (G : Glob) (F : Fz) (q : Kc) (T : Str) (d : Nat) : Prop := ∀ (x : Kn) {w : Nat} {fr : List Env} {A : Around} {H : Hp} {n : Nm} {p : Nat} {rr : List Nat} {Q : V → Fz → Hp → Prop} {P : Addr → String → List V → Bool → Fz → Hp → Prop},
  w < 3 → x.some? → x.ok d p → T.cps.toList.drop p = ndC x ++ 32 :: rr → n.ok → x.size ≤ 100 → Ok fr A (6 * d + 6) →
  NodeQ G F q H p x Q P (nd1 x w n) → Cl G fr A F (hpR G q n H) (.ref (q.f w)) [.str T, .int (p : Int)] Q (Thr0 P)
noncomputable def RowQ (G : Glob) (F : Fz) (q : Kc) (H : Hp) (e : Nat) (Q : V → Fz → Hp → Prop) (P : Addr → String → List V → Bool → Fz → Hp → Prop) : Wk → Prop
  | ⟨none, vs, n⟩ => Q (.tup [.lst vs, .int ((e : Nat) : Int)]) F (hpR G q n H)
  | ⟨some a, _, n⟩ => ∀ ex cx, P ex "StopIteration" [.int ((a : Nat) : Int)] cx F (hpR G q n H)
noncomputable def Wk.pre (vs : List V) (w : Wk) : Wk := ⟨w.f, vs ++ w.vs, w.n⟩
theorem ne_close {c : Nat} (h : c ≠ 93) : (!((⟨#[c]⟩ : Str).cps.toList == (Str.ofString "]").cps.toList)) = true := by
  rw [show (Str.ofString "]").cps.toList = [93] from by decide +kernel]
  simpa using h
theorem ne_bang {c : Nat} (h : c ≠ 33) : ((⟨#[c]⟩ : Str).cps.toList == (Str.ofString "!").cps.toList) = false := by
  rw [show (Str.ofString "!").cps.toList = [33] from by decide +kernel]
  simpa using h
theorem drop_rest {T : Str} {p : Nat} {l r : List Nat} (h : T.cps.toList.drop p = l ++ 32 :: r) : T.cps.toList.drop (p + (l.length + 1)) = r := by
  rw [← List.drop_drop, h, ← List.drop_drop, List.drop_left]; rfl
noncomputable def lsR (T : Str) (p0 p : Nat) (f it : Addr) (item : Option V) : Rho := [("pair", some (.tup [.str T, .int (p0 : Int)])), ("asking", some (.ref f)), ("string", some (.str T)), ("at", some (.int (p : Int))), ("items", some (.ref it)), ("item", item)]
structure LsP (d w : Nat) (w0 : Wk) (T : Str) (rr : List Nat) (e : Nat) (r : Kn) (p : Nat) (vs : List V) (n : Nm) : Prop where
  ok : r.ok d p
  dr : T.cps.toList.drop p = tx r ++ 93 :: rr
  en : p + (tx r).length = e
  val : w0 = (walkK r w n).pre vs
  len : vs.length + r.size ≤ 100
  hn : n.ok
theorem LsP.next {d w : Nat} {w0 : Wk} {T : Str} {rr : List Nat} {e : Nat} {r : Kn} {p : Nat} {vs : List V} {n m : Nm} {v : V} (h : LsP d w w0 T rr e r p vs n) (hs : r.some?) (hv : nd1 r w n = .val v m) : LsP d w w0 T rr e r.rest (p + (ndC r).length + 1) (vs ++ [v]) m := by
  have ht := tx_nd hs
  have hd := h.dr
  rw [ht, List.append_assoc] at hd
  have hlt := rest_lt hs
  have hl := h.len
  have hm := nd_ok (w := w) hs h.hn
  rw [hv] at hm
  refine ⟨ok_rest hs h.ok, drop_rest hd, ?_, ?_, ?_, hm⟩
  · have := h.en
    rw [ht, List.length_append, List.length_cons] at this
    omega
  · rw [h.val, walk_nd hs, hv]
    show (⟨(walkK r.rest w m).f, vs ++ v :: (walkK r.rest w m).vs, _⟩ : Wk) = ⟨_, (vs ++ [v]) ++ _, _⟩
    rw [List.append_assoc]; rfl
  · rw [List.length_append, List.length_singleton]; omega
theorem p_list {G : Glob} {F : Fz} {q : Kc} {T : Str} (s : Std G F q) (hT : T.cps.size ≤ 1000000) {d : Nat} (on : NodeP G F q T d) {w : Nat} (hw : w < 3) {pa : Addr} (ka : PtF F 1 pa []) {i : Kn} {fr : List Env} {A : Around} {H : Hp} {n : Nm} {p0 : Nat} {rr : List Nat} {Q : V → Fz → Hp → Prop} {P : Addr → String → List V → Bool → Fz → Hp → Prop}
    (ho : i.ok d p0) (hd : T.cps.toList.drop p0 = tx i ++ 93 :: rr) (hn : n.ok) (hz : i.size ≤ 100) (hA : Ok fr A (6 * d + 7))
    (h : RowQ G F q H (p0 + (tx i).length + 1) Q P (walkK i w n)) : Cl G fr A F (hpR G q n H) (.ref pa) [.tup [.str T, .int (p0 : Int)], .ref (q.f w)] Q (Thr0 P) := by
  obtain ⟨qn, cl, hf, hc⟩ := ka
  obtain ⟨name, params, body, scope, pos, hst, hf⟩ := hf
  cases Option.some.inj hst.symm
  obtain ⟨c0, hc0, hb0⟩ : ∃ c, T.cps[p0]? = some c ∧ c ≠ 33 := by
    by_cases hs : i.some?
    · obtain ⟨c, l, ec, _, h33⟩ := nd_head hs ho
      rw [tx_nd hs, List.append_assoc] at hd
      exact ⟨c, drop_at (k := 0) hd (by rw [ec]; rfl), h33⟩
    · cases i with
      | leaf _ _ _ => exact (hs trivial).elim
      | box _ _ _ => exact (hs trivial).elim
      | nil => exact ⟨93, drop_at (k := 0) hd rfl, by decide⟩
  have hp0 : ((p0 : Nat) : Int) < 2 ^ 63 := Int.lt_of_lt_of_le (Int.ofNat_lt.mpr (Nat.lt_of_lt_of_le (Array.getElem?_eq_some_iff.mp hc0).1 hT)) (by decide)
  refine fn_e s.gl hf hc hA ["pair", "asking"] ["string", "at", "items", "item"] rfl (by decide +kernel) (fun doc pm c ctv vs hv => by obtain ⟨a, b, rfl⟩ := len2 hv; rfl) fun L A' cdv hD hA ok => ?_
  generalize hw0 : walkK i w n = w0 at h
  refine .run (sub_str (Int.natCast_nonneg _) hp0 (by rw [Int.toNat_natCast]; exact hc0) ⟨ok, bifW.no (ne_bang hb0) ?_⟩)
  refine .own (szl rfl) fun it => ?_
  refine WhileW.s5 ok 40 (fun r p vs n x => lsR T p0 p (q.f w) it x) (fun r p vs n x => (it, .list vs) :: hpR G q n H) (fun r _ _ _ _ => r.size) (fun r p vs n x => LsP d w w0 T rr (p0 + (tx i).length) r p vs n) (z1 := i) (z2 := p0) (z3 := []) (z4 := n) (z5 := none) ?_ ?_
  · exact ⟨ho, hd, rfl, hw0.symm, by rw [List.length_nil, Nat.zero_add]; exact hz, hn⟩
  · intro r p vs n x hp Qn hqn
    have hdr := hp.dr
    by_cases hs : r.some?
    · obtain ⟨c, l, ec, hc93, _⟩ := nd_head hs hp.ok
      rw [tx_nd hs, List.append_assoc] at hdr
      have hc : T.cps[p]? = some c := drop_at (k := 0) hdr (by rw [ec]; rfl)
      have hp63 : ((p : Nat) : Int) < 2 ^ 63 := Int.lt_of_lt_of_le (Int.ofNat_lt.mpr (Nat.lt_of_lt_of_le (Array.getElem?_eq_some_iff.mp hc).1 hT)) (by decide)
      refine sub_str (Int.natCast_nonneg _) hp63 (by rw [Int.toNat_natCast]; exact hc) ⟨ok, bifW.yes (ne_close hc93) ?_⟩
      refine ⟨(s.rd w hw).ok.1, (Cl.fr1 (on r (Q := fun v F1 H1 => Nx _ _ _ v F1 ((it, .list vs) :: H1)) (P := fun x c a b F1 H1 => ∃ H2, Drp ((it, .list vs) :: H1) H2 ∧ P x c a b F1 H2) hw hs hp.ok hdr hp.hn (by have := hp.len; omega) hA ?_)).mono (fun _ _ _ q => q) fun e F1 H1 q => kE.thrD rfl q⟩
      cases hv : nd1 r w n with
      | val v m =>
        have hvl : vs.length ≤ 100 := Nat.le_trans (Nat.le_add_right _ _) hp.len
        refine ⟨ok, ⟨"list", _, m_append, .list .hd, append .hd (line_le hvl (by decide)) ⟨ok, ?_⟩⟩⟩
        exact hqn r.rest (p + (ndC r).length + 1) (vs ++ [v]) m (some v) (rest_lt hs) (hp.next hs hv)
      | flt fl m =>
        intro ex cx
        have hv0 := hp.val
        rw [walk_nd hs, hv] at hv0
        rw [hv0] at h
        exact ⟨_, Drp.one .hd (fun _ e => nomatch e), h ex cx⟩
    · cases r with
      | leaf _ _ _ => exact (hs trivial).elim
      | box _ _ _ => exact (hs trivial).elim
      | nil =>
        have hc : T.cps[p]? = some 93 := drop_at (k := 0) hdr rfl
        have hp63 : ((p : Nat) : Int) < 2 ^ 63 := Int.lt_of_lt_of_le (Int.ofNat_lt.mpr (Nat.lt_of_lt_of_le (Array.getElem?_eq_some_iff.mp hc).1 hT)) (by decide)
        have hv0 : w0 = ⟨none, vs, n⟩ := hp.val.trans (by show (⟨none, vs ++ [], n⟩ : Wk) = _; rw [List.append_nil])
        have en : p = p0 + (tx i).length := hp.en
        rw [hv0, ← en] at h
        refine sub_str (Int.natCast_nonneg _) hp63 (by rw [Int.toNat_natCast]; exact hc) ⟨ok, bifW.no (by decide +kernel) ?_⟩
        exact .frz "items" rfl .hd rfl (.run h)
noncomputable def clrW (w : Nat) : Wk → Wk
  | ⟨f, vs, n⟩ => ⟨f, vs, n.clr w⟩
section
variable {G : Glob} {F : Fz} {q : Kc} {T : Str} {fr : List Env} {A : Around} {H : Hp} {n : Nm} {p : Nat} {rr : List Nat} {Q : V → Fz → Hp → Prop} {P : Addr → String → List V → Bool → Fz → Hp → Prop} {d w : Nat} {i : Kn}
theorem ask_list (s : Std G F q) (hT : T.cps.size ≤ 1000000) (on : NodeP G F q T d) (hw : w < 3) (ho : i.ok d (p + 1)) (hd : T.cps.toList.drop p = 91 :: (tx i ++ 93 :: rr)) (hn : n.ok) (hz : i.size ≤ 100) (hA : Ok fr A (6 * d + 8))
    (h : RowQ G F q H (p + (tx i).length + 2) Q P (walkK i w n)) : Cl G fr A F (hpR G q n H) (.ref (q.f w)) [.str T, .int (p : Int)] Q (Thr0 P) := by
  obtain ⟨ps, po, pa, pq, pi, hS, eo, ko, ea, ka, es, ks, ei, ki, em, hO⟩ := s.rd w hw
  refine scan hS (hA.less (by omega)) hT s.bt (c := 91) (drop_at (k := 0) hd rfl) ?_
  rw [hd, show lexL (91 :: (tx i ++ 93 :: rr)) = .arr from rfl]
  intro env A' hD
  rw [ea]
  have hd2 : T.cps.toList.drop (p + 1) = tx i ++ 93 :: rr := by rw [← List.drop_drop, hd]; rfl
  refine p_list (p0 := p + 1) s hT on hw ka ho hd2 hn hz (hA.deep hD) ?_
  rw [show p + 1 + (tx i).length + 1 = p + (tx i).length + 2 by omega]
  exact h
theorem ask_outer (s : Std G F q) (hT : T.cps.size ≤ 1000000) (on : NodeP G F q T d) (hw : w < 3) (ho : i.ok d (p + 1)) (hd : T.cps.toList.drop p = 91 :: (tx i ++ 93 :: rr)) (hn : n.ok) (hz : i.size ≤ 100) (hA : Ok fr A (6 * d + 9))
    (h : RowQ G F q H (p + (tx i).length + 2) Q P (clrW w (walkK i w n))) : Cl G fr A F (hpR G q n H) (.ref (q.g w)) [.str T, .int (p : Int)] Q (Thr0 P) := by
  obtain ⟨ps, po, pa, pq, pi, hS, eo, ko, ea, ka, es, ks, ei, ki, em, hO⟩ := s.rd w hw
  refine scan_outer hO hS.ok (hA.less (by omega)) fun env A' hD => ?_
  refine ask_list s hT on hw ho hd hn hz (hA.deep hD) ?_
  have hk := walk_ok i w n hn
  generalize walkK i w n = r at h hk
  obtain ⟨f, vs, m⟩ := r
  have hm := (hk.get w).len
  have hsz : (kvL (kStr G).emb ((m.get w).map ltM)).length ≤ sizeLine := by
    unfold kvL
    rw [List.length_map, List.length_map]
    exact line_le (m := 3) hm (by decide)
  cases f with
  | none => exact ⟨_, _, hpR_upd w [], hsz, h⟩
  | some a => exact fun ex cx => ⟨_, _, hpR_upd w [], hsz, h ex cx⟩
noncomputable def OthQ (G : Glob) (F : Fz) (q : Kc) (H : Hp) (o e : Nat) (Q : V → Fz → Hp → Prop) (P : Addr → String → List V → Bool → Fz → Hp → Prop) : Wk → Prop
  | ⟨none, vs, n⟩ => Q (.tup [.tup [.str "other", .int ((o : Nat) : Int), .lst vs], .int ((e : Nat) : Int)]) F (hpR G q n H)
  | ⟨some a, _, n⟩ => ∀ ex cx, P ex "StopIteration" [.int ((a : Nat) : Int)] cx F (hpR G q n H)
theorem p_other (s : Std G F q) (hT : T.cps.size ≤ 1000000) (on : NodeP G F q T d) {k : Nat} (hk : 5 < k ∧ k < 12) {pq : Addr} (ks : PtF F 2 pq (flO q)) {st : V} (ho : i.ok d (p + 3)) (hd : T.cps.toList.drop p = (48 + k % 3) :: (if k < 9 then 79 else 73) :: 91 :: (tx i ++ 93 :: rr)) (hn : n.ok) (hz : i.size ≤ 100) (hA : Ok fr A (6 * d + 10))
    (h : OthQ G F q H (k % 3) (p + (tx i).length + 5) Q P (if k < 9 then clrW (k % 3) (walkK i (k % 3) n) else walkK i (k % 3) n)) : Cl G fr A F (hpR G q n H) (.ref pq) [.str T, .int (p : Int), st] Q (Thr0 P) := by
  obtain ⟨qn, cl, hf, hc⟩ := ks
  obtain ⟨name, params, body, scope, pos, hst, hf⟩ := hf
  cases Option.some.inj hst.symm
  have hw : k % 3 < 3 := Nat.mod_lt _ (by decide)
  have c0 : T.cps[p]? = some (48 + k % 3) := drop_at (k := 0) hd rfl
  have c1 : T.cps[p + 1]? = some (if k < 9 then 79 else 73) := drop_at (k := 1) hd rfl
  have hd2 : T.cps.toList.drop (p + 2) = 91 :: (tx i ++ 93 :: rr) := by rw [← List.drop_drop, hd]; rfl
  have hp := Nat.lt_of_lt_of_le (Array.getElem?_eq_some_iff.mp c1).1 hT
  have hi : PySem.intText? (⟨#[48 + k % 3]⟩ : Str) = some (((k % 3 : Nat) : Int)) ∧ (⟨#[48 + k % 3]⟩ : Str).length ≤ 640 := by
    have : ∀ j : Fin 3, PySem.intText? (⟨#[48 + j.val]⟩ : Str) = some ((j.val : Nat) : Int) ∧ (⟨#[48 + j.val]⟩ : Str).length ≤ 640 := by decide +kernel
    exact this ⟨k % 3, hw⟩
  refine fn_e s.gl hf hc hA ["string", "at", "strict"] ["other", "value", "end"] rfl (by decide +kernel) (fun doc pm c ctv vs hv => by obtain ⟨a, b, c, rfl⟩ := len3 hv; rfl) fun L A' cdv hD hA ok => ?_
  refine sub_str (Int.natCast_nonneg _) (by omega) (by rw [Int.toNat_natCast]; exact c0) ⟨ok, int_str hi.1 hi.2 ⟨ok, ?_⟩⟩
  refine .run (sub_str (i := ((p + 1 : Nat) : Int)) (Int.natCast_nonneg _) (by omega) (by rw [Int.toNat_natCast]; exact c1) ⟨ok, ?_⟩)
  have e1 : ((p + 2 + (tx i).length + 2 : Nat) : Int) + 1 = ((p + (tx i).length + 5 : Nat) : Int) := by omega
  by_cases h9 : k < 9
  · rw [if_pos h9]
    rw [if_pos h9] at h
    refine sub_lst (y := .ref (q.g (k % 3))) (.own .hd) (Int.natCast_nonneg _) (Int.lt_trans (Int.ofNat_lt.mpr hw) (by decide)) (rf3_at hw) ⟨ok, (s.rd _ hw).ok.2, ?_⟩
    refine (ask_outer (p := p + 2) (Q := fun v F1 H1 => Nx _ _ _ v F1 H1) (P := P) s hT on hw ho hd2 hn hz hA ?_).mono (fun _ _ _ q => q) fun e F1 H1 q => kE.thr rfl q
    generalize clrW (k % 3) (walkK i (k % 3) n) = r at h
    obtain ⟨f, vs, m⟩ := r
    cases f with
    | none =>
      have h : Q (.tup [.tup [.str "other", .int ((k % 3 : Nat) : Int), .lst vs], .int ((p + (tx i).length + 5 : Nat) : Int)]) F (hpR G q m H) := h
      rw [← e1] at h
      exact ⟨ok, .run h⟩
    | some a => exact h
  · rw [if_neg h9]
    rw [if_neg h9] at h
    refine sub_lst (y := .ref (q.f (k % 3))) (.own (.tl .hd)) (Int.natCast_nonneg _) (Int.lt_trans (Int.ofNat_lt.mpr hw) (by decide)) (rf3_at hw) ⟨ok, (s.rd _ hw).ok.1, ?_⟩
    refine (ask_list (p := p + 2) (Q := fun v F1 H1 => Nx _ _ _ v F1 H1) (P := P) s hT on hw ho hd2 hn hz (hA.less (by omega)) ?_).mono (fun _ _ _ q => q) fun e F1 H1 q => kE.thr rfl q
    generalize walkK i (k % 3) n = r at h
    obtain ⟨f, vs, m⟩ := r
    cases f with
    | none =>
      have h : Q (.tup [.tup [.str "other", .int ((k % 3 : Nat) : Int), .lst vs], .int ((p + (tx i).length + 5 : Nat) : Int)]) F (hpR G q m H) := h
      rw [← e1] at h
      exact ⟨ok, .run h⟩
    | some a => exact h
theorem sg_name : ∀ k : Fin 3, sg k.val = [123, 97 + k.val, 125] := by decide +kernel
theorem sg_oth : ∀ k : Fin 12, 5 < k.val → sg k.val = [34, 48 + k.val % 3, if k.val < 9 then 79 else 73, 91] := by decide +kernel
theorem leaf (s : Std G F q) (hT : T.cps.size ≤ 1000000) {k a : Nat} {r : Kn} (hw : w < 3) (hk : k < 5) (ha : a = p) (hd : T.cps.toList.drop p = sg k ++ 32 :: rr) (hn : n.ok) (hA : Ok fr A 3)
    (h : NodeQ G F q H p (.leaf k a r) Q P (nd1 (.leaf k a r) w n)) : Cl G fr A F (hpR G q n H) (.ref (q.f w)) [.str T, .int (p : Int)] Q (Thr0 P) := by
  obtain ⟨ps, po, pa, pq, pi, hS, eo, ko, ea, ka, es, ks, ei, ki, em, hO⟩ := s.rd w hw
  have h : NodeQ G F q H p (.leaf k a r) Q P (if k < 3 then .val (nmV w ((n.put w k).get w)) (n.put w k) else if k = 3 then .val (nuV w (n.get w).length) n else .flt a n) := h
  by_cases h3 : k < 3
  · rw [if_pos h3] at h
    have e3 := sg_name ⟨k, h3⟩
    have e3 : sg k = [123, 97 + k, 125] := e3
    rw [e3] at hd
    refine scan hS (hA.less (by decide)) hT s.bt (c := 123) (drop_at (k := 0) hd rfl) ?_
    rw [hd, show lexL ([123, 97 + k, 125] ++ 32 :: rr) = .obj from rfl]
    intro env A' hD
    rw [eo, em]
    have c1 : T.cps[p + 1]? = some (97 + k) := drop_at (k := 1) hd rfl
    refine Cl.no (p_name (i := p + 1) s.gl ko ((hA.deep (n := 2) hD).less (by decide)) hT h3 c1 hn (s.sm w) ?_)
    have h : Q (.tup [nmV w ((n.put w k).get w), .int ((p + (sg k).length : Nat) : Int)]) F (hpR G q (n.put w k) H) := h
    rw [e3] at h
    exact h
  · rw [if_neg h3] at h
    by_cases h4 : k = 3
    · rw [if_pos h4] at h
      subst h4
      refine scan hS (hA.less (by decide)) hT s.bt (c := 53) (drop_at (k := 0) hd rfl) ?_
      have txt : (⟨T.cps.extract p (p + 1)⟩ : Str) = "5" := drop_ext hd
      rw [hd, show lexL (sg 3 ++ 32 :: rr) = .whole 1 from rfl]
      intro env A' hD
      rw [ei, txt]
      exact Cl.no (p_num s.gl ki ((hA.deep (n := 2) hD).less (by decide)) hn (s.sm w) h)
    · rw [if_neg h4] at h
      obtain rfl : k = 4 := by omega
      subst ha
      refine scan hS (hA.less (by decide)) hT s.bt (c := 63) (drop_at (k := 0) hd rfl) ?_
      rw [hd, show lexL (sg 4 ++ 32 :: rr) = .stop from rfl]
      exact fun x b => h x b
theorem node (s : Std G F q) (hT : T.cps.size ≤ 1000000) : ∀ d, NodeP G F q T d := by
  intro d
  induction d with
  | zero =>
    intro x w fr A H n p rr Q P hw hs ho hd hn hz hA h
    cases x with
    | nil => exact hs.elim
    | leaf k a r => exact leaf s hT hw ho.1 ho.2.1 hd hn (hA.less (by decide)) h
    | box k i r => exact ho.elim
  | succ d ih =>
    intro x w fr A H n p rr Q P hw hs ho hd hn hz hA h
    cases x with
    | nil => exact hs.elim
    | leaf k a r => exact leaf s hT hw ho.1 ho.2.1 hd hn (hA.less (by omega)) h
    | box k i r =>
      obtain ⟨⟨h5, h12⟩, o2, o3⟩ := ho
      have hz : i.size + r.size + 1 ≤ 100 := hz
      have h : NodeQ G F q H p (.box k i r) Q P (match walkK i (whoK k w) n with
        | ⟨none, vs, m⟩ => .val (boxV k w vs) (clrK k w m)
        | ⟨some a, _, m⟩ => .flt a (clrK k w m)) := h
      have hd : T.cps.toList.drop p = (sg k ++ (tx i ++ clC k)) ++ 32 :: rr := hd
      by_cases e5 : k = 5
      · subst e5
        have hd : T.cps.toList.drop p = 91 :: (tx i ++ 93 :: 32 :: rr) := by
          rw [hd, show sg 5 = [91] by decide +kernel, show clC 5 = [93] from rfl]; simp
        refine ask_list (rr := 32 :: rr) s hT ih hw o2 hd hn (by omega) (hA.less (by omega)) ?_
        have el : (ndC (.box 5 i r)).length = (tx i).length + 2 := by
          show (sg 5 ++ (tx i ++ clC 5)).length = _
          rw [show sg 5 = [91] by decide +kernel, show clC 5 = [93] from rfl]; simp
        unfold whoK clrK boxV at h
        rw [if_pos rfl] at h
        generalize walkK i w n = q0 at h
        obtain ⟨f, vs, m⟩ := q0
        cases f with
        | none =>
          have h : Q (.tup [.lst vs, .int ((p + (ndC (.box 5 i r)).length : Nat) : Int)]) F (hpR G q m H) := h
          rw [el, ← Nat.add_assoc] at h
          exact h
        | some a => exact h
      · have h6 : 5 < k := by omega
        have es := sg_oth ⟨k, h12⟩ h6
        have es : sg k = [34, 48 + k % 3, if k < 9 then 79 else 73, 91] := es
        have ec : clC k = [93, 34] := if_neg e5
        rw [es, ec] at hd
        have hd : T.cps.toList.drop p = 34 :: (48 + k % 3) :: (if k < 9 then 79 else 73) :: 91 :: (tx i ++ 93 :: 34 :: 32 :: rr) := by rw [hd]; simp
        obtain ⟨ps, po, pa, pq, pi, hS, eo, ko, ea, ka, es', ks, ei, ki, em, hO⟩ := s.rd w hw
        refine scan hS (hA.less (by omega)) hT s.bt (c := 34) (drop_at (k := 0) hd rfl) ?_
        rw [hd, show lexL (34 :: (48 + k % 3) :: (if k < 9 then 79 else 73) :: 91 :: (tx i ++ 93 :: 34 :: 32 :: rr)) = .str from rfl]
        intro env A' hD
        rw [es']
        rw [es] at o2
        have hd1 : T.cps.toList.drop (p + 1) = (48 + k % 3) :: (if k < 9 then 79 else 73) :: 91 :: (tx i ++ 93 :: 34 :: 32 :: rr) := by rw [← List.drop_drop, hd]; rfl
        refine p_other (p := p + 1) (rr := 34 :: 32 :: rr) s hT ih ⟨h6, h12⟩ ks o2 hd1 hn (by omega) ((hA.less (m := 6 * d + 11) (by omega)).deep hD) ?_
        have el : (ndC (.box k i r)).length = (tx i).length + 6 := by
          show (sg k ++ (tx i ++ clC k)).length = _
          rw [es, ec]; simp
        have e9 : ∀ m : Nm, clrK k w m = if k < 9 then m.clr (k % 3) else m := by
          intro m
          unfold clrK whoK
          rw [if_neg e5]
          by_cases h9 : k < 9
          · rw [if_pos ⟨h6, h9⟩, if_pos h9]
          · rw [if_neg (fun q => h9 q.2), if_neg h9]
        rw [show whoK k w = k % 3 from if_neg e5] at h
        generalize walkK i (k % 3) n = q0 at h
        obtain ⟨f, vs, m⟩ := q0
        have e8 : (if k < 9 then clrW (k % 3) ⟨f, vs, m⟩ else ⟨f, vs, m⟩ : Wk) = ⟨f, vs, clrK k w m⟩ := by
          rw [e9]
          by_cases h9 : k < 9
          · rw [if_pos h9, if_pos h9]; rfl
          · rw [if_neg h9, if_neg h9]
        rw [e8]
        cases f with
        | none =>
          have h : Q (.tup [boxV k w vs, .int ((p + (ndC (.box k i r)).length : Nat) : Int)]) F (hpR G q (clrK k w m) H) := h
          unfold boxV at h
          rw [if_neg e5, show whoK k w = k % 3 from if_neg e5, el] at h
          show Q (.tup [.tup [.str "other", .int ((k % 3 : Nat) : Int), .lst vs], .int ((p + 1 + (tx i).length + 5 : Nat) : Int)]) F _
          rw [show p + 1 + (tx i).length + 5 = p + ((tx i).length + 6) by omega]
          exact h
        | some a => exact h
end
noncomputable def mkS (l : List Nat) : Str := ⟨l.toArray⟩
theorem mk_app (x y : List Nat) : mkS x ++ mkS y = mkS (x ++ y) := by
  show (⟨x.toArray ++ y.toArray⟩ : Str) = _
  unfold mkS
  congr 1
  exact List.append_toArray x y
theorem mk_cps (s : Str) : mkS s.cps.toList = s := by
  obtain ⟨a⟩ := s
  rfl
theorem mk_len (l : List Nat) : (mkS l).length = l.length := List.size_toArray
theorem mk_sg (k : Nat) : sgS k = mkS (sg k) := (mk_cps _).symm
theorem mk_c {s : Str} {l : List Nat} (h : s.cps.toList = l) : s = mkS l := by rw [← h, mk_cps]
noncomputable def Kn.app : Kn → Kn → Kn
  | .nil, y => y
  | .leaf k a r, y => .leaf k a (r.app y)
  | .box k i r, y => .box k i (r.app y)
theorem tx_app : ∀ x y : Kn, tx (x.app y) = tx x ++ tx y
  | .nil, _ => rfl
  | .leaf k a r, y => by show sg k ++ 32 :: tx (r.app y) = (sg k ++ 32 :: tx r) ++ tx y; rw [tx_app r y, List.append_assoc]; rfl
  | .box k i r, y => by show sg k ++ (tx i ++ (clC k ++ 32 :: tx (r.app y))) = (sg k ++ (tx i ++ (clC k ++ 32 :: tx r))) ++ tx y; rw [tx_app r y]; simp
theorem foV_app : ∀ x y : Kn, foV (x.app y) = foV x ++ foV y
  | .nil, _ => rfl
  | .leaf k a r, y => by show _ :: foV (r.app y) = _ :: foV r ++ foV y; rw [foV_app r y]; rfl
  | .box k i r, y => by show _ :: foV (r.app y) = _ :: foV r ++ foV y; rw [foV_app r y]; rfl
theorem size_app : ∀ x y : Kn, (x.app y).size = x.size + y.size
  | .nil, y => (Nat.zero_add _).symm
  | .leaf k a r, y => by show (r.app y).size + 1 = r.size + 1 + y.size; rw [size_app r y, Nat.add_right_comm]
  | .box k i r, y => by show i.size + (r.app y).size + 1 = i.size + r.size + 1 + y.size; rw [size_app r y]; omega
theorem ok_app {d : Nat} : ∀ {x y : Kn} {p : Nat}, x.ok d p → y.ok d (p + (tx x).length) → (x.app y).ok d p
  | .nil, y, p, _, h => h
  | .leaf k a r, y, p, h1, h2 => ⟨h1.1, h1.2.1, ok_app h1.2.2 (by
      have e : p + (tx (.leaf k a r)).length = p + ((sg k).length + 1) + (tx r).length := by
        show p + (sg k ++ 32 :: tx r).length = _
        rw [List.length_append, List.length_cons]; omega
      rw [← e]; exact h2)⟩
  | .box k i r, y, p, h1, h2 => by
    cases d with
    | zero => exact h1.elim
    | succ d =>
      refine ⟨h1.1, h1.2.1, ok_app h1.2.2 ?_⟩
      have e : p + (tx (.box k i r)).length = p + ((sg k).length + ((tx i).length + ((clC k).length + 1))) + (tx r).length := by
        show p + (sg k ++ (tx i ++ (clC k ++ 32 :: tx r))).length = _
        rw [List.length_append, List.length_append, List.length_append, List.length_cons]; omega
      rw [← e]; exact h2
theorem foV_len : ∀ x : Kn, (foV x).length ≤ x.size
  | .nil => Nat.le_refl _
  | .leaf _ _ r => Nat.succ_le_succ (foV_len r)
  | .box _ i r => Nat.succ_le_succ (Nat.le_trans (foV_len r) (Nat.le_add_left _ _))
noncomputable def rowsV (S : List (Addr × Kn)) : List V := (S.map fun p => .ref p.1).reverse
noncomputable def kindsV (ks : List Nat) : List V := (ks.map fun k => .int ((k : Nat) : Int)).reverse
noncomputable def rowsH (S : List (Addr × Kn)) : Hp := S.map fun p => (p.1, .list (foV p.2))
noncomputable def rowT (X : Kn) : List Nat := 91 :: (tx X ++ [93])
structure Rw where
  w : Nat
  sc : Bool
  X : Kn
noncomputable def Rw.v (r : Rw) : V := .tup [.int ((r.w : Nat) : Int), .bool r.sc, .str (mkS (rowT r.X)), .lst (foV r.X)]
noncomputable def doneV (rows : List Rw) : List V := rows.map Rw.v
structure Rw.ok (r : Rw) : Prop where
  w : r.w < 3
  X : r.X.ok 5 1
  sz : r.X.size ≤ 31
inductive TrS : List Nat → List (Addr × Kn) → List Nat → Nat → Prop where
  | base {a : Addr} {fo : Kn} (h : fo.ok 5 1) : TrS [] [(a, fo)] (91 :: tx fo) fo.size
  | push {k : Nat} {ks : List Nat} {a : Addr} {fo : Kn} {S : List (Addr × Kn)} {x : List Nat} {n : Nat} (t : TrS ks S x n) (hb : 5 ≤ k ∧ k < 12) (hk : ks.length < 5) (h : fo.ok (4 - ks.length) (x.length + (sg k).length)) : TrS (k :: ks) ((a, fo) :: S) (x ++ (sg k ++ tx fo)) (n + fo.size + 1)
theorem TrS.len {ks : List Nat} {S : List (Addr × Kn)} {x : List Nat} {n : Nat} (h : TrS ks S x n) : S.length = ks.length + 1 := by
  induction h with
  | base => rfl
  | push _ _ _ _ ih => exact congrArg (· + 1) ih
theorem TrS.six {ks : List Nat} {S : List (Addr × Kn)} {x : List Nat} {n : Nat} (h : TrS ks S x n) : ks.length ≤ 5 := by
  cases h with
  | base => exact Nat.zero_le _
  | push _ _ h _ => exact h
theorem TrS.tl {ks : List Nat} {S : List (Addr × Kn)} {x : List Nat} {n : Nat} (h : TrS ks S x n) : x.length ≤ 7 * n + 1 := by
  induction h with
  | base h => have := tx_len h; rw [List.length_cons]; omega
  | @push k ks a fo S x n t hb hk h ih =>
    have h1 := tx_len h
    have h2 := (sg_head ⟨k, hb.2⟩).2.2
    have h2 : (sg k).length ≤ 4 := h2
    rw [List.length_append, List.length_append]; omega
inductive TrH (ks : List Nat) (S : List (Addr × Kn)) (x : List Nat) (n : Nat) : Prop where
  | mk (a : Addr) (fo : Kn) (S' : List (Addr × Kn)) (e : S = (a, fo) :: S') (hs : fo.size ≤ n) (snoc : ∀ y : Kn, y.ok (5 - ks.length) x.length → TrS ks ((a, fo.app y) :: S') (x ++ tx y) (n + y.size))
theorem TrS.head {ks : List Nat} {S : List (Addr × Kn)} {x : List Nat} {n : Nat} (h : TrS ks S x n) : TrH ks S x n := by
  cases h with
  | @base a fo h =>
    refine ⟨_, _, _, rfl, Nat.le_refl _, fun y hy => ?_⟩
    rw [← size_app, List.cons_append, ← tx_app]
    refine .base (ok_app h ?_)
    rw [Nat.add_comm]; exact hy
  | @push k ks a fo S x n t hb hk h =>
    refine ⟨_, _, _, rfl, by omega, fun y hy => ?_⟩
    have e : n + fo.size + 1 + y.size = n + (fo.app y).size + 1 := by rw [size_app]; omega
    rw [e, List.append_assoc, List.append_assoc, ← tx_app]
    refine .push t hb hk (ok_app h ?_)
    rw [List.length_append, List.length_append] at hy
    rw [show 4 - ks.length = 5 - (k :: ks).length by rw [List.length_cons]; omega, Nat.add_assoc]
    exact hy
theorem TrS.close {k : Nat} {ks : List Nat} {a : Addr} {fo : Kn} {S : List (Addr × Kn)} {x : List Nat} {n : Nat} (h : TrS (k :: ks) ((a, fo) :: S) x n) : k < 12 ∧ 5 ≤ k ∧ ∃ a2 fo2 S3, S = (a2, fo2) :: S3 ∧ fo.size ≤ n ∧ fo2.size ≤ n ∧ TrS ks ((a2, fo2.app (.box k fo .nil)) :: S3) (x ++ (clC k ++ [32])) n := by
  cases h with
  | @push _ _ _ _ _ x0 n0 t hb hk h =>
    obtain ⟨a2, fo2, S3, e, hs, snoc⟩ := t.head
    refine ⟨hb.2, hb.1, a2, fo2, S3, e, by omega, by omega, ?_⟩
    have := snoc (.box k fo .nil) (by
      rw [show 5 - ks.length = (4 - ks.length) + 1 by omega]
      exact ⟨hb, h, trivial⟩)
    have e2 : x0 ++ (sg k ++ tx fo) ++ (clC k ++ [32]) = x0 ++ tx (.box k fo .nil) := by
      show _ = x0 ++ (sg k ++ (tx fo ++ (clC k ++ [32])))
      rw [List.append_assoc, List.append_assoc]
    rw [e2]
    exact this
structure Bld (k : Nat) (rows : List Rw) (w : Nat) (ks : List Nat) (S : List (Addr × Kn)) (x : List Nat) (n : Nat) : Prop where
  tr : TrS ks S x n
  le : n ≤ k
  len : rows.length ≤ k
  ok : ∀ r ∈ rows, r.ok
  w : w < 3
theorem Bld.more {k k' n : Nat} {rows : List Rw} {w : Nat} {ks : List Nat} {S : List (Addr × Kn)} {x : List Nat} (h : Bld k rows w ks S x n) (le : k ≤ k') : Bld k' rows w ks S x n := ⟨h.tr, Nat.le_trans h.le le, Nat.le_trans h.len le, h.ok, h.w⟩
theorem Bld.row {k n : Nat} {rows : List Rw} {w : Nat} {a b : Addr} {fo : Kn} {x : List Nat} (h : Bld k rows w [] [(a, fo)] x n) (hk : k ≤ 31) (sc : Bool) {w' : Nat} (hw : w' < 3) : Bld (k + 1) (rows ++ [⟨w, sc, fo⟩]) w' [] [(b, .nil)] [91] 0 ∧ x ++ [93] = rowT fo := by
  obtain ⟨tr, le, len, ok, w3⟩ := h
  cases tr with
  | base hfo =>
    refine ⟨⟨.base trivial, Nat.zero_le _, by rw [List.length_append]; exact Nat.succ_le_succ len, fun r hr => ?_, hw⟩, rfl⟩
    rcases List.mem_append.mp hr with hr | hr
    · exact ok r hr
    · rw [List.mem_singleton.mp hr]; exact ⟨w3, hfo, Nat.le_trans le hk⟩
theorem doneV_snoc (rows : List Rw) (r : Rw) : doneV (rows ++ [r]) = doneV rows ++ [r.v] := by
  unfold doneV
  rw [List.map_append]; rfl
noncomputable def sgV : List V := sgL.map .str
theorem sgV_at : ∀ k : Nat, k < 12 → sgV[k]? = some (.str (sgS k)) := by
  intro k h
  show (sgL.map V.str)[k]? = _
  have h : k < sgL.length := h
  rw [List.getElem?_map, List.getElem?_eq_getElem h]
  unfold sgS
  rw [List.getD_eq_getElem?_getD, List.getElem?_eq_getElem h]
  rfl
theorem Op2.freeze {G : Glob} {fr : List Env} {A : Around} {F : Fz} {H : Hp} {E : Value → Fz → Hp → Prop} {Q : V → Fz → Hp → Prop} {f : Value → Value → Sem Value} {x y : V} (h : Op2 G fr A F H f x y (fun v F1 H1 => ∃ a l H2, v = .ref a ∧ Rem H1 a (.list l) H2 ∧ Q (.lst l) F1 H2) E) : Op2 G fr A F H f x y Q E := fun K m a b ha hb R s hR => by
  refine wpAny_mono (h K m a b ha hb R s hR) (fun v s' hq => ?_) fun _ _ x => x
  obtain ⟨K1, H1, l1, r1, x, hx, F1, m1, a, l, H2, rfl, hrem, q⟩ := hq
  obtain rfl := hx.i_ref
  obtain ⟨K2, l2, r2, hv2⟩ := list_freeze (r1.perm (hrem.perm.append_right R))
  exact ⟨K2, H2, l1.trans l2, r2, _, hv2, F1, m1.trans l2, q⟩
theorem Cl.drp0 {G : Glob} {fr : List Env} {A : Around} {F : Fz} {H H' : Hp} {f : V} {xs : List V} {Q : V → Fz → Hp → Prop} {E : Value → Fz → Hp → Prop} (d : Drp H H') (h : Cl G fr A F H' f xs Q E) : Cl G fr A F H f xs Q E := fun K m v vs hv hvs R s hR => h K m v vs hv hvs R s (hR.drp d)
theorem last_in (l : List V) (x : V) : 0 ≤ (-1 : Int) + ((l ++ [x]).length : Nat) := by rw [List.length_append, List.length_singleton, m1a]; exact Int.natCast_nonneg _
theorem last_at (l : List V) (x : V) : (l ++ [x])[((-1 : Int) + ((l ++ [x]).length : Nat)).toNat]? = some x := by rw [List.length_append, List.length_singleton, m1a, Int.toNat_natCast]; exact List.getElem?_concat_length
noncomputable def treH (dn rw kd : Addr) (H : Hp) (rows : List Rw) (ks : List Nat) (S : List (Addr × Kn)) : Hp := (rw, .list (rowsV S)) :: (kd, .list (kindsV ks)) :: (dn, .list (doneV rows)) :: (rowsH S ++ H)
theorem treH_push {dn rw kd a : Addr} {H : Hp} {rows : List Rw} {k : Nat} {ks : List Nat} {fo : Kn} {S : List (Addr × Kn)} : treH dn rw kd H rows (k :: ks) ((a, fo) :: S) = (rw, .list (rowsV S ++ [.ref a])) :: (kd, .list (kindsV ks ++ [.int ((k : Nat) : Int)])) :: (dn, .list (doneV rows)) :: (a, .list (foV fo)) :: (rowsH S ++ H) := by
  unfold treH rowsV kindsV
  rw [List.map_cons, List.map_cons, List.reverse_cons, List.reverse_cons]
  rfl
theorem treH_snoc {dn rw kd a : Addr} {H : Hp} {rows : List Rw} {ks : List Nat} {fo y : Kn} {S : List (Addr × Kn)} : treH dn rw kd H rows ks ((a, fo.app y) :: S) = (rw, .list (rowsV ((a, fo) :: S))) :: (kd, .list (kindsV ks)) :: (dn, .list (doneV rows)) :: (a, .list (foV fo ++ foV y)) :: (rowsH S ++ H) := by
  rw [← foV_app]; rfl
theorem rows_last {a : Addr} {fo : Kn} {S : List (Addr × Kn)} : 0 ≤ (-1 : Int) + (rowsV ((a, fo) :: S)).length ∧ (rowsV ((a, fo) :: S))[((-1 : Int) + (rowsV ((a, fo) :: S)).length).toNat]? = some (.ref a) := by
  have e : rowsV ((a, fo) :: S) = rowsV S ++ [.ref a] := by unfold rowsV; rw [List.map_cons, List.reverse_cons]
  rw [e]
  exact ⟨last_in _ _, last_at _ _⟩
theorem clC_str (k : Nat) : (if k = 5 then Str.ofString "] " else Str.ofString "]\" ") = mkS (clC k ++ [32]) := by
  unfold clC
  by_cases e : k = 5
  · rw [if_pos e, if_pos e]; exact mk_c (by decide +kernel)
  · rw [if_neg e, if_neg e]; exact mk_c (by decide +kernel)
theorem shut {G : Glob} {fr : List Env} {A : Around} {F : Fz} {H : Hp} {ag : Nat → Addr} (hg : Gl G F ag) (hf : IsDef F (stm 7) (ag 7)) (hA : Ok fr A 1) {dn rw kd a a2 : Addr} {rows : List Rw} {k : Nat} {ks : List Nat} {fo fo2 : Kn} {S : List (Addr × Kn)} {x : List Nat} {Q : V → Fz → Hp → Prop}
    (hx : x.length ≤ 900) (hk : ks.length ≤ 5) (hS : S.length ≤ 5) (hfo : fo2.size ≤ 100)
    (h : Q (.str (mkS (x ++ (clC k ++ [32])))) F (treH dn rw kd H rows ks ((a2, fo2.app (.box k fo .nil)) :: S))) :
    Cl G fr A F (treH dn rw kd H rows (k :: ks) ((a, fo) :: (a2, fo2) :: S)) (.ref (ag 7)) [.str (mkS x), .ref rw, .ref kd] Q No := by
  obtain ⟨c, s, o, pm, hs, hf, hd, hc⟩ := hf
  obtain rfl := Option.some.inj hs.symm
  refine def_w hg hf hd hc hA ["text", "bodies", "kinds"] ["kind", "body"] rfl (by decide +kernel) (fun vs hv => by obtain ⟨a, b, c, rfl⟩ := len3 hv; rfl) fun L A' hA ok => ?_
  rw [treH_push]
  have hkl : (kindsV ks).length ≤ 5 := Nat.le_trans (Nat.le_of_eq (by simp [kindsV])) hk
  have hrl : (rowsV ((a2, fo2) :: S)).length ≤ 6 := Nat.le_trans (Nat.le_of_eq (by simp [rowsV])) (Nat.succ_le_succ hS)
  refine ⟨"list", _, m_pop, .list (.tl .hd), ?_⟩
  refine pop_last (.tl .hd) (lsz (Nat.succ_le_succ hkl) (Eq.refl true)) ⟨ok, ?_⟩
  refine ⟨"list", _, m_pop, .list .hd, ?_⟩
  refine Cl.freeze (pop_last .hd (lsz (Nat.succ_le_succ hrl) (Eq.refl true)) ⟨_, _, _, rfl, .tl (.tl (.tl .hd)), ok, ?_⟩)
  refine sub_lst_neg (.own .hd) (by decide) rows_last.1 (by decide) rows_last.2 ⟨ok, ?_⟩
  refine ⟨"list", _, m_append, .list (.tl (.tl (.tl .hd))), ?_⟩
  refine append (.tl (.tl (.tl .hd))) (lsz (Nat.le_trans (foV_len fo2) hfo) (Eq.refl true)) ⟨ok, ?_⟩
  rw [treH_snoc] at h
  have z : (mkS x).length + (mkS (clC k ++ [32])).length ≤ sizeLine := by
    rw [mk_len, mk_len, List.length_append]
    exact lsz (ad hx (ad (cl_len k).2 (Nat.le_refl 1) (e := 3) (Eq.refl true)) (Eq.refl true) (e := 903)) (Eq.refl true)
  have e5 := clC_str k
  refine .run (.run (bifW.sp (fun e => ?_) fun e => ?_))
  · have e : k = 5 := j_eq (k := 5) e
    rw [if_pos e] at e5
    rw [← e5] at z
    refine add_ss z ⟨ok, ?_⟩
    rw [e5, mk_app]
    exact h
  · have e : ¬ k = 5 := fun q => by rw [q] at e; cases e
    rw [if_neg e] at e5
    rw [← e5] at z
    refine add_ss z ⟨ok, ?_⟩
    rw [e5, mk_app]
    exact h
structure Bs where
  at_ : Nat
  rows : List Rw
  w : Nat
  sc : Bool
  ks : List Nat
  S : List (Addr × Kn)
  x : List Nat
  rw : Addr
  o : Nat → Option V
noncomputable def bR (zs : List Int) (dn kd : Addr) (s : Bs) : Rho := [("figures", some (.lst (zs.map .int))), ("signs", some (.lst sgV)), ("rows", some (.ref dn)), ("who", some (.int (s.w : Nat))), ("scanning", some (.bool s.sc)), ("text", some (.str (mkS s.x))), ("bodies", some (.ref s.rw)), ("kinds", some (.ref kd)), ("at", some (.int (s.at_ : Nat))), ("figure", s.o 0), ("following", s.o 1)]
structure BsP (L : Nat) (s : Bs) : Prop where
  b : ∃ n, Bld s.at_ s.rows s.w s.ks s.S s.x n
  l : s.at_ ≤ L + 1
structure Us where
  ks : List Nat
  S : List (Addr × Kn)
  x : List Nat
structure UsP (k : Nat) (rows : List Rw) (w : Nat) (u : Us) : Prop where
  b : ∃ n, Bld k rows w u.ks u.S u.x n
theorem kinds_len (ks : List Nat) : (kindsV ks).length = ks.length := by unfold kindsV; rw [List.length_reverse, List.length_map]
theorem rows_len (S : List (Addr × Kn)) : (rowsV S).length = S.length := by unfold rowsV; rw [List.length_reverse, List.length_map]
theorem kinds_emp (ks : List Nat) : (!(kindsV ks).isEmpty) = !ks.isEmpty := by
  cases ks with
  | nil => rfl
  | cons k ks => rw [show kindsV (k :: ks) = kindsV ks ++ [.int ((k : Nat) : Int)] by unfold kindsV; rw [List.map_cons, List.reverse_cons]]; cases kindsV ks <;> rfl
theorem shut1 {G : Glob} {fr : List Env} {A : Around} {F : Fz} {H : Hp} {ag : Nat → Addr} (hg : Gl G F ag) (hf : IsDef F (stm 7) (ag 7)) (hA : Ok fr A 1) {dn rw kd : Addr} {rows : List Rw} {w k n : Nat} {ks : List Nat} {q : Nat} {S : List (Addr × Kn)} {x : List Nat} {Q : V → Fz → Hp → Prop}
    (hb : Bld k rows w (q :: ks) S x n) (hk : k ≤ 31) (h : ∀ S' x', Bld k rows w ks S' x' n → Q (.str (mkS x')) F (treH dn rw kd H rows ks S')) :
    Cl G fr A F (treH dn rw kd H rows (q :: ks) S) (.ref (ag 7)) [.str (mkS x), .ref rw, .ref kd] Q No := by
  obtain ⟨a, fo, S2, rfl, hs, -⟩ := hb.tr.head
  obtain ⟨h12, h5, a2, fo2, S3, rfl, hs2, hs3, hS'⟩ := hb.tr.close
  have hn : n ≤ 31 := Nat.le_trans hb.le hk
  have hl := hb.tr.len
  have h6 := hb.tr.six
  refine shut hg hf hA ?_ (Nat.le_of_succ_le h6) ?_ (Nat.le_trans hs3 (ble hn (Eq.refl true))) (h _ _ ⟨hS', hb.le, hb.len, hb.ok, hb.w⟩)
  · exact Nat.le_trans hb.tr.tl (Nat.succ_le_succ (Nat.le_trans (Nat.mul_le_mul_left 7 hn) (by decide)))
  · have : S3.length + 2 = ks.length + 2 := hl
    exact Nat.le_trans (Nat.le_of_eq (Nat.add_right_cancel this)) (Nat.le_of_succ_le h6)
theorem build {G : Glob} {fr : List Env} {A : Around} {F : Fz} {H : Hp} {a : Addr} {ag : Nat → Addr} (hg : Gl G F ag)
    (hf : IsDef F (stm 8) a) (h7 : IsDef F (stm 7) (ag 7)) (hA : Ok fr A 2) (zs : List Int) (hz : Figs 14 30 zs) {Q : V → Fz → Hp → Prop}
    (h : ∀ rows : List Rw, (∀ r ∈ rows, r.ok) → rows.length ≤ 40 → Q (.lst (doneV rows)) F H) : Cl G fr A F H (.ref a) [.lst (zs.map .int)] Q No := by
  obtain ⟨c, s, o, pm, hs, hf, hd, hc⟩ := hf
  obtain rfl := Option.some.inj hs.symm
  refine Cl.drpQ (Cl.freeze ?_)
  refine def_w hg hf hd hc hA ["figures"] ["signs", "rows", "who", "scanning", "text", "bodies", "kinds", "at", "figure", "following"] rfl (by decide +kernel) (fun vs hv => by obtain ⟨a, rfl⟩ := len1 hv; rfl) fun L A' hA ok => ?_
  have hl30 : zs.length ≤ 30 := Int.ofNat_le.mp hz.1
  have hll : (zs.map V.int).length = zs.length := by rw [List.length_map]
  have hlz : (zs.map V.int).length < 2 ^ 63 := by rw [hll]; exact a63 (ble hl30 (Eq.refl true))
  refine .frz (szl rfl) ?_
  refine .own (szl rfl) fun dn => ?_
  refine .own (szl rfl) fun a0 => ?_
  refine .own (szl rfl) fun rw => ?_
  refine .at (fun kd => treH dn rw kd H [] [] [(a0, .nil)]) (fun kd => (List.Perm.swap _ _ _).trans (.cons _ (.cons _ (.swap _ _ _)))) (szl rfl) fun kd => ?_
  refine WhileW.st ok 40 (fun s => bR zs dn kd s) (fun s => treH dn s.rw kd H s.rows s.ks s.S) (fun s => zs.length + 1 - s.at_) (BsP zs.length) ⟨0, [], 0, true, [], [(a0, .nil)], [91], rw, gh []⟩ ⟨⟨0, .base trivial, Nat.le_refl _, Nat.le_refl _, nofun, (by decide : 0 < 3)⟩, Nat.zero_le _⟩ ?_
  rintro ⟨k, rows, w, sc, ks, S, x, rw, o⟩ ⟨⟨n, hS⟩, hkl⟩ Qn hn
  have hkl : k ≤ zs.length + 1 := hkl
  have hS : Bld k rows w ks S x n := hS
  have hn31 : n ≤ 31 := Nat.le_trans hS.le (Nat.le_trans hkl (Nat.succ_le_succ hl30))
  have hks := hS.tr.six
  have hSl := hS.tr.len
  have hxl : x.length ≤ 218 := Nat.le_trans hS.tr.tl (Nat.succ_le_succ (Nat.mul_le_mul_left 7 hn31))
  have hkk : (kindsV ks).length < 2 ^ 63 := by rw [kinds_len]; exact a63 (ble hks (Eq.refl true))
  refine len_lst .lst hlz ⟨ok, ?_⟩
  rw [hll]
  refine bifW.sp (fun e => ?_) fun e => ?_
  · have hk : k < zs.length := Int.ofNat_lt.mp (of_decide_eq_true e)
    have hk30 : k ≤ 30 := Nat.le_trans (Nat.le_of_lt hk) hl30
    obtain ⟨h0, h14⟩ := hz.2 zs[k] (List.getElem_mem hk)
    have hzk : (zs.map V.int)[((k : Nat) : Int).toNat]? = some (.int zs[k]) := by rw [Int.toNat_natCast, List.getElem?_map, List.getElem?_eq_getElem hk]; rfl
    generalize zs[k] = z at h0 h14 hzk
    obtain ⟨j, rfl⟩ := Int.eq_ofNat_of_zero_le h0
    have hj : j < 14 := Int.ofNat_lt.mp h14
    have big : (j : Int) < 2 ^ 63 := Int.lt_trans (Int.ofNat_lt.mpr hj) (by decide)
    refine sub_lst .lst (Int.natCast_nonneg _) (k63 hk (ble hl30 (Eq.refl true))) hzk ⟨ok, ?_⟩
    obtain ⟨a1, fo, S2, rfl, hs, snoc⟩ := hS.tr.head
    have hfl : (foV fo).length ≤ 31 := Nat.le_trans (foV_len fo) (Nat.le_trans hs hn31)
    have hrl : (rowsV ((a1, fo) :: S2)).length ≤ 6 := by rw [rows_len, hSl]; exact Nat.succ_le_succ hks
    have hmu : zs.length + 1 - (k + 1) < zs.length + 1 - k := Nat.sub_lt_sub_left (Nat.lt_succ_of_lt hk) (Nat.lt_succ_self k)
    have leaf : ∀ q, q < 5 → Bld (k + 1) rows w ks ((a1, fo.app (.leaf q x.length .nil)) :: S2) (x ++ (sg q ++ [32])) (n + 1) := fun q hq => ⟨snoc (.leaf q x.length .nil) ⟨hq, rfl, trivial⟩, Nat.succ_le_succ hS.le, Nat.le_succ_of_le hS.len, hS.ok, hS.w⟩
    refine .run (bifW.sp (fun e5 => ?_) fun e5 => ?_)
    · have hj5 : j < 5 := Int.ofNat_lt.mp (of_decide_eq_true e5)
      refine sub_lst_neg (.own .hd) (by decide) rows_last.1 (by decide) rows_last.2 ⟨ok, ?_⟩
      refine ⟨"list", _, m_append, .list (.tl (.tl (.tl .hd))), ?_⟩
      refine len_s (by rw [mk_len]; exact a63 (ble hxl (Eq.refl true))) ⟨ok, append (.tl (.tl (.tl .hd))) (lsz hfl (Eq.refl true)) ⟨ok, ?_⟩⟩
      rw [mk_len]
      have hg4 : (sg j).length ≤ 4 := (sg_head ⟨j, Nat.lt_trans hj5 (by decide)⟩).2.2
      refine sub_lst .lst h0 big (by rw [Int.toNat_natCast]; exact sgV_at j (Nat.lt_trans hj5 (by decide))) ⟨ok, ?_⟩
      have e1 : sgS j ++ (Str.ofString " ") = mkS (sg j ++ [32]) := by rw [mk_sg, mk_c (s := Str.ofString " ") (l := [32]) (by decide +kernel), mk_app]
      refine add_ss (by rw [mk_sg, mk_len]; exact lsz (m := 20) (show (sg j).length + 1 ≤ 20 from ad hg4 (Nat.le_refl 1) (Eq.refl true)) (Eq.refl true)) ⟨ok, ?_⟩
      rw [e1]
      refine iadd_ss (by rw [mk_len, mk_len, List.length_append]; exact lsz (m := 1000) (show x.length + ((sg j).length + 1) ≤ 1000 from ad hxl (ad hg4 (Nat.le_refl 1) (e := 5) (Eq.refl true)) (Eq.refl true)) (Eq.refl true)) ⟨ok, ?_⟩
      rw [mk_app]
      have q : Qn (bR zs dn kd ⟨k + 1, rows, w, sc, ks, (a1, fo.app (.leaf j x.length .nil)) :: S2, x ++ (sg j ++ [32]), rw, gh [some (.int j), o 1]⟩) F (treH dn rw kd H rows ks ((a1, fo.app (.leaf j x.length .nil)) :: S2)) := hn _ hmu ⟨⟨_, leaf j hj5⟩, Nat.succ_le_succ (Nat.le_of_lt hk)⟩
      rw [treH_snoc] at q
      exact q
    refine .t (decide ((j : Int) < 12) && decide ((ks.length : Int) < 5)) ?_ ?_
    · refine bifW.sp (fun e1 => ?_) fun e1 => .mk (by rw [e1]; rfl)
      refine len_list (.tl .hd) hkk ⟨ok, ?_⟩
      rw [kinds_len]
      exact bifW.tb (by rw [e1]; rfl)
    refine bifW.sp (fun e6 => ?_) fun e6 => ?_
    · have hks5 : ks.length < 5 := Int.ofNat_lt.mp (of_decide_eq_true (and_r e6))
      have hj12 : j < 12 := Int.ofNat_lt.mp (of_decide_eq_true (and_l e6))
      have hj5 : 5 ≤ j := Nat.le_of_not_lt fun q => of_decide_eq_false e5 (Int.ofNat_lt.mpr q)
      have hg4 : (sg j).length ≤ 4 := (sg_head ⟨j, hj12⟩).2.2
      refine ⟨"list", _, m_append, .list (.tl .hd), append (.tl .hd) (by rw [kinds_len]; exact lsz hks (Eq.refl true)) ⟨ok, ?_⟩⟩
      refine ⟨"list", _, m_append, .list .hd, ?_⟩
      refine .at (fun a => (rw, .list (rowsV ((a1, fo) :: S2))) :: (kd, .list (kindsV ks ++ [.int (j : Int)])) :: (dn, .list (doneV rows)) :: (a, .list []) :: (rowsH ((a1, fo) :: S2) ++ H)) (fun a => List.perm_middle (l₁ := [_, _, _]).symm) (szl rfl) fun a => ?_
      refine append .hd (lsz hrl (Eq.refl true)) ⟨ok, ?_⟩
      refine sub_lst .lst h0 big (by rw [Int.toNat_natCast]; exact sgV_at j hj12) ⟨ok, ?_⟩
      have e2 : mkS x ++ sgS j = mkS (x ++ (sg j ++ tx .nil)) := by rw [mk_sg, mk_app]; show _ = mkS (x ++ (sg j ++ [])); rw [List.append_nil]
      refine iadd_ss (by rw [mk_len, mk_sg, mk_len]; exact lsz (ad hxl hg4 (e := 300) (Eq.refl true)) (Eq.refl true)) ⟨ok, ?_⟩
      rw [e2]
      have q : Qn (bR zs dn kd ⟨k + 1, rows, w, sc, j :: ks, (a, .nil) :: (a1, fo) :: S2, x ++ (sg j ++ tx .nil), rw, gh [some (.int j), o 1]⟩) F (treH dn rw kd H rows (j :: ks) ((a, .nil) :: (a1, fo) :: S2)) := hn _ hmu ⟨⟨n + 1, .push hS.tr ⟨hj5, hj12⟩ hks5 trivial, Nat.succ_le_succ hS.le, Nat.le_succ_of_le hS.len, hS.ok, hS.w⟩, Nat.succ_le_succ (Nat.le_of_lt hk)⟩
      rw [treH_push] at q
      exact q
    refine .run (bifW.sp (fun e => ?_) fun e => ?_)
    · refine WhileW.st ok 40 (fun u : Us => bR zs dn kd ⟨k + 1, rows, w, sc, u.ks, u.S, u.x, rw, gh [some (.int j), o 1]⟩) (fun u => treH dn rw kd H rows u.ks u.S) (fun u => u.ks.length) (UsP k rows w) ⟨ks, (a1, fo) :: S2, x⟩ ⟨n, hS⟩ ?_
      clear hS hks hSl hxl hkk hfl hrl leaf hs snoc hn31 e5 e6
      rintro ⟨ks, S, x⟩ ⟨n, hb⟩ Qm hm
      have hb : Bld k rows w ks S x n := hb
      refine tr_list (.tl .hd) (by rw [kinds_len]; exact i63 (ble hb.tr.six (Eq.refl true))) ⟨ok, ?_⟩
      cases ks with
      | cons q ks =>
        rw [show (!(kindsV (q :: ks)).isEmpty) = true from kinds_emp _]
        refine ⟨h7.ok, shut1 hg h7 hA hb (Nat.le_succ_of_le hk30) fun S' x' hb' => ⟨ok, ?_⟩⟩
        exact hm ⟨ks, S', x'⟩ (Nat.lt_succ_self _) ⟨_, hb'⟩
      | nil =>
        obtain ⟨a2, fo, S2, rfl, hs, -⟩ := hb.tr.head
        obtain rfl : S2 = [] := List.length_eq_zero_iff.mp (Nat.succ.inj hb.tr.len)
        have hn31 : n ≤ 31 := Nat.le_trans hb.le (Nat.le_succ_of_le hk30)
        have hxl : x.length ≤ 218 := Nat.le_trans hb.tr.tl (Nat.succ_le_succ (Nat.mul_le_mul_left 7 hn31))
        refine ⟨"list", _, m_append, .list (.tl (.tl .hd)), ?_⟩
        have e3 : mkS x ++ (Str.ofString "]") = mkS (rowT fo) := by
          rw [mk_c (s := Str.ofString "]") (l := [93]) (by decide +kernel), mk_app, (hb.row (b := a2) (Nat.le_succ_of_le hk30) sc hb.w).2]
        refine add_ss (by rw [mk_len]; exact lsz (m := 1000) (show x.length + 1 ≤ 1000 from ad hxl (Nat.le_refl 1) (Eq.refl true)) (Eq.refl true)) ⟨ok, ?_⟩
        rw [e3]
        refine Op2.freeze (sub_lstN (k := 0) (.own .hd) (by decide) rfl ⟨a2, foV fo, _, rfl, .tl (.tl (.tl .hd)), ok, ?_⟩)
        have hdl : (doneV rows).length ≤ 31 := by unfold doneV; rw [List.length_map]; exact Nat.le_trans hb.len (Nat.le_succ_of_le hk30)
        refine Cl.drp0 (Drp.one .hd (fun _ e => nomatch e)) (append (.tl .hd) (lsz hdl (Eq.refl true)) ⟨ok, ?_⟩)
        refine .mk (fun v ρ' F' H' => ∃ y : Nat, v = .int ((y : Nat) : Int) ∧ ρ' = _ ∧ F' = _ ∧ H' = _) (len_lst .lst hlz ⟨ok, bifW.sp (fun e => ?_) fun e => ⟨0, rfl, rfl, rfl, rfl⟩⟩) ?_
        · rw [hll] at e
          have hk1 : k + 1 < zs.length := Int.ofNat_lt.mp (of_decide_eq_true e)
          obtain ⟨y, hy⟩ := Int.eq_ofNat_of_zero_le (hz.2 zs[k + 1] (List.getElem_mem hk1)).1
          refine sub_lst (i := ((k + 1 : Nat) : Int)) (y := .int ((y : Nat) : Int)) .lst (Int.natCast_nonneg _) (k63 hk1 (ble hl30 (Eq.refl true))) (by rw [Int.toNat_natCast, List.getElem?_map, List.getElem?_eq_getElem hk1, hy]; rfl) ⟨ok, y, rfl, rfl, rfl, rfl⟩
        rintro v ρ' F' H' ok ⟨y, rfl, rfl, rfl, rfl⟩
        refine mod_ii (by decide) ⟨ok, ?_⟩
        obtain ⟨w', hw'⟩ := Int.eq_ofNat_of_zero_le (Int.fmod_nonneg_of_pos (y : Int) (b := 3) (by decide))
        have hw3 : w' < 3 := Int.ofNat_lt.mp (hw' ▸ Int.fmod_lt_of_pos (y : Int) (b := 3) (by decide))
        rw [hw']
        refine fdiv_ii (by decide) (by decide) ⟨ok, mod_ii (by decide) ⟨ok, ?_⟩⟩
        refine .own (szl rfl) fun a => ?_
        refine .at (fun rw => treH dn rw kd H (rows ++ [⟨w, sc, fo⟩]) [] [(a, .nil)]) (fun rw => by unfold treH; rw [doneV_snoc]; exact .cons _ (List.perm_middle (l₁ := [_, _])).symm) (szl rfl) fun rw => ?_
        exact hn ⟨k + 2, rows ++ [⟨w, sc, fo⟩], w', _, [], [(a, .nil)], [91], rw, gh [some (.int j), some (.int ((y : Nat) : Int))]⟩ (Nat.sub_lt_sub_left (Nat.lt_succ_of_lt hk) (Nat.lt_succ_of_lt (Nat.lt_succ_self k))) ⟨⟨_, ((hb.row (b := a) (Nat.le_succ_of_le hk30) sc hw3).1).more (Nat.le_succ _)⟩, Nat.succ_le_succ hk⟩
    · refine .run (tr_list (.tl .hd) (by rw [kinds_len]; exact i63 (ble hks (Eq.refl true))) ⟨ok, ?_⟩)
      cases ks with
      | cons q ks =>
        rw [show (!(kindsV (q :: ks)).isEmpty) = true from kinds_emp _]
        refine ⟨h7.ok, shut1 hg h7 hA hS (Nat.le_succ_of_le hk30) fun S' x' hb' => ⟨ok, ?_⟩⟩
        exact hn ⟨k + 1, rows, w, sc, ks, S', x', rw, gh [some (.int j), o 1]⟩ hmu ⟨⟨_, hb'.more (Nat.le_succ k)⟩, Nat.succ_le_succ (Nat.le_of_lt hk)⟩
      | nil =>
        refine sub_lst_neg (.own .hd) (by decide) rows_last.1 (by decide) rows_last.2 ⟨ok, ?_⟩
        refine ⟨"list", _, m_append, .list (.tl (.tl (.tl .hd))), ?_⟩
        refine len_s (by rw [mk_len]; exact a63 (ble hxl (Eq.refl true))) ⟨ok, append (.tl (.tl (.tl .hd))) (lsz hfl (Eq.refl true)) ⟨ok, ?_⟩⟩
        rw [mk_len]
        have e1 : Str.ofString "5 " = mkS (sg 3 ++ [32]) := mk_c (by decide +kernel)
        refine iadd_ss (by rw [e1, mk_len, mk_len]; exact lsz (ad hxl (Nat.le_refl 2) (e := 300) (Eq.refl true)) (Eq.refl true)) ⟨ok, ?_⟩
        rw [e1, mk_app]
        have q : Qn (bR zs dn kd ⟨k + 1, rows, w, sc, [], (a1, fo.app (.leaf 3 x.length .nil)) :: S2, x ++ (sg 3 ++ [32]), rw, gh [some (.int j), o 1]⟩) F (treH dn rw kd H rows [] ((a1, fo.app (.leaf 3 x.length .nil)) :: S2)) := hn _ hmu ⟨⟨_, leaf 3 (by decide)⟩, Nat.succ_le_succ (Nat.le_of_lt hk)⟩
        rw [treH_snoc] at q
        exact q
  · refine WhileW.st ok 40 (fun u : Us => bR zs dn kd ⟨k, rows, w, sc, u.ks, u.S, u.x, rw, o⟩) (fun u => treH dn rw kd H rows u.ks u.S) (fun u => u.ks.length) (UsP k rows w) ⟨ks, S, x⟩ ⟨n, hS⟩ ?_
    have hk31 : k ≤ 31 := Nat.le_trans hkl (Nat.succ_le_succ hl30)
    clear hS hks hSl hxl hkk hn31 e
    rintro ⟨ks, S, x⟩ ⟨n, hb⟩ Qm hm
    have hb : Bld k rows w ks S x n := hb
    refine tr_list (.tl .hd) (by rw [kinds_len]; exact i63 (ble hb.tr.six (Eq.refl true))) ⟨ok, ?_⟩
    cases ks with
    | cons q ks =>
      rw [show (!(kindsV (q :: ks)).isEmpty) = true from kinds_emp _]
      refine ⟨h7.ok, shut1 hg h7 hA hb hk31 fun S' x' hb' => ⟨ok, ?_⟩⟩
      exact hm ⟨ks, S', x'⟩ (Nat.lt_succ_self _) ⟨_, hb'⟩
    | nil =>
      obtain ⟨a2, fo, S2, rfl, hs, -⟩ := hb.tr.head
      obtain rfl : S2 = [] := List.length_eq_zero_iff.mp (Nat.succ.inj hb.tr.len)
      have hn31 : n ≤ 31 := Nat.le_trans hb.le hk31
      have hxl : x.length ≤ 218 := Nat.le_trans hb.tr.tl (Nat.succ_le_succ (Nat.mul_le_mul_left 7 hn31))
      have hrow := hb.row (b := a2) hk31 sc hb.w
      refine ⟨"list", _, m_append, .list (.tl (.tl .hd)), ?_⟩
      have e3 : mkS x ++ (Str.ofString "]") = mkS (rowT fo) := by
        rw [mk_c (s := Str.ofString "]") (l := [93]) (by decide +kernel), mk_app, hrow.2]
      refine add_ss (by rw [mk_len]; exact lsz (m := 1000) (show x.length + 1 ≤ 1000 from ad hxl (Nat.le_refl 1) (Eq.refl true)) (Eq.refl true)) ⟨ok, ?_⟩
      rw [e3]
      refine Op2.freeze (sub_lstN (k := 0) (.own .hd) (by decide) rfl ⟨a2, foV fo, _, rfl, .tl (.tl (.tl .hd)), ok, ?_⟩)
      have hdl : (doneV rows).length ≤ 31 := by unfold doneV; rw [List.length_map]; exact Nat.le_trans hb.len hk31
      refine append (.tl (.tl .hd)) (lsz hdl (Eq.refl true)) ⟨ok, ?_⟩
      have q := h (rows ++ [⟨w, sc, fo⟩]) hrow.1.ok (Nat.le_trans hrow.1.len (ble (Nat.succ_le_succ hk31) (Eq.refl true)))
      rw [doneV_snoc] at q
      exact .run ⟨dn, _, _, rfl, .tl (.tl .hd), _, .two .hd (fun _ e => nomatch e) .hd (fun _ e => nomatch e), q⟩
theorem Cl.fr1N {G : Glob} {fr : List Env} {A : Around} {F : Fz} {H : Hp} {y : Addr × AO} {f : V} {xs : List V} {Q : V → Fz → Hp → Prop} {E : Value → Fz → Hp → Prop} (h : Cl G fr A F H f xs (fun v F1 H1 => Q v F1 (y :: H1)) No) : Cl G fr A F (y :: H) f xs Q E := fun K m v vs hv hvs R s hR =>
  wpAny_mono (h K m v vs hv hvs (y :: R) s (hR.perm List.perm_middle.symm)) (fun v1 s1 q => by
    obtain ⟨K1, H1, l1, r1, x, hx, F1, m1, q⟩ := q
    exact ⟨K1, y :: H1, l1, r1.perm List.perm_middle, x, hx, F1, m1, q⟩) fun e s1 q => (noPQ (v := e) q).elim
structure Na where
  nl : Addr
  n0 : Addr
  n1 : Addr
noncomputable def Na.at (q : Na) (w : Nat) : Addr := if w < 2 then q.n0 else q.n1
noncomputable def nmH (q : Na) (n : Nm) (H : Hp) : Hp := (q.nl, .list [.ref q.n0, .ref q.n1]) :: (q.n0, .list (n.a.map ltV)) :: (q.n1, .list (n.b.map ltV)) :: H
theorem nm_has {q : Na} {n : Nm} {H : Hp} (w : Nat) : Has (nmH q n H) (q.at w) (.list ((n.get w).map ltV)) := by
  unfold Na.at Nm.get
  by_cases e : w < 2
  · rw [if_pos e, if_pos e]; exact .tl .hd
  · rw [if_neg e, if_neg e]; exact .tl (.tl .hd)
theorem nm_upd {q : Na} {n : Nm} {H : Hp} (w : Nat) (l : List Nat) : Upd (nmH q n H) (q.at w) (.list ((n.get w).map ltV)) (.list (l.map ltV)) (nmH q (n.set w l) H) := by
  unfold Na.at Nm.get Nm.set
  by_cases e : w < 2
  · rw [if_pos e, if_pos e, if_pos e]; exact .tl .hd
  · rw [if_neg e, if_neg e, if_neg e]; exact .tl (.tl .hd)
structure NmI (q : Na) (w : Nat) : Prop where
  h0 : 0 ≤ ((w : Nat) : Int).fdiv 2
  h1 : ((w : Nat) : Int).fdiv 2 < 2 ^ 63
  h : [V.ref q.n0, V.ref q.n1][(((w : Nat) : Int).fdiv 2).toNat]? = some (.ref (q.at w))
theorem nm_at {q : Na} {w : Nat} (hw : w < 3) : NmI q w := by
  obtain rfl | rfl | rfl := in3 ⟨w, hw⟩ <;> exact ⟨by decide, by decide, rfl⟩
theorem nm_same {n : Nm} {w : Nat} : n.set w (n.get w) = n := by
  unfold Nm.set Nm.get
  by_cases e : w < 2
  · rw [if_pos e, if_pos e]
  · rw [if_neg e, if_neg e]
theorem put_len {n : Nm} (h : n.ok) (w : Nat) : ((n.get w).map ltV).length ≤ 3 := by rw [List.length_map]; exact (h.get w).len
noncomputable def optV : Option Nat → V
  | none => .none
  | some a => .int ((a : Nat) : Int)
theorem pre_cons (vs : List V) (v : V) (w : Wk) : (w.cons v).pre vs = w.pre (vs ++ [v]) := by
  show (⟨w.f, vs ++ v :: w.vs, w.n⟩ : Wk) = ⟨w.f, (vs ++ [v]) ++ w.vs, w.n⟩
  rw [List.append_assoc]; rfl
structure WkP (d w : Nat) (x : Kn) (r0 : Wk) (k : Nat) (vs : List V) (n : Nm) (p : Nat) (r : Kn) : Prop where
  ok : r.ok d p
  tl : (foV x).drop k = foV r
  val : r0 = (walkK r w n).pre vs
  len : vs.length ≤ k
  hn : n.ok
  hz : r.size ≤ 100
noncomputable def wkR (x : Kn) (w : Nat) (q : Na) (it : Addr) (g : Nat → Option V) : Rho := [("nodes", some (.lst (foV x))), ("who", some (.int (w : Int))), ("names", some (.ref q.nl)), ("items", some (.ref it)), ("kind", g 0), ("more", g 1), ("mine", g 2), ("place", g 3), ("inner", g 4), ("other", g 5)]
theorem abc_at : ∀ k : Fin 3, (Str.ofString "abc").cps[k.val]? = some (97 + k.val) ∧ (⟨#[97 + k.val]⟩ : Str) = ltS k.val := by decide +kernel
theorem walk {G : Glob} {F : Fz} {ag : Nat → Addr} (hg : Gl G F ag) (hf : IsDef F (stm 9) (ag 9)) {q : Na} : ∀ (d p : Nat) (x : Kn) {w : Nat} {fr : List Env} {A : Around} {H : Hp} {Q : V → Fz → Hp → Prop} {n0 : Nm}, x.ok d p → w < 3 → n0.ok → x.size ≤ 100 → Ok fr A (d + 1) →
    (∀ vs, ((walkK x w n0).f = none → vs = (walkK x w n0).vs) → Q (.tup [optV (walkK x w n0).f, .lst vs]) F (nmH q (walkK x w n0).n H)) → Cl G fr A F (nmH q n0 H) (.ref (ag 9)) [.lst (foV x), .int (w : Int), .ref q.nl] Q No := by
  intro d
  induction d using Nat.strongRecOn with
  | _ d ih =>
    intro p x w fr A H Q n0 hx hw hn0 hsz hA h
    obtain ⟨c, st, o, pm, hst, hf', hd, hc⟩ := id hf
    obtain rfl := Option.some.inj hst.symm
    refine def_w hg hf' hd hc hA ["nodes", "who", "names"] ["items", "kind", "more", "mine", "place", "inner", "other"] rfl (by decide +kernel) (fun vs hv => by obtain ⟨a, b, c, rfl⟩ := len3 hv; rfl) fun L A' hA ok => ?_
    refine .own (szl rfl) fun it => ?_
    refine ForW.s5 ok (iter_lst hA.handled) (fun vs n p r g => wkR x w q it g) (fun vs n p r g => (it, .list vs) :: nmH q n H) (fun k vs n p r g => WkP d w x (walkK x w n0) k vs n p r) (z1 := []) (z2 := n0) (z3 := p) (z4 := x) (z5 := fun _ => none) ⟨hx, rfl, rfl, Nat.le_refl _, hn0, hsz⟩ ?_ ?_
    · intro k y vs n p r g hy hk Qn hq
      obtain ⟨hok, htl, hval, hlen, hn, hz⟩ := hk
      have hlt := (List.getElem?_eq_some_iff.mp hy).1
      have hk100 : k < 100 := Nat.lt_of_lt_of_le hlt (Nat.le_trans (foV_len x) hsz)
      have hvl : vs.length ≤ sizeLine := lsz (Nat.le_trans hlen (Nat.le_of_lt hk100)) (Eq.refl true)
      have hhd : (foV r)[0]? = some y := by rw [← htl, List.getElem?_drop]; exact hy
      have hdr : (foV x).drop (k + 1) = (foV r).drop 1 := by rw [← htl, List.drop_drop]
      have nm := nm_at (q := q) hw
      have ret : ∀ (a : Nat) (m : Nm), walkK r w n = ⟨some a, [], m⟩ → Q (.tup [.int ((a : Nat) : Int), .lst vs]) F (nmH q m H) := fun a m e => by
        rw [hval, e] at h
        exact h vs nofun
      cases r with
      | nil => cases hhd
      | leaf kd a r =>
        obtain ⟨h5, rfl, h2⟩ := hok
        cases hhd
        have nxt : ∀ (v : V) (m : Nm), walkK (.leaf kd a r) w n = (walkK r w m).cons v → m.ok → WkP d w x (walkK x w n0) (k + 1) (vs ++ [v]) m (a + ((sg kd).length + 1)) r := fun v m e hm =>
          ⟨h2, hdr, by rw [hval, e, pre_cons], by rw [List.length_append]; exact Nat.succ_le_succ hlen, hm, Nat.le_of_succ_le hz⟩
        refine .run (bifW.sp (fun e => ?_) fun e => ?_)
        · have hk3 : kd < 3 := Int.ofNat_lt.mp (of_decide_eq_true e)
          have habc := abc_at ⟨kd, hk3⟩
          have hN := hn.get w
          have hput := any_lt hN hk3
          have habc2 : (⟨#[97 + kd]⟩ : Str) = ltS kd := habc.2
          refine fdiv_ii (by decide) (by decide) ⟨ok, sub_lst (.own (.tl .hd)) nm.h0 nm.h1 nm.h ⟨ok, ?_⟩⟩
          refine .at (wkR x w q it (gh [some (.int ((kd : Nat) : Int)), some (.int ((a : Nat) : Int)), some (.ref (q.at w)), g 3, g 4, g 5])) ((it, .list vs) :: nmH q (n.put w kd) H) (sub_str (Int.natCast_nonneg _) (k63 hk3 (by decide)) (by rw [Int.toNat_natCast]; exact habc.1) ⟨ok, nin_strs (zs := (n.get w).map ltS) (.own (by rw [List.map_map]; exact .tl (nm_has w))) ⟨ok, _, rfl, ?_⟩⟩) ?_
          · rw [habc2, hput]
            unfold Nm.put Mine.put
            cases hc : (n.get w).contains kd with
            | true =>
              rw [if_pos rfl, nm_same]
              exact .of rfl
            | false =>
              rw [if_neg Bool.false_ne_true]
              refine ⟨"list", _, m_append, .list (.tl (nm_has w)), sub_str (Int.natCast_nonneg _) (k63 hk3 (by decide)) (by rw [Int.toNat_natCast]; exact habc.1) ⟨ok, ?_⟩⟩
              rw [habc2]
              have hu := nm_upd (q := q) (n := n) (H := H) w (n.get w ++ [kd])
              rw [List.map_append] at hu
              exact append (.tl hu) (lsz (put_len hn w) (Eq.refl true)) ⟨ok, .of rfl⟩
          · have hp := hn.put w hk3
            refine ⟨"list", _, m_append, .list .hd, list_copy (.own (.tl (nm_has w))) (lsz (put_len hp w) (Eq.refl true)) ⟨ok, append .hd hvl ⟨ok, ?_⟩⟩⟩
            exact hq _ _ _ _ (gh [_, _, _, _, _, _]) (nxt (nmV w ((n.put w kd).get w)) (n.put w kd) (if_pos hk3) hp)
        have hk3 : ¬ kd < 3 := fun q => of_decide_eq_false e (Int.ofNat_lt.mpr q)
        refine .run (bifW.sp (fun e => ?_) fun e3 => ?_)
        · have k3 : kd = 3 := j_eq (k := 3) e
          refine ⟨"list", _, m_append, .list .hd, fdiv_ii (by decide) (by decide) ⟨ok, sub_lst (.own (.tl .hd)) nm.h0 nm.h1 nm.h ⟨ok, len_list (.tl (nm_has w)) (a63 (ble (put_len hn w) (Eq.refl true))) ⟨ok, append .hd hvl ⟨ok, ?_⟩⟩⟩⟩⟩
          rw [List.length_map]
          exact hq _ _ _ _ (gh [_, _, _, _, _, _]) (nxt (nuV w (n.get w).length) n (by show (if kd < 3 then _ else _) = _; rw [if_neg hk3, if_pos k3]) hn)
        have k3 : kd ≠ 3 := fun q => by subst q; cases e3
        have k4 : kd = 4 := Nat.le_antisymm (Nat.le_of_lt_succ h5) (Nat.lt_of_le_of_ne (Nat.not_lt.mp hk3) (fun q => k3 q.symm))
        refine .run (bifW.yes (by rw [k4]; rfl) ?_)
        exact .frz "items" rfl .hd rfl (.run (ret a n (by show (if kd < 3 then _ else _) = _; rw [if_neg hk3, if_neg k3])))
      | box kd i r =>
        cases d with
        | zero => exact hok.elim
        | succ d =>
          obtain ⟨⟨h5, h12⟩, hi, hr2⟩ := hok
          cases hhd
          have hz1 : i.size ≤ 100 := ad0 (ad0 (show i.size + r.size + 1 ≤ 100 from hz))
          have hz2 : r.size ≤ 100 := ad1 (ad0 (show i.size + r.size + 1 ≤ 100 from hz))
          refine .run (bifW.no (decide_eq_false fun q => absurd (Int.ofNat_lt.mp q) (Nat.not_lt.mpr (Nat.le_trans (by decide) h5))) (.run ?_))
          refine bifW.no (beq_eq_false_iff_ne.mpr fun q => absurd (Int.ofNat.inj q) (Nat.ne_of_gt (Nat.lt_of_lt_of_le (by decide) h5))) (.run ?_)
          refine bifW.no (beq_eq_false_iff_ne.mpr fun q => absurd (Int.ofNat.inj q) (Nat.ne_of_gt (Nat.lt_of_lt_of_le (by decide) h5))) (.run ?_)
          have hv2 : walkK (.box kd i r) w n = (match walkK i (whoK kd w) n with
            | ⟨none, vs, m⟩ => (walkK r w (clrK kd w m)).cons (boxV kd w vs)
            | ⟨some a, _, m⟩ => ⟨some a, [], clrK kd w m⟩) := rfl
          have nxt : ∀ (v : V) (m : Nm), walkK (.box kd i r) w n = (walkK r w m).cons v → m.ok → WkP (d + 1) w x (walkK x w n0) (k + 1) (vs ++ [v]) m (p + ((sg kd).length + ((tx i).length + ((clC kd).length + 1)))) r := fun v m e hm =>
            ⟨hr2, hdr, by rw [hval, e, pre_cons], by rw [List.length_append]; exact Nat.succ_le_succ hlen, hm, hz2⟩
          refine bifW.sp (fun e => ?_) fun e5 => ?_
          · have k5 : kd = 5 := j_eq (k := 5) e
            subst k5
            have e9 : ∀ m : Nm, clrK 5 w m = m := fun m => if_neg fun q => absurd q.1 (Nat.lt_irrefl _)
            rw [show whoK 5 w = w from rfl] at hv2
            have hm := walk_ok i w n hn
            refine ⟨hf.ok, Cl.fr1N (ih d (Nat.lt_succ_self _) _ i hi hw hn hz1 hA fun vs2 hvs2 => ⟨ok, ?_⟩)⟩
            generalize walkK i w n = r0 at hv2 hvs2 hm
            obtain ⟨f, vs3, m⟩ := r0
            cases f with
            | none =>
              obtain rfl : vs2 = vs3 := hvs2 rfl
              refine .run ⟨"list", _, m_append, .list .hd, append .hd hvl ⟨ok, ?_⟩⟩
              exact hq _ _ _ _ (gh [_, _, _, _, _, _]) (nxt (.lst vs2) m (hv2.trans (by show (walkK r w (clrK 5 w m)).cons (boxV 5 w vs2) = _; rw [e9]; rfl)) hm)
            | some a => exact .run (.frz "items" rfl .hd rfl (.run (ret a m (hv2.trans (by show (⟨some a, [], clrK 5 w m⟩ : Wk) = _; rw [e9])))))
          · have k5 : kd ≠ 5 := fun q => by subst q; cases e5
            have h6 : 5 < kd := Nat.lt_of_le_of_ne h5 (fun q => k5 q.symm)
            have hw2 : kd % 3 < 3 := Nat.mod_lt _ (by decide)
            have em : ((kd : Nat) : Int).fmod 3 = ((kd % 3 : Nat) : Int) := by rw [Int.fmod_eq_emod_of_nonneg _ (by decide)]; rfl
            have ew : whoK kd w = kd % 3 := if_neg k5
            rw [ew] at hv2
            refine mod_ii (by decide) ⟨ok, ?_⟩
            rw [em]
            have hm := walk_ok i (kd % 3) n hn
            refine ⟨hf.ok, Cl.fr1N (ih d (Nat.lt_succ_self _) _ i hi hw2 hn hz1 hA fun vs2 hvs2 => ⟨ok, ?_⟩)⟩
            generalize walkK i (kd % 3) n = r0 at hv2 hvs2 hm
            obtain ⟨f, vs3, m⟩ := r0
            have nm2 := nm_at (q := q) hw2
            refine .at (wkR x w q it (gh [some (.int ((kd : Nat) : Int)), some (.lst (foV i)), g 2, some (optV f), some (.lst vs2), some (.int ((kd % 3 : Nat) : Int))])) ((it, .list vs) :: nmH q (clrK kd w m) H) (bifW.sp (fun e9 => ?_) fun e9 => ?_) ?_
            · have h9 : kd < 9 := Int.ofNat_lt.mp (of_decide_eq_true e9)
              rw [show clrK kd w m = m.clr (kd % 3) from (if_pos ⟨h6, h9⟩).trans (by rw [ew])]
              exact W_delAll 40 ok (fdiv_ii (by decide) (by decide) ⟨ok, sub_lst (.own (.tl .hd)) nm2.h0 nm2.h1 nm2.h ⟨ok, ⟨_, _, _, rfl, .tl (nm_upd (kd % 3) []), lsz (put_len hm (kd % 3)) (Eq.refl true), .of rfl⟩⟩⟩)
            · have h9 : ¬ kd < 9 := fun q => of_decide_eq_false e9 (Int.ofNat_lt.mpr q)
              rw [show clrK kd w m = m from if_neg fun q => h9 q.2]
              exact .of rfl
            cases f with
            | none =>
              obtain rfl : vs2 = vs3 := hvs2 rfl
              refine .run ⟨"list", _, m_append, .list .hd, append .hd hvl ⟨ok, ?_⟩⟩
              exact hq _ _ _ _ (gh [_, _, _, _, _, _]) (nxt (.tup [.str "other", .int ((kd % 3 : Nat) : Int), .lst vs2]) (clrK kd w m) (hv2.trans (by show (walkK r w (clrK kd w m)).cons (boxV kd w vs2) = _; unfold boxV; rw [if_neg k5, ew])) (clrK_ok hm))
            | some a => exact .run (.frz "items" rfl .hd rfl (.run (ret a (clrK kd w m) hv2)))
    · intro vs n p r g hk
      obtain ⟨hok, htl, hval, hlen, hn, hz⟩ := hk
      have : r = .nil := by
        rw [List.drop_length] at htl
        cases r with
        | nil => rfl
        | leaf => cases htl
        | box => cases htl
      subst this
      have hval : walkK x w n0 = ⟨none, vs, n⟩ := hval.trans (by show (⟨none, vs ++ [], n⟩ : Wk) = _; rw [List.append_nil])
      rw [hval] at h
      exact .frz "items" rfl .hd rfl (.run (h vs fun _ => rfl))
section
variable {G : Glob} {fr : List Env} {A : Around} {env : Env} {F : Fz} {H : Hp} {E : Value → Fz → Hp → Prop}
theorem Ev_cellK {x : Str} {pos} {c : Addr} {y : V} {Q : V → Fz → Hp → Prop} (hc : env.cells.lookup x = some c) (hm : CellF F c y) (h : Q y F H) (hk : env.scope.kind = .function) (hx : env.kindOf x = some .cell) (hd : (x == ("__debug__" : Str)) = false) : Ev G fr A F H (eval (.Name x pos) env) Q E := fun K m R s hR => by
  obtain ⟨o, v, ho, hd', hv⟩ := hm
  exact wpAny_Name (wpAny_loadName_cell hk hx hc ⟨o, hR.fz _ _ (m _ _ ho), hd'⟩ (vret hR (hv.mono m) m h)) hd
theorem W_cellK {C : Cx} {ρ : Rho} {x : Str} {p : Pos} {c : Addr} {y : V} {Q : QV} (ok : CxOk C F) (hk : C.env.kindOf x = some .cell) (hc : C.env.cells.lookup x = some c) (hm : CellF F c y) (h : Q y ρ F H) : SmE C (.Name x p) ρ F H Q :=
  Ev_cellK hc hm ⟨_, _, rfl, ok, h⟩ ok.kind hk (ok.nodbg hk).1
end
noncomputable def posE : Option Expr → Pos
  | some (.Lambda _ _ _ p) => p
  | _ => ⟨0, 0, 0, 0⟩
noncomputable def qsC : List (Pos × Str) := [(posS (sub (stm 6) 0), "_law_context.<locals>._law_name"), (posS (sub (stm 6) 1), "_law_context.<locals>._law_list"), (posS (sub (stm 6) 2), "_law_context.<locals>._law_other"), (posE (asV (sub (stm 6) 7)), "_law_context.<locals>.<lambda>")]
theorem perm3 {α : Type} {a b c : α} {t : List α} : (a :: b :: c :: t).Perm (a :: c :: b :: t) := .cons _ (.swap ..)
theorem context {G : Glob} {fr : List Env} {A : Around} {F : Fz} {H : Hp} {c P : Addr} {q : Kc} {w : Nat} {l0 : List (Nat × Nat × Addr)} {Q : V → Fz → Hp → Prop} (hg : Gl G F q.ag)
    (hf : IsDefC F (stm 6) (q.ag 6) c) (hC : CodeOk F c P) (hB : BOk G P) (hA : Ok fr A 1) (T : TabI F qsC l0)
    (h : ∀ F' x D po pa ps pi l ρ, F.le F' → TabI F' qsC l → PtF F' 0 po (flN w) → PtF F' 1 pa [] → PtF F' 2 ps (flO q) → PtL F' pi (flM q w) → (∀ mb, CtxA ρ { po := .ref po, pa := .ref pa, ps := .ref ps, mb, st := .bool true, pf := .none, pi := .ref pi, pc := .none, oh := .none, oph := .none, mm := .ref (q.m w) }) →
      Q (.ref x) F' ((P, .raw (tabObj (tabOf l))) :: (x, .exc "Exception" [] none (some D) true) :: (D, .attrs ρ) :: H)) :
    Cl G fr A F ((P, .raw (tabObj (tabOf l0))) :: H) (.ref (q.ag 6)) [.int (w : Int), .ref (q.m w), .ref q.sl, .ref q.kl] Q No := by
  obtain ⟨s, o, pm, hs, hf, hd, hc⟩ := hf
  obtain rfl := Option.some.inj hs.symm
  refine Cl.permQ ?_
  refine def_c hg hf hd hc hA [false, false, false, false] ["who", "memo", "scanners", "kept"] ["_law_name", "_law_list", "_law_other", "context"] ["kept", "scanners", "memo", "who"] rfl (by decide +kernel) (fun vs hv => by obtain ⟨a, b, c, d, rfl⟩ := len4 hv; rfl) (by rfl) (by rfl) (fun n => rfl) (by decide) (by rfl) rfl fun L cs A' hcs hA ok => ?_
  obtain ⟨ck, t0, rfl, h0⟩ := lenC hcs
  obtain ⟨cs, t1, rfl, h1⟩ := lenC h0
  obtain ⟨cm, t2, rfl, h2⟩ := lenC h1
  obtain ⟨cw, rfl⟩ := len1 h2
  refine W_cells (cs := [ck, cs, cm, cw]) (ys := [.ref q.kl, .ref q.sl, .ref (q.m w), .int (w : Int)]) (.cons .hd (.cons .hd (.cons .hd (.cons .hd .nil)))) ok fun F1 l1 ec ok => ?_
  refine W_defT (qs := qsC) ok rfl (hC.mono l1) hB .hd (T.mono l1) (.head _) rfl rfl rfl rfl rfl fun po t1 F2 l2 hf1 T ok => ?_
  have l12 := l1.trans l2
  refine W_defT (qs := qsC) ok rfl (hC.mono l12) hB .hd T (.tail _ (.head _)) rfl rfl rfl rfl rfl fun pa t2 F3 l3 hf2 T ok => ?_
  have l13 := l12.trans l3
  refine W_defT (qs := qsC) ok rfl (hC.mono l13) hB .hd T (.tail _ (.tail _ (.head _))) rfl rfl rfl rfl rfl fun ps t3 F4 l4 hf3 T ok => ?_
  have l14 := l13.trans l4
  refine exc_new0 fun x => ⟨ok, ?_⟩
  refine set_exc_first .hd nl1 fun D => ⟨ok, ?_⟩
  refine set_exc (.tl .hd) .hd (szl rfl) nl2 ⟨ok, ?_⟩
  refine set_exc (.tl .hd) .hd (szl rfl) nl3 ⟨ok, ?_⟩
  refine W_lamT (qs := qsC) ok rfl (hC.mono l14) hB (.tl (.tl .hd)) T (.tail _ (.tail _ (.tail _ (.head _)))) rfl rfl rfl fun pi l' F5 l5 hf4 T ok => ?_
  refine set_exc (.tl (.tl .hd)) (.tl .hd) (szl rfl) nl6 ⟨ok, ?_⟩
  refine set_exc (.tl (.tl .hd)) (.tl .hd) (szl rfl) nl5 ⟨ok, ?_⟩
  refine set_exc (.tl (.tl .hd)) (.tl .hd) (szl rfl) nl7 ⟨ok, ?_⟩
  refine set_exc (.tl (.tl .hd)) (.tl .hd) (szl rfl) nl4 ⟨ok, ?_⟩
  refine set_exc (.tl (.tl .hd)) (.tl .hd) (szl rfl) nl8 ⟨ok, ?_⟩
  refine set_exc (.tl (.tl .hd)) (.tl .hd) (szl rfl) nl9 ⟨ok, ?_⟩
  have m3 := l4.trans l5
  have m2 := l3.trans m3
  have m1 := l2.trans m2
  have kk := (ec.get 0 rfl rfl).mono m1
  have ks := (ec.get 1 rfl rfl).mono m1
  have km := (ec.get 2 rfl rfl).mono m1
  have kw := (ec.get 3 rfl rfl).mono m1
  refine W_cellK ok rfl rfl km ?_
  refine set_exc (.tl (.tl .hd)) (.tl .hd) (szl rfl) nl10 ⟨ok, ?_⟩
  exact .run ⟨_, perm3, h F5 x D po pa ps pi l' _ (l14.trans l5) T
    ⟨_, _, ⟨_, _, _, _, _, rfl, hf1.mono m2⟩, (Caps.cons rfl kw .nil).out⟩ ⟨_, _, ⟨_, _, _, _, _, rfl, hf2.mono m3⟩, nofun⟩ ⟨_, _, ⟨_, _, _, _, _, rfl, hf3.mono l5⟩, (Caps.cons rfl kk (.cons rfl ks .nil)).out⟩
    ⟨_, _, _, _, _, _, rfl, hf4, (Caps.cons rfl km (.cons rfl kw .nil)).out⟩ fun mb => ⟨rfl, rfl, rfl, rfl, rfl, rfl, rfl, rfl, rfl, rfl⟩⟩
theorem RdW.up {F F' : Fz} {q q' : Kc} {w : Nat} (h : RdW F q w) (le : F.le F') (eg : q'.g w = q.g w) (ef : q'.f w = q.f w) (es : q'.sl = q.sl) (ek : q'.kl = q.kl) (em : q'.m w = q.m w) : RdW F' q' w := by
  obtain ⟨p, po, pa, ps, pi, hS, eo, ko, ea, ka, es', ks, ei, ki, em', hO⟩ := h
  have e1 : flO q' = flO q := by unfold flO; rw [es, ek]
  have e2 : flM q' w = flM q w := by unfold flM; rw [em]
  exact ⟨p, po, pa, ps, pi, by rw [ef]; exact hS.mono le, eo, ko.mono le, ea, ka.mono le, es', by rw [e1]; exact ks.mono le, ei, by rw [e2]; exact ki.mono le, by rw [em]; exact em', by rw [eg, ef, em]; exact hO.mono le⟩
theorem ask_bang {G : Glob} {fr : List Env} {A : Around} {F : Fz} {H H' : Hp} {q : Kc} {w : Nat} {Q : V → Fz → Hp → Prop} (hg : Gl G F q.ag) (bt : BtS G) (hr : RdW F q w) (hA : Ok fr A 4) (hu : Upd H (q.m w) (.dict []) (.dict []) H') (h : Q (.tup [.ref (q.f w), .int 2]) F H') :
    Cl G fr A F H (.ref (q.g w)) [.str (Str.ofString "[!"), .int ((0 : Nat) : Int)] Q No := by
  obtain ⟨p, po, pa, ps, pi, hS, eo, ko, ea, ka, es, ks, ei, ki, em, hO⟩ := hr
  have hT : (Str.ofString "[!").cps.toList = [91, 33] := by decide +kernel
  have hsz : (Str.ofString "[!").cps.size ≤ 1000000 := by rw [← Array.length_toList, hT]; decide
  refine (scan_outer (P := fun _ _ _ _ _ _ => False) hO hS.ok (hA.less (by decide)) fun env A' hD => ?_).mono (fun _ _ _ q => q) fun e F1 H1 q => (thr_no q).elim
  refine scan hS ((hA.deep (n := 3) hD).less (by decide)) hsz bt (c := 91) (drop_at (k := 0) (i := 0) hT rfl) ?_
  rw [List.drop_zero, hT, show lexL [91, 33] = .arr from rfl]
  intro env2 A2 hD2
  rw [ea]
  obtain ⟨qn, cl, hf, hc⟩ := ka
  obtain ⟨name, params, body, scope, pos, hst, hf⟩ := hf
  cases Option.some.inj hst.symm
  refine Cl.no (fn_w hg hf hc (((hA.deep (n := 3) hD).deep (n := 2) hD2).less (m := 1) (by decide)) ["pair", "asking"] ["string", "at", "items", "item"] rfl (by decide +kernel) (fun doc pm c ctv vs hv => by obtain ⟨a, b, rfl⟩ := len2 hv; rfl) fun L A' cdv hA ok => ?_)
  have hc1 : (Str.ofString "[!").cps[1]? = some 33 := drop_at (k := 1) (i := 0) hT rfl
  refine .run (sub_str (i := ((1 : Nat) : Int)) (by decide) (by decide) hc1 ⟨ok, ?_⟩)
  exact .run ⟨_, _, hu, Nat.zero_le _, h⟩
theorem ask {G : Glob} {F : Fz} {q : Kc} {T : Str} {fr : List Env} {A : Around} {H : Hp} {n : Nm} {Q : V → Fz → Hp → Prop} {P : Addr → String → List V → Bool → Fz → Hp → Prop} {w : Nat} {X : Kn} (s : Std G F q) (hw : w < 3) (sc : Bool) (ho : X.ok 5 1) (hd : T.cps.toList = rowT X) (hn : n.ok) (hz : X.size ≤ 31) (hA : Ok fr A 40)
    (h : RowQ G F q H ((tx X).length + 2) Q P (if sc then clrW w (walkK X w n) else walkK X w n)) : Cl G fr A F (hpR G q n H) (.ref (if sc then q.g w else q.f w)) [.str T, .int ((0 : Nat) : Int)] Q (Thr0 P) := by
  have hT : T.cps.size ≤ 1000000 := by
    rw [← Array.length_toList, hd]
    show (tx X ++ [93]).length + 1 ≤ _
    rw [List.length_append]
    exact ad (ad (Nat.le_trans (tx_len ho) (Nat.mul_le_mul_left 7 hz)) (Nat.le_refl 1) (e := 300) (Eq.refl true)) (Nat.le_refl 1) (Eq.refl true)
  have hd2 : T.cps.toList.drop 0 = 91 :: (tx X ++ 93 :: []) := hd
  have hz := ble hz (c := 100) (Eq.refl true)
  rw [← Nat.zero_add (tx X).length] at h
  cases sc with
  | true => exact ask_outer s hT (node s hT 5) hw ho hd2 hn hz (hA.less (by decide)) h
  | false => exact ask_list s hT (node s hT 5) hw ho hd2 hn hz (hA.less (by decide)) h
theorem lt_dq : ∀ (l : List Nat), (∀ k ∈ l, k < 3) → Dqs (l.map ltV) 0
  | [], _ => .nil
  | k :: l, h => by
    have e : ∀ k : Fin 3, PyData.strOk (ltS k.val) = true := by decide +kernel
    exact .cons (.str (e ⟨k, h k (.head _)⟩)) (lt_dq l fun j hj => h j (.tail _ hj))
theorem nm_dq {l : List Nat} (h : Nok l) (w : Nat) : Dq (nmV w l) 2 := .tup (.cons (.str (by decide +kernel)) (.cons .int (.cons (.lst (lt_dq l h.lt)) .nil)))
theorem walk_dq (x : Kn) : ∀ {d p : Nat}, x.ok d p → ∀ w n, n.ok → Dqs (walkK x w n).vs (2 * d + 2) := by
  induction x with
  | nil => exact fun _ _ _ _ => .nil
  | leaf k a r ih =>
    intro d p h w n hn
    have z : 2 ≤ 2 * d + 2 := Nat.le_add_left 2 _
    show Dqs (if k < 3 then (walkK r w (n.put w k)).cons (nmV w ((n.put w k).get w)) else if k = 3 then (walkK r w n).cons (nuV w (n.get w).length) else ⟨some a, [], n⟩ : Wk).vs _
    by_cases h3 : k < 3
    · rw [if_pos h3]
      exact .cons ((nm_dq ((hn.put w h3).get w) w).mono z) (ih h.2.2 _ _ (hn.put w h3))
    · rw [if_neg h3]
      by_cases h4 : k = 3
      · rw [if_pos h4]
        exact .cons (.mono (.tup (dp := 0) (.cons (.str (by decide +kernel)) (.cons .int (.cons (.str (by decide +kernel)) (.cons .int .nil))))) (Nat.le_trans (by decide) z)) (ih h.2.2 _ _ hn)
      · rw [if_neg h4]; exact .nil
  | box k i r ihi ihr =>
    intro d p h w n hn
    cases d with
    | zero => exact h.elim
    | succ d =>
      have h1 := ihi h.2.1 (whoK k w) n hn
      have hm := walk_ok i (whoK k w) n hn
      show Dqs (match walkK i (whoK k w) n with
        | ⟨none, vs, m⟩ => (walkK r w (clrK k w m)).cons (boxV k w vs)
        | ⟨some a, _, m⟩ => ⟨some a, [], clrK k w m⟩ : Wk).vs _
      generalize walkK i (whoK k w) n = q at h1 hm
      obtain ⟨f, vs, m⟩ := q
      cases f with
      | none =>
        refine .cons ?_ (ihr h.2.2 _ _ (clrK_ok hm))
        have h1 : Dqs vs (2 * d + 2) := h1
        unfold boxV
        by_cases h5 : k = 5
        · rw [if_pos h5]; exact .mono (.lst h1) (Nat.le_succ _)
        · rw [if_neg h5]
          exact .tup (.cons (.str (by decide +kernel)) (.cons .int (.cons (.lst h1) .nil)))
      | some a => exact .nil
theorem cat_si : Cat "StopIteration" "StopIteration" true := ⟨by rw [isSubtype_type]; kernel_rfl, by rw [isSubtype_type]; kernel_rfl, by rw [isSubtype_type]; kernel_rfl⟩
inductive AsD (C : Cx) (nm : Str) (Q : QF) (fv : FV) (ρ : Rho) (F : Fz) (H : Hp) : Prop where
  | mk (ρ3 : Rho) (H2 H3 : Hp) (hs : SetL ρ nm none ρ3) (hp : H.Perm H2) (hd : Drp (fm C ρ3 H2) (fm C ρ3 H3)) (ok : CxOk C F) (q : Q fv ρ3 F H3)
theorem Hd.pdQ {G : Glob} {fr : List Env} {A : Around} {env : Env} {F : Fz} {H : Hp} {x : Addr} {hs : List ExceptHandler} {Q : FV → Fz → Hp → Prop} {E : Value → Fz → Hp → Prop} (h : Hd G fr A env F H x hs (fun x F1 H1 => ∃ H2 H3, H1.Perm H2 ∧ Drp H2 H3 ∧ Q x F1 H3) E) : Hd G fr A env F H x hs Q E := fun K m R s hR =>
  wpAny_mono (h K m R s hR) (fun _ _ q => by obtain ⟨F1, H1, l, r, x, hx, F2, m2, H2, H3, p, d, q⟩ := q; exact ⟨F1, H3, l, (r.perm (p.append_right R)).drp d, x, hx, F2, m2, q⟩) fun _ _ q => q
theorem Hd.monoE {G : Glob} {fr : List Env} {A : Around} {env : Env} {F : Fz} {H : Hp} {x : Addr} {hs : List ExceptHandler} {Q : FV → Fz → Hp → Prop} {E E' : Value → Fz → Hp → Prop} (he : ∀ e F1 H1, E e F1 H1 → E' e F1 H1) (h : Hd G fr A env F H x hs Q E) : Hd G fr A env F H x hs Q E' := fun K m R s hR =>
  wpAny_mono (h K m R s hR) (fun _ _ q => q) fun _ _ q => by obtain ⟨F1, H1, l, r, F2, m2, q⟩ := q; exact ⟨F1, H1, l, r, F2, m2, he _ _ _ q⟩
theorem Hd_asW {C : Cx} {outer : List Env} (k : Nat) {P : Addr → String → List V → Bool → Fz → Hp → Prop} (he : ∀ e F1 H1, Thr0 P e F1 H1 → C.E e F1 H1) (hf : C.fr = C.env :: outer) (hfr : C.A.frames = some (C.env :: outer)) {F : Fz} {H : Hp} {ρ ρ1 : Rho} {x t : Addr} {c T : String} {args : List V} {cx : Bool} {n nm : Str} {npos pos : Pos} {b₀ : Stmt} {suite : List Stmt} {rest : List ExceptHandler} {Q : QF} (ok : CxOk C F) (hg : C.G.mg n = none) (hb : C.G.mb n = some (.type T)) (cat : Cat c T true) (hst : stR ρ nm (.ref x) = some ρ1)
    (h : CxOk { C with A := C.A.mark (some (.ref x)), E := Thr0 fun x c a b F2 H2 => Unb C.env nm F2 H2 (P x c a b), hd0 := false } F → W { C with A := C.A.mark (some (.ref x)), E := Thr0 fun x c a b F2 H2 => Unb C.env nm F2 H2 (P x c a b), hd0 := false } k (.s (b₀ :: suite) ρ1 F ((x, .exc c args (some t) none cx) :: (t, .tb) :: H) (AsD C nm Q)))
    (hkn : autoParam (C.env.kindOf n = some .globalImplicit) tac0) (hl : autoParam (C.env.kindOf nm = some .local) tac0) (hd : autoParam ((n == ("__debug__" : Str)) = false) tac14) :
    Hd C.G (C.env :: outer) C.A C.env F ((x, .exc c args (some t) none cx) :: (t, .tb) :: fm C ρ H) x (.ExceptHandler (some (.Name n npos)) (some nm) (b₀ :: suite) pos :: rest) (Un C Q) C.E := by
  have ok2 : CxOk { C with A := C.A.mark (some (.ref x)), E := Thr0 fun x c a b F2 H2 => Unb C.env nm F2 H2 (P x c a b), hd0 := false } F :=
    ⟨ok.kind, ok.glob, ok.blt, ok.dbg, by show Noted C.G C.fr (C.A.mark _) C.env (Thr0 _); rw [hf]; exact noted_thr (A := C.A.mark (some (.ref x))) hfr, nofun, ok.gls, ok.fls⟩
  have h1 := (W.sound k).s ok2 (h ok2)
  refine Hd.monoE he ?_
  refine Hd.pdQ (Hd_as hfr hg hb cat ?_ ok.kind hkn hl ok.glob ok.blt hd)
  refine .mk (.tl (.tl .hd)) (stR_set hst) ?_
  have hp : ((x, .exc c args (some t) none cx) :: (t, .tb) :: fm C ρ1 H).Perm (fm C ρ1 ((x, .exc c args (some t) none cx) :: (t, .tb) :: H)) := List.perm_middle (l₁ := [_, _])
  suffices h : Ex _ _ _ _ (fm C ρ1 ((x, .exc c args (some t) none cx) :: (t, .tb) :: H)) _ _ _ from fun K m R s hR => h K m R s (hR.perm (hp.append_right R))
  rw [show ({ C with A := C.A.mark (some (.ref x)), E := Thr0 fun x c a b F2 H2 => Unb C.env nm F2 H2 (P x c a b), hd0 := false } : Cx).fr = C.env :: outer from hf] at h1
  refine Ex.mono h1 (fun fv F1 H1 q => ?_) fun _ _ _ e => e
  obtain ⟨ρ2, H2, rfl, _, ρ3, H3, H4, q1, q2, q3, q4, q5⟩ := q
  exact Unb.mk .hd q1 ⟨_, _, q2.cons _, q3, ρ3, H4, rfl, q4, q5⟩
theorem SmS.cut {C : Cx} {st : Stmt} {ρ : Rho} {F : Fz} {H : Hp} {Q : QF} (Q1 : QF) (h : SmS C st ρ F H Q1) (k : ∀ fv ρ F H, CxOk C F → Q1 fv ρ F H → Q fv ρ F H) : SmS C st ρ F H Q :=
  Ex.mono h (fun fv F1 H1 q => by obtain ⟨ρ1, H2, e, ok, q⟩ := q; exact ⟨ρ1, H2, e, ok, k _ _ _ _ ok q⟩) fun _ _ _ e => e
noncomputable def twoH (G : Glob) (q : Kc) (na : Na) (n m : Nm) (H : Hp) : Hp := hpR G q n (nmH na m H)
theorem twoH_perm {G : Glob} {q : Kc} {na : Na} {n m : Nm} {H : Hp} : (nmH na m (hpR G q n H)).Perm (twoH G q na n m H) := List.perm_append_comm_assoc (nmH na m []) (hpR G q n []) H
noncomputable def awL (vs : List V) (e : Nat) : Option Nat → List V
  | none => [.str "value", .lst vs, .int ((e : Nat) : Int)]
  | some a => [.str "none", .int ((a : Nat) : Int)]
noncomputable def awV (vs : List V) (e : Nat) (f : Option Nat) : V := .tup (awL vs e f)
theorem aw_dq {vs : List V} {e : Nat} (h : Dqs vs 12) (f : Option Nat) : Dq (awV vs e f) 14 := by
  cases f with
  | none => exact .tup (.cons (.str (by decide +kernel)) (.cons (.lst h) (.cons .int .nil)))
  | some a => exact .mono (.tup (dp := 0) (.cons (.str (by decide +kernel)) (.cons .int .nil))) (by decide)
noncomputable def Nm.l (n : Nm) : List (List V) := [n.a.map ltV, n.b.map ltV]
theorem own_nm {G : Glob} {q : Kc} {na : Na} {n m : Nm} {H : Hp} : OwnL (twoH G q na n m H) [na.n0, na.n1] m.l := .cons (.tl (.tl (.tl (.tl (.tl .hd))))) (.cons (.tl (.tl (.tl (.tl (.tl (.tl .hd)))))) .nil)
theorem nml_dq {n : Nm} (h : n.ok) : ∀ l ∈ n.l, Dqs l 0 := by
  intro l hl
  rcases List.mem_cons.mp hl with rfl | hl
  · exact lt_dq _ h.a.lt
  · rw [List.mem_singleton.mp hl]; exact lt_dq _ h.b.lt
inductive StE (G : Glob) (q : Kc) (na : Na) (F : Fz) (n : Nm) (f : Option Nat) (ρ : Rho) (L : Addr) (H : Hp) : Addr → String → List V → Bool → Fz → Hp → Prop where
  | mk (x : Addr) (a : Nat) (e : f = some a) (cx : Bool) : StE G q na F n f ρ L H x "StopIteration" [.int ((a : Nat) : Int)] cx F ((L, .ns ρ) :: twoH G q na n n H)
structure Gl2 (G : Glob) (F : Fz) (ag : Nat → Addr) (c6 c3 P6 P3 pat : Addr) : Prop where
  gl : Gl G F ag
  f5 : IsDef F (stm 5) (ag 5)
  f6 : IsDefC F (stm 6) (ag 6) c6
  f7 : IsDef F (stm 7) (ag 7)
  f8 : IsDef F (stm 8) (ag 8)
  f9 : IsDef F (stm 9) (ag 9)
  f3 : IsDefC F (stm 3) (ag 3) c3
  k6 : CodeOk F c6 P6
  b6 : BOk G P6
  k3 : CodeOk F c3 P3
  b3 : BOk G P3
  nre : G.mg (Str.ofString "NUMBER_RE") = some (.ref pat)
  patF : PatF F pat
  bt : BtS G
structure Lk0 where
  zs : List Int
  ag : Nat → Addr
  m0 : Addr
  m1 : Addr
  sl : Addr
  kl : Addr
  P6 : Addr
  P3 : Addr
noncomputable def lwR (q : Lk0) (o : Nat → Option V) : Rho := [("script", some (.lst (q.zs.map .int))), ("memos", some (.lst [.ref q.m0, .ref q.m1])), ("scanners", some (.ref q.sl)), ("kept", some (.ref q.kl)), ("who", o 0), ("asking", o 1), ("_", o 2), ("names", o 3), ("scanning", o 4), ("text", o 5), ("nodes", o 6), ("place", o 7), ("items", o 8), ("awaited", o 9), ("value", o 10), ("end", o 11), ("given", o 12), ("fault", o 13)]
structure Mq where
  k : Nat
  F : Fz
  l6 : List (Nat × Nat × Addr)
  l3 : List (Nat × Nat × Addr)
  g : Nat → Addr
  f : Nat → Addr
  o : Nat → Option V
noncomputable def Lk0.kc (q : Lk0) (g f : Nat → Addr) : Kc := ⟨q.ag, q.sl, q.kl, q.m0, q.m1, g, f⟩
noncomputable def upN (g : Nat → Addr) (k : Nat) (a : Addr) : Nat → Addr := fun j => if j = k then a else g j
noncomputable def refs (g : Nat → Addr) (k : Nat) : List V := (List.range k).map fun j => .ref (g j)
theorem refs_up {g : Nat → Addr} {k : Nat} {a : Addr} : refs (upN g k a) (k + 1) = refs g k ++ [.ref a] := by
  unfold refs upN
  rw [List.range_succ, List.map_append]
  congr 1
  · exact List.map_congr_left fun j hj => by rw [if_neg (Nat.ne_of_lt (List.mem_range.mp hj))]
  · rw [List.map_cons, if_pos rfl]; rfl
theorem refs_len {g : Nat → Addr} {k : Nat} : (refs g k).length = k := by unfold refs; rw [List.length_map, List.length_range]
noncomputable def mqH (q : Lk0) (a : Mq) (fs : List V) : Hp := (q.P6, .raw (tabObj (tabOf a.l6))) :: (q.P3, .raw (tabObj (tabOf a.l3))) :: (q.sl, .list (refs a.g a.k)) :: (q.kl, .list fs) :: (q.m0, .dict []) :: (q.m1, .dict []) :: []
theorem refs_at {g : Nat → Addr} {k j : Nat} (h : j < k) : (refs g k)[((j : Nat) : Int).toNat]? = some (.ref (g j)) := by
  unfold refs
  rw [Int.toNat_natCast, List.getElem?_map, List.getElem?_range h]; rfl
theorem upN_ne {g : Nat → Addr} {k j : Nat} {a : Addr} (h : j < k) : upN g k a j = g j := if_neg (Nat.ne_of_lt h)
theorem upN_eq {g : Nat → Addr} {k : Nat} {a : Addr} : upN g k a k = a := if_pos rfl
theorem m_upd {m0 m1 : Addr} {w : Nat} {o : AO} {H : Hp} : Upd ((m0, o) :: (m1, o) :: H) (if w < 2 then m0 else m1) o o ((m0, o) :: (m1, o) :: H) := by
  by_cases e : w < 2
  · rw [if_pos e]; exact .hd
  · rw [if_neg e]; exact .tl .hd
theorem refs_up2 {g : Nat → Addr} {k : Nat} {a : Addr} : refs (upN g k a) (k + 1) = refs g k ++ [.ref (upN g k a k)] := by rw [refs_up, upN_eq]
theorem perm4 {α : Type} {a b c d : α} {t : List α} : (a :: b :: c :: d :: t).Perm (d :: b :: c :: a :: t) := (List.perm_middle (l₁ := [a, b, c]) (l₂ := t)).trans (.cons _ (List.perm_middle (l₁ := [b, c]) (l₂ := t)).symm)
structure MqP (F0 : Fz) (q : Lk0) (k : Nat) (a : Mq) : Prop where
  e : a.k = k
  le : F0.le a.F
  t6 : TabI a.F qsC a.l6
  t3 : TabI a.F qsMk a.l3
  rd : ∀ w, w < k → RdW a.F (q.kc a.g a.f) w
noncomputable def lpR (q : Lk0) (nl : Addr) (o : Nat → Option V) : Rho := lwR q (gh [o 0, o 1, o 2, some (.ref nl), o 3, o 4, o 5, o 6, o 7, o 8, o 9, o 10, o 11, o 12])
theorem law06 {G : Glob} {A : Around} {F : Fz} {ag : Nat → Addr} {a c6 c3 P6 P3 pat : Addr} {fr : List Env} (h2 : Gl2 G F ag c6 c3 P6 P3 pat) (hf : IsDef F (stm 10) a) (hA : Ok fr A 50) (zs : List Int) {Q : V → Fz → Hp → Prop}
    (h : ∀ F1 H1, (∃ l, (P6, AO.raw (tabObj (tabOf l))) ∈ H1) → (∃ l, (P3, AO.raw (tabObj (tabOf l))) ∈ H1) → Q (.bool true) F1 H1) {R : Hp} {s : Shared} (hR : Rep G fr F ([(P6, .raw (tabObj (tabOf []))), (P3, .raw (tabObj (tabOf [])))] ++ R) s) {xs : List Value} (hxs : RVs F xs [.lst (zs.map .int)]) :
    codeAny G.M A (.call (.ref a) ⟨xs, []⟩) (fun r s' => match r with | .ok (.ret v) => PQ G fr F R (VQ Q) v s' | .ok _ => False | .error e => PQ G fr F R (fun e => Dn (No e)) e s') s := by
  obtain ⟨c, st, o', pm, hst, hf', hd, hc⟩ := id hf
  obtain rfl := Option.some.inj hst.symm
  have hg := h2.gl
  refine def_code hg hf' hd hc hA [true] ["script"] ["memos", "scanners", "kept", "who", "asking", "_", "names", "scanning", "text", "nodes", "place", "items", "awaited", "value", "end", "given", "fault"] [] rfl (by decide +kernel) (fun vs hv => by obtain ⟨a, rfl⟩ := len1 hv; rfl) (by rfl) (by rfl) (fun n => rfl) (by decide) (by rfl) rfl (fun L cs A' hcs hA ok => ?_) hxs hR
  clear hR hxs
  obtain rfl := len0 hcs
  refine fun m0 hm0 => ?_
  refine fun m1 hm1 => ?_
  refine .frz (szl rfl) ?_
  refine .own (szl rfl) fun sl => ?_
  refine .at (fun kl => (P6, .raw (tabObj (tabOf []))) :: (P3, .raw (tabObj (tabOf []))) :: (sl, .list []) :: (kl, .list []) :: (m0, .dict []) :: (m1, .dict []) :: []) (fun kl => List.Perm.trans (List.perm_append_comm (l₁ := [_, _, _, _]) (l₂ := [_, _])) (.cons _ (.cons _ (.trans (.swap ..) (.cons _ (.cons _ (.swap ..))))))) (szl rfl) fun kl => ?_
  refine range1 ⟨ok, ?_⟩
  obtain ⟨q, rfl, rfl, rfl, rfl, rfl, rfl, rfl, rfl⟩ : ∃ q : Lk0, zs = q.zs ∧ ag = q.ag ∧ m0 = q.m0 ∧ m1 = q.m1 ∧ sl = q.sl ∧ kl = q.kl ∧ P6 = q.P6 ∧ P3 = q.P3 := ⟨⟨zs, ag, m0, m1, sl, kl, P6, P3⟩, rfl, rfl, rfl, rfl, rfl, rfl, rfl, rfl⟩
  refine ForW.stF (iter_rng (a := 0) (b := 3) (c := 1) hA.handled (by decide)) (fun (a : Mq) => lwR q a.o) (fun a => a.F) (fun a => mqH q a (refs a.f a.k)) (fun k a => MqP F q k a) ⟨0, F, [], [], fun _ => 0, fun _ => 0, gh []⟩ ok ⟨rfl, .refl _, .nil, .nil, fun w hw => absurd hw (Nat.not_lt_zero w)⟩ (fun _ _ h => h.le) ?_ ?_
  · rintro k y ⟨j, F1, l6, l3, g, f, o⟩ hy ⟨ej, le1, t6, t3, rd⟩ ok Qn hn
    obtain rfl : k = j := (show j = k from ej).symm
    have t6 : TabI F1 qsC l6 := t6
    have t3 : TabI F1 qsMk l3 := t3
    have rd : ∀ w, w < k → RdW F1 (q.kc g f) w := rd
    have le1 : F.le F1 := le1
    have hk : k < 3 := (List.getElem?_eq_some_iff.mp hy).1
    rw [show rngV 0 3 1 = (List.range 3).map fun (k : Nat) => .int k from rngV_n 3, List.getElem?_map, List.getElem?_range hk] at hy
    cases hy
    have nm := nm_at (q := ⟨0, q.m0, q.m1⟩) hk
    refine ⟨"list", _, m_append, .list (.tl (.tl .hd)), (h2.f3.mono le1).ok, (h2.f6.mono le1).ok, ?_⟩
    refine fdiv_ii (by decide) (by decide) ⟨ok, sub_lst .lst nm.h0 nm.h1 nm.h ⟨ok, ?_⟩⟩
    refine context (q := q.kc g f) (w := k) (hg.mono le1) (h2.f6.mono le1) (h2.k6.mono le1) h2.b6 (hA.less (by decide)) t6 fun F2 x D po pa ps pi l6 ρ le2 t6 k1 k2 k3 k4 hρ => ⟨ok.mono le2, ?_⟩
    have le12 := le1.trans le2
    refine Cl.perm perm4 (makeT (p := { po := .ref po, pa := .ref pa, ps := .ref ps, mb := 0, st := .bool true, pf := .none, pi := .ref pi, pc := .none, oh := .none, oph := .none, mm := .ref ((q.kc g f).m k) }) (h2.f3.mono le12) (h2.k3.mono le12) h2.b3 (hA.less (by decide)) h2.nre (h2.patF.mono le12) (hρ 0) rfl ⟨trivial, trivial, trivial, trivial, trivial, trivial, trivial, trivial, trivial⟩ ⟨k1.ok, k2.ok, k3.ok, k4.ok⟩ (t3.mono le2) fun F3 g' f' mb l3 le3 t3 hO hS => ⟨ok.mono (le2.trans le3), ?_⟩)
    have ok := ok.mono (le2.trans le3)
    have le13 := le12.trans le3
    have hr : RdW F3 (q.kc (upN g k g') (upN f k f')) k := ⟨_, po, pa, ps, pi, by show ScanF F3 (upN f k f' k) _; rw [upN_eq]; exact hS, rfl, k1.mono le3, rfl, k2.mono le3, rfl, k3.mono le3, rfl, k4.mono le3, rfl, by show OuterF F3 (upN g k g' k) (upN f k f' k) _; rw [upN_eq, upN_eq]; exact hO⟩
    refine Cl.drp0 (Drp.two (.tl .hd) (fun _ e => nomatch e) (.tl .hd) (fun _ e => nomatch e)) (Cl.perm (.swap ..) (append (.tl (.tl .hd)) (by rw [refs_len]; exact lsz (Nat.le_of_lt hk) (Eq.refl true)) ⟨ok, ?_⟩))
    refine sub_lst (y := .ref (upN g k g' k)) (.own (.tl (.tl .hd))) (Int.natCast_nonneg _) (k63 hk (by decide)) (by rw [← refs_up]; exact refs_at (Nat.lt_succ_self k)) ⟨ok, hr.ok.2, ?_⟩
    refine ask_bang (q := q.kc (upN g k g') (upN f k f')) (w := k) (hg.mono le13) h2.bt hr (hA.less (by decide)) (.tl (.tl (.tl (.tl m_upd)))) ⟨ok, ?_⟩
    refine ⟨"list", _, m_append, .list (.tl (.tl (.tl .hd))), append (.tl (.tl (.tl .hd))) (by rw [refs_len]; exact lsz (Nat.le_of_lt hk) (Eq.refl true)) ⟨ok, ?_⟩⟩
    have z := hn ⟨k + 1, F3, l6, l3, upN g k g', upN f k f', gh [some (.int (k : Int)), some (.ref (upN f k f' k)), some (.int 2), o 3, o 4, o 5, o 6, o 7, o 8, o 9, o 10, o 11, o 12, o 13]⟩ ⟨rfl, le13, t6.mono le3, t3, fun w hw => by
      rcases Nat.lt_or_ge w k with q1 | q1
      · exact (rd w q1).up (le2.trans le3) (upN_ne q1) (upN_ne q1) rfl rfl rfl
      · obtain rfl : w = k := Nat.le_antisymm (Nat.le_of_lt_succ hw) q1
        exact hr⟩
    unfold mqH at z
    rw [refs_up, refs_up2] at z
    exact z
  rintro ⟨j, F1, l6, l3, g, f, o⟩ ⟨ej, le1, t6, t3, rd⟩ ok
  obtain rfl : j = 3 := (show j = _ from ej).trans (by decide)
  have le1 : F.le F1 := le1
  have rd : ∀ w, w < 3 → RdW F1 (q.kc g f) w := rd
  have sd : Std G F1 (q.kc g f) := ⟨hg.mono le1, rd, h2.bt, fun w => by
    show ((if w < 2 then q.m0 else q.m1) == sysModules) = false
    split
    · exact hm0
    · exact hm1⟩
  refine .own (szl rfl) fun n0 => ?_
  refine .own (szl rfl) fun n1 => ?_
  refine .at (fun nl => twoH G (q.kc g f) ⟨nl, n0, n1⟩ ⟨[], []⟩ ⟨[], []⟩ [(q.P6, .raw (tabObj (tabOf l6))), (q.P3, .raw (tabObj (tabOf l3)))]) (fun nl => List.Perm.trans (.cons _ (.trans (.swap ..) (.cons _ (.cons _ (List.perm_append_comm (l₁ := [_, _]) (l₂ := [_, _, _, _])))))) (List.perm_append_comm_assoc [_, _, _] [_, _, _, _] [_, _])) (szl rfl) fun nl => ?_
  refine ⟨(h2.f8.mono le1).ok, (h2.f5.mono le1).ok, figs (hg.mono le1) (h2.f5.mono le1) (hA.less (by decide)) q.zs 14 30 (by decide) (by decide) (by decide) fun fs hfs => ⟨ok, build (hg.mono le1) (h2.f8.mono le1) (h2.f7.mono le1) (hA.less (by decide)) fs hfs fun rows hrows hlen => ⟨ok, ?_⟩⟩⟩
  have hu : A'.units + 45 < cLine := Nat.lt_of_le_of_lt (Nat.add_le_add_left (by decide) _) hA.units
  refine ForW.s2 ok (iter_lst hA.handled) (fun n o => lpR q nl o) (fun n o => twoH G (q.kc g f) ⟨nl, n0, n1⟩ n n [(q.P6, .raw (tabObj (tabOf l6))), (q.P3, .raw (tabObj (tabOf l3)))]) (fun k n o => n.ok) (z1 := ⟨[], []⟩) (z2 := gh [o 0, o 1, o 2, o 4, o 5, o 6, o 7, o 8, o 9, o 10, o 11, o 12, o 13]) ⟨.nil, .nil⟩ ?_ ?_
  · intro k y n o hy hn Qn hq
    obtain ⟨r, hr, rfl⟩ := List.mem_map.mp (List.mem_of_getElem? hy)
    obtain ⟨w, sc, X⟩ := r
    obtain ⟨hw, hX, hz⟩ := hrows _ hr
    have hw : w < 3 := hw
    have hX : X.ok 5 1 := hX
    have hz : X.size ≤ 31 := hz
    clear hr hy
    have nm := nm_at (q := ⟨nl, n0, n1⟩) hw
    have hdq := walk_dq X hX w n hn
    have hm := walk_ok X w n hn
    have hxl : (tx X).length ≤ 217 := Nat.le_trans (tx_len hX) (Nat.mul_le_mul_left 7 hz)
    have hTL : (mkS (rowT X)).length = (tx X).length + 2 := by
      rw [mk_len]
      show (tx X ++ [93]).length + 1 = _
      rw [List.length_append]; rfl
    refine ⟨(h2.f9.mono le1).ok, Cl.permQ (Cl.perm twoH_perm.symm (walk (q := ⟨nl, n0, n1⟩) (hg.mono le1) (h2.f9.mono le1) 5 1 X hX hw hn (ble hz (Eq.refl true)) (hA.less (by decide)) fun vs hvs => ⟨_, twoH_perm, ok, ?_⟩))⟩
    have hrow := fun {fr : List Env} {A : Around} {H : Hp} {Q : V → Fz → Hp → Prop} {P : Addr → String → List V → Bool → Fz → Hp → Prop} (hA : Ok fr A 40) => ask (G := G) (F := F1) (q := q.kc g f) (T := mkS (rowT X)) (w := w) (X := X) (n := n) (H := H) (Q := Q) (P := P) sd hw sc hX rfl hn hz hA
    generalize walkK X w n = r0 at hvs hdq hm hrow
    obtain ⟨fo, vs0, m⟩ := r0
    have hdq : Dqs vs0 12 := hdq
    have hm : m.ok := hm
    have hvs : fo = none → vs = vs0 := hvs
    have hcl : (if sc then clrW w ⟨fo, vs0, m⟩ else ⟨fo, vs0, m⟩ : Wk) = ⟨fo, vs0, if sc then m.clr w else m⟩ := by cases sc <;> rfl
    rw [hcl] at hrow
    have hm2 : (if sc then m.clr w else m).ok := by
      cases sc
      · exact hm
      · exact hm.clr w
    refine .at (lpR q nl (gh [some (.int (w : Int)), o 1, o 2, some (.bool sc), some (.str (mkS (rowT X))), some (.lst (foV X)), some (optV fo), some (.lst vs), o 8, o 9, o 10, o 11, o 12])) (twoH G (q.kc g f) ⟨nl, n0, n1⟩ n (if sc then m.clr w else m) [(q.P6, .raw (tabObj (tabOf l6))), (q.P3, .raw (tabObj (tabOf l3)))]) ?_ ?_
    · cases sc with
      | false => exact .of rfl
      | true => exact W_delAll 40 ok (fdiv_ii (by decide) (by decide) ⟨ok, sub_lst (.own (.tl (.tl (.tl (.tl .hd))))) nm.h0 nm.h1 nm.h ⟨ok, ⟨_, _, _, rfl, .tl (.tl (.tl (.tl (nm_upd w [])))), lsz (put_len hm w) (Eq.refl true), .of rfl⟩⟩⟩)
    generalize (if sc then m.clr w else m) = m2 at hrow hm2 ⊢
    have e2 : fo = none → (.tup [.str "value", .lst vs, .int (((tx X).length + 2 : Nat) : Int)] : V) = awV vs0 ((tx X).length + 2) fo := fun e => by subst e; rw [hvs rfl]; rfl
    refine .mk (fun x ρ' F' H' => x = awV vs0 ((tx X).length + 2) fo ∧ ρ' = lpR q nl (gh [some (.int (w : Int)), o 1, o 2, some (.bool sc), some (.str (mkS (rowT X))), some (.lst (foV X)), some (optV fo), some (.lst vs), o 8, o 9, o 10, o 11, o 12]) ∧ F1 = F' ∧ H' = twoH G (q.kc g f) ⟨nl, n0, n1⟩ n m2 [(q.P6, .raw (tabObj (tabOf l6))), (q.P3, .raw (tabObj (tabOf l3)))]) ?_ ?_
    · cases fo with
      | none =>
        refine len_s (by rw [hTL]; exact a63 (ad hxl (Nat.le_refl 2) (Eq.refl true))) ⟨ok, ?_⟩
        rw [hTL]
        exact ⟨e2 rfl, rfl, rfl, rfl⟩
      | some a => exact ⟨rfl, rfl, rfl, rfl⟩
    rintro x ρ' F' H' ok ⟨rfl, rfl, rfl, rfl⟩
    clear e2 hvs hcl
    refine SmS.cut (fun fv ρ' F' H' => fv = .next ∧ ∃ o9 o10 o12, ρ' = lpR q nl (gh [some (.int (w : Int)), o 1, o 2, some (.bool sc), some (.str (mkS (rowT X))), some (.lst (foV X)), some (optV fo), some (.lst vs), some (awV vs0 ((tx X).length + 2) fo), o9, o10, some (awV vs0 ((tx X).length + 2) fo), o12]) ∧ F1 = F' ∧ H' = twoH G (q.kc g f) ⟨nl, n0, n1⟩ m2 m2 [(q.P6, .raw (tabObj (tabOf l6))), (q.P3, .raw (tabObj (tabOf l3)))]) ?_ ?_
    · refine W_try 40 (outer := fr) (StE G (q.kc g f) ⟨nl, n0, n1⟩ F1 m2 fo (lpR q nl (gh [some (.int (w : Int)), o 1, o 2, some (.bool sc), some (.str (mkS (rowT X))), some (.lst (foV X)), some (optV fo), some (.lst vs), some (awV vs0 ((tx X).length + 2) fo), o 9, o 10, o 11, o 12])) L [(q.P6, .raw (tabObj (tabOf l6))), (q.P3, .raw (tabObj (tabOf l3)))]) ok hA.frames rfl (fun ok1 => ?_) ?_
      · refine .mk (fun x ρ' F' H' => x = .ref (if sc then q.sl else q.kl) ∧ ρ' = lpR q nl (gh [some (.int (w : Int)), o 1, o 2, some (.bool sc), some (.str (mkS (rowT X))), some (.lst (foV X)), some (optV fo), some (.lst vs), some (awV vs0 ((tx X).length + 2) fo), o 9, o 10, o 11, o 12]) ∧ F1 = F' ∧ H' = twoH G (q.kc g f) ⟨nl, n0, n1⟩ n m2 [(q.P6, .raw (tabObj (tabOf l6))), (q.P3, .raw (tabObj (tabOf l3)))]) (by cases sc <;> exact ⟨rfl, rfl, rfl, rfl⟩) ?_
        rintro x ρ' F' H' ok1 ⟨rfl, rfl, rfl, rfl⟩
        refine sub_lst (y := .ref (if sc then g w else f w)) (l := if sc then rf3 g else rf3 f) (.own (by cases sc; exact .tl .hd; exact .hd)) (Int.natCast_nonneg _) (k63 hw (by decide)) (by cases sc <;> exact rf3_at hw) ⟨ok1, by cases sc; exact (rd w hw).ok.1; exact (rd w hw).ok.2, ?_⟩
        refine (hrow (H := nmH ⟨nl, n0, n1⟩ m2 [(q.P6, .raw (tabObj (tabOf l6))), (q.P3, .raw (tabObj (tabOf l3)))]) (Q := fun v F1 H1 => Nx _ _ _ v F1 H1) (P := fun x' c a b F2 H2 => StE G (q.kc g f) ⟨nl, n0, n1⟩ F1 m2 fo _ L _ x' c a b F2 (fm _ _ H2)) (hA.less (by decide)) ?_).mono (fun _ _ _ q => q) fun e F1 H1 q => kE.thrB rfl q
        cases fo with
        | none => exact ⟨ok1, ⟨ok, rfl, _, _, _, rfl, rfl, rfl⟩⟩
        | some a => exact fun ex cx => .mk ex a rfl cx
      · rintro x' cc args t cx F9 H9 hE
        cases hE with
        | mk a e _ =>
          subst e
          refine Hd_asW 40 (P := fun _ _ _ _ _ _ => False) (fun _ _ _ q => (thr_no q).elim) rfl hA.frames ok h2.bt.s0 h2.bt.s1 cat_si rfl fun ok2 => ?_
          refine get_stop (args := [.int ((a : Nat) : Int)]) .hd trivial ⟨ok2, ?_⟩
          refine ⟨lpR q nl (gh [some (.int (w : Int)), o 1, o 2, some (.bool sc), some (.str (mkS (rowT X))), some (.lst (foV X)), some (optV (some a)), some (.lst vs), some (awV vs0 ((tx X).length + 2) (some a)), o 9, o 10, some (awV vs0 ((tx X).length + 2) (some a)), none]), _, twoH G (q.kc g f) ⟨nl, n0, n1⟩ m2 m2 [(q.P6, .raw (tabObj (tabOf l6))), (q.P3, .raw (tabObj (tabOf l3)))], ?_, .refl _, .cons (.tl .hd) (fun _ e => nomatch e) (.cons (.tl .hd) (fun _ e => nomatch e) .nil), ok, rfl, _, _, _, rfl, rfl, rfl⟩
          exact .tl (.tl (.tl (.tl (.tl (.tl (.tl (.tl (.tl (.tl (.tl (.tl (.tl (.tl (.tl (.tl (.tl .hd))))))))))))))))
    rintro fv ρ' F' H' ok ⟨rfl, o9, o10, o12, rfl, rfl, rfl⟩
    refine .t false ?_ ?_
    · refine ne_same (aw_dq hdq fo) (Nat.lt_of_le_of_lt (Nat.add_le_add_left (by decide) _) hu) ⟨ok, _, rfl, ?_⟩
      show SmE _ (.ListComp _ _ _ _) _ _ _ _
      refine W_mapE 40 (cl := []) ["memo"] ok rfl ⟨[.ref q.m0, .ref q.m1], iter_lst hA.handled, szl rfl, fun j => .lst (([m2.a, m2.b].getD j []).map ltV), W_turn 40 ok rfl (fun j y a ρ' hy hρ' ok2 => ?_), ?_⟩ (by decide) rfl rfl rfl
      · obtain ⟨o1, rfl⟩ : ∃ o, ρ' = [(Str.ofString "memo", o)] := by
          obtain ⟨⟨n, o⟩, rfl⟩ := len1 (by simpa using congrArg List.length hρ')
          simp at hρ'
          exact ⟨o, by rw [hρ']⟩
        have hj : j < 2 := (List.getElem?_eq_some_iff.mp hy).1
        rcases Nat.lt_or_eq_of_le (Nat.le_of_lt_succ hj) with e | rfl
        · obtain rfl : j = 0 := Nat.lt_one_iff.mp e
          cases hy
          refine list_dict (l := m2.a.map ltM) hA.handled (.own hm0 (.tl (.tl (.tl .hd)))) hm2.a.nds (by rw [List.length_map]; exact lsz hm2.a.len (Eq.refl true)) ⟨ok2, ?_⟩
          rw [List.map_map]
          exact ⟨rfl, rfl, rfl, rfl⟩
        · cases hy
          refine list_dict (l := m2.b.map ltM) hA.handled (.own hm1 (.tl (.tl (.tl (.tl .hd))))) hm2.b.nds (by rw [List.length_map]; exact lsz hm2.b.len (Eq.refl true)) ⟨ok2, ?_⟩
          rw [List.map_map]
          exact ⟨rfl, rfl, rfl, rfl⟩
      · refine ne_own2 (as := [n0, n1]) (ls := m2.l) (dp := 0) (.tl (.tl (.tl (.tl .hd)))) own_nm (nml_dq hm2) (Nat.lt_of_le_of_lt (Nat.add_le_add_left (by decide) _) hu) ⟨ok, _, rfl, ?_⟩
        exact .mk rfl
    · exact hq m2 (gh [_, _, _, _, _, _, _, _, _, _, _, _, _]) hm2
  intro n o hn
  exact .run (h _ _ ⟨l6, List.mem_append_right (hpR G (q.kc g f) n []) (List.mem_append_right (nmH ⟨nl, n0, n1⟩ n []) (.head _))⟩ ⟨l3, List.mem_append_right (hpR G (q.kc g f) n []) (List.mem_append_right (nmH ⟨nl, n0, n1⟩ n []) (.tail _ (.head _)))⟩)
noncomputable def ag06 (n : Nat) : Addr := if n = 3 then 43 else 15 + 7 * n
theorem gl_of {G : Glob} {F : Fz} {ag : Nat → Addr} (h0 : GlIs G F "len" (.blt "len")) (h1 : GlIs G F "int" (.typ "int")) (h2 : GlIs G F "range" (.typ "range")) (h3 : GlIs G F "list" (.typ "list")) (h4 : GlIs G F "divmod" (.blt "divmod")) (h5 : GlIs G F "Exception" (.typ "Exception")) (h6 : GlIs G F "StopIteration" (.typ "StopIteration")) (h7 : GlIs G F "py_make_scanner" (.ref (ag 3))) (h8 : GlIs G F "_law_figures" (.ref (ag 5))) (h9 : GlIs G F "_law_context" (.ref (ag 6))) (h10 : GlIs G F "_law_shut" (.ref (ag 7))) (h11 : GlIs G F "_law_build" (.ref (ag 8))) (h12 : GlIs G F "_law_walk" (.ref (ag 9))) : Gl G F ag := by
  simp only [Gl, gl06, List.forall_mem_cons]
  exact ⟨h0, h1, h2, h3, h4, h5, h6, h7, h8, h9, h10, h11, h12, nofun⟩
section
variable {p : Program} {loose : List Str} {mean : ExcName → Option Value} {mg mb : Str → Option Value} {s₁ : Shared} {tabs : List (Addr × Addr)} {prog : Program} {w : World} {K : Frag}
theorem gok_of (T : Top p loose mean mg mb s₁.heap) (hT : TabsAt tabs s₁.heap) : GOk (topG prog w s₁ tabs mg mb) := fun h k =>
  ⟨(ghost_ns hT T.g).keeps k, (ghost_ns hT T.b).keeps k, by obtain ⟨mc, h1, h2⟩ := T.nolimit; exact ⟨mc, (ghost_ns hT h1).keeps k, h2⟩⟩
theorem fz_of (X : K.In s₁.heap) {a : Addr} {o : Obj} (e : K.lookup a = some o) (ha : a ∉ tabs.map (·.2)) : (ghostOf s₁.heap tabs).get? a = some o := ghost_ne (X a o e) ha
theorem bok_of {P : Addr} (X : K.In s₁.heap) (T : Top p loose mean mg mb s₁.heap) (hT : TabsAt tabs s₁.heap) (hP : mainGlobals ≠ P) (hb : ∃ q ∈ tabs, q.2 = P) : BOk (topG prog w s₁ tabs mg mb) P := by
  refine ⟨hP, fun h k => ?_⟩
  obtain ⟨bm, ob, h1, h2, h3, h4, h5, h6⟩ := T.bmain
  have n1 : bm ≠ mainGlobals := fun e => by
    subst e
    obtain ⟨o, es, ep, ho, hd, _⟩ := T.g
    rw [ho] at h3
    cases h3
    rw [hd] at h6
    cases h6
  have n2 : bm ∉ tabs.map (·.2) := fun hm => by
    obtain ⟨q, hq, rfl⟩ := List.mem_map.mp hm
    rw [(hT q hq).2] at h3
    cases h3
    cases h4
  obtain ⟨q, hq, rfl⟩ := hb
  exact ⟨bm, ob, h1, h2, n1, fun e => n2 (List.mem_map.mpr ⟨q, hq, e.symm⟩), k _ _ (ghost_ne h3 n2), h4, h5, h6⟩
theorem code_of {c P : Addr} (X : K.In s₁.heap) (hT : TabsAt tabs s₁.heap) (e : codeHdIn K c P = true) (hc : c ∉ tabs.map (·.2)) : CodeOk (ghostOf s₁.heap tabs).get? c P := fun h k => by
  obtain ⟨o, vs, file, tf, flags, tg, inF, text, tt, h1, r⟩ := codeHd_of_K X e
  exact ⟨o, vs, file, tf, flags, tg, inF, text, tt, k _ _ (ghost_ne h1 hc), r⟩
theorem isdef_of {a c : Addr} {st : Option Stmt} {s : Stmt} {fo co : Obj} {pm : Value} {vs : Array Value} {t : Tok} (X : K.In s₁.heap) (hs : st = some s) (e1 : K.lookup a = some fo) (e2 : K.lookup c = some co) (hd : fo.data = .func (fnData s pm (.ref c))) (hv : co.data = .fields vs) (hq : vs[1]? = some (.str (fnData s pm (.ref c)).qualname t))
    (ha : a ∉ tabs.map (·.2)) (hc : c ∉ tabs.map (·.2)) : IsDefC (ghostOf s₁.heap tabs).get? st a c :=
  ⟨s, fo, pm, hs, fz_of X e1 ha, hd, c, co, vs, t, rfl, fz_of X e2 hc, hv, hq⟩
end
noncomputable def numC : Array Nat := #[14, 4, 0, 1, 4294967295, 17, 0, 24, 6, 0, 1, 16, 45, 1, 7, 5, 16, 48, 15, 22, 20, 13, 5, 22, 49, 57, 0, 24, 10, 0, 4294967295, 13, 5, 22, 48, 57, 0, 1, 15, 2, 0, 17, 1, 23, 20, 0, 1, 17, 2, 16, 46, 24, 10, 1, 4294967295, 13, 5, 22, 48, 57, 0, 1, 17, 3, 18, 23, 37, 0, 1, 17, 4, 13, 6, 16, 101, 16, 69, 0, 24, 11, 0, 1, 13, 6, 16, 45, 16, 43, 0, 1, 24, 10, 1, 4294967295, 13, 5, 22, 48, 57, 0, 1, 17, 5, 18, 1]
theorem code_numC : Code numC := by
  constructor
  case o11 => exact one_lit (C := numC) (pc := 11) (a := 45) rfl rfl
  case o16 => exact one_lit (C := numC) (pc := 16) (a := 48) rfl rfl
  case o21 => exact one_range (C := numC) (pc := 21) (a := 49) (b := 57) (n := 102) rfl rfl rfl rfl rfl rfl rfl
  case o31 => exact one_range (C := numC) (pc := 31) (a := 48) (b := 57) (n := 102) rfl rfl rfl rfl rfl rfl rfl
  case o49 => exact one_lit (C := numC) (pc := 49) (a := 46) rfl rfl
  case o55 => exact one_range (C := numC) (pc := 55) (a := 48) (b := 57) (n := 102) rfl rfl rfl rfl rfl rfl rfl
  case o71 => exact one_two (C := numC) (pc := 71) (a := 101) (b := 69) (n := 102) rfl rfl rfl rfl rfl rfl rfl rfl
  case o82 => exact one_two (C := numC) (pc := 82) (a := 45) (b := 43) (n := 102) rfl rfl rfl rfl rfl rfl rfl rfl
  case o94 => exact one_range (C := numC) (pc := 94) (a := 48) (b := 57) (n := 102) rfl rfl rfl rfl rfl rfl rfl
  all_goals first | rfl | decide
end Mine


set_option maxRecDepth 100000 in
set_option maxHeartbeats 8000000 in
theorem PySem.Challenge.cw_dm0199_06_holds : PySem.Challenge.rw_dm0199_06.Holds := by
  (w_on; o_law; k_head; (case hw => w_witness2))
  k_fill
  intro w s₀ s₁ mg mb G Y fa o pm cd doc dV kV ho hd hcd hD hmg hg args vals as hpre hlay hrd hwl hlo
  have KX := km_in_of Y
  have hT8 := km_tabs_of Y
  refine Ground.open G ?_
  intro T B D TE TW
  km_lay T hmg ho hd cd
  wrow_args hpre hlay hrd hwl hlo
  rename_i zs _ _ _ _ _ _ _ la vs _ hL _ _ _ hI _ _ _
  have e := Mine.isdef_of (tabs := [(56, 52), (42, 38)]) (a := 83) (c := 82) (st := Mine.stm 10) KX rfl rfl rfl rfl rfl rfl (by decide) (by decide)
  have hfa : fa = 83 := by
    have := mg_of KX T.g (n := Str.ofString "law") (v := .ref 83) (by kernel_rfl)
    rw [show mg (Str.ofString "law") = _ from hmg] at this
    cases this
    rfl
  subst hfa
  have gl : Mine.Gl2 (Mine.topG PySem.Challenge.rw_dm0199_06.row.prog w s₁ [(56, 52), (42, 38)] mg mb) (ghostOf s₁.heap [(56, 52), (42, 38)]).get? Mine.ag06 56 42 52 38 36 := .mk
      (gl := Mine.gl_of
        (.b _ (mg_none_of KX T.g (by kernel_rfl)) ((T.builtins _ (by decide)).trans (by kernel_rfl)) .blt)
        (.b _ (mg_none_of KX T.g (by kernel_rfl)) ((T.builtins _ (by decide)).trans (by kernel_rfl)) .typ)
        (.b _ (mg_none_of KX T.g (by kernel_rfl)) ((T.builtins _ (by decide)).trans (by kernel_rfl)) .typ)
        (.b _ (mg_none_of KX T.g (by kernel_rfl)) ((T.builtins _ (by decide)).trans (by kernel_rfl)) .typ)
        (.b _ (mg_none_of KX T.g (by kernel_rfl)) ((T.builtins _ (by decide)).trans (by kernel_rfl)) .blt)
        (.b _ (mg_none_of KX T.g (by kernel_rfl)) ((T.builtins _ (by decide)).trans (by kernel_rfl)) .typ)
        (.b _ (mg_none_of KX T.g (by kernel_rfl)) ((T.builtins _ (by decide)).trans (by kernel_rfl)) .typ)
        (.g _ (mg_of KX T.g (v := .ref 43) (by kernel_rfl)) .ref)
        (.g _ (mg_of KX T.g (v := .ref 50) (by kernel_rfl)) .ref)
        (.g _ (mg_of KX T.g (v := .ref 57) (by kernel_rfl)) .ref)
        (.g _ (mg_of KX T.g (v := .ref 64) (by kernel_rfl)) .ref)
        (.g _ (mg_of KX T.g (v := .ref 71) (by kernel_rfl)) .ref)
        (.g _ (mg_of KX T.g (v := .ref 78) (by kernel_rfl)) .ref))
      (f5 := ⟨49, Mine.isdef_of KX rfl rfl rfl rfl rfl rfl (by decide) (by decide)⟩)
      (f6 := Mine.isdef_of KX rfl rfl rfl rfl rfl rfl (by decide) (by decide))
      (f7 := ⟨63, Mine.isdef_of KX rfl rfl rfl rfl rfl rfl (by decide) (by decide)⟩)
      (f8 := ⟨70, Mine.isdef_of KX rfl rfl rfl rfl rfl rfl (by decide) (by decide)⟩)
      (f9 := ⟨77, Mine.isdef_of KX rfl rfl rfl rfl rfl rfl (by decide) (by decide)⟩)
      (f3 := Mine.isdef_of KX rfl rfl rfl rfl rfl rfl (by decide) (by decide))
      (k6 := Mine.code_of KX hT9 (by kernel_rfl) (by decide))
      (b6 := Mine.bok_of KX T hT9 (by decide) ⟨(56, 52), by simp, rfl⟩)
      (k3 := Mine.code_of KX hT9 (by kernel_rfl) (by decide))
      (b3 := Mine.bok_of KX T hT9 (by decide) ⟨(42, 38), by simp, rfl⟩)
      (nre := mg_of KX T.g (by kernel_rfl))
      (patF := by
      refine ⟨_, _, _, 35, _, _, _, _, Mine.fz_of KX (a := 36) rfl (by decide), rfl, rfl, rfl, rfl, rfl, rfl, Mine.fz_of KX (a := 35) rfl (by decide), rfl, ?_, ?_⟩
      · refine Eq.subst (motive := Mine.Code) (a := Mine.numC) ?_ Mine.code_numC
        kernel_rfl
      · kernel_rfl)
      (bt := ⟨mg_none_of KX T.g (by kernel_rfl), (T.builtins _ (by decide)).trans (by kernel_rfl), mg_none_of KX T.g (by kernel_rfl), (T.builtins _ (by decide)).trans (by kernel_rfl)⟩)
  refine Mine.law_top (tabs := [(56, 52), (42, 38)]) (zs := zs) hT9 (by decide) (fun _ _ => rfl) (by kernel_rfl) hg hL hI (Mine.gok_of T hT9) ?_
  intro R s hR xs hxs
  exact Mine.law06 gl ⟨82, e⟩ ⟨rfl, by decide, by decide, rfl, rfl⟩ zs (fun F1 H1 h1 h2 => ⟨rfl, fun q hq => by
    rcases List.mem_cons.mp hq with rfl | hq
    · obtain ⟨l, h1⟩ := h1
      exact ⟨_, h1⟩
    · rw [List.mem_singleton] at hq
      subst hq
      obtain ⟨l, h2⟩ := h2
      exact ⟨_, h2⟩⟩) hR hxs
