import PyProof.Rows.All
import Wide.All
import OpenK.AllK
import Wide.FinOn
import Lean
import PySem.Challenge.RW_dm0199_02
set_option Elab.async false
set_option maxRecDepth 100000
set_option maxHeartbeats 0
set_option autoImplicit false
set_option linter.all false
set_option compiler.extract_closed false
set_option genInjectivity false
set_option genSizeOf false
section
open PySem
set_option Elab.async false
set_option autoImplicit false
namespace Mine
theorem ad {a b c d e : Nat} (h1 : a ≤ c) (h2 : b ≤ d) (h : Nat.ble (c + d) e = true) : a + b ≤ e := Nat.le_trans (Nat.add_le_add h1 h2) (Nat.le_of_ble_eq_true h)
theorem ad0 {a b e : Nat} (h : a + b ≤ e) : a ≤ e := Nat.le_trans (Nat.le_add_right ..) h
theorem in3 : ∀ i : Fin 3, i.val = 0 ∨ i.val = 1 ∨ i.val = 2 := by decide
theorem in8 : ∀ i : Fin 8, i.val = 0 ∨ i.val = 1 ∨ i.val = 2 ∨ i.val = 3 ∨ i.val = 4 ∨ i.val = 5 ∨ i.val = 6 ∨ i.val = 7 := by decide
theorem w70 {k w : Nat} (h : w + 7 * (k + 1) ≤ 1000000) : w + 7 * k ≤ 1000000 := Nat.le_trans (Nat.add_le_add_left (Nat.mul_le_mul_left 7 (Nat.le_succ k)) w) h
theorem w7s {k w x : Nat} (h : w + 7 * (k + 1) ≤ 1000000) : w - x + 7 * (k + 1) ≤ 1000000 := Nat.le_trans (Nat.add_le_add_right (Nat.sub_le ..) _) h
theorem w7 {k w x : Nat} (h : w + 7 * (k + 1) ≤ 1000000) : w - x + 7 * k ≤ 1000000 := w70 (w7s h)
theorem w7a {k w x : Nat} (hs : x ≤ 6) (h : w + 7 * (k + 1) ≤ 1000000) : w + 1 + x + 7 * k ≤ 1000000 :=
  Nat.le_trans (Nat.add_le_add_right (Nat.le_trans (Nat.le_of_eq (Nat.add_assoc ..)) (Nat.add_le_add_left (Nat.add_le_add_left hs 1) w)) (7 * k)) (Nat.le_trans (Nat.le_of_eq (Nat.add_right_comm w 7 (7 * k))) h)
theorem i_lt {a p l : Nat} (h : a < p + l) : (a : Int) - p < l := Int.sub_left_lt_of_lt_add (Int.ofNat_lt.mpr h)
theorem i_ge {a p l : Nat} (h : p + l ≤ a) : ¬ (a : Int) - p < l := Int.not_lt.mpr (Int.le_sub_left_of_add_le (Int.ofNat_le.mpr h))
theorem span_lt {p s d l : Nat} (h1 : d ≤ l - s) (h2 : p < s) (h3 : s ≤ l) : p < s + d ∧ s + d ≤ l := ⟨Nat.lt_of_lt_of_le h2 (Nat.le_add_right ..), Nat.le_trans (Nat.add_le_add_left h1 s) (Nat.le_of_eq (Nat.add_sub_of_le h3))⟩
theorem nlt {p n : Nat} {q : Prop} (h : n ≤ p) : ¬ (p < n ∧ q) := fun x => Nat.not_lt.mpr h x.1
end Mine
end
section
open PySem PySem.Sre
set_option Elab.async false
set_option maxRecDepth 100000
set_option autoImplicit false
set_option linter.unusedVariables false
namespace Mine
noncomputable def Go (k : Nat) (m : M) (P : M → Prop) : Prop := ∃ n, n ≤ k ∧ (M.runFor n m).outcome.isSome = true ∧ P (M.runFor n m)
theorem Go.step {k : Nat} {m : M} {P : M → Prop} (ho : m.outcome = none) (h : Go k m.step P) : Go (k + 1) m P := by
  obtain ⟨n, hn, h1, h2⟩ := h
  have e : M.runFor (n + 1) m = M.runFor n m.step := by
    show (if m.outcome.isSome then m else M.runFor n m.step) = _
    rw [ho]; rfl
  exact ⟨n + 1, Nat.succ_le_succ hn, by rw [e]; exact h1, by rw [e]; exact h2⟩
theorem Go.done {k : Nat} {m : M} {P : M → Prop} (ho : m.outcome.isSome = true) (h : P m) : Go k m P := ⟨0, Nat.zero_le _, ho, h⟩
structure Core where
  pc : Nat
  pos : Nat
  hd : Nat
  marks : Array (Option Nat)
  lm : Int
  li : Int
  loops : Array Loop
  inner : Option Nat
  frames : List Sre.Frame
section
variable (C T : Array Nat) (lim st : Nat)
noncomputable def Core.M (c : Core) (ans : Option Bool) (seen : Seen) (weight : Nat) : Sre.M :=
  { code := C, text := T, lim := lim, start := st, pc := c.pc, pos := c.pos, handed := c.hd, outermost := true, marks := c.marks, lastmark := c.lm, lastindex := c.li, loops := c.loops, inner := c.inner, frames := c.frames, weight := weight, answer := ans, seen := seen }
noncomputable def Run (k : Nat) (c : Core) (P : Sre.M → Prop) : Prop := ∀ seen weight, weight + 7 * k ≤ 1000000 → Go k (c.M C T lim st none seen weight) P
noncomputable def Ans (k : Nat) (c : Core) (b : Bool) (P : Sre.M → Prop) : Prop := ∀ seen weight, weight + 7 * k ≤ 1000000 → Go k (c.M C T lim st (some b) seen weight) P
variable {C T lim st} {k : Nat} {P : Sre.M → Prop}
theorem step_run {c : Core} {seen : Seen} {weight : Nat} (h : c.pc < C.size) : (c.M C T lim st none seen weight).step = (c.M C T lim st none seen weight).exec := by
  have : (c.M C T lim st none seen weight).step = if c.pc < C.size then (c.M C T lim st none seen weight).exec else (c.M C T lim st none seen weight).stick "code:ran-off" := rfl
  rw [this, if_pos h]
theorem lt_of_op {pc : Nat} {o : Op} (h : ops[C.getD pc 0]? = some o) (hn : o ≠ .FAILURE) : pc < C.size := by
  rcases Nat.lt_or_ge pc C.size with q | q
  · exact q
  · have : C.getD pc 0 = 0 := by simp [Array.getD, Nat.not_lt.mpr q]
    rw [this] at h
    exact absurd (Option.some.inj h).symm hn
theorem Run.mark {c : Core} {i : Nat} (h : ops[C.getD c.pc 0]? = some .MARK) (hi : C.getD (c.pc + 1) 0 = i)
    (hk : Run C T lim st k { c with pc := c.pc + 2, marks := (if (i : Int) ≤ c.lm + 1 then c.marks else (List.range i).foldl (fun (a : Array (Option Nat)) (j : Nat) => if (j : Int) > c.lm then a.setIfInBounds j none else a) c.marks).setIfInBounds i (some c.pos), lm := max c.lm i, li := if i % 2 == 1 then (i / 2 + 1 : Nat) else c.li } P) : Run C T lim st (k + 1) c P := fun seen weight hw => by
  refine Go.step rfl ?_
  rw [step_run (lt_of_op h nofun)]
  have e : (c.M C T lim st none seen weight).exec = (c.M C T lim st none (seen.add (C.getD c.pc 0)) weight).mark (C.getD (c.pc + 1) 0) := by
    unfold M.exec
    have h' : ops[(c.M C T lim st none seen weight).word 0]? = some .MARK := h
    rw [h']
    rfl
  rw [e, hi]
  exact hk _ weight (w70 hw)

structure One (C : Array Nat) (pc w : Nat) (f : Nat → Bool) : Prop where
  acc : ∀ c seen, ∃ seen', accepts C pc c seen = .ok (f c, seen')
  wid : itemWidth C pc = w
  kind : ops[C.getD pc 0]? = some .LITERAL ∨ ops[C.getD pc 0]? = some .IN
theorem Run.one {c : Core} {w : Nat} {f : Nat → Bool} (h : One C c.pc w f)
    (hy : c.pos < lim → f (T.getD c.pos 0) = true → Run C T lim st k { c with pc := c.pc + w, pos := c.pos + 1 } P)
    (hn : (lim ≤ c.pos ∨ f (T.getD c.pos 0) = false) → Ans C T lim st k c false P) : Run C T lim st (k + 1) c P := fun seen weight hw => by
  refine Go.step rfl ?_
  have hlt : c.pc < C.size := by rcases h.kind with q | q <;> exact lt_of_op q nofun
  rw [step_run hlt]
  have e : (c.M C T lim st none seen weight).exec = (let m := c.M C T lim st none (seen.add (C.getD c.pc 0)) weight
      if m.pos ≥ m.lim then m.say false else
      match accepts m.code m.pc (m.text.getD m.pos 0) m.seen with
      | .error why => m.stick why
      | .ok (false, seen) => { m with seen }.say false
      | .ok (true, seen) => { m with seen, pc := m.pc + itemWidth m.code m.pc, pos := m.pos + 1 }) := by
    unfold M.exec
    rcases h.kind with q | q
    · have h' : ops[(c.M C T lim st none seen weight).word 0]? = some .LITERAL := q
      rw [h']; rfl
    · have h' : ops[(c.M C T lim st none seen weight).word 0]? = some .IN := q
      rw [h']; rfl
  rw [e]
  show Go k (if lim ≤ c.pos then _ else _) P
  rcases Nat.lt_or_ge c.pos lim with hp | hp
  · rw [if_neg (Nat.not_le.mpr hp)]
    obtain ⟨s', hs'⟩ := h.acc (T.getD c.pos 0) (seen.add (C.getD c.pc 0))
    have hs'' : accepts (c.M C T lim st none (seen.add (C.getD c.pc 0)) weight).code (c.M C T lim st none (seen.add (C.getD c.pc 0)) weight).pc ((c.M C T lim st none (seen.add (C.getD c.pc 0)) weight).text.getD (c.M C T lim st none (seen.add (C.getD c.pc 0)) weight).pos 0) (c.M C T lim st none (seen.add (C.getD c.pc 0)) weight).seen = .ok (f (T.getD c.pos 0), s') := hs'
    rw [hs'']
    cases hf : f (T.getD c.pos 0) with
    | true =>
      have := hy hp hf s' weight (w70 hw)
      rw [← h.wid] at this
      exact this
    | false => exact hn (.inr hf) s' weight (w70 hw)
  · rw [if_pos hp]
    exact hn (.inl hp) _ weight (w70 hw)
noncomputable def many (f : Nat → Bool) (T : Array Nat) : Nat → Nat → Nat
  | 0, _ => 0
  | n + 1, p => if f (T.getD p 0) then 1 + many f T n (p + 1) else 0
theorem many_s {f : Nat → Bool} {T : Array Nat} {n p : Nat} : many f T (n + 1) p = if f (T.getD p 0) = true then 1 + many f T n (p + 1) else 0 := rfl
theorem run_many {pc w : Nat} {f : Nat → Bool} (h : One C pc w f) : ∀ n p found seen, ∃ seen', Sre.run C T pc n p found seen = .ok (found + many f T n p, seen')
  | 0, p, found, seen => ⟨seen, rfl⟩
  | n + 1, p, found, seen => by
    obtain ⟨s', hs'⟩ := h.acc (T.getD p 0) seen
    have e : Sre.run C T pc (n + 1) p found seen = (do let (yes, seen) ← accepts C pc (T.getD p 0) seen; if yes then Sre.run C T pc n (p + 1) (found + 1) seen else pure (found, seen)) := rfl
    rw [e, hs']
    show ∃ seen', (if f (T.getD p 0) then Sre.run C T pc n (p + 1) (found + 1) s' else pure (found, s')) = _
    rw [many_s]
    cases f (T.getD p 0) with
    | true =>
      obtain ⟨s2, h2⟩ := run_many h n (p + 1) (found + 1) s'
      exact ⟨s2, by simp only [if_true]; rw [h2, Nat.add_assoc]⟩
    | false => exact ⟨s', rfl⟩
noncomputable def Core.kept (c : Core) (whole : Bool) : Sre.Kept := { lastmark := c.lm, lastindex := c.li, whole, marks := if whole then c.marks.extract 0 (c.lm + 1).toNat else #[] }
theorem kept_size {c : Core} {b : Bool} (h : c.marks.size ≤ 6) : (c.kept b).marks.size ≤ 6 := by
  unfold Core.kept
  cases b
  · simp
  · exact Nat.le_trans (Nat.le_of_eq Array.size_extract) (Nat.le_trans (Nat.sub_le ..) (Nat.le_trans (Nat.min_le_right ..) h))
theorem Go.attempt {c : Core} {seen : Seen} {weight : Nat} {f : Sre.Frame} {a p : Nat} (hf : f.kept.marks.size ≤ 6) (hw : weight + 7 * (k + 1) ≤ 1000000) (h : Run C T lim st k { c with frames := f :: c.frames, pc := a, pos := p, hd := p } P) : Go k ((c.M C T lim st none seen weight).attempt f a p true) P := by
  unfold M.attempt
  rw [if_neg]
  · exact h seen (weight + 1 + f.kept.marks.size) (w7a hf hw)
  · show ¬ weight + 1 + f.kept.marks.size > 16777216
    exact Nat.not_lt.mpr (Nat.le_trans (ad0 (w7a hf hw)) (by decide))
theorem Run.rep {c : Core} {w sk lo hi : Nat} {f : Nat → Bool} (h : ops[C.getD c.pc 0]? = some .REPEAT_ONE) (hs : C.getD (c.pc + 1) 0 = sk) (hlo : C.getD (c.pc + 2) 0 = lo) (hhi : C.getD (c.pc + 3) 0 = hi) (ho : One C (c.pc + 4) w f) (hm : c.marks.size ≤ 6)
    (hy : c.pos + lo ≤ lim → ∀ n, n = many f T (min hi (lim - c.pos)) c.pos → lo ≤ n → Run C T lim st k { c with pc := c.pc + 1 + sk, pos := c.pos + n, hd := c.pos + n, frames := { wait := .giveBack, pc := c.pc, pos := c.pos + n, outermost := true, count := n, kept := c.kept c.inner.isSome } :: c.frames } P)
    (hn : (lim < c.pos + lo ∨ many f T (min hi (lim - c.pos)) c.pos < lo) → Ans C T lim st k c false P) : Run C T lim st (k + 1) c P := fun seen weight hw => by
  refine Go.step rfl ?_
  rw [step_run (lt_of_op h nofun)]
  have e : (c.M C T lim st none seen weight).exec = (let m := c.M C T lim st none (seen.add (C.getD c.pc 0)) weight
      if ((C.getD (c.pc + 2) 0 : Nat) : Int) > (lim : Int) - c.pos then m.say false else
      match Sre.run C T (c.pc + 4) (min (C.getD (c.pc + 3) 0) ((lim : Int) - c.pos).toNat) c.pos 0 (m.seen.add (C.getD (c.pc + 4) 0)) with
      | .error why => m.stick why
      | .ok (n, seen) =>
        let m := { m with seen }
        if n < C.getD (c.pc + 2) 0 then m.say false else
        let m := { m with pos := m.pos + n }
        m.afterRun .giveBack n (m.keep m.inner.isSome)) := by
    unfold M.exec
    have h' : ops[(c.M C T lim st none seen weight).word 0]? = some .REPEAT_ONE := h
    rw [h']; rfl
  rw [e, hlo, hhi]
  have er : ((lim : Int) - c.pos).toNat = lim - c.pos := Int.toNat_sub _ _
  rw [er]
  obtain ⟨s', hs'⟩ := run_many (T := T) ho (min hi (lim - c.pos)) c.pos 0 ((seen.add (C.getD c.pc 0)).add (C.getD (c.pc + 4) 0))
  show Go k (if ((lo : Nat) : Int) > (lim : Int) - c.pos then _ else _) P
  rcases Nat.lt_or_ge lim (c.pos + lo) with hp | hp
  · rw [if_pos (i_lt hp)]
    exact hn (.inl hp) _ weight (w70 hw)
  · rw [if_neg (i_ge hp)]
    have hs'' : Sre.run C T (c.pc + 4) (min hi (lim - c.pos)) c.pos 0 ((c.M C T lim st none (seen.add (C.getD c.pc 0)) weight).seen.add (C.getD (c.pc + 4) 0)) = .ok (0 + many f T (min hi (lim - c.pos)) c.pos, s') := hs'
    rw [hs'', Nat.zero_add]
    show Go k (if many f T (min hi (lim - c.pos)) c.pos < lo then _ else _) P
    rcases Nat.lt_or_ge (many f T (min hi (lim - c.pos)) c.pos) lo with hq | hq
    · rw [if_pos hq]
      exact hn (.inr hq) s' weight (w70 hw)
    · rw [if_neg (Nat.not_lt.mpr hq)]
      have := hy hp _ rfl hq
      rw [← hs] at this
      exact Go.attempt (c := { c with pos := c.pos + many f T (min hi (lim - c.pos)) c.pos }) (kept_size hm) hw this
theorem Run.jump {c : Core} {sk : Nat} (h : ops[C.getD c.pc 0]? = some .JUMP) (hs : C.getD (c.pc + 1) 0 = sk) (hk : Run C T lim st k { c with pc := c.pc + 1 + sk } P) : Run C T lim st (k + 1) c P := fun seen weight hw => by
  refine Go.step rfl ?_
  rw [step_run (lt_of_op h nofun)]
  have e : (c.M C T lim st none seen weight).exec = (let m := c.M C T lim st none (seen.add (C.getD c.pc 0)) weight; { m with pc := c.pc + 1 + C.getD (c.pc + 1) 0 }) := by
    unfold M.exec
    have h' : ops[(c.M C T lim st none seen weight).word 0]? = some .JUMP := h
    rw [h']; rfl
  rw [e, hs]
  exact hk _ weight (w70 hw)
theorem Run.succ {c : Core} (h : ops[C.getD c.pc 0]? = some .SUCCESS) (hk : Ans C T lim st k { c with hd := c.pos } true P) : Run C T lim st (k + 1) c P := fun seen weight hw => by
  refine Go.step rfl ?_
  rw [step_run (lt_of_op h nofun)]
  have e : (c.M C T lim st none seen weight).exec = (let m := c.M C T lim st none (seen.add (C.getD c.pc 0)) weight; { m with handed := c.pos }.say true) := by
    unfold M.exec
    have h' : ops[(c.M C T lim st none seen weight).word 0]? = some .SUCCESS := h
    rw [h']; rfl
  rw [e]
  exact hk _ weight (w70 hw)
theorem Run.branch {c : Core} {a : Nat} (h : ops[C.getD c.pc 0]? = some .BRANCH) (ha : (C.getD (c.pc + 1) 0 == 0) = false) (hm : c.marks.size ≤ 6)
    (hk : Run C T lim st k { c with frames := { wait := .nextBranch, pc := c.pc + 1, pos := c.pos, outermost := true, kept := c.kept c.inner.isSome } :: c.frames, pc := c.pc + 1 + 1, hd := c.pos } P) : Run C T lim st (k + 1) c P := fun seen weight hw => by
  refine Go.step rfl ?_
  rw [step_run (lt_of_op h nofun)]
  have e : (c.M C T lim st none seen weight).exec = (let m := c.M C T lim st none (seen.add (C.getD c.pc 0)) weight; if C.getD (c.pc + 1) 0 == 0 then m.say false else m.attempt { wait := .nextBranch, pc := c.pc + 1, pos := c.pos, outermost := true, kept := c.kept c.inner.isSome } (c.pc + 1 + 1) c.pos true) := by
    unfold M.exec
    have h' : ops[(c.M C T lim st none seen weight).word 0]? = some .BRANCH := h
    rw [h']; rfl
  rw [e, ha]
  exact Go.attempt (c := c) (kept_size hm) hw hk
theorem Run.loop {c : Core} {sk : Nat} (h : ops[C.getD c.pc 0]? = some .REPEAT) (hs : C.getD (c.pc + 1) 0 = sk)
    (hk : Run C T lim st k { c with loops := c.loops.push { pc := c.pc, outer := c.inner }, inner := some c.loops.size, frames := { wait := .closeLoop, pc := c.pc, pos := c.pos, outermost := true, loop := c.loops.size } :: c.frames, pc := c.pc + 1 + sk, hd := c.pos } P) : Run C T lim st (k + 1) c P := fun seen weight hw => by
  refine Go.step rfl ?_
  rw [step_run (lt_of_op h nofun)]
  have e : (c.M C T lim st none seen weight).exec = ((Core.M C T lim st { c with loops := c.loops.push { pc := c.pc, outer := c.inner }, inner := some c.loops.size } none (seen.add (C.getD c.pc 0)) weight).attempt { wait := .closeLoop, pc := c.pc, pos := c.pos, outermost := true, loop := c.loops.size } (c.pc + 1 + C.getD (c.pc + 1) 0) c.pos true) := by
    unfold M.exec
    have h' : ops[(c.M C T lim st none seen weight).word 0]? = some .REPEAT := h
    rw [h']; rfl
  rw [e, hs]
  exact Go.attempt (c := { c with loops := c.loops.push { pc := c.pc, outer := c.inner }, inner := some c.loops.size }) (Nat.zero_le _) hw hk
theorem Run.more {c : Core} {i : Nat} {l : Loop} (h : ops[C.getD c.pc 0]? = some .MAX_UNTIL) (hi : c.inner = some i) (hl : c.loops.getD i { pc := 0, outer := none } = l) (h0 : C.getD (l.pc + 2) 0 = 0) (h1 : C.getD (l.pc + 3) 0 = 1) (hc : l.count = -1) (hb : l.began = none) (hm : c.marks.size ≤ 6)
    (hk : Run C T lim st k { c with loops := c.loops.modify i fun l => { l with count := 0, began := some c.pos }, frames := { wait := .maxMore, pc := c.pc + 1, pos := c.pos, outermost := true, loop := i, count := 0, kept := c.kept true, began := none } :: c.frames, pc := l.pc + 4, hd := c.pos } P) : Run C T lim st (k + 1) c P := fun seen weight hw => by
  refine Go.step rfl ?_
  rw [step_run (lt_of_op h nofun)]
  have e : (c.M C T lim st none seen weight).exec = (Core.M C T lim st { c with pc := c.pc + 1 } none (seen.add (C.getD c.pc 0)) weight).until_ true := by
    unfold M.exec
    have h' : ops[(c.M C T lim st none seen weight).word 0]? = some .MAX_UNTIL := h
    rw [h']; rfl
  rw [e]
  unfold M.until_
  have hi' : (Core.M C T lim st { c with pc := c.pc + 1 } none (seen.add (C.getD c.pc 0)) weight).inner = some i := hi
  have hl' : (Core.M C T lim st { c with pc := c.pc + 1 } none (seen.add (C.getD c.pc 0)) weight).loopAt i = l := hl
  have h0' : (Core.M C T lim st { c with pc := c.pc + 1 } none (seen.add (C.getD c.pc 0)) weight).code.getD (l.pc + 2) 0 = 0 := h0
  have h1' : (Core.M C T lim st { c with pc := c.pc + 1 } none (seen.add (C.getD c.pc 0)) weight).code.getD (l.pc + 3) 0 = 1 := h1
  rw [hi']
  simp only [hl', h0', h1', hc, hb]
  unfold M.round
  simp only [hl', hb]
  exact Go.attempt (c := { c with pc := c.pc + 1, loops := c.loops.modify i fun l => { l with count := 0, began := some c.pos } }) (kept_size hm) hw hk
theorem Run.over {c : Core} {i : Nat} {l : Loop} (h : ops[C.getD c.pc 0]? = some .MAX_UNTIL) (hi : c.inner = some i) (hl : c.loops.getD i { pc := 0, outer := none } = l) (h0 : C.getD (l.pc + 2) 0 = 0) (h1 : C.getD (l.pc + 3) 0 = 1) (hc : l.count = 0)
    (hk : Run C T lim st k { c with inner := l.outer, frames := { wait := .maxTail, pc := c.pc + 1, pos := c.pos, outermost := true, loop := i, count := 1, kept := c.kept false } :: c.frames, pc := c.pc + 1, hd := c.pos } P) : Run C T lim st (k + 1) c P := fun seen weight hw => by
  refine Go.step rfl ?_
  rw [step_run (lt_of_op h nofun)]
  have e : (c.M C T lim st none seen weight).exec = (Core.M C T lim st { c with pc := c.pc + 1 } none (seen.add (C.getD c.pc 0)) weight).until_ true := by
    unfold M.exec
    have h' : ops[(c.M C T lim st none seen weight).word 0]? = some .MAX_UNTIL := h
    rw [h']; rfl
  rw [e]
  unfold M.until_
  have hi' : (Core.M C T lim st { c with pc := c.pc + 1 } none (seen.add (C.getD c.pc 0)) weight).inner = some i := hi
  have hl' : (Core.M C T lim st { c with pc := c.pc + 1 } none (seen.add (C.getD c.pc 0)) weight).loopAt i = l := hl
  have h0' : (Core.M C T lim st { c with pc := c.pc + 1 } none (seen.add (C.getD c.pc 0)) weight).code.getD (l.pc + 2) 0 = 0 := h0
  have h1' : (Core.M C T lim st { c with pc := c.pc + 1 } none (seen.add (C.getD c.pc 0)) weight).code.getD (l.pc + 3) 0 = 1 := h1
  rw [hi']
  simp only [hl', h0', h1', hc]
  unfold M.afterLoop
  simp only [hl']
  exact Go.attempt (c := { c with pc := c.pc + 1, inner := l.outer }) (Nat.zero_le _) hw hk
theorem step_ans {c : Core} {f : Sre.Frame} {rest : List Sre.Frame} {b : Bool} {seen : Seen} {weight : Nat} (hf : c.frames = f :: rest) (ho : f.outermost = true) : (c.M C T lim st (some b) seen weight).step = M.resume (Core.M C T lim st { c with frames := rest, pc := f.pc, pos := f.pos } none seen (weight - (1 + f.kept.marks.size))) f b := by
  cases c
  cases hf
  unfold M.step Core.M
  simp only [Option.isSome_none, Bool.false_eq_true, if_false, ho]
noncomputable def Easy (f : Sre.Frame) : Prop := f.wait = .nextBranch ∨ f.wait = .giveBack ∨ f.wait = .closeLoop ∨ f.wait = .maxMore ∨ f.wait = .maxTail
theorem Ans.yes {Q : Array (Option Nat) → Int → Int → Nat → Prop} : ∀ (fs : List Sre.Frame) (c : Core), c.frames = fs → fs.length < k → (∀ f ∈ fs, f.outermost = true ∧ Easy f) → Q c.marks c.lm c.li c.hd → Ans C T lim st k c true (fun m => m.outcome = some .matched ∧ m.start = st ∧ Q m.marks m.lastmark m.lastindex m.handed) := by
  induction k with
  | zero => intro fs c _ h; exact absurd h (Nat.not_lt_zero _)
  | succ k ih =>
    intro fs c hf hk he hQ seen weight hw
    cases fs with
    | nil =>
      refine Go.step rfl (Go.done ?_ ?_)
      · unfold M.step Core.M; simp only [hf]; rfl
      · unfold M.step Core.M; simp only [hf]; exact ⟨rfl, rfl, hQ⟩
    | cons f rest =>
      obtain ⟨ho, hw'⟩ := he f (.head _)
      refine Go.step rfl ?_
      rw [step_ans hf ho]
      have hr : ∀ g ∈ rest, g.outermost = true ∧ Easy g := fun g hg => he g (.tail _ hg)
      have hl : rest.length < k := Nat.lt_of_succ_lt_succ hk
      unfold M.resume
      rcases hw' with q | q | q | q | q <;> rw [q]
      · exact ih rest { c with frames := rest, pc := f.pc, pos := f.pos } rfl hl hr hQ seen (weight - (1 + f.kept.marks.size)) (w7 hw)
      · exact ih rest { c with frames := rest, pc := f.pc, pos := f.pos } rfl hl hr hQ seen (weight - (1 + f.kept.marks.size)) (w7 hw)
      · exact ih rest { c with frames := rest, pc := f.pc, pos := f.pos, inner := _, loops := _ } rfl hl hr hQ seen (weight - (1 + f.kept.marks.size)) (w7 hw)
      · exact ih rest { c with frames := rest, pc := f.pc, pos := f.pos, loops := _ } rfl hl hr hQ seen (weight - (1 + f.kept.marks.size)) (w7 hw)
      · exact ih rest { c with frames := rest, pc := f.pc, pos := f.pos, inner := _ } rfl hl hr hQ seen (weight - (1 + f.kept.marks.size)) (w7 hw)
theorem Ans.fail {c : Core} (hf : c.frames = []) (h : ∀ m : Sre.M, m.outcome = some .failed → P m) : Ans C T lim st (k + 1) c false P := fun seen weight hw => by
  refine Go.step rfl (Go.done ?_ ?_)
  · unfold M.step Core.M; simp only [hf]; rfl
  · unfold M.step Core.M; simp only [hf]; exact h _ rfl
noncomputable def Core.back (c : Core) (kp : Sre.Kept) : Core := { c with lm := kp.lastmark, li := kp.lastindex, marks := if kp.whole then kp.marks ++ c.marks.extract kp.marks.size c.marks.size else c.marks }
theorem Ans.branch {c : Core} {f : Sre.Frame} {rest : List Sre.Frame} {a d : Nat} (hf : c.frames = f :: rest) (ho : f.outermost = true) (hq : f.wait = .nextBranch) (ha : C.getD f.pc 0 = a) (hd : (C.getD (f.pc + a) 0 == 0) = false) (hm : f.kept.marks.size ≤ 6)
    (hk : Run C T lim st k { (c.back f.kept) with frames := { wait := .nextBranch, pc := f.pc + a, pos := f.pos, outermost := true, kept := f.kept } :: rest, pc := f.pc + a + 1, pos := f.pos, hd := f.pos } P) : Ans C T lim st (k + 1) c false P := fun seen weight hw => by
  refine Go.step rfl ?_
  rw [step_ans hf ho]
  unfold M.resume
  rw [hq]
  have e : M.alternative (M.putBack (Core.M C T lim st { c with frames := rest, pc := f.pc, pos := f.pos } none seen (weight - (1 + f.kept.marks.size))) f.kept) (f.pc + C.getD f.pc 0) f.kept = (if C.getD (f.pc + C.getD f.pc 0) 0 == 0 then M.say (Core.M C T lim st { (c.back f.kept) with frames := rest, pc := f.pc, pos := f.pos } none seen (weight - (1 + f.kept.marks.size))) false else M.attempt (Core.M C T lim st { (c.back f.kept) with frames := rest, pc := f.pc, pos := f.pos } none seen (weight - (1 + f.kept.marks.size))) { wait := .nextBranch, pc := f.pc + C.getD f.pc 0, pos := f.pos, outermost := true, kept := f.kept } (f.pc + C.getD f.pc 0 + 1) f.pos true) := rfl
  show Go k (M.alternative (M.putBack _ f.kept) (f.pc + C.getD f.pc 0) f.kept) P
  rw [e, ha, hd]
  exact Go.attempt (c := { (c.back f.kept) with frames := rest, pc := f.pc, pos := f.pos }) hm (w7s hw) hk
theorem Ans.branchEnd {c : Core} {f : Sre.Frame} {rest : List Sre.Frame} {a d : Nat} (hf : c.frames = f :: rest) (ho : f.outermost = true) (hq : f.wait = .nextBranch) (ha : C.getD f.pc 0 = a) (hd : (C.getD (f.pc + a) 0 == 0) = true)
    (hk : Ans C T lim st k { (c.back f.kept) with frames := rest, pc := f.pc, pos := f.pos } false P) : Ans C T lim st (k + 1) c false P := fun seen weight hw => by
  refine Go.step rfl ?_
  rw [step_ans hf ho]
  unfold M.resume
  rw [hq]
  have e : M.alternative (M.putBack (Core.M C T lim st { c with frames := rest, pc := f.pc, pos := f.pos } none seen (weight - (1 + f.kept.marks.size))) f.kept) (f.pc + C.getD f.pc 0) f.kept = (if C.getD (f.pc + C.getD f.pc 0) 0 == 0 then M.say (Core.M C T lim st { (c.back f.kept) with frames := rest, pc := f.pc, pos := f.pos } none seen (weight - (1 + f.kept.marks.size))) false else M.attempt (Core.M C T lim st { (c.back f.kept) with frames := rest, pc := f.pc, pos := f.pos } none seen (weight - (1 + f.kept.marks.size))) { wait := .nextBranch, pc := f.pc + C.getD f.pc 0, pos := f.pos, outermost := true, kept := f.kept } (f.pc + C.getD f.pc 0 + 1) f.pos true) := rfl
  show Go k (M.alternative (M.putBack _ f.kept) (f.pc + C.getD f.pc 0) f.kept) P
  rw [e, ha, hd]
  exact hk seen (weight - (1 + f.kept.marks.size)) (w7 hw)
theorem Ans.giveEnd {c : Core} {f : Sre.Frame} {rest : List Sre.Frame} {lo : Nat} (hf : c.frames = f :: rest) (ho : f.outermost = true) (hq : f.wait = .giveBack) (hlo : C.getD (f.pc + 2) 0 = lo) (hl : f.count - 1 < lo)
    (hk : Ans C T lim st k { (c.back f.kept) with frames := rest, pc := f.pc, pos := f.pos } false P) : Ans C T lim st (k + 1) c false P := fun seen weight hw => by
  refine Go.step rfl ?_
  rw [step_ans hf ho]
  unfold M.resume
  rw [hq]
  show Go k (if f.count - 1 < (C.getD (f.pc + 2) 0 : Nat) then _ else _) P
  rw [hlo, if_pos hl]
  exact hk seen (weight - (1 + f.kept.marks.size)) (w7 hw)
theorem Ans.give {c : Core} {f : Sre.Frame} {rest : List Sre.Frame} {lo sk : Nat} (hf : c.frames = f :: rest) (ho : f.outermost = true) (hq : f.wait = .giveBack) (hlo : C.getD (f.pc + 2) 0 = lo) (hl : lo ≤ f.count - 1) (hsk : C.getD (f.pc + 1) 0 = sk) (hm : f.kept.marks.size ≤ 6)
    (hk : Run C T lim st k { (c.back f.kept) with frames := { wait := .giveBack, pc := f.pc, pos := f.pos - 1, outermost := true, count := f.count - 1, kept := f.kept } :: rest, pc := f.pc + 1 + sk, pos := f.pos - 1, hd := f.pos - 1 } P) : Ans C T lim st (k + 1) c false P := fun seen weight hw => by
  refine Go.step rfl ?_
  rw [step_ans hf ho]
  unfold M.resume
  rw [hq]
  show Go k (if f.count - 1 < (C.getD (f.pc + 2) 0 : Nat) then _ else _) P
  rw [hlo, if_neg (Int.not_lt.mpr hl)]
  rw [← hsk] at hk
  exact Go.attempt (weight := weight - (1 + f.kept.marks.size)) (c := { (c.back f.kept) with frames := rest, pc := f.pc, pos := f.pos - 1 }) hm (w7s hw) hk
theorem Ans.skip {c : Core} {f : Sre.Frame} {rest : List Sre.Frame} (hf : c.frames = f :: rest) (ho : f.outermost = true) (hq : f.wait = .maxMore) (hb : f.began = none)
    (hk : Run C T lim st k { (c.back f.kept) with loops := (c.loops.modify f.loop fun l => { l with began := none }).modify f.loop fun l => { l with count := f.count - 1 }, inner := (((c.loops.modify f.loop fun l => { l with began := none }).modify f.loop fun l => { l with count := f.count - 1 }).getD f.loop { pc := 0, outer := none }).outer, frames := { wait := .maxTail, pc := f.pc, pos := f.pos, outermost := true, loop := f.loop, count := f.count, kept := (c.back f.kept).kept false } :: rest, pc := f.pc, pos := f.pos, hd := f.pos } P) : Ans C T lim st (k + 1) c false P := fun seen weight hw => by
  refine Go.step rfl ?_
  rw [step_ans hf ho]
  unfold M.resume
  rw [hq]
  simp only [hb]
  exact Go.attempt (weight := weight - (1 + f.kept.marks.size)) (c := { (c.back f.kept) with loops := (c.loops.modify f.loop fun l => { l with began := none }).modify f.loop fun l => { l with count := f.count - 1 }, inner := _, frames := rest, pc := f.pc, pos := f.pos }) (Nat.zero_le _) (w7s hw) hk
end
end Mine
end
section
open PySem PySem.Sre
set_option Elab.async false
set_option maxRecDepth 100000
set_option autoImplicit false
set_option linter.unusedVariables false
namespace Mine
section
variable {C T : Array Nat} {lim st : Nat} {k : Nat} {P : Sre.M → Prop}
theorem one_lit {pc a : Nat} (h0 : ops[C.getD pc 0]? = some .LITERAL) (h1 : C.getD (pc + 1) 0 = a) : One C pc 2 (fun c => c == a) := by
  refine ⟨fun c seen => ⟨seen, ?_⟩, ?_, .inl h0⟩
  · unfold accepts; rw [h0, h1]
  · unfold itemWidth; rw [h0]
theorem in_zero {c f i : Nat} {yes : Bool} {seen : Seen} (h : ops[C.getD i 0]? = some .FAILURE) : ∃ s', inSet C c (f + 1) i yes seen = .ok (!yes, s') := by
  have e : inSet C c (f + 1) i yes seen = .ok (!yes, seen.add (C.getD i 0)) := by
    conv => lhs; whnf
    rw [show ops[(fun k => C.getD (i + k) 0) 0]? = _ from h]
    rfl
  exact ⟨_, e⟩
theorem in_lit {c f i a : Nat} {yes r : Bool} (h : ops[C.getD i 0]? = some .LITERAL) (ha : C.getD (i + 1) 0 = a) (hr : ∀ seen, ∃ s', inSet C c f (i + 2) yes seen = .ok (r, s')) {seen : Seen} : ∃ s', inSet C c (f + 1) i yes seen = .ok (if c == a then yes else r, s') := by
  have e : inSet C c (f + 1) i yes seen = if c == C.getD (i + 1) 0 then .ok (yes, seen.add (C.getD i 0)) else inSet C c f (i + 2) yes (seen.add (C.getD i 0)) := by
    conv => lhs; whnf
    rw [show ops[(fun k => C.getD (i + k) 0) 0]? = _ from h]
    rfl
  rw [e, ha]
  cases c == a
  · exact hr _
  · exact ⟨_, rfl⟩
theorem in_range {c f i a b : Nat} {yes r : Bool} (h : ops[C.getD i 0]? = some .RANGE) (ha : C.getD (i + 1) 0 = a) (hb : C.getD (i + 2) 0 = b) (hr : ∀ seen, ∃ s', inSet C c f (i + 3) yes seen = .ok (r, s')) {seen : Seen} : ∃ s', inSet C c (f + 1) i yes seen = .ok (if a ≤ c && c ≤ b then yes else r, s') := by
  have e : inSet C c (f + 1) i yes seen = if decide (C.getD (i + 1) 0 ≤ c) && decide (c ≤ C.getD (i + 2) 0) then .ok (yes, seen.add (C.getD i 0)) else inSet C c f (i + 3) yes (seen.add (C.getD i 0)) := by
    conv => lhs; whnf
    rw [show ops[(fun k => C.getD (i + k) 0) 0]? = _ from h]
    rfl
  rw [e, ha, hb]
  cases (decide (a ≤ c) && decide (c ≤ b))
  · exact hr _
  · exact ⟨_, rfl⟩
theorem one_range {pc a b n : Nat} (hsz : C.size = n + 3) (h0 : ops[C.getD pc 0]? = some .IN) (h1 : C.getD (pc + 1) 0 = 5) (h2 : ops[C.getD (pc + 2) 0]? = some .RANGE) (ha : C.getD (pc + 3) 0 = a) (hb : C.getD (pc + 4) 0 = b) (h5 : ops[C.getD (pc + 5) 0]? = some .FAILURE) : One C pc 6 (fun c => decide (a ≤ c) && decide (c ≤ b)) := by
  refine ⟨fun c seen => ?_, ?_, .inr h0⟩
  · unfold accepts; rw [h0, hsz]
    obtain ⟨s', e⟩ := in_range (c := c) (f := n + 2) (yes := true) (r := false) (seen := seen) h2 ha hb fun seen => in_zero h5
    refine ⟨s', e.trans ?_⟩
    cases (decide (a ≤ c) && decide (c ≤ b)) <;> rfl
  · unfold itemWidth; rw [h0, h1]
theorem one_two {pc a b n : Nat} (hsz : C.size = n + 3) (h0 : ops[C.getD pc 0]? = some .IN) (h1 : C.getD (pc + 1) 0 = 6) (h2 : ops[C.getD (pc + 2) 0]? = some .LITERAL) (ha : C.getD (pc + 3) 0 = a) (h4 : ops[C.getD (pc + 4) 0]? = some .LITERAL) (hb : C.getD (pc + 5) 0 = b) (h6 : ops[C.getD (pc + 6) 0]? = some .FAILURE) : One C pc 7 (fun c => c == a || c == b) := by
  refine ⟨fun c seen => ?_, ?_, .inr h0⟩
  · unfold accepts; rw [h0, hsz]
    obtain ⟨s', e⟩ := in_lit (c := c) (f := n + 2) (yes := true) (r := if c == b then true else false) (seen := seen) h2 ha fun seen => in_lit (f := n + 1) (r := false) h4 hb fun seen => in_zero h6
    refine ⟨s', e.trans ?_⟩
    cases c == a <;> cases c == b <;> rfl
  · unfold itemWidth; rw [h0, h1]
end
noncomputable def dig (c : Nat) : Bool := decide (48 ≤ c) && decide (c ≤ 57)
structure Code (C : Array Nat) : Prop where
  size : C.size = 102 + 3
  i5 : ops[C.getD 5 0]? = some .MARK
  a5 : C.getD 6 0 = 0
  i7 : ops[C.getD 7 0]? = some .REPEAT_ONE
  a7 : C.getD 8 0 = 6
  b7 : C.getD 9 0 = 0
  c7 : C.getD 10 0 = 1
  o11 : One C 11 2 (fun c => c == 45)
  i14 : ops[C.getD 14 0]? = some .BRANCH
  a14 : C.getD 15 0 = 5
  o16 : One C 16 2 (fun c => c == 48)
  i18 : ops[C.getD 18 0]? = some .JUMP
  a18 : C.getD 19 0 = 22
  a20 : C.getD 20 0 = 20
  o21 : One C 21 6 (fun c => decide (49 ≤ c) && decide (c ≤ 57))
  i27 : ops[C.getD 27 0]? = some .REPEAT_ONE
  a27 : C.getD 28 0 = 10
  b27 : C.getD 29 0 = 0
  c27 : C.getD 30 0 = maxRepeat
  o31 : One C 31 6 dig
  i38 : ops[C.getD 38 0]? = some .JUMP
  a38 : C.getD 39 0 = 2
  a40 : C.getD 40 0 = 0
  i41 : ops[C.getD 41 0]? = some .MARK
  a41 : C.getD 42 0 = 1
  i43 : ops[C.getD 43 0]? = some .REPEAT
  a43 : C.getD 44 0 = 20
  b43 : C.getD 45 0 = 0
  c43 : C.getD 46 0 = 1
  i47 : ops[C.getD 47 0]? = some .MARK
  a47 : C.getD 48 0 = 2
  o49 : One C 49 2 (fun c => c == 46)
  i51 : ops[C.getD 51 0]? = some .REPEAT_ONE
  a51 : C.getD 52 0 = 10
  b51 : C.getD 53 0 = 1
  c51 : C.getD 54 0 = maxRepeat
  o55 : One C 55 6 dig
  i62 : ops[C.getD 62 0]? = some .MARK
  a62 : C.getD 63 0 = 3
  i64 : ops[C.getD 64 0]? = some .MAX_UNTIL
  i65 : ops[C.getD 65 0]? = some .REPEAT
  a65 : C.getD 66 0 = 37
  b65 : C.getD 67 0 = 0
  c65 : C.getD 68 0 = 1
  i69 : ops[C.getD 69 0]? = some .MARK
  a69 : C.getD 70 0 = 4
  o71 : One C 71 7 (fun c => c == 101 || c == 69)
  i78 : ops[C.getD 78 0]? = some .REPEAT_ONE
  a78 : C.getD 79 0 = 11
  b78 : C.getD 80 0 = 0
  c78 : C.getD 81 0 = 1
  o82 : One C 82 7 (fun c => c == 45 || c == 43)
  i90 : ops[C.getD 90 0]? = some .REPEAT_ONE
  a90 : C.getD 91 0 = 10
  b90 : C.getD 92 0 = 1
  c90 : C.getD 93 0 = maxRepeat
  o94 : One C 94 6 dig
  i101 : ops[C.getD 101 0]? = some .MARK
  a101 : C.getD 102 0 = 5
  i103 : ops[C.getD 103 0]? = some .MAX_UNTIL
  i104 : ops[C.getD 104 0]? = some .SUCCESS
noncomputable def digs (T : Array Nat) (lim p : Nat) : Nat := many dig T (lim - p) p
noncomputable def signAt (T : Array Nat) (lim p : Nat) : Nat := if p < lim ∧ T.getD p 0 = 45 then p + 1 else p
noncomputable def intAt (T : Array Nat) (lim p : Nat) : Option Nat := if p < lim ∧ T.getD p 0 = 48 then some (p + 1) else if p < lim ∧ 49 ≤ T.getD p 0 ∧ T.getD p 0 ≤ 57 then some (p + 1 + digs T lim (p + 1)) else none
noncomputable def fracAt (T : Array Nat) (lim p : Nat) : Option Nat := if p < lim ∧ T.getD p 0 = 46 ∧ 1 ≤ digs T lim (p + 1) then some (p + 1 + digs T lim (p + 1)) else none
noncomputable def expSign (T : Array Nat) (lim p : Nat) : Nat := if p < lim ∧ (T.getD p 0 = 45 ∨ T.getD p 0 = 43) then p + 1 else p
noncomputable def expAt (T : Array Nat) (lim p : Nat) : Option Nat := if p < lim ∧ (T.getD p 0 = 101 ∨ T.getD p 0 = 69) ∧ 1 ≤ digs T lim (expSign T lim (p + 1)) then some (expSign T lim (p + 1) + digs T lim (expSign T lim (p + 1))) else none
noncomputable def spanOf (marks : Array (Option Nat)) (lm : Int) (g : Nat) : Option (Nat × Nat) := if ((2 * g + 1 : Nat) : Int) ≤ lm then (match marks.getD (2 * g) none, marks.getD (2 * g + 1) none with | some b, some e => some (b, e) | _, _ => none) else none
section
variable {C T : Array Nat} {lim st : Nat} {k : Nat} {P : Sre.M → Prop}
theorem many_le {f : Nat → Bool} : ∀ n p, many f T n p ≤ n
  | 0, p => Nat.le_refl _
  | n + 1, p => by
    rw [many_s]
    by_cases h : f (T.getD p 0) = true
    · rw [if_pos h, Nat.add_comm]; exact Nat.succ_le_succ (many_le (f := f) n (p + 1))
    · rw [if_neg h]; exact Nat.zero_le _
noncomputable abbrev Fin3 (st : Nat) (e : Nat) (s0 s1 s2 : Option (Nat × Nat)) : Sre.M → Prop := fun m => m.outcome = some .matched ∧ m.start = st ∧ (spanOf m.marks m.lastmark 0 = s0 ∧ spanOf m.marks m.lastmark 1 = s1 ∧ spanOf m.marks m.lastmark 2 = s2 ∧ m.handed = e)
theorem yes3 {c : Core} {e : Nat} {s0 s1 s2 : Option (Nat × Nat)} (hk : c.frames.length < k) (he : ∀ f ∈ c.frames, f.outermost = true ∧ Easy f) (h0 : spanOf c.marks c.lm 0 = s0) (h1 : spanOf c.marks c.lm 1 = s1) (h2 : spanOf c.marks c.lm 2 = s2) (h3 : c.hd = e) :
    Ans C T lim st k c true (Fin3 st e s0 s1 s2) := Ans.yes (Q := fun marks lm li hd => spanOf marks lm 0 = s0 ∧ spanOf marks lm 1 = s1 ∧ spanOf marks lm 2 = s2 ∧ hd = e) c.frames c rfl hk he ⟨h0, h1, h2, h3⟩
theorem many1 {f : Nat → Bool} {p : Nat} : many f T (min 1 (lim - p)) p = if p < lim ∧ f (T.getD p 0) = true then 1 else 0 := by
  rcases Nat.lt_or_ge p lim with h | h
  · have e : min 1 (lim - p) = 1 := Nat.min_eq_left (Nat.sub_pos_of_lt h)
    rw [e]
    rw [many_s]
    cases f (T.getD p 0) with
    | true => rw [if_pos rfl, if_pos ⟨h, rfl⟩]; rfl
    | false => rw [if_neg (by decide), if_neg (fun q => nomatch q.2)]
  · have e : min 1 (lim - p) = 0 := by rw [Nat.sub_eq_zero_of_le h]; rfl
    rw [e, if_neg (nlt h)]; rfl
theorem minMax {p : Nat} (h : lim ≤ maxRepeat) : min maxRepeat (lim - p) = lim - p := Nat.min_eq_right (Nat.le_trans (Nat.sub_le ..) h)
noncomputable def sp (a b : Option Nat) : Option (Nat × Nat) := match a, b with | some b, some e => some (b, e) | _, _ => none
theorem easy_cons {f : Sre.Frame} {fs : List Sre.Frame} (h : f.outermost = true ∧ Easy f) (t : ∀ f ∈ fs, f.outermost = true ∧ Easy f) : ∀ g ∈ f :: fs, g.outermost = true ∧ Easy g := fun g hg => by
  rcases List.mem_cons.mp hg with rfl | hg
  · exact h
  · exact t g hg
theorem Run.mark' {c : Core} {i : Nat} (marks' : Array (Option Nat)) (lm' li' : Int) (h : ops[C.getD c.pc 0]? = some .MARK) (hi : C.getD (c.pc + 1) 0 = i)
    (e1 : (if (i : Int) ≤ c.lm + 1 then c.marks else (List.range i).foldl (fun (a : Array (Option Nat)) (j : Nat) => if (j : Int) > c.lm then a.setIfInBounds j none else a) c.marks).setIfInBounds i (some c.pos) = marks') (e2 : max c.lm i = lm') (e3 : (if i % 2 == 1 then ((i / 2 + 1 : Nat) : Int) else c.li) = li')
    (hk : Run C T lim st k { c with pc := c.pc + 2, marks := marks', lm := lm', li := li' } P) : Run C T lim st (k + 1) c P := by
  subst e1 e2 e3
  exact Run.mark h hi hk
theorem Run.more' {c : Core} {i : Nat} {l : Loop} (loops' : Array Loop) (h : ops[C.getD c.pc 0]? = some .MAX_UNTIL) (hi : c.inner = some i) (hl : c.loops.getD i { pc := 0, outer := none } = l) (h0 : C.getD (l.pc + 2) 0 = 0) (h1 : C.getD (l.pc + 3) 0 = 1) (hc : l.count = -1) (hb : l.began = none) (hm : c.marks.size ≤ 6)
    (e : (c.loops.modify i fun l => { l with count := 0, began := some c.pos }) = loops')
    (hk : Run C T lim st k { c with loops := loops', frames := { wait := .maxMore, pc := c.pc + 1, pos := c.pos, outermost := true, loop := i, count := 0, kept := c.kept true, began := none } :: c.frames, pc := l.pc + 4, hd := c.pos } P) : Run C T lim st (k + 1) c P := by
  subst e
  exact Run.more h hi hl h0 h1 hc hb hm hk
theorem Run.loop' {c : Core} {sk : Nat} (loops' : Array Loop) (h : ops[C.getD c.pc 0]? = some .REPEAT) (hs : C.getD (c.pc + 1) 0 = sk) (i : Nat) (hi : c.loops.size = i) (e : c.loops.push { pc := c.pc, outer := c.inner } = loops')
    (hk : Run C T lim st k { c with loops := loops', inner := some i, frames := { wait := .closeLoop, pc := c.pc, pos := c.pos, outermost := true, loop := i } :: c.frames, pc := c.pc + 1 + sk, hd := c.pos } P) : Run C T lim st (k + 1) c P := by
  subst e hi
  exact Run.loop h hs hk
end
end Mine
end
section
open PySem PySem.Sre
set_option Elab.async false
set_option maxRecDepth 100000
set_option autoImplicit false
set_option linter.unusedVariables false
namespace Mine
section
variable {C T : Array Nat} {lim st : Nat} {k : Nat} {P : Sre.M → Prop}
theorem exp_tail (hC : Code C) (hlim : lim ≤ maxRepeat) {p : Nat} {M : Array (Option Nat)} {li : Int} {l0 : Loop} {fs : List Sre.Frame} {kp : Sre.Kept} {s0 s1 : Option (Nat × Nat)} (hfs : ∀ f ∈ fs, f.outermost = true ∧ Easy f) (hlen : fs.length ≤ 9) (hM6 : M.size = 6) (hkp : kp.marks.size ≤ 6) (hw : kp.whole = true)
    (hs : ∀ e, spanOf (M.setIfInBounds 5 (some e)) 5 0 = s0 ∧ spanOf (M.setIfInBounds 5 (some e)) 5 1 = s1 ∧ spanOf (M.setIfInBounds 5 (some e)) 5 2 = some (p, e))
    (hf : spanOf (kp.marks ++ M.extract kp.marks.size M.size) kp.lastmark 0 = s0 ∧ spanOf (kp.marks ++ M.extract kp.marks.size M.size) kp.lastmark 1 = s1 ∧ spanOf (kp.marks ++ M.extract kp.marks.size M.size) kp.lastmark 2 = none) :
    Run C T lim st 27 ⟨71, p, p, M, 4, li, #[l0, { pc := 65, count := 0, began := some p, outer := none }], some 1, { wait := .maxMore, pc := 104, pos := p, outermost := true, loop := 1, count := 0, kept := kp, began := none } :: fs⟩ (Fin3 st ((expAt T lim p).getD p) s0 s1 ((expAt T lim p).map fun e => (p, e))) := by
  have hM : M.size ≤ 6 := Nat.le_of_eq hM6
  have skip : ∀ {pc q hd : Nat} {lm li : Int} {k : Nat}, 20 ≤ k → expAt T lim p = none →
      Ans C T lim st k ⟨pc, q, hd, M, lm, li, #[l0, { pc := 65, count := 0, began := some p, outer := none }], some 1, { wait := .maxMore, pc := 104, pos := p, outermost := true, loop := 1, count := 0, kept := kp, began := none } :: fs⟩ false (Fin3 st ((expAt T lim p).getD p) s0 s1 ((expAt T lim p).map fun e => (p, e))) := by
    intro pc q hd lm li k hk he
    rw [he]
    match k, hk with
    | k + 2, hk =>
      refine Ans.skip rfl rfl rfl rfl ?_
      refine Run.succ hC.i104 ?_
      have e : (Core.back ⟨pc, q, hd, M, lm, li, #[l0, { pc := 65, count := 0, began := some p, outer := none }], some 1, { wait := .maxMore, pc := 104, pos := p, outermost := true, loop := 1, count := 0, kept := kp, began := none } :: fs⟩ kp).marks = kp.marks ++ M.extract kp.marks.size M.size := by
        unfold Core.back; rw [hw]; rfl
      refine yes3 (by simp; lia) (easy_cons ⟨rfl, .inr (.inr (.inr (.inr rfl)))⟩ hfs) ?_ ?_ ?_ rfl
      · dsimp only; rw [e]; exact hf.1
      · dsimp only; rw [e]; exact hf.2.1
      · dsimp only; rw [e]; exact hf.2.2
  have sz : ∀ {b : Bool} {pc q hd : Nat} {lm li : Int} {a b' d}, (Core.kept ⟨pc, q, hd, M, lm, li, a, b', d⟩ b).marks.size ≤ 6 := kept_size hM
  refine Run.one hC.o71 (fun hp he => ?_) fun hn => ?_
  · dsimp only at hp he ⊢
    have he' : T.getD p 0 = 101 ∨ T.getD p 0 = 69 := by simpa using he
    refine Run.rep hC.i78 hC.a78 hC.b78 hC.c78 hC.o82 hM (fun _ n hn _ => ?_) fun hn => by
      rcases hn with hn | hn
      · have hn : lim < p + 1 + 0 := hn
        exact absurd hn (Nat.not_lt.mpr hp)
      · exact absurd hn (Nat.not_lt_zero _)
    dsimp only at hn ⊢
    have hn' : n = if p + 1 < lim ∧ (T.getD (p + 1) 0 = 45 ∨ T.getD (p + 1) 0 = 43) then 1 else 0 := by
      rw [hn]; exact many1.trans (by simp)
    have hpn : p + 1 + n = expSign T lim (p + 1) := by
      rw [hn']; unfold expSign; split <;> simp_all
    generalize hkk : Core.kept _ _ = kk
    have hks : kk.marks.size ≤ 6 := by rw [← hkk]; exact sz
    have hkw : kk.whole = true := by rw [← hkk]; rfl
    have hkm : kk.marks = M.extract 0 5 := by rw [← hkk]; rfl
    refine Run.rep hC.i90 hC.a90 hC.b90 hC.c90 hC.o94 hM (fun _ d hd hd1 => ?_) fun hn => ?_
    · dsimp only at hd ⊢
      have hd' : d = digs T lim (expSign T lim (p + 1)) := by
        rw [hd, minMax hlim, hpn]; rfl
      have he : expAt T lim p = some (p + 1 + n + d) := by
        unfold expAt
        rw [if_pos ⟨hp, he', by rw [← hd']; exact hd1⟩, hpn, ← hd']
      rw [he]
      obtain ⟨q0, q1, q2⟩ := hs (p + 1 + n + d)
      refine Run.mark' (M.setIfInBounds 5 (some (p + 1 + n + d))) 5 3 hC.i101 hC.a101 rfl rfl rfl ?_
      dsimp only
      refine Run.over (i := 1) (l := { pc := 65, count := 0, began := some p, outer := none }) hC.i103 rfl rfl hC.b65 hC.c65 rfl ?_
      dsimp only
      refine Run.succ hC.i104 ?_
      dsimp only
      refine yes3 (by simp; lia) ?_ q0 q1 q2 rfl
      exact easy_cons ⟨rfl, .inr (.inr (.inr (.inr rfl)))⟩ (easy_cons ⟨rfl, .inr (.inl rfl)⟩ (easy_cons ⟨rfl, .inr (.inl rfl)⟩ (easy_cons ⟨rfl, .inr (.inr (.inr (.inl rfl)))⟩ hfs)))
    · dsimp only at hn ⊢
      have hz : digs T lim (expSign T lim (p + 1)) = 0 := by
        rcases hn with hn | hn
        · have := many_le (T := T) (f := dig) (lim - expSign T lim (p + 1)) (expSign T lim (p + 1))
          exact Nat.le_zero.mp (Nat.le_trans this (Nat.le_of_eq (Nat.sub_eq_zero_of_le (Nat.le_trans (Nat.le_of_lt_succ hn) (Nat.le_of_eq hpn)))))
        · rw [minMax hlim, hpn] at hn
          exact Nat.lt_one_iff.mp hn
      have he : expAt T lim p = none := by
        unfold expAt
        rw [if_neg fun q => by rw [hz] at q; exact absurd q.2.2 (by decide)]
      have hback : kk.marks ++ M.extract kk.marks.size M.size = M := by
        have e5 : kk.marks.size = 5 := by rw [hkm, Array.size_extract, hM6]; rfl
        rw [e5, hkm, Array.extract_append_extract, hM6]
        show M.extract 0 6 = M
        rw [← hM6]; exact Array.extract_size
      by_cases hc : p + 1 < lim ∧ (T.getD (p + 1) 0 = 45 ∨ T.getD (p + 1) 0 = 43)
      · rw [if_pos hc] at hn'
        subst hn'
        refine Ans.give rfl rfl rfl hC.b78 (by dsimp only; decide) hC.a78 hks ?_
        unfold Core.back
        simp only [hkw, if_true, hback]
        refine Run.rep hC.i90 hC.a90 hC.b90 hC.c90 hC.o94 hM (fun _ d hd hd1 => ?_) fun hn => ?_
        · have hd : d = many dig T (min maxRepeat (lim - (p + 1))) (p + 1) := hd
          rw [minMax hlim] at hd
          obtain ⟨j, hj⟩ : ∃ j, lim - (p + 1) = j + 1 := ⟨lim - (p + 1) - 1, (Nat.sub_add_cancel (Nat.sub_pos_of_lt hc.1)).symm⟩
          rw [hj] at hd
          unfold many at hd
          have : dig (T.getD (p + 1) 0) = false := by
            rcases hc.2 with q | q <;> rw [q] <;> rfl
          rw [this] at hd
          simp at hd
          rw [hd] at hd1; exact absurd hd1 (by decide)
        · refine Ans.giveEnd rfl rfl rfl hC.b78 (by dsimp only; decide) ?_
          unfold Core.back
          simp only [hkw, if_true, hback]
          exact skip (by decide) he
      · rw [if_neg hc] at hn'
        subst hn'
        refine Ans.giveEnd rfl rfl rfl hC.b78 (by dsimp only; decide) ?_
        unfold Core.back
        simp only [hkw, if_true, hback]
        exact skip (by decide) he
  · dsimp only at hn
    have he : expAt T lim p = none := by
      unfold expAt
      rw [if_neg fun q => ?_]
      rcases hn with hn | hn
      · exact Nat.not_lt.mpr hn q.1
      · rw [Bool.or_eq_false_iff] at hn
        simp only [beq_eq_false_iff_ne] at hn
        exact q.2.1.elim hn.1 hn.2
    exact skip (by decide) he
end
end Mine
end
section
open PySem PySem.Sre
set_option Elab.async false
set_option maxRecDepth 100000
set_option autoImplicit false
set_option linter.unusedVariables false
namespace Mine
section
variable {C T : Array Nat} {lim st : Nat} {k : Nat} {P : Sre.M → Prop}
theorem ext2 {α : Type} {a b c d e f : α} : #[a, b, c, d, e, f].extract 0 2 = #[a, b] := by simp
theorem ext4 {α : Type} {a b c d e f : α} : #[a, b, c, d, e, f].extract 0 4 = #[a, b, c, d] := by simp
theorem ext26 {α : Type} {a b c d e f x y : α} : #[x, y] ++ #[a, b, c, d, e, f].extract 2 6 = #[x, y, c, d, e, f] := by simp
theorem ext46 {α : Type} {a b c d e f x y z w : α} : #[x, y, z, w] ++ #[a, b, c, d, e, f].extract 4 6 = #[x, y, z, w, e, f] := by simp
theorem kept2 {pc q hd : Nat} {m0 m1 m2 m3 m4 m5 : Option Nat} {li : Int} {a b d} : Core.kept ⟨pc, q, hd, #[m0, m1, m2, m3, m4, m5], 1, li, a, b, d⟩ true = { lastmark := 1, lastindex := li, whole := true, marks := #[m0, m1] } := by
  have : Core.kept ⟨pc, q, hd, #[m0, m1, m2, m3, m4, m5], 1, li, a, b, d⟩ true = { lastmark := 1, lastindex := li, whole := true, marks := #[m0, m1, m2, m3, m4, m5].extract 0 2 } := rfl
  rw [this, ext2]
theorem kept4 {pc q hd : Nat} {m0 m1 m2 m3 m4 m5 : Option Nat} {li : Int} {a b d} : Core.kept ⟨pc, q, hd, #[m0, m1, m2, m3, m4, m5], 3, li, a, b, d⟩ true = { lastmark := 3, lastindex := li, whole := true, marks := #[m0, m1, m2, m3] } := by
  have : Core.kept ⟨pc, q, hd, #[m0, m1, m2, m3, m4, m5], 3, li, a, b, d⟩ true = { lastmark := 3, lastindex := li, whole := true, marks := #[m0, m1, m2, m3, m4, m5].extract 0 4 } := rfl
  rw [this, ext4]
theorem exp_walk (hC : Code C) (hlim : lim ≤ maxRepeat) {p hd : Nat} {m0 m1 m2 m3 m4 m5 : Option Nat} {lm li : Int} {l0 : Loop} {fs : List Sre.Frame} {s1 : Option (Nat × Nat)} (hfs : ∀ f ∈ fs, f.outermost = true ∧ Easy f) (hlen : fs.length ≤ 8) (h : (lm = 1 ∧ s1 = none) ∨ (lm = 3 ∧ s1 = sp m2 m3)) :
    Run C T lim st 30 ⟨65, p, hd, #[m0, m1, m2, m3, m4, m5], lm, li, #[l0], none, fs⟩ (Fin3 st ((expAt T lim p).getD p) (sp m0 m1) s1 ((expAt T lim p).map fun e => (p, e))) := by
  refine Run.loop' #[l0, { pc := 65, outer := none }] hC.i65 hC.a65 1 rfl rfl ?_
  dsimp only
  refine Run.more' (i := 1) (l := { pc := 65, outer := none }) #[l0, { pc := 65, count := 0, began := some p, outer := none }] hC.i103 rfl rfl hC.b65 hC.c65 rfl rfl (Nat.le_of_ble_eq_true rfl) rfl ?_
  dsimp only
  have hfs1 := easy_cons (f := { wait := .closeLoop, pc := 65, pos := p, outermost := true, loop := 1 }) ⟨rfl, .inr (.inr (.inl rfl))⟩ hfs
  rcases h with ⟨rfl, rfl⟩ | ⟨rfl, rfl⟩
  · rw [kept2]
    refine Run.mark' #[m0, m1, none, none, some p, m5] 4 li hC.i69 hC.a69 rfl rfl rfl ?_
    refine exp_tail hC hlim hfs1 (Nat.succ_le_succ hlen) rfl (Nat.le_of_ble_eq_true rfl) rfl (fun e => ⟨rfl, rfl, rfl⟩) ?_
    show spanOf (#[m0, m1] ++ #[m0, m1, none, none, some p, m5].extract 2 6) 1 0 = _ ∧ spanOf (#[m0, m1] ++ #[m0, m1, none, none, some p, m5].extract 2 6) 1 1 = _ ∧ spanOf (#[m0, m1] ++ #[m0, m1, none, none, some p, m5].extract 2 6) 1 2 = _
    rw [ext26]
    exact ⟨rfl, rfl, rfl⟩
  · rw [kept4]
    refine Run.mark' #[m0, m1, m2, m3, some p, m5] 4 li hC.i69 hC.a69 rfl rfl rfl ?_
    refine exp_tail hC hlim hfs1 (Nat.succ_le_succ hlen) rfl (Nat.le_of_ble_eq_true rfl) rfl (fun e => ⟨rfl, rfl, rfl⟩) ?_
    show spanOf (#[m0, m1, m2, m3] ++ #[m0, m1, m2, m3, some p, m5].extract 4 6) 3 0 = _ ∧ spanOf (#[m0, m1, m2, m3] ++ #[m0, m1, m2, m3, some p, m5].extract 4 6) 3 1 = _ ∧ spanOf (#[m0, m1, m2, m3] ++ #[m0, m1, m2, m3, some p, m5].extract 4 6) 3 2 = _
    rw [ext46]
    exact ⟨rfl, rfl, rfl⟩
theorem Run.lift {c : Core} {j : Nat} (h : Run C T lim st j c P) (hj : j ≤ k) : Run C T lim st k c P := fun seen weight hw => by
  obtain ⟨n, hn, x⟩ := h seen weight (Nat.le_trans (Nat.add_le_add_left (Nat.mul_le_mul_left 7 hj) _) hw)
  exact ⟨n, Nat.le_trans hn hj, x⟩
theorem Ans.lift {c : Core} {j : Nat} {b : Bool} (h : Ans C T lim st j c b P) (hj : j ≤ k) : Ans C T lim st k c b P := fun seen weight hw => by
  obtain ⟨n, hn, x⟩ := h seen weight (Nat.le_trans (Nat.add_le_add_left (Nat.mul_le_mul_left 7 hj) _) hw)
  exact ⟨n, Nat.le_trans hn hj, x⟩
theorem Ans.skip' {c : Core} {f : Sre.Frame} {rest : List Sre.Frame} (loops' : Array Loop) (inner' : Option Nat) (c' : Core) (hf : c.frames = f :: rest) (ho : f.outermost = true) (hq : f.wait = .maxMore) (hb : f.began = none) (hc : c.back f.kept = c')
    (e1 : ((c.loops.modify f.loop fun l => { l with began := none }).modify f.loop fun l => { l with count := f.count - 1 }) = loops') (e2 : (loops'.getD f.loop { pc := 0, outer := none }).outer = inner')
    (hk : Run C T lim st k { c' with loops := loops', inner := inner', frames := { wait := .maxTail, pc := f.pc, pos := f.pos, outermost := true, loop := f.loop, count := f.count, kept := c'.kept false } :: rest, pc := f.pc, pos := f.pos, hd := f.pos } P) : Ans C T lim st (k + 1) c false P := by
  subst hc e1 e2
  exact Ans.skip hf ho hq hb hk
noncomputable abbrev expEnd (T : Array Nat) (lim p : Nat) : Nat := (expAt T lim p).getD p
noncomputable abbrev fracEnd (T : Array Nat) (lim p : Nat) : Nat := (fracAt T lim p).getD p
theorem frac_walk (hC : Code C) (hlim : lim ≤ maxRepeat) {p hd : Nat} {m0 m1 m2 m3 m4 m5 : Option Nat} {li : Int} {fs : List Sre.Frame} (hfs : ∀ f ∈ fs, f.outermost = true ∧ Easy f) (hlen : fs.length ≤ 4) :
    Run C T lim st 40 ⟨43, p, hd, #[m0, m1, m2, m3, m4, m5], 1, li, #[], none, fs⟩ (Fin3 st (expEnd T lim (fracEnd T lim p)) (sp m0 m1) ((fracAt T lim p).map fun e => (p, e)) ((expAt T lim (fracEnd T lim p)).map fun e => (fracEnd T lim p, e))) := by
  refine Run.loop' #[{ pc := 43, outer := none }] hC.i43 hC.a43 0 rfl rfl ?_
  dsimp only
  refine Run.more' (i := 0) (l := { pc := 43, outer := none }) #[{ pc := 43, count := 0, began := some p, outer := none }] hC.i64 rfl rfl hC.b43 hC.c43 rfl rfl (Nat.le_of_ble_eq_true rfl) rfl ?_
  dsimp only
  have hfs1 := easy_cons (f := { wait := .closeLoop, pc := 43, pos := p, outermost := true, loop := 0 }) ⟨rfl, .inr (.inr (.inl rfl))⟩ hfs
  rw [kept2]
  refine Run.mark' #[m0, m1, some p, m3, m4, m5] 2 li hC.i47 hC.a47 rfl rfl rfl ?_
  dsimp only
  have skip : ∀ {pc q hd : Nat} {lm li' : Int}, fracAt T lim p = none →
      Ans C T lim st 31 ⟨pc, q, hd, #[m0, m1, some p, m3, m4, m5], lm, li', #[{ pc := 43, count := 0, began := some p, outer := none }], some 0, { wait := .maxMore, pc := 65, pos := p, outermost := true, loop := 0, count := 0, kept := { lastmark := 1, lastindex := li, whole := true, marks := #[m0, m1] }, began := none } :: { wait := .closeLoop, pc := 43, pos := p, outermost := true, loop := 0 } :: fs⟩ false
      (Fin3 st (expEnd T lim (fracEnd T lim p)) (sp m0 m1) ((fracAt T lim p).map fun e => (p, e)) ((expAt T lim (fracEnd T lim p)).map fun e => (fracEnd T lim p, e))) := by
    intro pc q hd lm li' hnone
    have e : fracEnd T lim p = p := by show (fracAt T lim p).getD p = p; rw [hnone]; rfl
    rw [e, hnone]
    refine Ans.skip' #[{ pc := 43, count := -1, began := none, outer := none }] none ⟨pc, q, hd, #[m0, m1, some p, m3, m4, m5], 1, li, #[{ pc := 43, count := 0, began := some p, outer := none }], some 0, { wait := .maxMore, pc := 65, pos := p, outermost := true, loop := 0, count := 0, kept := { lastmark := 1, lastindex := li, whole := true, marks := #[m0, m1] }, began := none } :: { wait := .closeLoop, pc := 43, pos := p, outermost := true, loop := 0 } :: fs⟩ rfl rfl rfl rfl ?_ rfl rfl ?_
    · have : ∀ (c : Core) (kp : Sre.Kept), kp.whole = true → c.back kp = { c with lm := kp.lastmark, li := kp.lastindex, marks := kp.marks ++ c.marks.extract kp.marks.size c.marks.size } := fun c kp h => by unfold Core.back; rw [h]; rfl
      rw [this _ _ rfl]
      show Core.mk pc q hd (#[m0, m1] ++ #[m0, m1, some p, m3, m4, m5].extract 2 6) 1 li _ _ _ = _
      rw [ext26]
    exact Run.lift (exp_walk hC hlim (easy_cons ⟨rfl, .inr (.inr (.inr (.inr rfl)))⟩ hfs1) (Nat.le_trans (Nat.succ_le_succ (Nat.succ_le_succ hlen)) (by decide)) (.inl ⟨rfl, rfl⟩)) (by decide)
  refine Run.one hC.o49 (fun hp he => ?_) fun hn => ?_
  · dsimp only at hp he ⊢
    have he' : T.getD p 0 = 46 := by simpa using he
    refine Run.rep hC.i51 hC.a51 hC.b51 hC.c51 hC.o55 (Nat.le_of_ble_eq_true rfl) (fun _ d hd hd1 => ?_) fun hn => ?_
    · dsimp only at hd ⊢
      have hd' : d = digs T lim (p + 1) := by rw [hd, minMax hlim]; rfl
      have he : fracAt T lim p = some (p + 1 + d) := by
        unfold fracAt
        rw [if_pos ⟨hp, he', by rw [← hd']; exact hd1⟩, ← hd']
      have e : fracEnd T lim p = p + 1 + d := by show (fracAt T lim p).getD p = _; rw [he]; rfl
      rw [e, he]
      refine Run.mark' #[m0, m1, some p, some (p + 1 + d), m4, m5] 3 2 hC.i62 hC.a62 rfl rfl rfl ?_
      dsimp only
      refine Run.over (i := 0) (l := { pc := 43, count := 0, began := some p, outer := none }) hC.i64 rfl rfl hC.b43 hC.c43 rfl ?_
      dsimp only
      exact Run.lift (exp_walk hC hlim (easy_cons ⟨rfl, .inr (.inr (.inr (.inr rfl)))⟩ (easy_cons ⟨rfl, .inr (.inl rfl)⟩ (easy_cons ⟨rfl, .inr (.inr (.inr (.inl rfl)))⟩ hfs1))) (Nat.succ_le_succ (Nat.succ_le_succ (Nat.succ_le_succ (Nat.succ_le_succ hlen)))) (.inr ⟨rfl, rfl⟩)) (by decide)
    · dsimp only at hn ⊢
      refine Ans.lift (skip ?_) (by decide)
      unfold fracAt
      rw [if_neg fun q => ?_]
      rcases hn with hn | hn
      · have := many_le (T := T) (f := dig) (lim - (p + 1)) (p + 1)
        exact absurd (Nat.le_trans q.2.2 (Nat.le_trans this (Nat.le_of_eq (Nat.sub_eq_zero_of_le (Nat.le_of_lt_succ hn))))) (by decide)
      · rw [minMax hlim] at hn
        exact absurd q.2.2 (Nat.not_le.mpr hn)
  · dsimp only at hn
    have he : fracAt T lim p = none := by
      unfold fracAt
      rw [if_neg fun q => ?_]
      rcases hn with hn | hn
      · exact Nat.not_lt.mpr hn q.1
      · simp only [beq_eq_false_iff_ne] at hn
        exact hn q.2.1
    exact Ans.lift (skip he) (by decide)
noncomputable def NumAt (T : Array Nat) (lim st : Nat) (m : Sre.M) : Prop := match intAt T lim (signAt T lim st) with
  | none => m.outcome = some .failed
  | some p => Fin3 st (expEnd T lim (fracEnd T lim p)) (some (st, p)) ((fracAt T lim p).map fun e => (p, e)) ((expAt T lim (fracEnd T lim p)).map fun e => (fracEnd T lim p, e)) m
theorem kept0 {c : Core} : c.kept false = { lastmark := c.lm, lastindex := c.li, whole := false, marks := #[] } := rfl
theorem back0 {c : Core} {kp : Sre.Kept} (h : kp.whole = false) : c.back kp = { c with lm := kp.lastmark, li := kp.lastindex } := by unfold Core.back; rw [h]; rfl
theorem int_walk (hC : Code C) (hlim : lim ≤ maxRepeat) {p hd : Nat} {Mk : Array (Option Nat)} {fs : List Sre.Frame} (hMk : Mk.size ≤ 6)
    (hp : ∀ e hd' F, intAt T lim p = some e → F.length ≤ 2 → (∀ f ∈ F, f.outermost = true ∧ Easy f) → Run C T lim st k ⟨41, e, hd', Mk, 0, -1, #[], none, F ++ fs⟩ P)
    (hf : intAt T lim p = none → ∀ pc q hd', Ans C T lim st k ⟨pc, q, hd', Mk, 0, -1, #[], none, fs⟩ false P) : Run C T lim st (k + 6) ⟨14, p, hd, Mk, 0, -1, #[], none, fs⟩ P := by
  refine Run.branch (a := 5) hC.i14 (by show (C.getD 15 0 == 0) = false; rw [hC.a14]; rfl) hMk ?_
  dsimp only
  rw [show (none : Option Nat).isSome = false from rfl, kept0]
  refine Run.one hC.o16 (fun h1 h2 => ?_) fun hn => ?_
  · dsimp only at h1 h2 ⊢
    have h2' : T.getD p 0 = 48 := by simpa using h2
    refine Run.jump hC.i18 hC.a18 ?_
    refine Run.lift (hp (p + 1) _ [{ wait := .nextBranch, pc := 15, pos := p, outermost := true, kept := { lastmark := 0, lastindex := -1, whole := false, marks := #[] } }] ?_ (by simp) (easy_cons ⟨rfl, .inl rfl⟩ fun _ h => nomatch h)) (Nat.le_add_right ..)
    unfold intAt; rw [if_pos ⟨h1, h2'⟩]
  · dsimp only at hn
    have h0 : ¬ (p < lim ∧ T.getD p 0 = 48) := fun q => by
      rcases hn with hn | hn
      · exact Nat.not_lt.mpr hn q.1
      · simp only [beq_eq_false_iff_ne] at hn; exact hn q.2
    refine Ans.branch (d := 0) rfl rfl rfl hC.a14 (by show (C.getD 20 0 == 0) = false; rw [hC.a20]; rfl) (Nat.zero_le _) ?_
    rw [back0 rfl]
    dsimp only
    refine Run.one hC.o21 (fun h1 h2 => ?_) fun hn => ?_
    · dsimp only at h1 h2 ⊢
      have h2' : 49 ≤ T.getD p 0 ∧ T.getD p 0 ≤ 57 := by rw [Bool.and_eq_true] at h2; simpa only [decide_eq_true_eq] using h2
      refine Run.rep hC.i27 hC.a27 hC.b27 hC.c27 hC.o31 hMk (fun _ d hd hd1 => ?_) fun hn => by
        rcases hn with hn | hn
        · have hn : lim < p + 1 + 0 := hn
          exact absurd hn (Nat.not_lt.mpr h1)
        · exact absurd hn (Nat.not_lt_zero _)
      dsimp only at hd ⊢
      have hd' : d = digs T lim (p + 1) := by rw [hd, minMax hlim]; rfl
      refine Run.jump hC.i38 hC.a38 ?_
      rw [show (none : Option Nat).isSome = false from rfl, kept0]
      refine hp (p + 1 + d) _ [{ wait := .giveBack, pc := 27, pos := p + 1 + d, outermost := true, count := d, kept := { lastmark := 0, lastindex := -1, whole := false, marks := #[] } }, { wait := .nextBranch, pc := 20, pos := p, outermost := true, kept := { lastmark := 0, lastindex := -1, whole := false, marks := #[] } }] ?_ (by simp) (easy_cons ⟨rfl, .inr (.inl rfl)⟩ (easy_cons ⟨rfl, .inl rfl⟩ fun _ h => nomatch h))
      unfold intAt; rw [if_neg h0, if_pos ⟨h1, h2'⟩, ← hd']
    · dsimp only at hn
      refine Ans.branchEnd (d := 0) rfl rfl rfl hC.a20 (by show (C.getD 40 0 == 0) = true; rw [hC.a40]; rfl) ?_
      rw [back0 rfl]
      refine Ans.lift (hf ?_ _ _ _) (Nat.le_add_right ..)
      unfold intAt; rw [if_neg h0, if_neg fun q => ?_]
      rcases hn with hn | hn
      · exact Nat.not_lt.mpr hn q.1
      · rw [Bool.and_eq_false_iff] at hn
        simp only [decide_eq_false_iff_not] at hn
        exact hn.elim (fun h => h q.2.1) (fun h => h q.2.2)
theorem num_walk (hC : Code C) (hlim : lim ≤ maxRepeat) : Run C T lim st 100 ⟨5, st, st, #[none, none, none, none, none, none], -1, -1, #[], none, []⟩ (NumAt T lim st) := by
  have found : ∀ e hd' F, intAt T lim (signAt T lim st) = some e → F.length ≤ 4 → (∀ f ∈ F, f.outermost = true ∧ Easy f) → Run C T lim st 50 ⟨41, e, hd', #[some st, none, none, none, none, none], 0, -1, #[], none, F⟩ (NumAt T lim st) := by
    intro e hd' F he hl hF
    refine Run.mark' #[some st, some e, none, none, none, none] 1 1 hC.i41 hC.a41 rfl rfl rfl ?_
    unfold NumAt
    rw [he]
    exact Run.lift (frac_walk hC hlim hF hl) (by decide)
  have lost : intAt T lim (signAt T lim st) = none → ∀ c : Core, c.frames = [] → Ans C T lim st 10 c false (NumAt T lim st) := fun h c hc => Ans.fail hc fun m hm => by unfold NumAt; rw [h]; exact hm
  refine Run.mark' #[some st, none, none, none, none, none] 0 (-1) hC.i5 hC.a5 rfl rfl rfl ?_
  dsimp only
  refine Run.rep hC.i7 hC.a7 hC.b7 hC.c7 hC.o11 (Nat.le_of_ble_eq_true rfl) (fun _ n hn _ => ?_) fun hn => ?_
  · dsimp only at hn ⊢
    have hn' : n = if st < lim ∧ T.getD st 0 = 45 then 1 else 0 := by
      rw [hn]; exact many1.trans (by simp)
    have hpn : st + n = signAt T lim st := by
      rw [hn']; unfold signAt
      by_cases q : st < lim ∧ T.getD st 0 = 45
      · rw [if_pos q, if_pos q]
      · rw [if_neg q, if_neg q]; rfl
    rw [show (none : Option Nat).isSome = false from rfl, kept0]
    refine Run.lift (j := 50 + 6) (int_walk hC hlim (Nat.le_of_ble_eq_true rfl) (fun e hd' F he hl hF => ?_) fun he pc q hd' => ?_) (by decide)
    · rw [hpn] at he
      refine found e hd' _ he (by rw [List.length_append]; exact ad hl (Nat.le_refl 1) (Eq.refl true)) fun f hf => ?_
      rcases List.mem_append.mp hf with hf | hf
      · exact hF f hf
      · rw [List.mem_singleton] at hf
        subst hf
        exact ⟨rfl, .inr (.inl rfl)⟩
    · rw [hpn] at he
      by_cases hc : st < lim ∧ T.getD st 0 = 45
      · rw [if_pos hc] at hn'
        subst hn'
        refine Ans.give rfl rfl rfl hC.b7 (by dsimp only; decide) hC.a7 (Nat.zero_le _) ?_
        rw [back0 rfl]
        dsimp only
        refine Run.lift (j := 20 + 6) (int_walk hC hlim (Nat.le_of_ble_eq_true rfl) (fun e hd' F he' hl hF => ?_) fun he' pc q hd' => ?_) (by decide)
        · exfalso
          have he' : intAt T lim st = some e := he'
          unfold intAt at he'
          rw [hc.2] at he'
          simp at he'
        · refine Ans.giveEnd rfl rfl rfl hC.b7 (by dsimp only; decide) ?_
          exact Ans.lift (lost he _ rfl) (by decide)
      · rw [if_neg hc] at hn'
        subst hn'
        refine Ans.giveEnd rfl rfl rfl hC.b7 (by dsimp only; decide) ?_
        exact Ans.lift (lost he _ rfl) (by decide)
  · dsimp only at hn
    rcases hn with hn | hn
    · have hnn : intAt T lim (signAt T lim st) = none := by
        have hn : lim ≤ st := Nat.le_of_lt_succ (Nat.lt_succ_of_le (Nat.le_of_lt_succ (Nat.lt_succ_of_lt hn)))
        have e : signAt T lim st = st := if_neg (nlt hn)
        rw [e]
        unfold intAt
        rw [if_neg (nlt hn), if_neg (nlt hn)]
      exact Ans.lift (lost hnn _ rfl) (by decide)
    · exact absurd hn (Nat.not_lt_zero _)
end
end Mine
end
section
open PySem PySem.W PySem.Calls PyProof.Rows
open Builtin Builtin.ObjectAttr
set_option Elab.async false
set_option maxRecDepth 100000
set_option maxHeartbeats 2000000
set_option autoImplicit false
set_option linter.unusedVariables false
namespace Mine
section
variable {prog : Program} {w : World} {A : Around} {E : Value → Shared → Prop} {h : Heap} {g : Array GenState} {d : Drawn} {t : Nat} {os : OsState} {x : Addr} {o : Obj} {name : Str} {v : Value}
theorem excget_entry {D : Addr} {m : Str → Option Value} {tk : Tok} {vs : Array Value} {Q : Fin → Shared → Prop} (hx : h.get? x = some o) (hc : o.cls = .type "Exception") (hd : o.dict = some D) (hdt : o.data = .fields vs) (hn : h.Ns D m) (hm : m name = some v) (hB : typeLookup (.type "Exception") name = pure none)
    (hq : Q (.done (.ret v)) ⟨h, g, d, t, os⟩) : wpAny (model prog w) A (Builtin.«object.__getattribute__» ⟨[.ref x, .str name tk], []⟩) Q E ⟨h, g, d, t, os⟩ := by
  have hT : (⟨h, g, d, t, os⟩ : Shared).TypeIs (.ref x) "Exception" := ⟨_, hx, hc⟩
  repeat (any_goals (first | assumption | wp_step))
  rw [hdt]
  unfold instanceDict
  repeat (any_goals (first | assumption | (with_reducible refine wpAny_loadPart_at hx ?_; rw [hc]) | wp_step))
  rw [hd]
  refine wpAny_pure ?_
  repeat (any_goals (first | assumption | (with_reducible refine wpAny_nsGet hn ?_; rw [hm]) | wp_step))
theorem exc_get {D : Addr} {m : Str → Option Value} {expr : Bool} {vs : Array Value} {Q : Value → Shared → Prop} (hx : h.get? x = some o) (hc : o.cls = .type "Exception") (hd : o.dict = some D) (hdt : o.data = .fields vs) (hn : h.Ns D m) (hm : m name = some v) (hB : typeLookup (.type "Exception") name = pure none) (hh : handedOut v = pure v)
    (hq : Q v ⟨h, g, d, t + 1, os⟩) : wpAny (model prog w) A (getAttr (.ref x) name expr) Q E ⟨h, g, d, t, os⟩ := by
  have hT : (⟨h, g, d, t + 1, os⟩ : Shared).TypeIs (.ref x) "Exception" := ⟨_, hx, hc⟩
  have f2 := F.attr_Exception.ga.lookup
  have f3 := F.attr_Exception.ga.bind (.ref x)
  have hx0 : (expr && onTheHeap (Value.builtin "BaseException.__getattribute__")) = false := by cases expr <;> rfl
  unfold getAttr
  repeat (any_goals (first | assumption | wp_step))
  refine codeAny_call_builtin F.attr_Exception.ga.plain F.entry_bexc_ga (F.attr_Exception.ga.check _ _ _ _ _ _ _ _ hT (F.args_bexc_ga _ _) (excget_entry hx hc hd hdt hn hm hB ?_))
  repeat (any_goals (first | assumption | wp_step))
theorem excset_first {tk : Tok} {vs : Array Value} {Q : Fin → Shared → Prop} (hx : h.get? x = some o) (hc : o.cls = .type "Exception") (hd : o.dict = none) (hdt : o.data = .fields vs) (hB : typeLookup (.type "Exception") name = pure none)
    (hq : ∀ h' tk' D, h.get? D = none → h'.get? x = some { o with dict := some D } → h'.Ns1 D (fun y => if y = name then some v else none) → (∀ b ob, b ≠ x → h.get? b = some ob → h'.get? b = some ob) → Q (.done (.ret .none)) ⟨h', g, d, tk', os⟩) :
    wpAny (model prog w) A (Builtin.«object.__setattr__» ⟨[.ref x, .str name tk, v], []⟩) Q E ⟨h, g, d, t, os⟩ := by
  have hT : (⟨h, g, d, t, os⟩ : Shared).TypeIs (.ref x) "Exception" := ⟨_, hx, hc⟩
  have hpass := F.store_Exception.passes (.ref x)
  have hmro := F.store_Exception.mro
  unfold Builtin.«object.__setattr__»
  repeat (first | rw [refuse_eq] | (with_reducible refine wpAny_loadPart_at hx ?_; rw [hc]) | wp_step)
  rw [hd]
  rw [hdt]
  rw [if_neg (by decide +kernel)]
  have hx₁ : (h.push { cls := .type "dict", data := .dict #[] }).get? x = some o := Heap.get?_push_of_some _ hx
  have hxs : x ≠ h.objs.size := Nat.ne_of_lt (Heap.lt_size hx)
  refine wpAny_bind (wpAny_alloc' ?_)
  refine wpAny_bind (wpAny_update' hx₁ ?_)
  show wpAny _ _ (pure _) _ _ _
  refine wpAny_pure ?_
  have hgd : ((h.push { cls := .type "dict", data := .dict #[] }).update x fun o => { cls := o.cls, dict := some h.objs.size, data := o.data, slots := o.slots }).get? h.objs.size
      = some { cls := .type "dict", data := .dict #[] } :=
    (Heap.get?_update_ne _ _ _ _ hxs.symm).trans (Heap.get?_push_at rfl rfl)
  have hnd : ((h.push { cls := .type "dict", data := .dict #[] }).update x fun o => { cls := o.cls, dict := some h.objs.size, data := o.data, slots := o.slots }).Ns h.objs.size (fun _ => none) :=
    ⟨_, #[], _, hgd, rfl, fun e he => absurd he (by simp), fun _ => rfl⟩
  show wpAny _ _ (storeInDict h.objs.size (.str name tk) name v) _ _ _
  unfold storeInDict newKeyGuard
  refine wpAny_bind (wpAny_pure (wpAny_bind (wpAny_nsSet1 (Heap.Ns1.of_empty hnd) fun h' hn' hs => ?_)))
  obtain ⟨oD, esD, epD, hoD, hdD, hcD⟩ := hn'.count (Within.cons name v Within.nil)
  refine wpAny_bind (wpAny_lookBehind hoD (by rw [hdD]; exact pastItsLine_dict (Nat.le_trans hcD (by rw [List.length_cons, List.length_nil, sizeLine_eq]; lia))) ?_)
  refine wpAny_pure ?_
  refine hq h' _ h.objs.size ?_ ?_ hn' fun b ob hbx hb => ?_
  · cases q : h.get? h.objs.size with
    | none => rfl
    | some o => exact absurd (Heap.lt_size q) (Nat.lt_irrefl _)
  · refine (hs.2 x hxs).trans (Heap.get?_update_self _ hx₁ ?_)
    have hfr := (Heap.get?_some_iff.mp hx).2
    obtain ⟨oc, od, odt, osl⟩ := o
    cases odt <;> first | rfl | exact hfr
  · exact (hs.2 b (Nat.ne_of_lt (Heap.lt_size hb))).trans ((Heap.get?_update_ne _ _ _ _ hbx).trans (Heap.get?_push_of_some _ hb))
theorem excset_more {tk : Tok} {vs : Array Value} {D : Addr} {m : Str → Option Value} {ns : List Str} {Q : Fin → Shared → Prop} (hx : h.get? x = some o) (hc : o.cls = .type "Exception") (hd : o.dict = some D) (hdt : o.data = .fields vs) (hB : typeLookup (.type "Exception") name = pure none) (hn : h.Ns1 D m) (hw : Within m ns) (hsz : ns.length + 1 ≤ sizeLine)
    (hq : ∀ h' tk', h'.Ns1 D (fun y => if y = name then some v else m y) → Heap.SameBut D h h' → Q (.done (.ret .none)) ⟨h', g, d, tk', os⟩) :
    wpAny (model prog w) A (Builtin.«object.__setattr__» ⟨[.ref x, .str name tk, v], []⟩) Q E ⟨h, g, d, t, os⟩ := by
  have hT : (⟨h, g, d, t, os⟩ : Shared).TypeIs (.ref x) "Exception" := ⟨_, hx, hc⟩
  have hpass := F.store_Exception.passes (.ref x)
  have hmro := F.store_Exception.mro
  unfold Builtin.«object.__setattr__»
  repeat (first | rw [refuse_eq] | (with_reducible refine wpAny_loadPart_at hx ?_; rw [hc]) | wp_step)
  rw [hd]
  refine wpAny_pure ?_
  show wpAny _ _ (storeInDict D (.str name tk) name v) _ _ _
  unfold storeInDict newKeyGuard
  refine wpAny_bind (wpAny_pure (wpAny_bind (wpAny_nsSet1 hn fun h' hn' hs => ?_)))
  obtain ⟨oD, esD, epD, hoD, hdD, hcD⟩ := hn'.count (Within.cons name v hw)
  refine wpAny_bind (wpAny_lookBehind hoD (by rw [hdD]; exact pastItsLine_dict (Nat.le_trans hcD (by rw [List.length_cons]; lia))) ?_)
  exact wpAny_pure (hq h' _ hn' hs)
theorem exc_set {Q : Unit → Shared → Prop} (hx : h.get? x = some o) (hc : o.cls = .type "Exception")
    (key : ∀ (tk : Tok) (P : Fin → Shared → Prop) (E' : Value → Shared → Prop) (A' : Around), (∀ s, Q () s → P (.done (.ret .none)) s) → wpAny (model prog w) A' (Builtin.«object.__setattr__» ⟨[.ref x, .str name tk, v], []⟩) P E' ⟨h, g, d, t + 1, os⟩) :
    wpAny (model prog w) A (setAttr (.ref x) name v) Q E ⟨h, g, d, t, os⟩ := by
  have hT : (⟨h, g, d, t + 1, os⟩ : Shared).TypeIs (.ref x) "Exception" := ⟨_, hx, hc⟩
  have f2 := F.store_Exception.slot.lookup
  have f3 := F.store_Exception.slot.bind (.ref x)
  unfold setAttr callSpecial? specialOf
  repeat (any_goals (first | assumption | wp_step))
  refine codeAny_call_builtin F.store_Exception.slot.plain F.store_Exception.entry (F.store_Exception.slot.check _ _ _ _ _ _ _ _ hT (F.store_Exception.args _ _ _) (key _ _ _ _ fun s hs => ?_))
  repeat (any_goals (first | assumption | wp_step))
noncomputable abbrev boundM (id : String) (self : Value) : Obj := { cls := .type "builtin_function_or_method", data := .fields #[.builtin id, self] }
theorem slot_md_get : Slot "method_descriptor" "__get__" "method_descriptor.__get__" :=
  .of (owner := "method_descriptor") (n := "__get__") (by rw [typeLookup_type, builtinLookup_eq_fast]; kernel_rfl) (by decide +kernel) (by decide +kernel) (by decide +kernel)
    (by first | exact .inl (by decide +kernel) | exact .inr (by decide +kernel)) (by rw [isSubtype_type]; kernel_rfl)
theorem entry_md_get : entryFor table "method_descriptor.__get__" = some Builtin.«method_descriptor.__get__» := entryFor_of_tree (by kernel_rfl)
theorem args_md_get (a b c : Value) : argsOk "method_descriptor.__get__" ⟨[a, b, c], []⟩ := by unfold argsOk; kernel_rfl
theorem type_match : typeOf (.builtin "re.Pattern.match") = pure (.type "method_descriptor") := by show builtinType _ = _; rw [builtinType_eq_fast]; kernel_rfl
theorem slot_pat_ga : Slot "re.Pattern" "__getattribute__" "object.__getattribute__" :=
  .of (owner := "object") (n := "__getattribute__") (by rw [typeLookup_type, builtinLookup_eq_fast]; kernel_rfl) (by decide +kernel) (by decide +kernel) (by decide +kernel)
    (by first | exact .inl (by decide +kernel) | exact .inr (by decide +kernel)) (by rw [isSubtype_type]; kernel_rfl)
theorem lk_pat_match : typeLookup (.type "re.Pattern") "match" = pure (some (.builtin "re.Pattern.match")) := by rw [typeLookup_type, builtinLookup_eq_fast]; kernel_rfl
theorem md_noset : typeLookup (.type "method_descriptor") "__set__" = pure none := by rw [typeLookup_type, builtinLookup_eq_fast]; kernel_rfl
theorem md_nodel : typeLookup (.type "method_descriptor") "__delete__" = pure none := by rw [typeLookup_type, builtinLookup_eq_fast]; kernel_rfl
theorem sub_pat : isSubtype (.type "re.Pattern") (.type "re.Pattern") = pure true := by rw [isSubtype_type]; kernel_rfl
theorem told_match : Manifest.toldItsClass.contains "re.Pattern.match" = true := by decide +kernel
theorem owner_match : (".".intercalate ("re.Pattern.match".cutAt '.').dropLast) = "re.Pattern" := by
  have e0 : "re.Pattern.match".cutAt '.' = ["re", "Pattern", "match"] := by first | rfl | decide +kernel
  rw [e0]; decide +kernel
theorem isType_pat : isType (.type "re.Pattern") = pure true := by first | rfl | kernel_rfl | (unfold isType; rw [isSubtype_type]; kernel_rfl)
theorem md_get_run {P : Fin → Shared → Prop} (hx : h.get? x = some o) (hc : o.cls = .type "re.Pattern") (hq : P (.done (.ret (.ref h.objs.size))) ⟨h.push (boundM "re.Pattern.match" (.ref x)), g, d, t, os⟩) :
    wpAny (model prog w) A (Builtin.«method_descriptor.__get__» ⟨[.builtin "re.Pattern.match", .ref x, .type "re.Pattern"], []⟩) P E ⟨h, g, d, t, os⟩ := by
  have hT : (⟨h, g, d, t, os⟩ : Shared).TypeIs (.ref x) "re.Pattern" := ⟨_, hx, hc⟩
  have f8 : isSubtype (.type "re.Pattern") (.type (".".intercalate ("re.Pattern.match".cutAt '.').dropLast)) = pure true := by rw [owner_match]; exact sub_pat
  have f9 := isType_pat
  unfold Builtin.«method_descriptor.__get__»
  refine wpAny_bind (wpAny_of_eq (a := (.builtin "re.Pattern.match", some (.ref x), some (.type "re.Pattern"))) (by first | rfl | kernel_rfl) ?_)
  simp only [told_match]
  repeat (any_goals (first | assumption | wp_step))
theorem pat_match {expr : Bool} {Q : Value → Shared → Prop} {vs : Array Value} (hx : h.get? x = some o) (hc : o.cls = .type "re.Pattern") (hd : o.dict = none) (hdt : o.data = .fields vs)
    (hq : Q (.ref h.objs.size) ⟨h.push (boundM "re.Pattern.match" (.ref x)), g, d, t + 1, os⟩) : wpAny (model prog w) A (getAttr (.ref x) "match" expr) Q E ⟨h, g, d, t, os⟩ := by
  have hT : (⟨h, g, d, t + 1, os⟩ : Shared).TypeIs (.ref x) "re.Pattern" := ⟨_, hx, hc⟩
  have f2 := slot_pat_ga.lookup
  have f3 := slot_pat_ga.bind (.ref x)
  have f4 := lk_pat_match
  have f5 := type_match
  have f6 := slot_md_get.lookup
  have f7 := md_noset
  have f8 := md_nodel
  have hx0 : (expr && onTheHeap (Value.builtin "object.__getattribute__")) = false := by cases expr <;> rfl
  unfold getAttr
  repeat (any_goals (first | assumption | wp_step))
  refine codeAny_call_builtin slot_pat_ga.plain F.entry_object_getattribute (slot_pat_ga.check _ _ _ _ _ _ _ _ hT (F.args_object_getattribute_2 _ _) ?_)
  repeat (any_goals (first | assumption | wp_step))
  rw [hdt]
  unfold instanceDict
  repeat (any_goals (first | assumption | (with_reducible refine wpAny_loadPart_at hx ?_; rw [hc]) | wp_step))
  rw [hd]
  refine wpAny_pure ?_
  repeat (any_goals (first | assumption | wp_step))
  refine codeAny_call_builtin slot_md_get.plain entry_md_get (slot_md_get.check _ _ _ _ _ _ _ _ (show (⟨h, g, d, t + 1, os⟩ : Shared).TypeIs (.builtin "re.Pattern.match") "method_descriptor" from type_match) (args_md_get _ _ _) (md_get_run hx hc ?_))
  exact wpAny_pure (wpAny_pure hq)
end
end Mine
end
section
open PySem PySem.W PySem.Calls PyProof.Rows
open Builtin Builtin.Re
set_option Elab.async false
set_option maxRecDepth 100000
set_option autoImplicit false
set_option linter.unusedVariables false
namespace Mine
section
variable {prog : Program} {w : World} {A : Around} {E : Value → Shared → Prop} {h : Heap} {g : Array GenState} {d : Drawn} {t : Nat} {os : OsState} {x : Addr} {o : Obj} {name : Str} {v : Value}
theorem entry_match : entryFor table "re.Pattern.match" = some Builtin.«re.Pattern.match» := entryFor_of_tree (by kernel_rfl)
theorem quiet_match {as : Args} : (Code.builtin "re.Pattern.match" as).quiet = true := Code.quiet_builtin _ (by decide +kernel)
theorem sub_pat_mod : isSubtype (.type "re.Pattern") (.type "module") = pure false := by rw [isSubtype_type]; kernel_rfl
theorem sig_match {sig : Manifest.Signature} (hs : Manifest.signature? "re.Pattern.match" = some sig) (x a b : Value) : Bind.checkArgs "re.Pattern.match" { sig with full := toString (Bind.lastOf "re.Pattern") ++ toString "." ++ toString (Bind.lastOf "re.Pattern.match") } ⟨[x, a, b], []⟩ = pure () := by
  have e : sig = (Manifest.signature? "re.Pattern.match").get (by decide +kernel) := by simp [hs]
  rw [e]
  kernel_rfl
theorem check_match {a b : Value} {vs : Array Value} {Q : Unit → Shared → Prop} (hx : h.get? x = some o) (hc : o.cls = .type "re.Pattern") (hdt : o.data = .fields vs) (hq : Q () ⟨h, g, d, t, os⟩) :
    wpAny (model prog w) A (checkBoundCall "re.Pattern.match" ⟨[.ref x, a, b], []⟩) Q E ⟨h, g, d, t, os⟩ := by
  have hT : (⟨h, g, d, t, os⟩ : Shared).TypeIs (.ref x) "re.Pattern" := ⟨_, hx, hc⟩
  have f1 := sub_pat_mod
  obtain ⟨sig, hs⟩ : ∃ sig, Manifest.signature? "re.Pattern.match" = some sig := Option.isSome_iff_exists.mp (by decide +kernel)
  have hk : builtinKind "re.Pattern.match" = some .method := by decide +kernel
  have hv : Manifest.varargsMethods.contains "re.Pattern.match" = false := by decide +kernel
  have ha := sig_match hs
  unfold checkBoundCall
  rw [hs]
  rw [hk]
  dsimp only
  rw [if_neg (by decide)]
  refine wpAny_bind (wpAny_isInstance hT f1 ?_)
  rw [if_neg (by rw [hv]; decide)]
  have hty : wpAny (model prog w) A (isType (.ref x)) (fun b s' => b = false ∧ s' = ⟨h, g, d, t, os⟩) E ⟨h, g, d, t, os⟩ := by
    repeat (any_goals (first | assumption | wp_step))
    rw [hdt]
    exact ⟨rfl, rfl⟩
  refine wpAny_bind (wpAny_mono hty (fun b s' hb => ?_) fun _ _ e => e)
  obtain ⟨rfl, rfl⟩ := hb
  rw [if_neg (by decide)]
  refine wpAny_bind (wpAny_typeOf_ref hx ?_)
  rw [hc]
  show wpAny _ _ (Bind.checkArgs "re.Pattern.match" _ _) _ _ _
  rw [ha]
  exact wpAny_pure hq
theorem call_match {u : Addr} {a b : Value} {vs : Array Value} {Q : Value → Shared → Prop} (hu : h.get? u = some (boundM "re.Pattern.match" (.ref x))) (hx : h.get? x = some o) (hc : o.cls = .type "re.Pattern") (hdt : o.data = .fields vs)
    (key : ∀ A', wpAny (model prog w) A' (Builtin.«re.Pattern.match» ⟨[.ref x, a, b], []⟩) (fun fin s' => ∃ v, fin = .done (.ret v) ∧ Q v s') E ⟨h, g, d, t, os⟩) :
    wpAny (model prog w) A (call (.ref u) [a, b]) Q E ⟨h, g, d, t, os⟩ := by
  refine wpAny_call (codeAny_of_tree ?_)
  show wpAny _ A.in1 (callAny (.ref u) ⟨[a, b], []⟩) _ _ _
  refine wpAny_bind (wpAny_load hu ?_)
  refine (?_ : wpAny _ _ (if (Value.type "builtin_function_or_method" == Value.type "method" || Value.type "builtin_function_or_method" == Value.type "builtin_function_or_method" || Value.type "builtin_function_or_method" == Value.type "method-wrapper") = true then _ else _) _ _ _)
  rw [if_pos (by decide)]
  show wpAny _ _ (if (Value.type "builtin_function_or_method" != Value.type "method") = true then do
          checkBoundCall "re.Pattern.match" { pos := [.ref x, a, b] }
          again (Code.builtin "re.Pattern.match" { pos := [.ref x, a, b] })
        else again (Code.call (.builtin "re.Pattern.match") { pos := [.ref x, a, b] })) _ _ _
  rw [if_pos (by decide)]
  refine wpAny_bind (check_match hx hc hdt ?_)
  refine wpAny_pure ⟨quiet_match, codeAny_builtin entry_match (wpAny_mono (key _) (fun fin s' hq => ?_) fun _ _ e => e)⟩
  obtain ⟨v, rfl, hq⟩ := hq
  exact hq
theorem runFor_stay : ∀ (n : Nat) (m : Sre.M), m.outcome.isSome = true → Sre.M.runFor n m = m
  | 0, m, _ => rfl
  | n + 1, m, h => by
    show (if m.outcome.isSome then m else Sre.M.runFor n m.step) = m
    rw [if_pos h]
theorem runFor_add : ∀ (a b : Nat) (m : Sre.M), Sre.M.runFor (a + b) m = Sre.M.runFor b (Sre.M.runFor a m)
  | 0, b, m => by rw [Nat.zero_add]; rfl
  | a + 1, b, m => by
    have e : a + 1 + b = (a + b) + 1 := Nat.add_right_comm a 1 b
    rw [e]
    show (if m.outcome.isSome then m else Sre.M.runFor (a + b) m.step) = Sre.M.runFor b (if m.outcome.isSome then m else Sre.M.runFor a m.step)
    by_cases h : m.outcome.isSome = true
    · rw [if_pos h, if_pos h, runFor_stay _ _ h]
    · rw [if_neg h, if_neg h, runFor_add a b]
theorem drive {M : Model} {s : Shared} {P : Sre.M → Prop} {Q : Sre.M → Shared → Prop}  (T : Nat) : ∀ (k : Nat) (m : Sre.M), Go k m P → k ≤ 4 * T → (∀ m', m'.outcome.isSome = true → P m' → Q m' s) → wpAny M A (reDrive (T + 1) m) Q E s := by
    induction T using Nat.strongRecOn with | _ T ih => _
    intro k m ⟨n, hn, ho, hp⟩ hk hQ
    have e : reDrive (T + 1) m = (if (Sre.M.runFor 4 m).outcome.isSome then pure (Sre.M.runFor 4 m) else do rule "sre.turn"; reDrive T (Sre.M.runFor 4 m)) := rfl
    rw [e]
    by_cases h4 : (Sre.M.runFor 4 m).outcome.isSome = true
    · rw [if_pos h4]
      refine wpAny_pure ?_
      have : Sre.M.runFor n m = Sre.M.runFor 4 m := by
        rcases Nat.le_total n 4 with q | q
        · obtain ⟨j, hj⟩ := Nat.exists_eq_add_of_le q
          rw [hj, runFor_add n j, runFor_stay _ _ ho]
        · obtain ⟨j, rfl⟩ := Nat.exists_eq_add_of_le q
          rw [runFor_add 4 j, runFor_stay _ _ h4]
      rw [this] at hp
      exact hQ _ h4 hp
    · rw [if_neg h4]
      have q : 4 < n := by
        rcases Nat.lt_or_ge 4 n with q | q
        · exact q
        · obtain ⟨j, hj⟩ := Nat.exists_eq_add_of_le q
          rw [hj, runFor_add n j, runFor_stay _ _ ho] at h4
          exact absurd ho h4
      obtain ⟨j, rfl⟩ := Nat.exists_eq_add_of_le (Nat.le_of_lt q)
      rw [runFor_add 4 j] at ho hp
      obtain ⟨T', rfl⟩ : ∃ T', T = T' + 1 := ⟨T - 1, (Nat.sub_add_cancel (Nat.pos_of_ne_zero fun e => absurd (Nat.le_trans (Nat.le_add_right 4 j) (Nat.le_trans hn hk)) (by rw [e]; decide))).symm⟩
      exact wpAny_bind (wpAny_rule (ih T' (Nat.lt_succ_self _) (k - 4) _ ⟨j, Nat.le_sub_of_add_le (Nat.le_trans (Nat.le_of_eq (Nat.add_comm j 4)) hn), ho, hp⟩ (Nat.sub_le_of_le_add hk) hQ))
theorem rules_quiet {M : Model} {s : Shared} {p : Nat → Bool} {nm : Nat → String} {Q : PUnit → Shared → Prop} : ∀ (l : List Nat), Q PUnit.unit s → wpAny M A (forIn l PUnit.unit fun i (_ : PUnit) => if p i = true then do rule (nm i); pure (ForInStep.yield PUnit.unit) else pure (ForInStep.yield PUnit.unit)) Q E s
  | [], h => by rw [List.forIn_nil]; exact wpAny_pure h
  | i :: l, h => by
    rw [List.forIn_cons]
    refine wpAny_bind ?_
    cases p i
    · exact wpAny_pure (rules_quiet l h)
    · exact wpAny_bind (wpAny_rule (wpAny_pure (rules_quiet l h)))
theorem run_end {M : Model} {s : Shared} {m : Sre.M} {P : Sre.M → Prop} {k : Nat} {Q : Option Sre.M → Shared → Prop} (hg : Go k m P) (hk : k ≤ 1000) (hP : ∀ m', P m' → (m'.outcome = some .matched ∧ Q (some m') s) ∨ (m'.outcome = some .failed ∧ Q none s)) : wpAny M A (reRunToEnd m) Q E s := by
  unfold reRunToEnd
  obtain ⟨T, hT⟩ : ∃ T, 2 ^ 64 = (T + 1000) + 1 := ⟨2 ^ 64 - 1001, by decide⟩
  rw [hT]
  refine wpAny_bind (drive (P := P) (T + 1000) k m hg (Nat.le_trans hk (Nat.le_trans (Nat.le_add_left 1000 T) (Nat.le_mul_of_pos_left _ (by decide)))) fun m' ho hp => ?_)
  refine wpAny_bind ?_
  refine rules_quiet (p := fun i => m'.seen.has i) (nm := fun i => Sre.names.getD i "") _ ?_
  rcases hP m' hp with ⟨e, q⟩ | ⟨e, q⟩
  · rw [e]; exact wpAny_pure q
  · rw [e]; exact wpAny_pure q
noncomputable def wordsOf (items : Array Value) : Array Nat := (items.map reRawOf).map (·.toNat)
theorem target {M : Model} {s : Shared} {fs items : Array Value} {c : Addr} {oc : Obj} {n : Nat} {T : Str} {i : Int} {tk tk2 t3 t6 : Tok} {Q : ReTarget → Shared → Prop} (hx : s.heap.get? x = some o) (hdt : o.data = .fields fs) (h6 : fs.getD 6 .none = .int 0 t6) (h5 : fs.getD 5 .none = .ref c) (h2 : fs.getD 2 .none = .int 3 t3)
    (hc : s.heap.get? c = some oc) (hcd : oc.data = .seq items n) (hi : 0 ≤ i ∧ i < 2 ^ 63) (hT : (T.cps.size : Int) < 2 ^ 63)
    (hq : Q { pattern := .ref x, string := .str T tk, code := wordsOf items, text := T.cps, kind := 0, groups := 3, pos := min i.toNat T.cps.size, lim := T.cps.size } s) :
    wpAny M A (reTarget "re.Pattern.match" "match" ⟨[.ref x, .str T tk, .int i tk2], []⟩) Q E s := by
  unfold reTarget
  refine wpAny_bind (wpAny_of_eq (a := [some (.str T tk), some (.int i tk2), none]) (by first | rfl | kernel_rfl) ?_)
  dsimp only
  refine wpAny_bind (wpAny_of_eq (a := i) ?_ ?_)
  · unfold reSsize
    show (if (decide (i < -(2 ^ 63)) || decide (i ≥ 2 ^ 63)) = true then _ else _) = _
    rw [if_neg (by simp; lia)]
  refine wpAny_bind (wpAny_of_eq (a := 2 ^ 63 - 1) rfl ?_)
  refine wpAny_bind (wpAny_fieldsOf hx hdt ?_)
  refine wpAny_bind (wpAny_of_eq (a := (T.cps, 0)) rfl ?_)
  simp only [h6, h5, h2]
  rw [if_neg (by show ¬ (false = true); decide), if_neg (by show ¬ (false = true); decide)]
  refine wpAny_bind (wpAny_of_eq (a := ()) rfl ?_)
  refine wpAny_bind ?_
  unfold reRawItems
  refine wpAny_bind (wpAny_seqItems hc hcd (wpAny_pure (wpAny_pure ?_)))
  have e : Min.min ((2 : Int) ^ 63 - 1).toNat T.cps.size = T.cps.size := by lia
  rw [e]
  exact hq
noncomputable def spV : Option (Nat × Nat) → List Value
  | none => [rawInt (-1), rawInt (-1)]
  | some (b, e) => [rawInt b, rawInt e]
theorem spV_eq (marks : Array (Option Nat)) (lm : Int) (g : Nat) : (match (if ((2 * g + 1 : Nat) : Int) ≤ lm then (marks.getD (2 * g) none, marks.getD (2 * g + 1) none) else (none, none)) with | (some b, some e) => [rawInt (b : Nat), rawInt (e : Nat)] | _ => [rawInt (-1), rawInt (-1)]) = spV (spanOf marks lm g) := by
  unfold spanOf
  by_cases hle : ((2 * g + 1 : Nat) : Int) ≤ lm
  · rw [if_pos hle, if_pos hle]
    cases marks.getD (2 * g) none with
    | none => rfl
    | some b => cases marks.getD (2 * g + 1) none with
      | none => rfl
      | some e => rfl
  · rw [if_neg hle, if_neg hle]; rfl
noncomputable abbrev matchObj (string pat : Value) (pos lim : Nat) (li : Int) (tp : Addr) : Obj := { cls := .type "re.Match", data := .fields #[string, pat, rawInt pos, rawInt lim, rawInt li, .ref tp] }
noncomputable abbrev spanTup (st hd : Nat) (s0 s1 s2 : Option (Nat × Nat)) : List Value := rawInt st :: rawInt hd :: (spV s0 ++ (spV s1 ++ spV s2))
theorem signAt_le {T : Array Nat} {lim p : Nat} : p ≤ signAt T lim p := by unfold signAt; split <;> lia
theorem digs_le {T : Array Nat} {lim p : Nat} : digs T lim p ≤ lim - p := many_le _ _
theorem intAt_lt {T : Array Nat} {lim p e : Nat} (h : intAt T lim p = some e) : p < e ∧ e ≤ lim := by
  unfold intAt at h
  have := digs_le (T := T) (lim := lim) (p := p + 1)
  split at h
  · rename_i q; cases h; exact ⟨Nat.lt_succ_self _, q.1⟩
  · split at h
    · rename_i q; cases h; exact span_lt this (Nat.lt_succ_self _) q.1
    · cases h
theorem fracAt_lt {T : Array Nat} {lim p e : Nat} (h : fracAt T lim p = some e) : p < e ∧ e ≤ lim := by
  unfold fracAt at h
  have := digs_le (T := T) (lim := lim) (p := p + 1)
  split at h
  · rename_i q; cases h; exact span_lt this (Nat.lt_succ_self _) q.1
  · cases h
theorem expAt_lt {T : Array Nat} {lim p e : Nat} (h : expAt T lim p = some e) : p < e ∧ e ≤ lim := by
  unfold expAt at h
  have h1 := digs_le (T := T) (lim := lim) (p := expSign T lim (p + 1))
  have h2 : p + 1 ≤ expSign T lim (p + 1) := by unfold expSign; split <;> lia
  split at h
  · rename_i q; cases h; exact span_lt h1 h2 (Nat.le_of_lt (Nat.lt_of_sub_pos (Nat.lt_of_lt_of_le q.2.2 h1)))
  · cases h
theorem newMatch {M : Model} {pattern string : Value} {pos lim : Nat} {m : Sre.M} {s0 s1 s2 : Option (Nat × Nat)} {Q : Value → Shared → Prop} (h0 : spanOf m.marks m.lastmark 0 = s0) (h1 : spanOf m.marks m.lastmark 1 = s1) (h2 : spanOf m.marks m.lastmark 2 = s2)
    (hle : ∀ g b e, g < 3 → spanOf m.marks m.lastmark g = some (b, e) → b ≤ e)
    (hq : ∀ h', (∀ b ob, h.get? b = some ob → h'.get? b = some ob) → ∀ u v, h.get? u = none → h.get? v = none → u ≠ v → h'.get? u = some { cls := .type "tuple", data := .seq (spanTup m.start m.handed s0 s1 s2).toArray } → h'.get? v = some (matchObj string pattern pos lim m.lastindex u) → Q (.ref v) ⟨h', g, d, t, os⟩) :
    wpAny M A (reNewMatch pattern string 3 pos lim m) Q E ⟨h, g, d, t, os⟩ := by
  have hany : ((List.range 3).any fun g => match m.marks.getD (2 * g) none, m.marks.getD (2 * g + 1) none with | some b, some e => decide (((2 * g + 1 : Nat) : Int) ≤ m.lastmark) && decide (e < b) | _, _ => false) = false := by
    rw [List.any_eq_false]
    intro g hg3 hg
    cases q1 : m.marks.getD (2 * g) none with
    | none => rw [q1] at hg; cases hg
    | some b => cases q2 : m.marks.getD (2 * g + 1) none with
      | none => rw [q1, q2] at hg; cases hg
      | some e =>
        rw [q1, q2] at hg
        have hg : (decide (((2 * g + 1 : Nat) : Int) ≤ m.lastmark) && decide (e < b)) = true := hg
        rw [Bool.and_eq_true, decide_eq_true_eq, decide_eq_true_eq] at hg
        have := hle g b e (List.mem_range.mp hg3) (by unfold spanOf; rw [if_pos hg.1, q1, q2])
        exact absurd hg.2 (Nat.not_lt.mpr this)
  have hsp : List.flatMap (fun g => match (if ((2 * g + 1 : Nat) : Int) ≤ m.lastmark then (m.marks.getD (2 * g) none, m.marks.getD (2 * g + 1) none) else (none, none)) with | (some b, some e) => [rawInt (b : Nat), rawInt (e : Nat)] | _ => [rawInt (-1), rawInt (-1)]) (List.range 3) = spV s0 ++ (spV s1 ++ spV s2) := by
    show List.flatMap _ [0, 1, 2] = _
    rw [List.flatMap_cons, List.flatMap_cons, List.flatMap_cons, List.flatMap_nil, List.append_nil, spV_eq, spV_eq, spV_eq, h0, h1, h2]
  have e : reNewMatch pattern string 3 pos lim m = (if ((List.range 3).any fun g => match m.marks.getD (2 * g) none, m.marks.getD (2 * g + 1) none with | some b, some e => decide (((2 * g + 1 : Nat) : Int) ≤ m.lastmark) && decide (e < b) | _, _ => false) = true then (do reWrongSpan; newFields "re.Match" [string, pattern, rawInt pos, rawInt lim, rawInt m.lastindex, ← newTuple (rawInt m.start :: rawInt m.handed :: List.flatMap (fun g => match (if ((2 * g + 1 : Nat) : Int) ≤ m.lastmark then (m.marks.getD (2 * g) none, m.marks.getD (2 * g + 1) none) else (none, none)) with | (some b, some e) => [rawInt (b : Nat), rawInt (e : Nat)] | _ => [rawInt (-1), rawInt (-1)]) (List.range 3))]) else (do newFields "re.Match" [string, pattern, rawInt pos, rawInt lim, rawInt m.lastindex, ← newTuple (rawInt m.start :: rawInt m.handed :: List.flatMap (fun g => match (if ((2 * g + 1 : Nat) : Int) ≤ m.lastmark then (m.marks.getD (2 * g) none, m.marks.getD (2 * g + 1) none) else (none, none)) with | (some b, some e) => [rawInt (b : Nat), rawInt (e : Nat)] | _ => [rawInt (-1), rawInt (-1)]) (List.range 3))])) := rfl
  rw [e, hsp, hany]
  rw [if_neg (by decide)]
  refine wpAny_bind (wpAny_newTuple ?_ ?_)
  · refine wpAny_newObj_type ?_
    have hu : h.get? h.objs.size = none := by
      cases q : h.get? h.objs.size with
      | none => rfl
      | some o => exact absurd (Heap.lt_size q) (Nat.lt_irrefl _)
    have hsz : (h.push { cls := .type "tuple", data := .seq (spanTup m.start m.handed s0 s1 s2).toArray }).objs.size = h.objs.size + 1 := by first | rfl | simp [Heap.push]
    have hv : h.get? (h.push { cls := .type "tuple", data := .seq (spanTup m.start m.handed s0 s1 s2).toArray }).objs.size = none := by
      rw [hsz]
      cases q : h.get? (h.objs.size + 1) with
      | none => rfl
      | some o => exact absurd (Heap.lt_size q) (Nat.not_lt.mpr (Nat.le_succ _))
    refine hq _ (fun b ob hb => Heap.get?_push_of_some _ (Heap.get?_push_of_some _ hb)) h.objs.size _ hu hv (by rw [hsz]; exact Nat.ne_of_lt (Nat.lt_succ_self _)) ?_ ?_
    · exact Heap.get?_push_of_some _ (Heap.get?_push_size _ rfl)
    · exact Heap.get?_push_size _ rfl
  · have l2 : ∀ q, (spV q).length = 2 := fun q => by cases q <;> rfl
    simp [l2, sizeLine]
theorem match_run {fs items : Array Value} {c : Addr} {oc : Obj} {n : Nat} {T : Str} {i : Nat} {tk tk2 t3 t6 : Tok} {Q : Fin → Shared → Prop} (hx : h.get? x = some o) (hdt : o.data = .fields fs) (h6 : fs.getD 6 .none = .int 0 t6) (h5 : fs.getD 5 .none = .ref c) (h2 : fs.getD 2 .none = .int 3 t3)
    (hc : h.get? c = some oc) (hcd : oc.data = .seq items n) (hC : Code (wordsOf items)) (hh : Sre.header (wordsOf items) = (1, 5)) (hi : i < T.cps.size) (hT : T.cps.size ≤ Sre.maxRepeat)
    (hnone : intAt T.cps T.cps.size (signAt T.cps T.cps.size i) = none → Q (.done (.ret .none)) ⟨h, g, d, t, os⟩)
    (hsome : ∀ p, intAt T.cps T.cps.size (signAt T.cps T.cps.size i) = some p → ∀ h', (∀ b ob, h.get? b = some ob → h'.get? b = some ob) → ∀ u v li, h.get? u = none → h.get? v = none → u ≠ v →
      h'.get? u = some { cls := .type "tuple", data := .seq (spanTup i (expEnd T.cps T.cps.size (fracEnd T.cps T.cps.size p)) (some (i, p)) ((fracAt T.cps T.cps.size p).map fun e => (p, e)) ((expAt T.cps T.cps.size (fracEnd T.cps T.cps.size p)).map fun e => (fracEnd T.cps T.cps.size p, e))).toArray } →
      h'.get? v = some (matchObj (.str T tk) (.ref x) i T.cps.size li u) → Q (.done (.ret (.ref v))) ⟨h', g, d, t, os⟩) :
    wpAny (model prog w) A (Builtin.«re.Pattern.match» ⟨[.ref x, .str T tk, .int i tk2], []⟩) Q E ⟨h, g, d, t, os⟩ := by
  have hT' : T.cps.size ≤ 4294967295 := hT
  unfold Builtin.«re.Pattern.match»
  refine wpAny_bind (target hx hdt h6 h5 h2 hc hcd ⟨by lia, by lia⟩ (by lia) ?_)
  dsimp only
  have e1 : min (i : Int).toNat T.cps.size = i := Nat.min_eq_left (Nat.le_of_lt hi)
  rw [e1]
  unfold reAnswer
  have hm : Sre.forMatch (wordsOf items) T.cps 3 i T.cps.size false false = Core.M (wordsOf items) T.cps T.cps.size i ⟨5, i, i, #[none, none, none, none, none, none], -1, -1, #[], none, []⟩ none (({} : Sre.Seen).add 14) 0 := by
    have e : ∀ (code text : Array Nat) (pos lim : Nat), Sre.forMatch code text 3 pos lim false false = (let m : Sre.M := { code, text, lim, start := pos, pc := (Sre.header code).2, pos, handed := pos, marks := Array.replicate 6 none, mustAdvance := false, seen := if (Sre.header code).2 == 0 then {} else ({} : Sre.Seen).add 14, wholeText := false }
      if (Sre.header code).1 != 0 && decide (pos ≤ lim) && decide (lim - pos < (Sre.header code).1) then m.say false else m) := fun _ _ _ _ => rfl
    rw [e, hh]
    dsimp only
    rw [if_neg (by simp; lia)]
    rfl
  have hnum : Go 100 (Sre.forMatch (wordsOf items) T.cps 3 i T.cps.size false false) (NumAt T.cps T.cps.size i) := by
    rw [hm]
    exact num_walk hC hT _ 0 (by decide)
  refine wpAny_bind (run_end hnum (by decide) fun m hm => ?_)
  unfold NumAt at hm
  cases hp : intAt T.cps T.cps.size (signAt T.cps T.cps.size i) with
  | none =>
    rw [hp] at hm
    exact .inr ⟨hm, wpAny_pure (hnone hp)⟩
  | some p =>
    rw [hp] at hm
    obtain ⟨ho, hst, h0, h1, h2', hhd⟩ := hm
    refine .inl ⟨ho, ?_⟩
    refine wpAny_bind (newMatch h0 h1 h2' (fun g b e h3 hg => ?_) fun h' hk u v n1 n2 n3 hu hv => wpAny_pure ?_)
    · have a1 := signAt_le (T := T.cps) (lim := T.cps.size) (p := i)
      have a2 := intAt_lt hp
      obtain rfl | rfl | rfl := in3 ⟨g, h3⟩
      · rw [h0] at hg
        cases hg
        exact Nat.le_trans a1 (Nat.le_of_lt a2.1)
      · rw [h1] at hg
        cases q : fracAt T.cps T.cps.size p with
        | none => rw [q] at hg; cases hg
        | some e' => rw [q] at hg; cases hg; exact Nat.le_of_lt (fracAt_lt q).1
      · rw [h2'] at hg
        cases q : expAt T.cps T.cps.size (fracEnd T.cps T.cps.size p) with
        | none => rw [q] at hg; cases hg
        | some e' => rw [q] at hg; cases hg; exact Nat.le_of_lt (expAt_lt q).1
    · rw [hst, hhd] at hu
      exact hsome p hp h' hk u v _ n1 n2 n3 hu hv
noncomputable def grpV (T : Str) (b : Tok) : Option (Nat × Nat) → Value
  | none => .none
  | some (x, y) => .str ⟨T.cps.extract x y⟩ b
theorem plainAttrs_Match : PlainAttrs "re.Match" :=
  ⟨⟨"object.__getattribute__", by rw [typeLookup_type, builtinLookup_eq_fast]; kernel_rfl, by decide +kernel⟩, by rw [typeLookup_type, builtinLookup_eq_fast]; kernel_rfl⟩
theorem slot_groups : Slot "re.Match" "groups" "re.Match.groups" :=
  .of (owner := "re.Match") (n := "groups") (by rw [typeLookup_type, builtinLookup_eq_fast]; kernel_rfl) (by decide +kernel) (by decide +kernel) (by decide +kernel)
    (by first | exact .inl (by decide +kernel) | exact .inr (by decide +kernel)) (by rw [isSubtype_type]; kernel_rfl)
theorem slot_end : Slot "re.Match" "end" "re.Match.end" :=
  .of (owner := "re.Match") (n := "end") (by rw [typeLookup_type, builtinLookup_eq_fast]; kernel_rfl) (by decide +kernel) (by decide +kernel) (by decide +kernel)
    (by first | exact .inl (by decide +kernel) | exact .inr (by decide +kernel)) (by rw [isSubtype_type]; kernel_rfl)
theorem entry_groups : entryFor table "re.Match.groups" = some Builtin.«re.Match.groups» := entryFor_of_tree (by kernel_rfl)
theorem entry_end : entryFor table "re.Match.end" = some Builtin.«re.Match.end» := entryFor_of_tree (by kernel_rfl)
theorem type_groups : typeOf (.builtin "re.Match.groups") = pure (.type "method_descriptor") := by show builtinType _ = _; rw [builtinType_eq_fast]; kernel_rfl
theorem type_end : typeOf (.builtin "re.Match.end") = pure (.type "method_descriptor") := by show builtinType _ = _; rw [builtinType_eq_fast]; kernel_rfl
theorem args_groups (a : Value) : argsOk "re.Match.groups" ⟨[a], []⟩ := by unfold argsOk; kernel_rfl
theorem args_end (a : Value) : argsOk "re.Match.end" ⟨[a], []⟩ := by unfold argsOk; kernel_rfl
end
end Mine
end
section
open PySem PySem.W PySem.Calls PyProof.Rows
open Builtin Builtin.Re
set_option Elab.async false
set_option maxRecDepth 100000
set_option autoImplicit false
set_option linter.unusedVariables false
namespace Mine
section
variable {prog : Program} {w : World} {A : Around} {E : Value → Shared → Prop} {h : Heap} {g : Array GenState} {d : Drawn} {t : Nat} {os : OsState} {x u : Addr} {o : Obj} {name : Str} {v : Value}
theorem found {M : Model} {T : Str} {tk : Tok} {pat : Value} {pos lim hd : Nat} {li : Int} {s0 s1 s2 : Option (Nat × Nat)} {Q : ReFound → Shared → Prop} (hx : h.get? x = some (matchObj (.str T tk) pat pos lim li u)) (hu : h.get? u = some { cls := .type "tuple", data := .seq (spanTup pos hd s0 s1 s2).toArray })
    (hq : Q { fields := #[.str T tk, pat, rawInt pos, rawInt lim, rawInt li, .ref u], spans := (spanTup pos hd s0 s1 s2).toArray.map reRawOf } ⟨h, g, d, t, os⟩) : wpAny M A (reFound (.ref x)) Q E ⟨h, g, d, t, os⟩ := by
  unfold reFound
  refine wpAny_bind (wpAny_fieldsOf hx rfl ?_)
  refine wpAny_bind ?_
  unfold reRawItems
  refine wpAny_bind (wpAny_seqItems hu rfl (wpAny_pure (wpAny_pure hq)))
theorem spans_at {pos hd : Nat} {s0 s1 s2 : Option (Nat × Nat)} : ∀ i, i < 8 → ((spanTup pos hd s0 s1 s2).toArray.map reRawOf).getD i (-1) = (match i with | 0 => (pos : Int) | 1 => hd | 2 => (s0.map fun p => ((p.1 : Nat) : Int)).getD (-1) | 3 => (s0.map fun p => ((p.2 : Nat) : Int)).getD (-1) | 4 => (s1.map fun p => ((p.1 : Nat) : Int)).getD (-1) | 5 => (s1.map fun p => ((p.2 : Nat) : Int)).getD (-1) | 6 => (s2.map fun p => ((p.1 : Nat) : Int)).getD (-1) | _ => (s2.map fun p => ((p.2 : Nat) : Int)).getD (-1)) := by
  intro i hi
  rw [List.map_toArray]
  have e : ∀ {o : Option (Nat × Nat)}, (spV o).map reRawOf = [(o.map fun p => ((p.1 : Nat) : Int)).getD (-1), (o.map fun p => ((p.2 : Nat) : Int)).getD (-1)] := fun {o} => by cases o <;> rfl
  show (List.toArray (List.map reRawOf (_ :: _ :: (spV s0 ++ (spV s1 ++ spV s2))))).getD i _ = _
  rw [List.map_cons, List.map_cons, List.map_append, List.map_append, e, e, e]
  obtain rfl | rfl | rfl | rfl | rfl | rfl | rfl | rfl := in8 ⟨i, hi⟩ <;> rfl
theorem grp {M : Model} {s : Shared} {T : Str} {tk : Tok} {x : ReFound} {sp : Option (Nat × Nat)} {k : Nat} {Q : Value → Shared → Prop} (h0 : x.fields.getD 0 .none = .str T tk) (hb : x.spans.getD (2 * k) (-1) = (sp.map fun p => ((p.1 : Nat) : Int)).getD (-1)) (he : x.spans.getD (2 * k + 1) (-1) = (sp.map fun p => ((p.2 : Nat) : Int)).getD (-1)) (hT : T.cps.size ≤ sizeLine)
    (hq : ∀ b tk', Q (grpV T b sp) { s with toks := tk' }) : wpAny M A (reGroupText x k .none) Q E s := by
  unfold reGroupText
  dsimp only
  rw [hb, he]
  cases sp with
  | none => exact wpAny_pure (hq 0 s.toks)
  | some p =>
    have e : ¬ ((decide ((((some p).map fun p : Nat × Nat => ((p.1 : Nat) : Int)).getD (-1)) < 0) || decide ((((some p).map fun p : Nat × Nat => ((p.2 : Nat) : Int)).getD (-1)) < 0)) = true) := by simp
    rw [if_neg e]
    rw [h0]
    refine wpAny_bind (wpAny_of_eq (a := (T.cps, 0)) rfl ?_)
    show wpAny M A (mkStr ⟨T.cps.extract p.1 p.2⟩) _ _ _
    refine wpAny_mkStr (hq _ _) ?_
    show (T.cps.extract p.1 p.2).size ≤ sizeLine
    rw [Array.size_extract]; exact Nat.le_trans (Nat.sub_le ..) (Nat.le_trans (Nat.min_le_right ..) hT)
theorem groups_run {T : Str} {tk : Tok} {pat : Value} {pos lim hd : Nat} {li : Int} {s0 s1 s2 : Option (Nat × Nat)} {Q : Fin → Shared → Prop} (hx : h.get? x = some (matchObj (.str T tk) pat pos lim li u)) (hu : h.get? u = some { cls := .type "tuple", data := .seq (spanTup pos hd s0 s1 s2).toArray }) (hT : T.cps.size ≤ sizeLine)
    (hq : ∀ a b c tk', Q (.done (.ret (.ref h.objs.size))) ⟨h.push { cls := .type "tuple", data := .seq #[grpV T a s0, grpV T b s1, grpV T c s2] }, g, d, tk', os⟩) :
    wpAny (model prog w) A (Builtin.«re.Match.groups» ⟨[.ref x], []⟩) Q E ⟨h, g, d, t, os⟩ := by
  unfold Builtin.«re.Match.groups» reWithDefault
  refine wpAny_bind (wpAny_bind (wpAny_of_eq (a := [none]) (by first | rfl | kernel_rfl) ?_))
  dsimp only
  refine wpAny_bind (found hx hu (wpAny_pure ?_))
  have hsz : ((spanTup pos hd s0 s1 s2).toArray.map reRawOf).size / 2 - 1 = 3 := by
    have l2 : ∀ q, (spV q).length = 2 := fun q => by cases q <;> rfl
    simp [l2]
  dsimp only
  rw [hsz]
  refine wpAny_bind ?_
  show wpAny _ _ (List.mapM _ [0, 1, 2]) _ _ _
  rw [List.mapM_cons, List.mapM_cons, List.mapM_cons, List.mapM_nil]
  refine wpAny_bind (grp rfl (spans_at 2 (by decide)) (spans_at 3 (by decide)) hT fun a ta => ?_)
  refine wpAny_bind (wpAny_bind (grp rfl (spans_at 4 (by decide)) (spans_at 5 (by decide)) hT fun b tb => ?_))
  refine wpAny_bind (wpAny_bind (grp rfl (spans_at 6 (by decide)) (spans_at 7 (by decide)) hT fun c tc => ?_))
  refine wpAny_bind (wpAny_pure (wpAny_pure (wpAny_pure (wpAny_pure ?_))))
  refine wpAny_bind (wpAny_newTuple (wpAny_pure (hq a b c tc)) ?_)
  show 3 ≤ sizeLine
  exact Nat.le_of_ble_eq_true rfl
theorem end_run {T : Str} {tk : Tok} {pat : Value} {pos lim hd : Nat} {li : Int} {s0 s1 s2 : Option (Nat × Nat)} {Q : Fin → Shared → Prop} (hx : h.get? x = some (matchObj (.str T tk) pat pos lim li u)) (hu : h.get? u = some { cls := .type "tuple", data := .seq (spanTup pos hd s0 s1 s2).toArray })
    (hq : ∀ a tk', Q (.done (.ret (.int hd a))) ⟨h, g, d, tk', os⟩) :
    wpAny (model prog w) A (Builtin.«re.Match.end» ⟨[.ref x], []⟩) Q E ⟨h, g, d, t, os⟩ := by
  unfold Builtin.«re.Match.end» reOneGroup
  refine wpAny_bind (wpAny_bind (wpAny_of_eq (a := (.ref x, [])) (by first | rfl | kernel_rfl) ?_))
  dsimp only
  refine wpAny_bind (found hx hu (wpAny_bind (wpAny_pure (wpAny_pure ?_))))
  dsimp only
  rw [spans_at 1 (by decide)]
  exact wpAny_bind (wpAny_mkInt (wpAny_pure (hq _ _)))
end
end Mine
end
section
open PySem PySem.W PySem.Calls PyProof.Rows
set_option Elab.async false
set_option maxRecDepth 100000
set_option maxHeartbeats 0
set_option autoImplicit false
set_option linter.unusedVariables false
namespace Mine
theorem stopSub : isSubtype (.type "StopIteration") (.type "StopIteration") = pure true := by rw [isSubtype_type]; kernel_rfl
theorem stopMade : Bind.madeBy (.type "StopIteration") = pure (some "Exception.__new__") := by kernel_rfl
theorem newEntry : entryFor table "Exception.__new__" = some Builtin.«BaseException.__new__» := PySem.F.excCall_Exception.entry
theorem stop_new {prog : Program} {w : World} {A : Around} {R : Result → Shared → Prop} {v : Value} {hp : Heap} {g : Array GenState} {d : Drawn} {tk : Nat} {os : OsState}
    (h : R (.ok (.ret (.ref (hp.objs.size + 1)))) ⟨(hp.push { cls := .type "tuple", data := .seq [v].toArray }).push
      { cls := .type "StopIteration", data := .fields #[.ref hp.objs.size, .none, .none, .none, .bool false, .none] }, g, d, tk, os⟩) :
    codeAny (model prog w) A (.builtin "Exception.__new__" ⟨[.type "StopIteration", v], []⟩) R ⟨hp, g, d, tk, os⟩ := by
  have hends : ("Exception.__new__" : String).endsWith ".__new__" = true := by decide +kernel
  have howner : ("Exception.__new__" : String).dropRight 8 = "Exception" := by decide +kernel
  have hsub : isSubtype (.type "StopIteration") (.type "Exception") = pure true := by rw [isSubtype_type]; kernel_rfl
  have hna : isSubtype (.type "StopIteration") (.type "AttributeError") = pure false := by rw [isSubtype_type]; kernel_rfl
  have hnn : isSubtype (.type "StopIteration") (.type "NameError") = pure false := by rw [isSubtype_type]; kernel_rfl
  have hmade : Bind.madeHere "BaseException.__new__" (.type "StopIteration") = pure () := by kernel_rfl
  refine codeAny_builtinAt newEntry ?_
  unfold Builtin.«BaseException.__new__»
  refine PySem.wpAt_bind ?_
  show PySem.wpAt _ _ _ (stack >>= _) _ _ _
  refine PySem.wpAt_bind (PySem.wpAt_stack fun p below => PySem.wpAt_of_wpAny ?_)
  wp_walk
  refine PySem.wpAt_of_wpAny ?_
  rw [howner]
  wp_walk
  show R _ _
  rw [Heap.size_push]
  exact h
theorem stopInit : Slot "StopIteration" "__init__" "StopIteration.__init__" := .of (owner := "StopIteration") (n := "__init__") (by rw [typeLookup_type, builtinLookup_eq_fast]; kernel_rfl) (by decide +kernel) (by decide +kernel) (by decide +kernel)
    (by first | exact .inl (by decide +kernel) | exact .inr (by decide +kernel)) (by rw [isSubtype_type]; kernel_rfl)
theorem stopEntry : entryFor table "StopIteration.__init__" = some Builtin.«StopIteration.__init__» := entryFor_of_tree (by kernel_rfl)
theorem baseInitEntry : entryFor table "BaseException.__init__" = some Builtin.«BaseException.__init__» := entryFor_of_tree (by kernel_rfl)
structure MadeStop (h h' : Heap) (e : Addr) (v : Value) : Prop where
  keeps : ∀ b o, h.get? b = some o → h'.get? b = some o
  new : h.get? e = none
  there : ∃ t, h'.get? e = some { cls := .type "StopIteration", data := .fields #[.ref t, .none, .none, .none, .bool false, v] } ∧ h.get? t = none ∧ h'.get? t = some { cls := .type "tuple", data := .seq #[v] }
section
variable {prog : Program} {w : World} {A : Around} {E : Value → Shared → Prop}
theorem stop_check {M : Model} {self : Value} {rest : List Value} {Q : Unit → Shared → Prop}
    {hp : Heap} {g : Array GenState} {d : Drawn} {tk : Nat} {os : OsState} (hT : Shared.TypeIs ⟨hp, g, d, tk, os⟩ self "StopIteration") (h : Q () ⟨hp, g, d, tk, os⟩) :
    wpAny M A (checkBuiltinCall "StopIteration.__init__" ⟨self :: rest, []⟩) Q E ⟨hp, g, d, tk, os⟩ := by
  have hk : builtinKind "StopIteration.__init__" = some .slot := by kernel_rfl
  have hsp : splitId "StopIteration.__init__" = some ("StopIteration", "__init__") := by kernel_rfl
  have hrow : Manifest.signature? "StopIteration.__init__" = some ⟨.positional, "*", "StopIteration", .self, [⟨"args", .varPos, false⟩]⟩ := by kernel_rfl
  have hsub := stopSub
  have hshort : ("StopIteration" != "*") = true := by decide +kernel
  simp only [checkBuiltinCall, hk, hsp, hrow]
  wp_walk
  refine wpAny_onRaise ?_
  rw [show ∀ (a b : String) (n : Nat), Bind.check ⟨.positional, "*", "StopIteration", .self, [⟨"args", .varPos, false⟩]⟩ a b n (List.map (fun x => x.fst) ({ pos := self :: rest } : Args).kw) = pure () from
    fun a b n => check_star_args _ _ _ _ _ _]
  exact wpAny_pure h
theorem stop_type_call {v : Value} {Q : Fin → Shared → Prop} {hp : Heap} {g : Array GenState} {d : Drawn} {tk : Nat} {os : OsState}
    (h : ∀ h' e, MadeStop hp h' e v → Q (.done (.ret (.ref e))) ⟨h', g, d, tk, os⟩) :
    wpAny (model prog w) A (Builtin.«type.__call__» ⟨[.type "StopIteration", v], []⟩) Q E ⟨hp, g, d, tk, os⟩ := by
  have hnt : (Value.type "StopIteration" == Value.type "type") = false := by decide +kernel
  have hcan : ((Manifest.find? "StopIteration").bind fun x => List.findSome? (fun t => (Manifest.find? t).bind fun b =>
    if b.noNew = true then some true else if (b.attrs.any fun x => x.fst == "__new__") = true then some false else none) x.mro).getD false = false := by kernel_rfl
  have hchk : checkTypeCall "StopIteration" ⟨[v], []⟩ = pure () := by kernel_rfl
  have hmro : mroOf (.type "StopIteration") = pure [.type "StopIteration", .type "Exception", .type "BaseException", .type "object"] := by rw [mroOf_type]; kernel_rfl
  have hmade := stopMade
  have hne : ([.type "StopIteration", .type "Exception", .type "BaseException", .type "object"] : List Value).isEmpty = false := rfl
  wp_walk
  refine codeAny_call_builtin_code (Code.quiet_builtin _ (by decide +kernel)) (wpAny_of_eq (show checkBuiltinCall "Exception.__new__" ⟨[.type "StopIteration", v], []⟩ = pure () by kernel_rfl) ?_)
  refine stop_new ?_
  show wpAny _ _ _ _ _ _
  have hget : ((hp.push { cls := .type "tuple", data := .seq [v].toArray }).push
      { cls := .type "StopIteration", data := .fields #[.ref hp.objs.size, .none, .none, .none, .bool false, .none] }).get? (hp.objs.size + 1) = some
      { cls := .type "StopIteration", data := .fields #[.ref hp.objs.size, .none, .none, .none, .bool false, .none] } := by heap_get
  refine wpAny_bind (wpAny_isInstance ⟨_, hget, rfl⟩ stopSub ?_)
  wp_step
  refine wpAny_bind (wpAny_holding (wpAny_callSpecial?_slot ⟨_, hget, rfl⟩ stopInit (wpAny_call (codeAny_call_builtin stopInit.plain stopEntry ?_))))
  refine stop_check ⟨_, hget, rfl⟩ ?_
  unfold Builtin.«StopIteration.__init__»
  wp_walk
  refine codeAny_builtin baseInitEntry ?_
  wp_walk
  refine h _ _ ⟨fun b o hb => ?_, Heap.get?_none_of_le (Nat.le_succ _), hp.objs.size + 2, ?_, Heap.get?_none_of_le (by lia), ?_⟩
  · have hne : hp.objs.size + 1 ≠ b := Nat.ne_of_gt (Nat.lt_succ_of_lt (Heap.lt_size hb))
    rw [Heap.get?_update_other _ _ hne, Heap.get?_update_other _ _ hne, Heap.get?_update_other _ _ hne]
    exact Heap.get?_push_of_some _ (Heap.get?_push_of_some _ (Heap.get?_push_of_some _ hb))
  · rw [Heap.get?_update_self _ (Heap.get?_update_self _ (Heap.get?_update_self _ (Heap.get?_push_of_some _ hget) rfl) rfl) rfl]
    simp only [Heap.size_push]
    rfl
  · have hne : hp.objs.size + 1 ≠ hp.objs.size + 2 := by lia
    rw [Heap.get?_update_other _ _ hne, Heap.get?_update_other _ _ hne, Heap.get?_update_other _ _ hne]
    exact Heap.get?_push_at (by simp only [Heap.size_push]) rfl
theorem stop_call {v : Value} {Q : Value → Shared → Prop} {s : Shared} (h : ∀ h' e, MadeStop s.heap h' e v → Q (.ref e) { s with heap := h' }) :
    wpAny (model prog w) A (call (.type "StopIteration") [v]) Q E s := by
  obtain ⟨hp, g, d, tk, os⟩ := s
  refine wpAny_call (codeAny_of_tree ?_)
  show wpAny _ _ (again (.builtin "type.__call__" ⟨[.type "StopIteration", v], []⟩)) _ _ _
  exact wpAny_pure ⟨Code.quiet_builtin _ (by decide +kernel), codeAny_builtin entry_typeCall (stop_type_call fun h' e hm => h h' e hm)⟩
end
end Mine
end
section
open PySem PySem.W PySem.Calls PyProof.Rows
set_option Elab.async false
set_option maxRecDepth 100000
set_option maxHeartbeats 0
set_option autoImplicit false
set_option linter.unusedVariables false
namespace Mine
section
variable {M : Model} {A : Around} {E : Value → Shared → Prop} {s : Shared} {env : Env}
end
section
variable {prog : Program} {w : World} {A : Around} {E : Value → Shared → Prop} {s : Shared} {env : Env}
end
end Mine
end
section
open PySem PySem.W PySem.Calls PyProof.Rows
open Builtin Builtin.ObjectAttr
set_option Elab.async false
set_option maxRecDepth 100000
set_option maxHeartbeats 2000000
set_option autoImplicit false
set_option linter.unusedVariables false
namespace Mine
section
variable {prog : Program} {w : World} {A : Around} {E : Value → Shared → Prop} {h : Heap} {g : Array GenState} {d : Drawn} {t : Nat} {os : OsState} {x : Addr} {o : Obj}
theorem stv_type : typeOf (.builtin "StopIteration.value") = pure (.type "member_descriptor") := by show builtinType _ = _; rw [builtinType_eq_fast]; kernel_rfl
theorem stv_ga : Slot "StopIteration" "__getattribute__" "BaseException.__getattribute__" :=
  .of (owner := "BaseException") (n := "__getattribute__") (by rw [typeLookup_type, builtinLookup_eq_fast]; kernel_rfl) (by decide +kernel) (by decide +kernel) (by decide +kernel)
    (by first | exact .inl (by decide +kernel) | exact .inr (by decide +kernel)) (by rw [isSubtype_type]; kernel_rfl)
theorem stv_lk : typeLookup (.type "StopIteration") "value" = pure (some (.builtin "StopIteration.value")) := by rw [typeLookup_type, builtinLookup_eq_fast]; kernel_rfl
theorem stv_get : Slot "member_descriptor" "__get__" "member_descriptor.__get__" :=
  .of (owner := "member_descriptor") (n := "__get__") (by rw [typeLookup_type, builtinLookup_eq_fast]; kernel_rfl) (by decide +kernel) (by decide +kernel) (by decide +kernel)
    (by first | exact .inl (by decide +kernel) | exact .inr (by decide +kernel)) (by rw [isSubtype_type]; kernel_rfl)
theorem stv_set : Slot "member_descriptor" "__set__" "member_descriptor.__set__" :=
  .of (owner := "member_descriptor") (n := "__set__") (by rw [typeLookup_type, builtinLookup_eq_fast]; kernel_rfl) (by decide +kernel) (by decide +kernel) (by decide +kernel)
    (by first | exact .inl (by decide +kernel) | exact .inr (by decide +kernel)) (by rw [isSubtype_type]; kernel_rfl)
theorem stv_getE : entryFor table "member_descriptor.__get__" = some Builtin.«member_descriptor.__get__» := entryFor_of_tree (by kernel_rfl)
theorem stv_E : entryFor table "StopIteration.value" = some Builtin.«StopIteration.value» := entryFor_of_tree (by kernel_rfl)
theorem stv_args (a b c : Value) : argsOk "member_descriptor.__get__" ⟨[a, b, c], []⟩ := by unfold argsOk; kernel_rfl
theorem stv_owner : isSubtype (.type "StopIteration") (.type (".".intercalate ("StopIteration.value".cutAt '.').dropLast)) = pure true := by
  have e0 : "StopIteration.value".cutAt '.' = ["StopIteration", "value"] := by first | rfl | decide +kernel
  rw [e0, show ".".intercalate ["StopIteration", "value"].dropLast = "StopIteration" from by decide +kernel, isSubtype_type]; kernel_rfl
theorem stv_run {v : Value} {vs : Array Value} {R : Result → Shared → Prop} (hx : h.get? x = some o) (hc : o.cls = .type "StopIteration") (hdt : o.data = .fields vs) (hv : vs[5]? = some v) (hq : R (.ok (.ret v)) ⟨h, g, d, t, os⟩) :
    codeAny (model prog w) A (.call (.builtin "member_descriptor.__get__") ⟨[.builtin "StopIteration.value", .ref x, .type "StopIteration"], []⟩) R ⟨h, g, d, t, os⟩ := by
  have hT : (⟨h, g, d, t, os⟩ : Shared).TypeIs (.ref x) "StopIteration" := ⟨_, hx, hc⟩
  have hT5 : (⟨h, g, d, t, os⟩ : Shared).TypeIs (.builtin "StopIteration.value") "member_descriptor" := stv_type
  have f8 := stv_owner
  refine codeAny_call_builtin stv_get.plain stv_getE (stv_get.check _ _ _ _ _ _ _ _ hT5 (stv_args _ _ _) ?_)
  repeat (any_goals (first | assumption | wp_step))
  refine ⟨Code.quiet_builtin _ (by decide +kernel), codeAny_builtin stv_E ?_⟩
  repeat (any_goals (first | assumption | wp_step))
  rw [hdt]
  refine wpAny_pure ?_
  rw [hv]
  exact wpAny_pure (wpAny_pure hq)
theorem stop_value {expr : Bool} {v : Value} {vs : Array Value} {Q : Value → Shared → Prop} (hx : h.get? x = some o) (hc : o.cls = .type "StopIteration") (hdt : o.data = .fields vs) (hv : vs[5]? = some v) (hn : handedOut v = pure v)
    (hq : Q v ⟨h, g, d, t + 1, os⟩) : wpAny (model prog w) A (getAttr (.ref x) "value" expr) Q E ⟨h, g, d, t, os⟩ := by
  have hT : (⟨h, g, d, t + 1, os⟩ : Shared).TypeIs (.ref x) "StopIteration" := ⟨_, hx, hc⟩
  have f2 := stv_ga.lookup
  have f3 := stv_ga.bind (.ref x)
  have f4 := stv_lk
  have f5 := stv_type
  have f6 := stv_get.lookup
  have f7 := stv_set.lookup
  have hx0 : (expr && onTheHeap (Value.builtin "BaseException.__getattribute__")) = false := by cases expr <;> rfl
  unfold getAttr
  repeat (any_goals (first | assumption | wp_step))
  refine codeAny_call_builtin stv_ga.plain F.entry_bexc_ga (stv_ga.check _ _ _ _ _ _ _ _ hT (F.args_bexc_ga _ _) ?_)
  repeat (any_goals (first | assumption | wp_step))
  refine stv_run hx hc hdt hv ?_
  repeat (any_goals (first | assumption | wp_step))
end
end Mine
end
open PySem PySem.W PySem.Calls PyProof.Rows
namespace Mine
def tacSq (t : Lean.Syntax) : Lean.Syntax := .node .none ``Lean.Parser.Tactic.tacticSeq #[.node .none ``Lean.Parser.Tactic.tacticSeq1Indented #[.node .none `null #[t]]]
def tacAp (f : Lean.Name) (x : Lean.Syntax) : Lean.Syntax := .node .none ``Lean.Parser.Term.app #[Lean.mkIdent f, .node .none `null #[x]]
def tacOr (t : Lean.Syntax) : Lean.Syntax := .node .none `group #[.atom .none "|", tacSq t]
def tacEx (x : Lean.Syntax) : Lean.Syntax := tacOr (.node .none ``Lean.Parser.Tactic.exact #[.atom .none "exact", tacAp ``Eq.refl x])
def tac0 : Lean.Syntax := tacSq (.node .none ``Lean.Parser.Tactic.first #[.atom .none "first", .node .none `null (([``true, ``false, ``ScopeKind.function].map fun x => tacEx (Lean.mkIdent x)) ++ ([``NameKind.local, ``NameKind.cell].map fun x => tacEx (tacAp ``some (Lean.mkIdent x))) ++ [tacEx (tacAp ``pure (Lean.mkIdent ``false)), tacOr (.node .none ``Lean.Parser.Tactic.tacticRfl #[.atom .none "rfl"])]).toArray])
def tac3 : Lean.Syntax := tacSq (.node .none ``Lean.Parser.Tactic.withUnfoldingAll #[.atom .none "with_unfolding_all", tacSq (.node .none ``Lean.Parser.Tactic.tacticRfl #[.atom .none "rfl"])])
def tac14 : Lean.Syntax := tacSq (.node .none ``Lean.Parser.Tactic.decide #[.atom .none "decide", .node .none ``Lean.Parser.Tactic.optConfig #[.node .none `null #[]]])
def tac15 : Lean.Syntax := tacSq (.node .none ``Lean.Parser.Tactic.withUnfoldingAll #[.atom .none "with_unfolding_all", tacSq (.node .none ``Lean.Parser.Tactic.exact #[.atom .none "exact", tacAp ``Eq.refl (Lean.mkIdent ``false)])])

noncomputable abbrev Fz := Addr → Option Obj
noncomputable def Fz.le (F F' : Fz) : Prop := ∀ a o, F a = some o → F' a = some o
theorem nk0 {n k L : Nat} (h : n + k = L) (hk : k < L) : 0 < n := Nat.pos_of_ne_zero fun e => by rw [e, Nat.zero_add] at h; exact absurd h (Nat.ne_of_lt hk)
theorem nk1 {n k L : Nat} (h : n + k = L) (hk : k < L) : n - 1 < n := Nat.sub_lt (nk0 h hk) (by decide)
theorem nk2 {n k L : Nat} (h : n + k = L) (hk : k < L) : n - 1 + (k + 1) = L := by rw [← Nat.add_assoc, Nat.add_right_comm, Nat.sub_add_cancel (nk0 h hk)]; exact h
theorem toN {i : Int} {n : Nat} (h0 : 0 ≤ i) (h : i.toNat < n) : 0 ≤ i ∧ i < (n : Int) := ⟨h0, (Int.toNat_lt h0).mp h⟩
theorem occ1 {L lo k : Nat} (h1 : lo ≤ k) (h2 : k ≤ L) : L + 1 - lo = (k - lo) + ((L - k) + 1) := by
  rw [Nat.sub_add_comm (Nat.le_trans h1 h2), ← Nat.sub_add_sub_cancel h2 h1, Nat.add_comm (L - k), Nat.add_assoc]
theorem clamp (k L : Nat) : max 0 (min (-(k : Int) + (L : Int)) (L : Int)) = ((L - k : Nat) : Int) := by
  rcases Nat.le_total k L with h | h
  · rw [Int.add_comm, ← Int.sub_eq_add_neg, ← Int.ofNat_sub h, Int.min_eq_left (Int.ofNat_le.mpr (Nat.sub_le _ _))]; exact Int.max_eq_right (Int.natCast_nonneg _)
  · rw [Nat.sub_eq_zero_of_le h]
    exact Int.max_eq_left (Int.le_trans (Int.min_le_left _ _) (by rw [Int.add_comm, ← Int.sub_eq_add_neg]; exact Int.sub_nonpos_of_le (Int.ofNat_le.mpr h)))
theorem m1a (n : Nat) : -1 + ((n + 1 : Nat) : Int) = n := by rw [Int.add_comm]; exact Int.add_neg_cancel_right (n : Int) 1
theorem m1 {n : Nat} (h : 0 < n) : (-1 + (n : Int)).toNat = n - 1 := by
  cases n with
  | zero => exact absurd h (Nat.lt_irrefl 0)
  | succ n => rw [m1a]; rfl
theorem m1b {n : Nat} (h : 0 < n) : 0 ≤ -1 + (n : Int) ∧ -1 + (n : Int) < n := by
  cases n with
  | zero => exact absurd h (Nat.lt_irrefl 0)
  | succ n => rw [m1a]; exact ⟨Int.natCast_nonneg _, Int.ofNat_lt.mpr (Nat.lt_succ_self _)⟩
theorem step1 (a b : Nat) : (if (a : Int) < b then (b : Int) - a + 1 - 1 else 0).toNat = b - a := by
  by_cases h : a < b
  · rw [if_pos (Int.ofNat_lt.mpr h), Int.add_sub_cancel]; exact Int.toNat_sub _ _
  · rw [if_neg fun q => h (Int.ofNat_lt.mp q)]; exact (Nat.sub_eq_zero_of_le (Nat.not_lt.mp h)).symm
theorem cut1 {k L n : Nat} (h : k + (L + 1) = n) (h2 : n - 1 ≤ k) : L = 0 := by subst h; exact Nat.le_zero.mp (Nat.le_of_add_le_add_left (show k + L ≤ k + 0 from h2))
theorem subsub (n k : Nat) : n - (n - k) ≤ k := Nat.sub_le_iff_le_add.mpr (by rw [Nat.add_comm]; exact Nat.sub_le_iff_le_add.mp (Nat.le_refl _))
theorem Fz.le.refl (F : Fz) : F.le F := fun _ _ e => e
theorem Fz.le.trans {F F' F'' : Fz} (x : F.le F') (y : F'.le F'') : F.le F'' := fun a o e => y a o (x a o e)

inductive V where
  | none
  | bool (b : Bool)
  | int (i : Int)
  | str (s : Str)
  | tup (l : List V)
  | lst (l : List V)
  | ref (a : Addr)
  | rng (a b c : Int)
  | typ (n : String)
  | blt (n : String)

inductive RV (F : Fz) : Value → V → Prop where
  | none : RV F .none .none
  | bool {b : Bool} : RV F (.bool b) (.bool b)
  | int {i : Int} {t : Tok} : RV F (.int i t) (.int i)
  | str {x : Str} {t : Tok} : RV F (.str x t) (.str x)
  | typ {n : String} : RV F (.type n) (.typ n)
  | blt {n : String} : RV F (.builtin n) (.blt n)
  | ref {a : Addr} : RV F (.ref a) (.ref a)
  | rng {r : Addr} {a b c : Int} {t u v : Tok} (h : F r = some { cls := .type "range", dict := none, data := .fields #[.int a t, .int b u, .int c v], slots := #[] }) : RV F (.ref r) (.rng a b c)
  | tup {a : Addr} {vs : List Value} {n : Nat} {l : List V} (h : F a = some { cls := .type "tuple", dict := none, data := .seq vs.toArray n, slots := #[] })
      (hl : vs.length = l.length) (hr : ∀ (i : Nat) (v : Value) (x : V), vs[i]? = some v → l[i]? = some x → RV F v x) : RV F (.ref a) (.tup l)
  | lst {a : Addr} {vs : List Value} {n : Nat} {l : List V} {o : Obj} (h : F a = some o) (hc : o.cls = .type "list") (hd : o.data = .seq vs.toArray n)
      (hl : vs.length = l.length) (hr : ∀ (i : Nat) (v : Value) (x : V), vs[i]? = some v → l[i]? = some x → RV F v x) : RV F (.ref a) (.lst l)

theorem RV.mono {F F' : Fz} (le : F.le F') {v : Value} {x : V} (h : RV F v x) : RV F' v x := by
  induction h with
  | none => exact .none
  | bool => exact .bool
  | int => exact .int
  | str => exact .str
  | typ => exact .typ
  | blt => exact .blt
  | ref => exact .ref
  | rng h => exact .rng (le _ _ h)
  | tup h hl _ ih => exact .tup (le _ _ h) hl ih
  | lst h hc hd hl _ ih => exact .lst (le _ _ h) hc hd hl ih

section
variable {F : Fz} {P : Value → Prop} {v : Value}
noncomputable def RVI (F : Fz) (v : Value) : V → Prop
  | .none => v = .none
  | .bool b => v = .bool b
  | .int i => ∃ t, v = .int i t
  | .str x => ∃ t, v = .str x t
  | .typ n => v = .type n
  | .blt n => v = .builtin n
  | .ref a => v = .ref a
  | .rng a b c => ∃ r t u w, F r = some { cls := .type "range", dict := Option.none, data := .fields #[.int a t, .int b u, .int c w], slots := #[] } ∧ v = .ref r
  | .tup l => ∃ a vs n, (F a = some { cls := .type "tuple", dict := Option.none, data := .seq (List.toArray vs) n, slots := #[] } ∧ vs.length = l.length ∧ ∀ (i : Nat) (v : Value) (x : V), vs[i]? = some v → l[i]? = some x → RV F v x) ∧ v = .ref a
  | .lst l => ∃ a vs n o, (F a = some o ∧ o.cls = .type "list" ∧ o.data = .seq (List.toArray vs) n ∧ vs.length = l.length ∧ ∀ (i : Nat) (v : Value) (x : V), vs[i]? = some v → l[i]? = some x → RV F v x) ∧ v = .ref a
theorem RV.inv {x : V} (h : RV F v x) : RVI F v x := RV.casesOn (motive := fun v x _ => RVI F v x) h rfl rfl ⟨_, rfl⟩ ⟨_, rfl⟩ rfl rfl rfl (fun h => ⟨_, _, _, _, h, rfl⟩) (fun h hl hr => ⟨_, _, _, ⟨h, hl, hr⟩, rfl⟩) (fun h hc hd hl hr => ⟨_, _, _, _, ⟨h, hc, hd, hl, hr⟩, rfl⟩)
theorem RV.i_none (h : RV F v .none) : v = .none := h.inv
theorem RV.i_ref {a : Addr} (h : RV F v (.ref a)) : v = .ref a := h.inv
theorem RV.i_blt {n : String} (h : RV F v (.blt n)) : v = .builtin n := h.inv
theorem RV.i_typ {n : String} (h : RV F v (.typ n)) : v = .type n := h.inv
theorem RV.i_bool {b : Bool} (h : RV F v (.bool b)) : v = .bool b := h.inv
theorem RV.e_int {i : Int} (h : RV F v (.int i)) (k : ∀ t, P (.int i t)) : P v := Exists.elim h.inv fun t e => Eq.mpr (congrArg P e) (k t)
theorem RV.e_str {x : Str} (h : RV F v (.str x)) (k : ∀ t, P (.str x t)) : P v := Exists.elim h.inv fun t e => Eq.mpr (congrArg P e) (k t)
theorem RV.e_bool {b : Bool} (h : RV F v (.bool b)) (k : P (.bool b)) : P v := Eq.mpr (congrArg P h.i_bool) k
theorem RV.e_none (h : RV F v .none) (k : P .none) : P v := Eq.mpr (congrArg P h.i_none) k
noncomputable def V.isN : V → Bool
  | .none => true
  | _ => false
theorem RV.isN {z : V} (h : RV F v z) : (v == .none) = z.isN := RV.casesOn (motive := fun v x _ => (v == .none) = x.isN) h rfl rfl rfl rfl rfl rfl rfl (fun _ => rfl) (fun _ _ _ => rfl) (fun _ _ _ _ _ => rfl)
theorem RV.e_typ {n : String} (h : RV F v (.typ n)) (k : P (.type n)) : P v := Eq.mpr (congrArg P h.i_typ) k
theorem RV.e_blt {n : String} (h : RV F v (.blt n)) (k : P (.builtin n)) : P v := Eq.mpr (congrArg P h.i_blt) k
theorem RV.e_ref {a : Addr} (h : RV F v (.ref a)) (k : P (.ref a)) : P v := Eq.mpr (congrArg P h.i_ref) k
theorem RV.e_rng {a b c : Int} (h : RV F v (.rng a b c)) (k : ∀ r t u w, F r = some { cls := .type "range", dict := Option.none, data := .fields #[.int a t, .int b u, .int c w], slots := #[] } → P (.ref r)) : P v := h.inv.elim fun _ h => h.elim fun _ h => h.elim fun _ h => h.elim fun _ h => Eq.mpr (congrArg P h.2) (k _ _ _ _ h.1)
theorem RV.e_tup {l : List V} (h : RV F v (.tup l)) (k : ∀ a vs n, F a = some { cls := .type "tuple", dict := Option.none, data := .seq (List.toArray vs) n, slots := #[] } → vs.length = l.length → (∀ (i : Nat) (v : Value) (x : V), vs[i]? = some v → l[i]? = some x → RV F v x) → P (.ref a)) : P v := h.inv.elim fun _ h => h.elim fun _ h => h.elim fun _ h => Eq.mpr (congrArg P h.2) (k _ _ _ h.1.1 h.1.2.1 h.1.2.2)
theorem RV.e_lst {l : List V} (h : RV F v (.lst l)) (k : ∀ a vs n o, F a = some o → o.cls = .type "list" → o.data = .seq (List.toArray vs) n → vs.length = l.length → (∀ (i : Nat) (v : Value) (x : V), vs[i]? = some v → l[i]? = some x → RV F v x) → P (.ref a)) : P v := h.inv.elim fun _ h => h.elim fun _ h => h.elim fun _ h => h.elim fun _ h => Eq.mpr (congrArg P h.2) (k _ _ _ _ h.1.1 h.1.2.1 h.1.2.2.1 h.1.2.2.2.1 h.1.2.2.2.2)
end
inductive RVs (F : Fz) : List Value → List V → Prop where
  | nil : RVs F [] []
  | cons {v : Value} {x : V} {vs : List Value} {l : List V} (h : RV F v x) (t : RVs F vs l) : RVs F (v :: vs) (x :: l)
theorem RVs.e0 {F : Fz} {P : List Value → Prop} {vs : List Value} (h : RVs F vs []) (k : P []) : P vs := by cases h; exact k
theorem RVs.ec {F : Fz} {P : List Value → Prop} {vs : List Value} {x : V} {l : List V} (h : RVs F vs (x :: l)) (k : ∀ v vs, RV F v x → RVs F vs l → P (v :: vs)) : P vs := by cases h with | cons h t => exact k _ _ h t
theorem RVs.e1 {F : Fz} {P : List Value → Prop} {vs : List Value} {x : V} (h : RVs F vs [x]) (k : ∀ a, RV F a x → P [a]) : P vs := h.ec fun a _ ha t => t.e0 (P := fun vs => P (a :: vs)) (k a ha)
theorem RVs.e2 {F : Fz} {P : List Value → Prop} {vs : List Value} {x y : V} (h : RVs F vs [x, y]) (k : ∀ a b, RV F a x → RV F b y → P [a, b]) : P vs := h.ec fun a _ ha t => t.e1 (P := fun vs => P (a :: vs)) fun b hb => k a b ha hb
theorem RVs.mono {F F' : Fz} (le : F.le F') {vs : List Value} {l : List V} (h : RVs F vs l) : RVs F' vs l := by
  induction h with
  | nil => exact .nil
  | cons h _ ih => exact .cons (h.mono le) ih
theorem RVs.length {F : Fz} {vs : List Value} {l : List V} (h : RVs F vs l) : vs.length = l.length := by
  induction h with
  | nil => rfl
  | cons _ _ ih => simp [ih]
theorem RVs.get {F : Fz} {vs : List Value} {l : List V} (h : RVs F vs l) : ∀ (i : Nat) (v : Value) (x : V), vs[i]? = some v → l[i]? = some x → RV F v x := by
  induction h with
  | nil => intro i v x e; simp at e
  | cons h _ ih =>
    intro i v x e1 e2
    cases i with
    | zero => simp at e1 e2; subst e1 e2; exact h
    | succ i => simp at e1 e2; exact ih i v x e1 e2
theorem RVs.of {F : Fz} : ∀ {vs : List Value} {l : List V}, vs.length = l.length → (∀ (i : Nat) (v : Value) (x : V), vs[i]? = some v → l[i]? = some x → RV F v x) → RVs F vs l
  | [], [], _, _ => .nil
  | [], _ :: _, h, _ => by simp at h
  | _ :: _, [], h, _ => by simp at h
  | v :: vs, x :: l, h, hr => .cons (hr 0 v x rfl rfl) (RVs.of (by simpa using h) fun i v x e1 e2 => hr (i + 1) v x (by simpa using e1) (by simpa using e2))
theorem RVs.append {F : Fz} {vs ws : List Value} {l m : List V} (h : RVs F vs l) (h' : RVs F ws m) : RVs F (vs ++ ws) (l ++ m) := by
  induction h with
  | nil => exact h'
  | cons h _ ih => exact .cons h ih
theorem RVs.at {F : Fz} {vs : List Value} {l : List V} (h : RVs F vs l) {i : Nat} {x : V} (e : l[i]? = some x) : ∃ v, vs[i]? = some v ∧ RV F v x := by
  have hi : i < l.length := by
    rcases Nat.lt_or_ge i l.length with h | h
    · exact h
    · rw [List.getElem?_eq_none h] at e; cases e
  have hi' : i < vs.length := by rw [h.length]; exact hi
  exact ⟨vs[i], List.getElem?_eq_getElem hi', h.get i _ x (List.getElem?_eq_getElem hi') e⟩

inductive AO where
  | list (l : List V)
  | ns (ρ : List (Str × Option V))
  | cell (o : Option V)
  | dict (es : List (V × V))
  | raw (o : Obj)
  | flds (cls : String) (vs : Array Value)
  | exc (cls : String) (args : List V) (tb : Option Addr) (dict : Option Addr) (cx : Bool)
  | tb
  | attrs (ρ : List (Str × V))
  | such (P : Obj → Prop)

noncomputable abbrev Hp := List (Addr × AO)
theorem mem_keys {H : Hp} {p : Addr × AO} {a : Addr} (h : p ∈ H) (e : p.1 = a) : a ∈ H.map (·.1) := e ▸ List.mem_map_of_mem (f := fun q : Addr × AO => q.1) h

noncomputable def keyHashV (w : World) (k : V) (v : Value) (h : Int) : Prop := (∃ x t, k = .str x ∧ v = .str x t ∧ h = hashStr w x) ∨ ∃ i t, k = .int i ∧ v = .int i t ∧ h = hashInt i
inductive RD (w : World) (F : Fz) : List DictEntry → List (V × V) → Prop where
  | nil : RD w F [] []
  | cons {e : DictEntry} {k x : V} {es : List DictEntry} {l : List (V × V)} (hk : keyHashV w k e.key e.hash) (hv : RV F e.val x) (t : RD w F es l) : RD w F (e :: es) ((k, x) :: l)

inductive ExcO (F : Fz) (o : Obj) (c : String) (args : List V) (tb d : Option Addr) (cx : Bool) : Prop where
  | mk (vs : Array Value) (a : Addr) (v5 : Value) (e1 : o.cls = .type c) (e2 : o.dict = d) (e3 : o.data = .fields vs) (e4 : vs[0]? = some (.ref a)) (e5 : RV F (.ref a) (.tup args)) (e6 : vs[1]? = some (tb.elim .none Value.ref)) (e7 : vs[5]? = some v5) (e8 : c = "StopIteration" → RV F v5 (args.headD .none)) (e9 : cx = true → vs[2]? = some .none)
inductive ListO (F : Fz) (o : Obj) (l : List V) : Prop where
  | intro (vs : Array Value) (n : Nat) (e : o = { cls := .type "list", dict := none, data := .seq vs n, slots := #[] }) (h : RVs F vs.toList l)
inductive NsO (F : Fz) (o : Obj) (ρ : List (Str × Option V)) : Prop where
  | intro (es : Array DictEntry) (ep : Nat) (e : o.data = .dict es ep) (k : StrKeys es) (nd : (ρ.map (·.1)).Nodup) (r : ∀ p ∈ ρ, match p.2 with
      | none => True
      | some x => ∃ v, nsFind es p.1 = some v ∧ RV F v x)
inductive DictO (w : World) (F : Fz) (o : Obj) (l : List (V × V)) : Prop where
  | intro (es : Array DictEntry) (n : Nat) (e : o = { cls := .type "dict", dict := none, data := .dict es n, slots := #[] }) (h : RD w F es.toList l)
inductive TbO (o : Obj) : Prop where
  | intro (vs : Array Value) (e1 : o.cls = .type "traceback") (e2 : o.data = .fields vs) (e3 : 3 < vs.size)
inductive AttrsO (F : Fz) (o : Obj) (ρ : List (Str × V)) : Prop where
  | intro (es : Array DictEntry) (ep : Nat) (e : o.data = .dict es ep) (k : StrKeys es) (u : UniqKeys es) (r : ∀ n, match ρ.lookup n with
      | none => nsFind es n = none
      | some x => ∃ v, nsFind es n = some v ∧ RV F v x)
noncomputable def RO (w : World) (F : Fz) (o : Obj) : AO → Prop
  | .list l => ListO F o l
  | .ns ρ => NsO F o ρ
  | .cell c => match c with
      | none => o.data = .cell none
      | some x => ∃ v, o.data = .cell (some v) ∧ RV F v x
  | .dict l => DictO w F o l
  | .raw o' => o = o'
  | .flds c vs => o.cls = .type c ∧ o.data = .fields vs
  | .exc c args tb d cx => ExcO F o c args tb d cx
  | .tb => TbO o
  | .attrs ρ => AttrsO F o ρ
  | .such P => P o

theorem RD.mono {w : World} {F F' : Fz} (le : F.le F') {es : List DictEntry} {l : List (V × V)} (h : RD w F es l) : RD w F' es l := by
  induction h with
  | nil => exact .nil
  | cons hk hv _ ih => exact .cons hk (hv.mono le) ih

theorem RO.mono {w : World} {F F' : Fz} (le : F.le F') {o : Obj} {x : AO} (h : RO w F o x) : RO w F' o x := by
  cases x with
  | list l => obtain ⟨vs, n, e, r⟩ := h; exact ⟨vs, n, e, r.mono le⟩
  | ns ρ =>
    obtain ⟨es, ep, e, k, nd, r⟩ := h
    refine ⟨es, ep, e, k, nd, fun p hp => ?_⟩
    have := r p hp
    cases hq : p.2 with
    | none => trivial
    | some x => simp only [hq] at this ⊢; obtain ⟨v, h1, h2⟩ := this; exact ⟨v, h1, h2.mono le⟩
  | cell c => cases c with
    | none => exact h
    | some x => obtain ⟨v, e, r⟩ := h; exact ⟨v, e, r.mono le⟩
  | dict l => obtain ⟨es, n, e, r⟩ := h; exact ⟨es, n, e, r.mono le⟩
  | raw o' => exact h
  | flds c vs => exact h
  | exc c args tb d cx => obtain ⟨vs, a, v5, e1, e2, e3, e4, e5, e6, e7, e8, e9⟩ := h; exact ⟨vs, a, v5, e1, e2, e3, e4, e5.mono le, e6, e7, fun q => (e8 q).mono le, e9⟩
  | tb => exact h
  | such P => exact h
  | attrs ρ =>
    obtain ⟨es, ep, e, k, u, r⟩ := h
    refine ⟨es, ep, e, k, u, fun n => ?_⟩
    have := r n
    cases hq : ρ.lookup n with
    | none => simp only [hq] at this ⊢; exact this
    | some x => simp only [hq] at this ⊢; obtain ⟨v, h1, h2⟩ := this; exact ⟨v, h1, h2.mono le⟩

structure Glob where
  prog : Program
  w : World
  F0 : Fz
  os : OsState
  mg : Str → Option Value
  mb : Str → Option Value
noncomputable def GOk (G : Glob) : Prop := ∀ h : Heap, (∀ a o, G.F0 a = some o → h.get? a = some o) → h.Ns mainGlobals G.mg ∧ h.Ns builtinsNs G.mb ∧ h.NoLimit

noncomputable abbrev Glob.M (G : Glob) : Model := model G.prog G.w

structure Rep (G : Glob) (fr : List Env) (F : Fz) (H : Hp) (s : Shared) : Prop where
  gok : GOk G
  base : G.F0.le F
  fz : ∀ a o, F a = some o → s.heap.get? a = some o
  own : ∀ p ∈ H, F p.1 = none ∧ ∃ o, s.heap.get? p.1 = some o ∧ RO G.w F o p.2
  nd : (H.map (·.1)).Nodup
  frs : ∀ env ∈ fr, env.scope.kind = .function ∧ ∃ L ρ, env.frame = some L ∧ (L, AO.ns ρ) ∈ H
  gens : s.gens = #[]
  os : s.os = G.os

section
variable {G : Glob} {fr : List Env} {F F' : Fz} {H H' : Hp} {s : Shared}
theorem Rep.glob (h : Rep G fr F H s) : s.heap.Ns mainGlobals G.mg ∧ s.heap.Ns builtinsNs G.mb ∧ s.heap.NoLimit := h.gok s.heap fun a o e => h.fz a o (h.base a o e)
theorem Rep.perm (h : Rep G fr F H s) (p : H.Perm H') : Rep G fr F H' s :=
  ⟨h.gok, h.base, h.fz, fun q hq => h.own q (p.mem_iff.mpr hq), (p.map _).nodup_iff.mp h.nd, fun e he => ⟨(h.frs e he).1, by obtain ⟨L, ρ, a, b⟩ := (h.frs e he).2; exact ⟨L, ρ, a, p.mem_iff.mp b⟩⟩, h.gens, h.os⟩
theorem Rep.drop {p : Addr × AO} (h : Rep G fr F (p :: H) s) (hp : ∀ env ∈ fr, env.frame ≠ some p.1) : Rep G fr F H s :=
  ⟨h.gok, h.base, h.fz, fun q hq => h.own q (.tail _ hq), (List.nodup_cons.mp h.nd).2, fun e he => ⟨(h.frs e he).1, by
    obtain ⟨L, ρ, a, b⟩ := (h.frs e he).2
    cases b with
    | head => exact absurd a (hp e he)
    | tail _ b => exact ⟨L, ρ, a, b⟩⟩, h.gens, h.os⟩
theorem Rep.dropNot {a : Addr} {x : AO} (h : Rep G fr F ((a, x) :: H) s) (hx : ∀ ρ, x ≠ .ns ρ) : Rep G fr F H s :=
  h.drop fun env he e => by
    obtain ⟨L, ρ, q, m⟩ := (h.frs env he).2
    obtain rfl : L = a := Option.some.inj (q.symm.trans e)
    cases m with
    | head => exact hx _ rfl
    | tail _ m => exact (List.nodup_cons.mp h.nd).1 (mem_keys m rfl)
theorem Rep.pop {env : Env} (h : Rep G (env :: fr) F H s) : Rep G fr F H s :=
  ⟨h.gok, h.base, h.fz, h.own, h.nd, fun e he => h.frs e (.tail _ he), h.gens, h.os⟩
theorem Rep.keeps (h : Rep G fr F H s) {h' : Heap} {tk : Nat} {dr : Drawn} (k : ∀ b o, s.heap.get? b = some o → h'.get? b = some o) : Rep G fr F H { s with heap := h', toks := tk, drawn := dr } :=
  ⟨h.gok, h.base, fun a o e => k _ _ (h.fz a o e), fun p hp => by obtain ⟨n, o, g, r⟩ := h.own p hp; exact ⟨n, o, k _ _ g, r⟩, h.nd, h.frs, h.gens, h.os⟩
theorem Rep.toks (h : Rep G fr F H s) (tk : Nat) : Rep G fr F H { s with toks := tk } := h.keeps fun _ _ e => e
theorem Rep.fresh (h : Rep G fr F H s) {b : Addr} (e : s.heap.get? b = none) : F b = none ∧ b ∉ H.map (·.1) := by
  refine ⟨?_, fun q => ?_⟩
  · cases q : F b with
    | none => rfl
    | some o => have := h.fz _ _ q; rw [e] at this; cases this
  · obtain ⟨p, hp, rfl⟩ := List.mem_map.mp q
    obtain ⟨_, o, g, _⟩ := h.own p hp
    rw [e] at g; cases g
theorem none_at_size (h : Heap) : h.get? h.objs.size = none := by
  cases q : h.get? h.objs.size with
  | none => rfl
  | some o => exact absurd (Heap.lt_size q) (Nat.lt_irrefl _)
theorem Rep.new (h : Rep G fr F H s) {h' : Heap} {tk : Nat} {dr : Drawn} {D : Addr} {o : Obj} {x : AO} (k : ∀ b o, s.heap.get? b = some o → h'.get? b = some o) (hD : s.heap.get? D = none) (ho : h'.get? D = some o) (r : RO G.w F o x) :
    Rep G fr F ((D, x) :: H) { s with heap := h', toks := tk, drawn := dr } := by
  obtain ⟨f1, f2⟩ := h.fresh hD
  have h1 := h.keeps (tk := tk) (dr := dr) k
  refine ⟨h1.gok, h1.base, h1.fz, fun p hp => ?_, List.nodup_cons.mpr ⟨f2, h1.nd⟩, fun e he => ⟨(h1.frs e he).1, by obtain ⟨L, ρ, a, b⟩ := (h1.frs e he).2; exact ⟨L, ρ, a, .tail _ b⟩⟩, h1.gens, h1.os⟩
  cases hp with
  | head => exact ⟨f1, o, ho, r⟩
  | tail _ hp => exact h1.own p hp
noncomputable def Fz.add (F : Fz) (D : Addr) (o : Obj) : Fz := fun a => if a = D then some o else F a
theorem Fz.add_self (F : Fz) (D : Addr) (o : Obj) : F.add D o D = some o := if_pos rfl
theorem Fz.add_le {F : Fz} {D : Addr} (o : Obj) (h : F D = none) : F.le (F.add D o) := fun a x e => by
  unfold Fz.add
  split
  · rename_i q; subst q; rw [h] at e; cases e
  · exact e
theorem Rep.newF (h : Rep G fr F H s) {h' : Heap} {tk : Nat} {dr : Drawn} {D : Addr} {o : Obj} (k : ∀ b o, s.heap.get? b = some o → h'.get? b = some o) (hD : s.heap.get? D = none) (ho : h'.get? D = some o) :
    F.le (F.add D o) ∧ Rep G fr (F.add D o) H { s with heap := h', toks := tk, drawn := dr } := by
  obtain ⟨f1, f2⟩ := h.fresh hD
  have le := Fz.add_le o f1
  have h1 := h.keeps (tk := tk) (dr := dr) k
  refine ⟨le, h1.gok, h1.base.trans le, fun a x e => ?_, fun p hp => ?_, h1.nd, h1.frs, h1.gens, h1.os⟩
  · unfold Fz.add at e
    split at e
    · rename_i q; subst q; cases e; exact ho
    · exact h1.fz a x e
  · obtain ⟨n, o', g, r⟩ := h1.own p hp
    refine ⟨?_, o', g, r.mono le⟩
    unfold Fz.add
    rw [if_neg fun q => f2 (mem_keys hp q)]
    exact n
theorem Rep.freeze {a : Addr} {x : AO} (h : Rep G fr F ((a, x) :: H) s) (hx : ∀ ρ, x ≠ .ns ρ) : ∃ o, RO G.w F o x ∧ F.le (F.add a o) ∧ Rep G fr (F.add a o) H s := by
  obtain ⟨n, o, g, r⟩ := h.own _ (.head _)
  have le := Fz.add_le o n
  have h1 := h.dropNot hx
  refine ⟨o, r, le, h1.gok, h1.base.trans le, fun b x e => ?_, fun p hp => ?_, h1.nd, h1.frs, h1.gens, h1.os⟩
  · unfold Fz.add at e
    split at e
    · rename_i q; subst q; cases e; exact g
    · exact h1.fz b x e
  · obtain ⟨n', o', g', r'⟩ := h1.own p hp
    refine ⟨?_, o', g', r'.mono le⟩
    unfold Fz.add
    rw [if_neg fun q => (List.nodup_cons.mp h.nd).1 (mem_keys hp q)]
    exact n'
theorem Rep.upd {a : Addr} {x x' : AO} (h : Rep G fr F ((a, x) :: H) s) {h' : Heap} {tk : Nat} {dr : Drawn} {o' : Obj} (k : Heap.ExtBut a s.heap h') (ho : h'.get? a = some o') (r : RO G.w F o' x') (hn : (∃ ρ, x = .ns ρ) → ∃ ρ, x' = .ns ρ) :
    Rep G fr F ((a, x') :: H) { s with heap := h', toks := tk, drawn := dr } := by
  have na : ∀ p ∈ H, p.1 ≠ a := fun p hp q => (List.nodup_cons.mp h.nd).1 (mem_keys hp q)
  have fa : F a = none := (h.own _ (.head _)).1
  refine ⟨h.gok, h.base, fun b o e => k b o (fun q => by subst q; rw [fa] at e; cases e) (h.fz b o e), fun p hp => ?_, h.nd, fun e he => ⟨(h.frs e he).1, ?_⟩, h.gens, h.os⟩
  · cases hp with
    | head => exact ⟨fa, o', ho, r⟩
    | tail _ hp => obtain ⟨n, o, g, r⟩ := h.own p (.tail _ hp); exact ⟨n, o, k _ _ (na p hp) g, r⟩
  · obtain ⟨L, ρ, q, m⟩ := (h.frs e he).2
    cases m with
    | head => obtain ⟨ρ', rfl⟩ := hn ⟨_, rfl⟩; exact ⟨_, _, q, .head _⟩
    | tail _ m => exact ⟨L, ρ, q, .tail _ m⟩
end

inductive Dn (P : Fz → Hp → Prop) (F : Fz) (H : Hp) : Prop where
  | mk (F1 : Fz) (le : Fz.le F1 F) (h : P F1 H)
inductive PQ {α : Type} (G : Glob) (fr : List Env) (F : Fz) (R : Hp) (Q : α → Fz → Hp → Prop) (v : α) (s : Shared) : Prop where
  | mk (F' : Fz) (H' : Hp) (le : F.le F') (rep : Rep G fr F' (H' ++ R) s) (q : Q v F' H')
noncomputable def TpAt {α : Type} (G : Glob) (fr : List Env) (A : Around) (K : Fz) (H : Hp) (t : Sem α) (Q : α → Fz → Hp → Prop) (E : Value → Fz → Hp → Prop) : Prop :=
  ∀ R s, Rep G fr K (H ++ R) s → wpAny G.M A t (PQ G fr K R Q) (PQ G fr K R fun e => Dn (E e)) s
noncomputable def Tp {α : Type} (G : Glob) (fr : List Env) (A : Around) (F : Fz) (H : Hp) (t : Sem α) (Q : α → Fz → Hp → Prop) (E : Value → Fz → Hp → Prop) : Prop :=
  ∀ K, F.le K → TpAt G fr A K H t (fun v => Dn (Q v)) E
section
variable {α β : Type} {G : Glob} {fr : List Env} {A : Around} {F K K₀ : Fz} {H R : Hp} {t : Sem α} {Q : α → Fz → Hp → Prop} {E : Value → Fz → Hp → Prop} {s : Shared}
theorem noPQ {F : Fz} {v : α} (h : PQ G fr F R (fun (_ : α) => Dn fun (_ : Fz) (_ : Hp) => False) v s) : False := by obtain ⟨_, _, _, _, _, _, q⟩ := h; exact q
theorem upPQ {v : α} (le : K₀.le K) (h : PQ G fr K R Q v s) : PQ G fr K₀ R Q v s := by obtain ⟨F1, H1, l, r, q⟩ := h; exact ⟨F1, H1, le.trans l, r, q⟩
theorem TpAt.seq (h : TpAt G fr A K H t Q E) (hR : Rep G fr K (H ++ R) s) (le : K₀.le K) {P : α → Shared → Prop}
    (k : ∀ a K1 H1 s1, K.le K1 → Rep G fr K1 (H1 ++ R) s1 → Q a K1 H1 → P a s1) : wpAny G.M A t P (PQ G fr K₀ R fun e => Dn (E e)) s :=
  wpAny_mono (h R s hR) (fun a s1 ⟨F1, H1, l, r, q⟩ => k a F1 H1 s1 l r q) fun _ _ q => upPQ le q
theorem TpAt.last (h : TpAt G fr A K H t Q E) (hR : Rep G fr K (H ++ R) s) (le : K₀.le K) : wpAny G.M A t (PQ G fr K₀ R Q) (PQ G fr K₀ R fun e => Dn (E e)) s :=
  h.seq hR le fun _ F1 H1 _ l r q => ⟨F1, H1, le.trans l, r, q⟩
theorem Tp.seq (h : Tp G fr A F H t Q E) (m : F.le K) (hR : Rep G fr K (H ++ R) s) (le : K₀.le K) {P : α → Shared → Prop}
    (k : ∀ a F1 K1 H1 s1, K.le K1 → Fz.le F1 K1 → Rep G fr K1 (H1 ++ R) s1 → Q a F1 H1 → P a s1) : wpAny G.M A t P (PQ G fr K₀ R fun e => Dn (E e)) s :=
  (h K m).seq hR le fun a K1 H1 s1 l r ⟨F1, m1, q⟩ => k a F1 K1 H1 s1 l m1 r q
theorem Tp.last (h : Tp G fr A F H t Q E) (m : F.le K) (hR : Rep G fr K (H ++ R) s) (le : K₀.le K) : wpAny G.M A t (PQ G fr K₀ R fun v => Dn (Q v)) (PQ G fr K₀ R fun e => Dn (E e)) s := (h K m).last hR le
theorem Tp.mono {Q' : α → Fz → Hp → Prop} {E' : Value → Fz → Hp → Prop} (h : Tp G fr A F H t Q E) (hq : ∀ a F1 H1, Q a F1 H1 → Q' a F1 H1) (he : ∀ e F1 H1, E e F1 H1 → E' e F1 H1) : Tp G fr A F H t Q' E' :=
  fun K m R s hR => wpAny_mono (h K m R s hR) (fun _ _ ⟨F1, H1, l, r, F2, m2, q⟩ => ⟨F1, H1, l, r, F2, m2, hq _ _ _ q⟩) fun _ _ ⟨F1, H1, l, r, F2, m2, q⟩ => ⟨F1, H1, l, r, F2, m2, he _ _ _ q⟩
end
inductive Upd : Hp → Addr → AO → AO → Hp → Prop where
  | hd {a : Addr} {x x' : AO} {H : Hp} : Upd ((a, x) :: H) a x x' ((a, x') :: H)
  | tl {a : Addr} {x x' : AO} {p : Addr × AO} {H H' : Hp} (h : Upd H a x x' H') : Upd (p :: H) a x x' (p :: H')
theorem Upd.split {a : Addr} {x x' : AO} {H H' : Hp} (h : Upd H a x x' H') : ∃ H₀, H.Perm ((a, x) :: H₀) ∧ H'.Perm ((a, x') :: H₀) := by
  induction h with
  | hd => exact ⟨_, .refl _, .refl _⟩
  | @tl _ _ _ p H H' _ ih =>
    obtain ⟨H₀, h1, h2⟩ := ih
    exact ⟨p :: H₀, (h1.cons p).trans (.swap ..), (h2.cons p).trans (.swap ..)⟩
theorem Rep.upd' {G : Glob} {fr : List Env} {F : Fz} {H H' R : Hp} {s : Shared} {a : Addr} {x x' : AO} (h : Rep G fr F (H ++ R) s) (u : Upd H a x x' H') {h' : Heap} {tk : Nat} {dr : Drawn} {o' : Obj} (k : Heap.ExtBut a s.heap h') (ho : h'.get? a = some o') (r : RO G.w F o' x')
    (hn : (∃ ρ, x = .ns ρ) → ∃ ρ, x' = .ns ρ) : Rep G fr F (H' ++ R) { s with heap := h', toks := tk, drawn := dr } := by
  obtain ⟨H₀, p1, p2⟩ := u.split
  exact ((h.perm (p1.append_right R)).upd k ho r hn).perm (p2.append_right R).symm
theorem Upd.mem {a : Addr} {x x' : AO} {H H' : Hp} (h : Upd H a x x' H') : (a, x) ∈ H := by
  obtain ⟨_, p1, _⟩ := h.split
  exact p1.mem_iff.mpr (.head _)
theorem Rep.get {G : Glob} {fr : List Env} {F : Fz} {H R : Hp} {s : Shared} (h : Rep G fr F (H ++ R) s) {a : Addr} {x : AO} (m : (a, x) ∈ H) : ∃ o, s.heap.get? a = some o ∧ RO G.w F o x :=
  (h.own _ (List.mem_append_left R m)).2
inductive Has : Hp → Addr → AO → Prop where
  | hd {a : Addr} {x : AO} {H : Hp} : Has ((a, x) :: H) a x
  | tl {a : Addr} {x : AO} {p : Addr × AO} {H : Hp} (h : Has H a x) : Has (p :: H) a x
theorem Has.mem {H : Hp} {a : Addr} {x : AO} (h : Has H a x) : (a, x) ∈ H := by
  induction h with
  | hd => exact .head _
  | tl _ ih => exact .tail _ ih
theorem Rep.has {G : Glob} {fr : List Env} {F : Fz} {H R : Hp} {s : Shared} (h : Rep G fr F (H ++ R) s) {a : Addr} {x : AO} (m : Has H a x) : ∃ o, s.heap.get? a = some o ∧ RO G.w F o x := h.get m.mem
inductive Lk : List (Str × Option V) → Str → V → Prop where
  | hd {x : Str} {y : V} {ρ : List (Str × Option V)} : Lk ((x, some y) :: ρ) x y
  | tl {x : Str} {y : V} {p : Str × Option V} {ρ : List (Str × Option V)} (h : Lk ρ x y) : Lk (p :: ρ) x y
theorem Lk.mem {ρ : List (Str × Option V)} {x : Str} {y : V} (h : Lk ρ x y) : (x, some y) ∈ ρ := by
  induction h with
  | hd => exact .head _
  | tl _ ih => exact .tail _ ih
inductive Rem : Hp → Addr → AO → Hp → Prop where
  | hd {a : Addr} {x : AO} {H : Hp} : Rem ((a, x) :: H) a x H
  | tl {a : Addr} {x : AO} {p : Addr × AO} {H H' : Hp} (h : Rem H a x H') : Rem (p :: H) a x (p :: H')
theorem Rem.perm {a : Addr} {x : AO} {H H' : Hp} (h : Rem H a x H') : H.Perm ((a, x) :: H') := by
  induction h with
  | hd => exact .refl _
  | tl _ ih => exact (ih.cons _).trans (.swap ..)

inductive SetL : List (Str × Option V) → Str → Option V → List (Str × Option V) → Prop where
  | hd {x : Str} {o o' : Option V} {ρ : List (Str × Option V)} : SetL ((x, o) :: ρ) x o' ((x, o') :: ρ)
  | tl {x : Str} {o' : Option V} {p : Str × Option V} {ρ ρ' : List (Str × Option V)} (h : SetL ρ x o' ρ') : SetL (p :: ρ) x o' (p :: ρ')
theorem SetL.names {x : Str} {o' : Option V} {ρ ρ' : List (Str × Option V)} (h : SetL ρ x o' ρ') : ρ'.map (·.1) = ρ.map (·.1) ∧ x ∈ ρ.map (·.1) := by
  induction h with
  | hd => exact ⟨rfl, .head _⟩
  | tl _ ih => exact ⟨by rw [List.map_cons, List.map_cons, ih.1], .tail _ ih.2⟩
theorem SetL.spec {x : Str} {o' : Option V} {ρ ρ' : List (Str × Option V)} (h : SetL ρ x o' ρ') (nd : (ρ.map (·.1)).Nodup) : ∀ p ∈ ρ', (p.1 = x ∧ p.2 = o') ∨ (p.1 ≠ x ∧ p ∈ ρ) := by
  induction h with
  | @hd x o o' ρ =>
    intro p hp
    rw [List.map_cons, List.nodup_cons] at nd
    rcases List.mem_cons.mp hp with rfl | hp
    · exact .inl ⟨rfl, rfl⟩
    · exact .inr ⟨fun e => nd.1 (by have := List.mem_map_of_mem (f := fun q : Str × Option V => q.1) hp; rw [e] at this; exact this), .tail _ hp⟩
  | tl h ih =>
    intro p hp
    rw [List.map_cons, List.nodup_cons] at nd
    rcases List.mem_cons.mp hp with rfl | hp
    · exact .inr ⟨fun e => nd.1 (by rw [e]; exact h.names.2), .head _⟩
    · exact (ih nd.2 p hp).elim .inl fun h => .inr ⟨h.1, .tail _ h.2⟩

inductive FV where
  | next | brk | cont
  | ret (x : V)
inductive RF (F : Fz) : Flow → FV → Prop where
  | next : RF F .next .next
  | brk : RF F .brk .brk
  | cont : RF F .cont .cont
  | ret {v : Value} {x : V} (h : RV F v x) : RF F (.ret v) (.ret x)

inductive VQ (Q : V → Fz → Hp → Prop) (v : Value) (K : Fz) (H : Hp) : Prop where
  | mk (x : V) (hx : RV K v x) (q : Dn (Q x) K H)
inductive VsQ (Q : List V → Fz → Hp → Prop) (v : List Value) (K : Fz) (H : Hp) : Prop where
  | mk (x : List V) (hx : RVs K v x) (q : Dn (Q x) K H)
inductive FQ (Q : FV → Fz → Hp → Prop) (v : Flow) (K : Fz) (H : Hp) : Prop where
  | mk (x : FV) (hx : RF K v x) (q : Dn (Q x) K H)
noncomputable def EvAt (G : Glob) (fr : List Env) (A : Around) (K : Fz) (H : Hp) (t : Sem Value) (Q : V → Fz → Hp → Prop) (E : Value → Fz → Hp → Prop) : Prop := TpAt G fr A K H t (VQ Q) E
noncomputable def Ev (G : Glob) (fr : List Env) (A : Around) (F : Fz) (H : Hp) (t : Sem Value) (Q : V → Fz → Hp → Prop) (E : Value → Fz → Hp → Prop) : Prop := ∀ K, F.le K → EvAt G fr A K H t Q E
noncomputable def Evs (G : Glob) (fr : List Env) (A : Around) (F : Fz) (H : Hp) (t : Sem (List Value)) (Q : List V → Fz → Hp → Prop) (E : Value → Fz → Hp → Prop) : Prop := ∀ K, F.le K → TpAt G fr A K H t (VsQ Q) E
noncomputable def Ex (G : Glob) (fr : List Env) (A : Around) (F : Fz) (H : Hp) (t : Sem Flow) (Q : FV → Fz → Hp → Prop) (E : Value → Fz → Hp → Prop) : Prop := ∀ K, F.le K → TpAt G fr A K H t (FQ Q) E
noncomputable def Op1 (G : Glob) (fr : List Env) (A : Around) (F : Fz) (H : Hp) (f : Value → Sem Value) (x : V) (Q : V → Fz → Hp → Prop) (E : Value → Fz → Hp → Prop) : Prop := ∀ K, F.le K → ∀ a, RV K a x → EvAt G fr A K H (f a) Q E
noncomputable def Op2 (G : Glob) (fr : List Env) (A : Around) (F : Fz) (H : Hp) (f : Value → Value → Sem Value) (x y : V) (Q : V → Fz → Hp → Prop) (E : Value → Fz → Hp → Prop) : Prop := ∀ K, F.le K → ∀ a b, RV K a x → RV K b y → EvAt G fr A K H (f a b) Q E
noncomputable def Tr (G : Glob) (fr : List Env) (A : Around) (F : Fz) (H : Hp) (x : V) (Q : Bool → Fz → Hp → Prop) (E : Value → Fz → Hp → Prop) : Prop := ∀ K, F.le K → ∀ a, RV K a x → TpAt G fr A K H (truthy a) (fun b => Dn (Q b)) E
section
variable {G : Glob} {fr : List Env} {A : Around} {F K K₀ : Fz} {H R : Hp} {s : Shared} {E : Value → Fz → Hp → Prop}
theorem EvAt.go {t : Sem Value} {Q : V → Fz → Hp → Prop} (h : EvAt G fr A K H t Q E) (hR : Rep G fr K (H ++ R) s) (le : K₀.le K) {P : Value → Shared → Prop} (k : ∀ v x F1 K1 H1 s1, K.le K1 → Fz.le F1 K1 → Rep G fr K1 (H1 ++ R) s1 → RV K1 v x → Q x F1 H1 → P v s1) : wpAny G.M A t P (PQ G fr K₀ R fun e => Dn (E e)) s :=
  TpAt.seq h hR le fun v K1 H1 s1 l1 r1 ⟨x, hx, F1, m1, q⟩ => k v x F1 K1 H1 s1 l1 m1 r1 hx q
theorem Ev.go {t : Sem Value} {Q : V → Fz → Hp → Prop} (h : Ev G fr A F H t Q E) (m : F.le K) (hR : Rep G fr K (H ++ R) s) (le : K₀.le K) {P : Value → Shared → Prop} (k : ∀ v x F1 K1 H1 s1, K.le K1 → Fz.le F1 K1 → Rep G fr K1 (H1 ++ R) s1 → RV K1 v x → Q x F1 H1 → P v s1) : wpAny G.M A t P (PQ G fr K₀ R fun e => Dn (E e)) s := (h K m).go hR le k
theorem Evs.go {t : Sem (List Value)} {Q : List V → Fz → Hp → Prop} (h : Evs G fr A F H t Q E) (m : F.le K) (hR : Rep G fr K (H ++ R) s) (le : K₀.le K) {P : List Value → Shared → Prop} (k : ∀ v x F1 K1 H1 s1, K.le K1 → Fz.le F1 K1 → Rep G fr K1 (H1 ++ R) s1 → RVs K1 v x → Q x F1 H1 → P v s1) : wpAny G.M A t P (PQ G fr K₀ R fun e => Dn (E e)) s :=
  TpAt.seq (h K m) hR le fun v K1 H1 s1 l1 r1 ⟨x, hx, F1, m1, q⟩ => k v x F1 K1 H1 s1 l1 m1 r1 hx q
theorem Ex.go {t : Sem Flow} {Q : FV → Fz → Hp → Prop} (h : Ex G fr A F H t Q E) (m : F.le K) (hR : Rep G fr K (H ++ R) s) (le : K₀.le K) {P : Flow → Shared → Prop} (k : ∀ v x F1 K1 H1 s1, K.le K1 → Fz.le F1 K1 → Rep G fr K1 (H1 ++ R) s1 → RF K1 v x → Q x F1 H1 → P v s1) : wpAny G.M A t P (PQ G fr K₀ R fun e => Dn (E e)) s :=
  TpAt.seq (h K m) hR le fun v K1 H1 s1 l1 r1 ⟨x, hx, F1, m1, q⟩ => k v x F1 K1 H1 s1 l1 m1 r1 hx q
theorem EvAt.last {t : Sem Value} {Q : V → Fz → Hp → Prop} (h : EvAt G fr A K H t Q E) (hR : Rep G fr K (H ++ R) s) (le : K₀.le K) : wpAny G.M A t (PQ G fr K₀ R (VQ Q)) (PQ G fr K₀ R fun e => Dn (E e)) s := TpAt.last h hR le
theorem Ev.last {t : Sem Value} {Q : V → Fz → Hp → Prop} (h : Ev G fr A F H t Q E) (m : F.le K) (hR : Rep G fr K (H ++ R) s) (le : K₀.le K) : wpAny G.M A t (PQ G fr K₀ R (VQ Q)) (PQ G fr K₀ R fun e => Dn (E e)) s := TpAt.last (h K m) hR le
theorem Ex.last {t : Sem Flow} {Q : FV → Fz → Hp → Prop} (h : Ex G fr A F H t Q E) (m : F.le K) (hR : Rep G fr K (H ++ R) s) (le : K₀.le K) : wpAny G.M A t (PQ G fr K₀ R (FQ Q)) (PQ G fr K₀ R fun e => Dn (E e)) s := TpAt.last (h K m) hR le
theorem vret {Q : V → Fz → Hp → Prop} {v : Value} {x : V} (hR : Rep G fr K (H ++ R) s) (hx : RV K v x) (m : F.le K) (q : Q x F H) : PQ G fr K R (VQ Q) v s := ⟨K, H, .refl K, hR, x, hx, F, m, q⟩
theorem tret {α : Type} {Q : α → Fz → Hp → Prop} {v : α} (hR : Rep G fr K (H ++ R) s) (m : F.le K) (q : Q v F H) : PQ G fr K R (fun v => Dn (Q v)) v s := ⟨K, H, .refl K, hR, F, m, q⟩
theorem fret {Q : FV → Fz → Hp → Prop} {v : Flow} {x : FV} (hR : Rep G fr K (H ++ R) s) (hx : RF K v x) (m : F.le K) (q : Q x F H) : PQ G fr K R (FQ Q) v s := ⟨K, H, .refl K, hR, x, hx, F, m, q⟩
end
noncomputable def Then (G : Glob) (fr : List Env) (A : Around) (env : Env) (rest : List Stmt) (Q : FV → Fz → Hp → Prop) (E : Value → Fz → Hp → Prop) : FV → Fz → Hp → Prop
  | .next, F, H => Ex G fr A F H (execs rest env) Q E
  | fv, F, H => Q fv F H
section
variable {G : Glob} {fr : List Env} {A : Around} {env : Env} {F : Fz} {H : Hp} {E : Value → Fz → Hp → Prop}
theorem Ex_nil {Q : FV → Fz → Hp → Prop} (h : Q .next F H) : Ex G fr A F H (execs [] env) Q E := fun K m R s hR => wpAny_execs_nil (fret hR .next m h)
theorem Ex_cons {st : Stmt} {rest : List Stmt} {Q : FV → Fz → Hp → Prop} (h : Ex G fr A F H (exec st env) (Then G fr A env rest Q E) E) : Ex G fr A F H (execs (st :: rest) env) Q E := fun K m R s hR => by
  refine wpAny_execs_cons (h.go m hR (.refl K) fun f fv F1 K1 H1 s1 l1 m1 r1 hf q => ?_)
  cases hf with
  | next => exact (show Ex _ _ _ _ _ _ _ _ from q).last m1 r1 l1
  | brk => exact upPQ l1 (fret r1 .brk m1 q)
  | cont => exact upPQ l1 (fret r1 .cont m1 q)
  | ret hx => exact upPQ l1 (fret r1 (.ret hx) m1 q)
variable {Q : V → Fz → Hp → Prop}
theorem Ev_int {i : Int} {k pos} (h : Q (.int i) F H) : Ev G fr A F H (eval (.Constant (.int i) k pos) env) Q E := fun K m R s hR => wpAny_Constant_int (vret (hR.toks _) .int m h)
theorem Ev_str {x : Str} {k pos} (h : Q (.str x) F H) : Ev G fr A F H (eval (.Constant (.str x) k pos) env) Q E := fun K m R s hR => wpAny_Constant_str (vret (hR.toks _) .str m h)
theorem Ev_bool {b : Bool} {k pos} (h : Q (.bool b) F H) : Ev G fr A F H (eval (.Constant (.bool b) k pos) env) Q E := fun K m R s hR => wpAny_Constant_bool (vret hR .bool m h)
theorem Ev_none {k pos} (h : Q .none F H) : Ev G fr A F H (eval (.Constant .none k pos) env) Q E := fun K m R s hR => wpAny_Constant_none (vret hR .none m h)
theorem nsOf {ρ : List (Str × Option V)} {o : Obj} {w : World} {h : Heap} {L : Addr} (ho : h.get? L = some o) (r : RO w F o (.ns ρ)) : ∃ m, h.Ns L m ∧ (ρ.map (·.1)).Nodup ∧ ∀ p ∈ ρ, match p.2 with
    | none => True
    | some x => ∃ v, m p.1 = some v ∧ RV F v x := by
  obtain ⟨es, ep, hd, hk, nd, hp⟩ := r
  exact ⟨fun n => nsFind es n, ⟨o, es, ep, ho, hd, hk, fun _ => rfl⟩, nd, hp⟩
theorem Ev_local {ρ : List (Str × Option V)} {x : Str} {pos} {y : V} (hm : Has H env.locals (.ns ρ)) (hx : Lk ρ x y) (h : Q y F H) (hk : autoParam (env.scope.kind = .function) tac0) (hl : autoParam (env.kindOf x = some .local) tac0)
    (hd : autoParam ((x == ("__debug__" : Str)) = false) tac14) : Ev G fr A F H (eval (.Name x pos) env) Q E := fun K m R s hR => by
  obtain ⟨o, ho, r⟩ := hR.has hm
  obtain ⟨ms, hn, nd, hp⟩ := nsOf ho r
  obtain ⟨v, hv, hr⟩ := hp _ hx.mem
  exact wpAny_Name (wpAny_loadName_local hk hl hn hv (vret hR hr m h)) hd
theorem Ev_BinOp {l op r pos} (h : Ev G fr A F H (eval l env) (fun x F1 H1 => Ev G fr A F1 H1 (eval r env) (fun y F2 H2 => Op2 G fr A F2 H2 (binaryOp op) x y Q E) E) E) :
    Ev G fr A F H (eval (.BinOp l op r pos) env) Q E := fun K m R s hR =>
  wpAny_BinOp (h.go m hR (.refl K) fun a x F1 K1 H1 s1 l1 m1 r1 hx h1 => h1.go m1 r1 l1 fun b y F2 K2 H2 s2 l2 m2 r2 hy h2 => (h2 K2 m2 a b (hx.mono l2) hy).last r2 (l1.trans l2))
theorem Ev_UnaryOp {op x pos} (h : Ev G fr A F H (eval x env) (fun x F1 H1 => Op1 G fr A F1 H1 (unaryOp op) x Q E) E) :
    Ev G fr A F H (eval (.UnaryOp op x pos) env) Q E := fun K m R s hR =>
  wpAny_UnaryOp (h.go m hR (.refl K) fun a x F1 K1 H1 s1 l1 m1 r1 hx h1 => (h1 K1 m1 a hx).last r1 l1)
theorem Ev_Compare1 {l op r pos} (h : Ev G fr A F H (eval l env) (fun x F1 H1 => Ev G fr A F1 H1 (eval r env) (fun y F2 H2 => Op2 G fr A F2 H2 (compareOp op) x y Q E) E) E)
    (hm : autoParam (behindInMarks op r = false) tac15) : Ev G fr A F H (eval (.Compare l [op] [r] pos) env) Q E := fun K m R s hR =>
  wpAny_Compare1 (h.go m hR (.refl K) fun a x F1 K1 H1 s1 l1 m1 r1 hx h1 => h1.go m1 r1 l1 fun b y F2 K2 H2 s2 l2 m2 r2 hy h2 => (h2 K2 m2 a b (hx.mono l2) hy).last r2 (l1.trans l2)) hm
theorem Ev_IfExp {test body orelse pos} (h : Tp G fr A F H (isTrue test env (eval test env)) (fun b F1 H1 => if b then Ev G fr A F1 H1 (eval body env) Q E else Ev G fr A F1 H1 (eval orelse env) Q E) E) :
    Ev G fr A F H (eval (.IfExp test body orelse pos) env) Q E := fun K m R s hR => by
  refine wpAny_IfExp (h.seq m hR (.refl K) fun b F1 K1 H1 s1 l1 m1 r1 h1 => ?_)
  cases b with
  | true => exact (show Ev _ _ _ _ _ _ _ _ from h1).last m1 r1 l1
  | false => exact (show Ev _ _ _ _ _ _ _ _ from h1).last m1 r1 l1
end
theorem Ev.mono {G : Glob} {fr : List Env} {A : Around} {F : Fz} {H : Hp} {E E' : Value → Fz → Hp → Prop} {P Q : V → Fz → Hp → Prop} {t : Sem Value} (h : Ev G fr A F H t P E) (k : ∀ x F1 H1, P x F1 H1 → Q x F1 H1) (e : ∀ x F1 H1, E x F1 H1 → E' x F1 H1) : Ev G fr A F H t Q E' := fun K m R s hR =>
  wpAny_mono (h K m R s hR) (fun _ _ q => by obtain ⟨F1, H1, l, r, x, hx, F2, m2, q⟩ := q; exact ⟨F1, H1, l, r, x, hx, F2, m2, k _ _ _ q⟩) fun _ _ q => by obtain ⟨F1, H1, l, r, F2, m2, q⟩ := q; exact ⟨F1, H1, l, r, F2, m2, e _ _ _ q⟩
theorem Ex.mono {G : Glob} {fr : List Env} {A : Around} {F : Fz} {H : Hp} {E E' : Value → Fz → Hp → Prop} {P Q : FV → Fz → Hp → Prop} {t : Sem Flow} (h : Ex G fr A F H t P E) (k : ∀ x F1 H1, P x F1 H1 → Q x F1 H1) (e : ∀ x F1 H1, E x F1 H1 → E' x F1 H1) : Ex G fr A F H t Q E' := fun K m R s hR =>
  wpAny_mono (h K m R s hR) (fun _ _ q => by obtain ⟨F1, H1, l, r, x, hx, F2, m2, q⟩ := q; exact ⟨F1, H1, l, r, x, hx, F2, m2, k _ _ _ q⟩) fun _ _ q => by obtain ⟨F1, H1, l, r, F2, m2, q⟩ := q; exact ⟨F1, H1, l, r, F2, m2, e _ _ _ q⟩
theorem Bif_f {P Q : Prop} (h : Q) : if false then P else Q := by rw [if_neg (by decide)]; exact h
inductive ABool (Q : Bool → Fz → Hp → Prop) (x : V) (F : Fz) (H : Hp) : Prop where
  | mk (c : Bool) (e : x = .bool c) (h : Q c F H)
inductive AInt (Q : Option Int → Fz → Hp → Prop) (x : V) (F : Fz) (H : Hp) : Prop where
  | mk (i : Int) (e : x = .int i) (h : Q (some i) F H)
section
variable {G : Glob} {fr : List Env} {A : Around} {env : Env} {F : Fz} {H : Hp} {E : Value → Fz → Hp → Prop} {Q : Bool → Fz → Hp → Prop}
theorem It_Compare1 {l op r pos whole} (h : Ev G fr A F H (eval l env) (fun x F1 H1 => Ev G fr A F1 H1 (eval r env) (fun y F2 H2 => Op2 G fr A F2 H2 (compareOp op) x y (ABool Q) E) E) E)
    (hm : autoParam (behindInMarks op r = false) tac15) : Tp G fr A F H (isTrue (.Compare l [op] [r] pos) env whole) Q E := fun K m R s hR =>
  wpAny_isTrue_Compare1 (h.go m hR (.refl K) fun a x F1 K1 H1 s1 l1 m1 r1 hx h1 => h1.go m1 r1 l1 fun b y F2 K2 H2 s2 l2 m2 r2 hy h2 =>
    (h2 K2 m2 a b (hx.mono l2) hy).go r2 (l1.trans l2) fun v z F3 K3 H3 s3 l3 m3 r3 hz hq => by
      obtain ⟨c, rfl, q⟩ := hq
      exact hz.e_bool (P := fun v => wpAny _ _ (truthy v) _ _ _) (wpAny_truthy_bool (upPQ (l1.trans (l2.trans l3)) (tret r3 m3 q)))) hm
theorem It_value {e : Expr} {whole : Sem Value} (h : Ev G fr A F H whole (fun x F1 H1 => Tr G fr A F1 H1 x Q E) E)
    (hs : autoParam (isTrue e env whole = (do let v ← whole; standAt e.pos; holding [v] (truthy v))) tac0) : Tp G fr A F H (isTrue e env whole) Q E := fun K m R s hR => by
  rw [hs]
  exact wpAny_bind (h.go m hR (.refl K) fun a x F1 K1 H1 s1 l1 m1 r1 hx h1 => wpAny_bind (wpAny_standAt (wpAny_holding ((h1 K1 m1 a hx).last r1 l1))))
theorem It_Not {x pos whole} (h : Tp G fr A F H (isTrue x env (eval x env)) (fun b F1 H1 => Q (!b) F1 H1) E) : Tp G fr A F H (isTrue (.UnaryOp .Not x pos) env whole) Q E := fun K m R s hR =>
  wpAny_isTrue_Not (h.seq m hR (.refl K) fun b F1 K1 H1 s1 l1 m1 r1 q => upPQ l1 (tret (Q := Q) r1 m1 q))
theorem It_BoolOp {op values pos whole} (h : Tp G fr A F H (allTrue op values env) Q E) : Tp G fr A F H (isTrue (.BoolOp op values pos) env whole) Q E := fun K m R s hR => wpAny_isTrue_BoolOp (h K m R s hR)
theorem It_and_nil (h : Q true F H) : Tp G fr A F H (allTrue .And [] env) Q E := fun K m R s hR => by
  have e : allTrue .And [] env = pure true := by first | rfl | (unfold allTrue; rfl) | simp [allTrue]
  rw [e]; exact wpAny_pure (tret (Q := Q) hR m h)
theorem It_or_nil (h : Q false F H) : Tp G fr A F H (allTrue .Or [] env) Q E := fun K m R s hR => by
  have e : allTrue .Or [] env = pure false := by first | rfl | (unfold allTrue; rfl) | simp [allTrue]
  rw [e]; exact wpAny_pure (tret (Q := Q) hR m h)
theorem It_and {x rest} (h : Tp G fr A F H (isTrue x env (eval x env)) (fun b F1 H1 => if b then Tp G fr A F1 H1 (allTrue .And rest env) Q E else Q false F1 H1) E) : Tp G fr A F H (allTrue .And (x :: rest) env) Q E := fun K m R s hR => by
  have e : allTrue .And (x :: rest) env = (isTrue x env (eval x env) >>= fun b => match b with | false => pure false | true => allTrue .And rest env) := by
    show (isTrue x env (eval x env) >>= fun b => _) = _
    exact congrArg _ (funext fun b => by cases b <;> rfl)
  rw [e]
  refine wpAny_bind (h.seq m hR (.refl K) fun b F1 K1 H1 s1 l1 m1 r1 q => ?_)
  cases b with
  | true => exact (show Tp _ _ _ _ _ _ _ _ from q).last m1 r1 l1
  | false => exact wpAny_pure (upPQ l1 (tret (Q := Q) r1 m1 q))
theorem It_or {x rest} (h : Tp G fr A F H (isTrue x env (eval x env)) (fun b F1 H1 => if b then Q true F1 H1 else Tp G fr A F1 H1 (allTrue .Or rest env) Q E) E) : Tp G fr A F H (allTrue .Or (x :: rest) env) Q E := fun K m R s hR => by
  have e : allTrue .Or (x :: rest) env = (isTrue x env (eval x env) >>= fun b => match b with | true => pure true | false => allTrue .Or rest env) := by
    show (isTrue x env (eval x env) >>= fun b => _) = _
    exact congrArg _ (funext fun b => by cases b <;> rfl)
  rw [e]
  refine wpAny_bind (h.seq m hR (.refl K) fun b F1 K1 H1 s1 l1 m1 r1 q => ?_)
  cases b with
  | false => exact (show Tp _ _ _ _ _ _ _ _ from q).last m1 r1 l1
  | true => exact wpAny_pure (upPQ l1 (tret (Q := Q) r1 m1 q))
end
section
variable {G : Glob} {fr : List Env} {A : Around} {env : Env} {F : Fz} {H : Hp} {E : Value → Fz → Hp → Prop} {Q : FV → Fz → Hp → Prop}
theorem Ex_Pass {pos} (h : Q .next F H) : Ex G fr A F H (exec (.Pass pos) env) Q E := fun K m R s hR => wpAny_Pass (fret hR .next m h)
theorem Ex_Break {pos} (h : Q .brk F H) : Ex G fr A F H (exec (.Break pos) env) Q E := fun K m R s hR => wpAny_Break (fret hR .brk m h)
theorem Ex_Continue {pos} (h : Q .cont F H) : Ex G fr A F H (exec (.Continue pos) env) Q E := fun K m R s hR => wpAny_Continue (fret hR .cont m h)
theorem Ex_Return {e pos} (h : Ev G fr A F H (eval e env) (fun x F1 H1 => Q (.ret x) F1 H1) E) : Ex G fr A F H (exec (.Return (some e) pos) env) Q E := fun K m R s hR =>
  wpAny_Return_some (h.go m hR (.refl K) fun v x F1 K1 H1 s1 l1 m1 r1 hx q => upPQ l1 (fret r1 (.ret hx) m1 q))
theorem Ex_If {test body orelse pos} (h : Tp G fr A F H (isTrue test env (eval test env)) (fun b F1 H1 => if b then Ex G fr A F1 H1 (execs body env) Q E else Ex G fr A F1 H1 (execs orelse env) Q E) E) :
    Ex G fr A F H (exec (.If test body orelse pos) env) Q E := fun K m R s hR => by
  refine wpAny_If (h.seq m hR (.refl K) fun b F1 K1 H1 s1 l1 m1 r1 q => ?_)
  cases b with
  | true => exact (show Ex _ _ _ _ _ _ _ _ from q).last m1 r1 l1
  | false => exact (show Ex _ _ _ _ _ _ _ _ from q).last m1 r1 l1
theorem ns_set {w : World} {ρ ρ' : List (Str × Option V)} {h' : Heap} {L : Addr} {m : Str → Option Value} {x : Str} {v : Value} {y : V} (hn : h'.Ns L (fun z => if z = x then some v else m z)) (hs : SetL ρ x (some y) ρ') (nd : (ρ.map (·.1)).Nodup) (hv : RV F v y)
    (hp : ∀ p ∈ ρ, match p.2 with | none => True | some x => ∃ v, m p.1 = some v ∧ RV F v x) : ∃ o, h'.get? L = some o ∧ RO w F o (.ns ρ') := by
  obtain ⟨o, es, ep, ho, hd, hk, hf⟩ := hn
  refine ⟨o, ho, es, ep, hd, hk, by rw [hs.names.1]; exact nd, fun p hpm => ?_⟩
  rcases hs.spec nd p hpm with ⟨h1, h2⟩ | ⟨h1, h2⟩
  · rw [h2]
    exact ⟨v, (hf _).trans (if_pos h1), hv⟩
  · have q := hp p h2
    cases e : p.2 with
    | none => trivial
    | some z => simp only [e] at q ⊢; obtain ⟨u, q1, q2⟩ := q; exact ⟨u, ((hf _).trans (if_neg h1)).trans q1, q2⟩
inductive Store (env : Env) (x : Str) (y : V) (F : Fz) (H : Hp) (Q : Fz → Hp → Prop) : Prop where
  | intro (ρ ρ' : List (Str × Option V)) (H' : Hp) (hu : Upd H env.locals (.ns ρ) (.ns ρ') H') (hs : SetL ρ x (some y) ρ') (h : Q F H')
theorem Store.mk {env : Env} {x : Str} {y : V} {Q : Fz → Hp → Prop} {ρ ρ' : List (Str × Option V)} {H' : Hp} (hu : Upd H env.locals (.ns ρ) (.ns ρ') H') (hs : SetL ρ x (some y) ρ') (h : Q F H') : Store env x y F H Q := ⟨ρ, ρ', H', hu, hs, h⟩
theorem store {K : Fz} {x : Str} {v : Value} {y : V} {Q : Fz → Hp → Prop} (m : F.le K) (hv : RV K v y) (h : Store env x y F H Q)
    (hk : autoParam (env.scope.kind = .function) tac0) (hl : autoParam (env.kindOf x = some .local) tac0) : TpAt G fr A K H (storeName env x v) (fun _ => Dn Q) E := fun R s hR => by
  obtain ⟨ρ, ρ', H', hu, hs, h⟩ := h
  obtain ⟨o, ho, r⟩ := hR.get hu.mem
  obtain ⟨ms, hn, nd, hp⟩ := nsOf ho r
  refine wpAny_storeName_local hl hn (fun h' hn' hs' => ?_) (by rw [hk]; rfl)
  obtain ⟨o', ho', r'⟩ := ns_set (w := G.w) hn' hs nd hv hp
  exact ⟨K, H', .refl K, hR.upd' hu hs'.extBut ho' r' fun _ => ⟨_, rfl⟩, F, m, h⟩
end
section
variable {G : Glob} {fr : List Env} {A : Around} {F : Fz} {H : Hp} {E : Value → Fz → Hp → Prop} {Q : V → Fz → Hp → Prop} {i j : Int}
theorem ii {K : Fz} {P : Value → Value → Prop} (k : ∀ t u, P (.int i t) (.int j u)) : ∀ a b, RV K a (.int i) → RV K b (.int j) → P a b := fun _ b ha hb => ha.e_int (P := fun a => P a b) fun t => hb.e_int (k t)
theorem add_ii (h : Q (.int (i + j)) F H) : Op2 G fr A F H (binaryOp .Add) (.int i) (.int j) Q E := fun K m => ii fun t u R s hR => PySem.P.add_int (vret (hR.toks _) .int m h)
theorem sub_ii (h : Q (.int (i - j)) F H) : Op2 G fr A F H (binaryOp .Sub) (.int i) (.int j) Q E := fun K m => ii fun t u R s hR => PySem.P.sub_int (vret (hR.toks _) .int m h)
theorem iadd_ii (h : Q (.int (i + j)) F H) : Op2 G fr A F H (inplaceOp .Add) (.int i) (.int j) Q E := fun K m => ii fun t u R s hR => PySem.P.iadd_int (vret (hR.toks _) .int m h)
theorem isub_ii (h : Q (.int (i - j)) F H) : Op2 G fr A F H (inplaceOp .Sub) (.int i) (.int j) Q E := fun K m => ii fun t u R s hR => PySem.P.isub_int (vret (hR.toks _) .int m h)
theorem mul_ii (hm : IntMulOk i j) (h : Q (.int (i * j)) F H) : Op2 G fr A F H (binaryOp .Mult) (.int i) (.int j) Q E := fun K m => ii fun t u R s hR => PySem.P.mul_int (vret (hR.toks _) .int m h) hm
theorem neg_i (h : Q (.int (-i)) F H) : Op1 G fr A F H (unaryOp .USub) (.int i) Q E := fun K m a ha => ha.e_int (P := fun a => EvAt _ _ _ _ _ (unaryOp .USub a) _ _) fun t R s hR => PySem.P.neg_int (vret (hR.toks _) .int m h)
theorem eq_ii (h : Q (.bool (i == j)) F H) : Op2 G fr A F H (compareOp .Eq) (.int i) (.int j) Q E := fun K m => ii fun t u R s hR => PySem.P.eq_int (vret hR .bool m h)
theorem ne_ii (h : Q (.bool (i != j)) F H) : Op2 G fr A F H (compareOp .NotEq) (.int i) (.int j) Q E := fun K m => ii fun t u R s hR => PySem.P.ne_int (vret hR .bool m h)
theorem lt_ii (h : Q (.bool (decide (i < j))) F H) : Op2 G fr A F H (compareOp .Lt) (.int i) (.int j) Q E := fun K m => ii fun t u R s hR => PySem.P.lt_int (vret hR .bool m h)
theorem le_ii (h : Q (.bool (decide (i ≤ j))) F H) : Op2 G fr A F H (compareOp .LtE) (.int i) (.int j) Q E := fun K m => ii fun t u R s hR => PySem.P.le_int (vret hR .bool m h)
theorem gt_ii (h : Q (.bool (decide (i > j))) F H) : Op2 G fr A F H (compareOp .Gt) (.int i) (.int j) Q E := fun K m => ii fun t u R s hR => PySem.P.gt_int (vret hR .bool m h)
theorem ge_ii (h : Q (.bool (decide (i ≥ j))) F H) : Op2 G fr A F H (compareOp .GtE) (.int i) (.int j) Q E := fun K m => ii fun t u R s hR => PySem.P.ge_int (vret hR .bool m h)
end
noncomputable def Noted (G : Glob) (fr : List Env) (A : Around) (env : Env) (E : Value → Fz → Hp → Prop) : Prop :=
  ∀ K R e s, PQ G fr K R (fun e => Dn (E e)) e s → notedBy G.M A env (cameBackBy G.M A env (PQ G fr K R fun e => Dn (E e))) e s
noncomputable abbrev No : Value → Fz → Hp → Prop := fun _ _ _ => False
theorem noted_no {G : Glob} {fr : List Env} {A : Around} {env : Env} : Noted G fr A env No := fun _ _ _ _ h => (noPQ h).elim
noncomputable def Turn (I : Fz → Hp → Prop) (Q : FV → Fz → Hp → Prop) : FV → Fz → Hp → Prop
  | .next, F, H => I F H
  | .cont, F, H => I F H
  | .brk, F, H => Q .next F H
  | .ret x, F, H => Q (.ret x) F H
section
variable {G : Glob} {fr : List Env} {A : Around} {env : Env} {F : Fz} {H : Hp} {E : Value → Fz → Hp → Prop} {Q : FV → Fz → Hp → Prop} {I : Fz → Hp → Prop}
theorem Ex_While {test body pos} (I : Nat → Fz → Hp → Prop) (n : Nat) (h0 : I n F H)
    (step : ∀ n F1 H1, I n F1 H1 → ∀ Qn : Fz → Hp → Prop, (∀ m F3 H3, m < n → I m F3 H3 → Qn F3 H3) → Tp G fr A F1 H1 (isTrue test env (eval test env)) (fun b F2 H2 => if b then Ex G fr A F2 H2 (execs body env) (Turn Qn Q) E else Q .next F2 H2) E)
    (hE : Noted G fr A env E) : Ex G fr A F H (exec (.While test body [] pos) env) Q E := fun K m R s hR => by
  refine wpAny_While (codeAny_whileLoop (I := fun n s => ∃ F1 K1 H1, K.le K1 ∧ Fz.le F1 K1 ∧ Rep G fr K1 (H1 ++ R) s ∧ I n F1 H1) (fun n s hI => ?_) n ⟨F, K, H, .refl K, m, hR, h0⟩)
  obtain ⟨F1, K1, H1, l1, m1, r1, hI⟩ := hI
  have hE' : ∀ e s', PQ G fr K R (fun e => Dn (E e)) e s' → notedBy G.M A env (fun e s' => cameBackBy G.M A env (PQ G fr K R fun e => Dn (E e)) e s') e s' := fun e s' q => hE K R e s' q
  refine wpAny_mono ((step n F1 H1 hI (fun F3 H3 => ∃ m, m < n ∧ I m F3 H3) fun m F3 H3 hm q => ⟨m, hm, q⟩).seq m1 r1 l1 (P := fun b s₂ => if b then wpAny G.M A (execs body env) (fun f s₃ => match f with
            | .next | .cont => ∃ m, m < n ∧ ∃ F1 K1 H1, K.le K1 ∧ Fz.le F1 K1 ∧ Rep G fr K1 (H1 ++ R) s₃ ∧ I m F1 H1
            | .brk => PQ G fr K R (FQ Q) .next s₃
            | .ret v => PQ G fr K R (FQ Q) (.ret v) s₃) (PQ G fr K R fun e => Dn (E e)) s₂ else PQ G fr K R (FQ Q) .next s₂) fun b F2 K2 H2 s2 l2 m2 r2 q => ?_) (fun b s₂ hb => ?_) hE'
  · cases b with
    | false => exact upPQ (l1.trans l2) (fret r2 .next m2 q)
    | true =>
      refine (show Ex _ _ _ _ _ _ _ _ from q).go m2 r2 (l1.trans l2) fun f fv F3 K3 H3 s3 l3 m3 r3 hf q => ?_
      have l := l1.trans (l2.trans l3)
      cases hf with
      | next => obtain ⟨m, hm, q⟩ := q; exact ⟨m, hm, F3, K3, H3, l, m3, r3, q⟩
      | cont => obtain ⟨m, hm, q⟩ := q; exact ⟨m, hm, F3, K3, H3, l, m3, r3, q⟩
      | brk => exact upPQ l (fret r3 .next m3 q)
      | ret hx => exact upPQ l (fret r3 (.ret hx) m3 q)
  · cases b with
    | false =>
      show wpAny _ _ (execs [] env) _ _ _
      exact wpAny_execs_nil hb
    | true => exact wpAny_mono (show wpAny _ _ _ _ _ _ from hb) (fun f s₃ h₃ => by cases f <;> exact h₃) hE'
end
theorem pick {α : Type} {l : List α} {k : Nat} : l[k]? = none ↔ l.length ≤ k := List.getElem?_eq_none_iff
structure IterP (G : Glob) (A : Around) (F : Fz) (it : Addr) (l : List V) (I : Nat → AO) : Prop where
  item : ∀ (k : Nat) (y : V) (s : Shared) (F2 : Fz) {Q : Option Value → Shared → Prop} {E : Value → Shared → Prop}, F.le F2 → (∃ o, s.heap.get? it = some o ∧ RO G.w F2 o (I k)) → (∀ b o, F2 b = some o → s.heap.get? b = some o) → l[k]? = some y →
    (∀ v h' o tk, RV F2 v y → h'.get? it = some o → RO G.w F2 o (I (k + 1)) → Heap.SameBut it s.heap h' → Q (some v) { s with heap := h', toks := tk }) → wpAny G.M A (pyNext (.ref it)) Q E s
  fin : ∀ (s : Shared) (F2 : Fz) {Q : Option Value → Shared → Prop} {E : Value → Shared → Prop}, F.le F2 → (∃ o, s.heap.get? it = some o ∧ RO G.w F2 o (I l.length)) → (∀ b o, F2 b = some o → s.heap.get? b = some o) →
    (∀ h', Heap.ExtBut it s.heap h' → Q none { s with heap := h' }) → wpAny G.M A (pyNext (.ref it)) Q E s
  notNs : ∀ k ρ, I k ≠ .ns ρ
  go : ∀ (k : Nat) (target : Expr) (v : Value) (s : Shared) (F2 : Fz) {Q : Unit → Shared → Prop} {E : Value → Shared → Prop}, (∃ o, s.heap.get? it = some o ∧ RO G.w F2 o (I k)) → Q () s → wpAny G.M A (letOwnedTupleGo target (.ref it) v) Q E s
  self : ∀ (k : Nat) (s : Shared) (F2 : Fz) {Q : Value → Shared → Prop} {E : Value → Shared → Prop}, (∃ o, s.heap.get? it = some o ∧ RO G.w F2 o (I k)) → Q (.ref it) s → wpAny G.M A (pyIter (.ref it)) Q E s
theorem go_other {G : Glob} {A : Around} {it : Addr} {n : String} {vs : Array Value} {o : Obj} {s : Shared} (hc : o.cls = .type n) (hd : o.data = .fields vs) (ho : s.heap.get? it = some o) (hn : ["enumerate", "zip", "dict_itemiterator", "dict_reverseitemiterator", "odict_iterator", "itertools.zip_longest", "itertools.pairwise"].contains n = false) (target : Expr) (v : Value) {Q : Unit → Shared → Prop} {E : Value → Shared → Prop} (hQ : Q () s) :
    wpAny G.M A (letOwnedTupleGo target (.ref it) v) Q E s := by
  have key : ∀ a, wpAny G.M A (do
      let o ← load it
      match o.cls, o.data with
      | .type n, .fields vs =>
        if ["enumerate", "zip", "dict_itemiterator", "dict_reverseitemiterator", "odict_iterator", "itertools.zip_longest", "itertools.pairwise"].contains n && vs[0]? == some (rawInt a) then
          rule "for.unpacks-the-owned-tuple"
          updateField it 0 .none
      | _, _ => pure ()) Q E s := fun a => by
    refine wpAny_bind (wpAny_load ho ?_)
    rw [hc, hd]
    simp only [hn, Bool.false_and, Bool.false_eq_true, if_false]
    exact wpAny_pure hQ
  cases target <;> first
    | exact wpAny_pure hQ
    | (cases v <;> first | exact wpAny_pure hQ | exact key _)
noncomputable def Iterable (G : Glob) (A : Around) (x : V) (l : List V) : Prop := ∀ (F : Fz) (s : Shared) (v : Value) {Q E : Value → Shared → Prop}, (∀ b o, F b = some o → s.heap.get? b = some o) → RV F v x →
  (∀ it h' o I, s.heap.get? it = none → (∀ b o, s.heap.get? b = some o → h'.get? b = some o) → h'.get? it = some o → RO G.w F o (I 0) → IterP G A F it l I → Q (.ref it) { s with heap := h' }) → wpAny G.M A (pyIter v) Q E s
theorem iter_lst {G : Glob} {A : Around} {l : List V} (hh : A.handled = none) : Iterable G A (.lst l) l := fun F s v Q E hf hv k => by
    refine hv.e_lst (P := fun v => wpAny _ _ (pyIter v) _ _ _) fun a vs n o ha hcl hdt hlen hrv => ?_
    refine wpAny_pyIter_list ⟨o, hf _ _ ha, hcl, n, hdt⟩ (k _ _ _ (fun k => AO.flds "list_iterator" #[.ref a, .int (k : Nat) 0]) (none_at_size _) (fun b o e => Heap.get?_push_of_some _ e) (Heap.get?_push_size _ rfl) ⟨rfl, rfl⟩ ⟨?_, ?_, (fun _ _ q => nomatch q), fun _ t v _ _ _ _ ⟨o', g, c1, c2⟩ hQ => go_other c1 c2 g (by decide) t v hQ, fun _ _ _ _ _ ⟨o', g, c1, c2⟩ hQ => wpAny_pyIter_listiter ⟨o', g, c1, c2⟩ hQ⟩)
    · intro k y s F2 Q E le ⟨o', g, c1, c2⟩ hfz hy hQ
      have hk : k < vs.length := by
        rcases Nat.lt_or_ge k l.length with q | q
        · lia
        · rw [List.getElem?_eq_none q] at hy; cases hy
      refine wpAny_pyNext_list_item (items := vs.toArray) (x := vs[k]) ⟨o', g, c1, c2⟩ ⟨_, hfz _ _ (le _ _ ha), hcl, n, hdt⟩ (by simp [hk]) fun h' ⟨o'', g', c1', c2'⟩ hs' => hQ _ h' o'' s.toks ((hrv k _ y (List.getElem?_eq_getElem hk) hy).mono le) g' ⟨c1', c2'⟩ hs'
    · intro s F2 Q E le ⟨o', g, c1, c2⟩ hfz hQ
      exact wpAny_pyNext_list_end hh ⟨o', g, c1, c2⟩ ⟨_, hfz _ _ (le _ _ ha), hcl, n, hdt⟩ (by simp [hlen]) hQ
noncomputable def rngV (a b c : Int) : List V := (List.range (Builtin.Range.rangeSize a b c).toNat).map fun (k : Nat) => .int (a + (k : Int) * c)
theorem rngV_get {a b c : Int} {k : Nat} {y : V} (h : (rngV a b c)[k]? = some y) : k < (Builtin.Range.rangeSize a b c).toNat ∧ y = .int (a + (k : Int) * c) := by
  unfold rngV at h
  rw [List.getElem?_map] at h
  rcases Nat.lt_or_ge k (Builtin.Range.rangeSize a b c).toNat with q | q
  · rw [List.getElem?_range q] at h; exact ⟨q, by simpa using h.symm⟩
  · rw [List.getElem?_eq_none (by simpa using q)] at h; cases h
theorem iter_rng {G : Glob} {A : Around} {a b c : Int} (hh : A.handled = none) (hs : Builtin.Range.small a b c = true) : Iterable G A (.rng a b c) (rngV a b c) := fun F s v Q E hf hv k => by
    refine hv.e_rng (P := fun v => wpAny _ _ (pyIter v) _ _ _) fun r t u v ha => ?_
    refine wpAny_pyIter_range (hf _ _ ha) hs (k _ _ _ (fun k => AO.raw { cls := .type "range_iterator", dict := none, data := .fields #[rawInt (a + (k : Int) * c), rawInt (Builtin.Range.rangeSize a b c - k), rawInt c], slots := #[] }) (none_at_size _) (fun b o e => Heap.get?_push_of_some _ e) (Heap.get?_push_size _ rfl) ?_ ⟨?_, ?_, (fun _ _ q => nomatch q), fun _ t v _ _ _ _ ⟨o', g, ro⟩ hQ => go_other (n := "range_iterator") rfl rfl (g.trans (congrArg some ro)) (by decide) t v hQ, fun _ _ _ _ _ ⟨o', g, ro⟩ hQ => wpAny_pyIter_rangeiter (g.trans (congrArg some ro)) hQ⟩)
    · show _ = _
      simp
    · intro k y s F2 Q E le ⟨o', g, ro⟩ hfz hy hQ
      obtain ⟨hk, rfl⟩ := rngV_get hy
      have ro' : o' = { cls := .type "range_iterator", dict := none, data := .fields #[rawInt (a + (k : Int) * c), rawInt (Builtin.Range.rangeSize a b c - k), rawInt c], slots := #[] } := ro
      subst ro'
      refine wpAny_pyNext_range_item g (Int.sub_pos_of_lt (Int.lt_toNat.mp hk)) fun h' hi hs' => hQ _ h' _ (s.toks + 1) .int hi ?_ hs'
      show _ = _
      have e1 : a + ((k + 1 : Nat) : Int) * c = a + (k : Int) * c + c := by
        have : ((k + 1 : Nat) : Int) = (k : Int) + 1 := rfl
        rw [this, Int.add_mul, Int.one_mul, Int.add_assoc]
      have e2 : Builtin.Range.rangeSize a b c - ((k + 1 : Nat) : Int) = Builtin.Range.rangeSize a b c - k - 1 := (Int.sub_sub (Builtin.Range.rangeSize a b c) k 1).symm
      rw [e1, e2]
    · intro s F2 Q E le ⟨o', g, ro⟩ hfz hQ
      have ro' : o' = { cls := .type "range_iterator", dict := none, data := .fields #[rawInt (a + ((rngV a b c).length : Int) * c), rawInt (Builtin.Range.rangeSize a b c - ((rngV a b c).length : Nat)), rawInt c], slots := #[] } := ro
      subst ro'
      exact wpAny_pyNext_range_end hh g (by simp [rngV]; lia) hQ
noncomputable def As (G : Glob) (fr : List Env) (A : Around) (env : Env) (F : Fz) (H : Hp) (target : Expr) (y : V) (Q : Fz → Hp → Prop) (E : Value → Fz → Hp → Prop) : Prop := ∀ K, F.le K → ∀ v, RV K v y → TpAt G fr A K H (assign target env v) (fun _ => Dn Q) E
section
variable {G : Glob} {fr : List Env} {A : Around} {env : Env} {F : Fz} {H : Hp} {E : Value → Fz → Hp → Prop} {Q : FV → Fz → Hp → Prop}
inductive ForI (G : Glob) (fr : List Env) (K1 : Fz) (it : Addr) (J : Nat → AO) (R : Hp) (l : List V) (I : Nat → Fz → Hp → Prop) (n : Nat) (s : Shared) : Prop where
  | mk (k : Nat) (F2 K2 : Fz) (H2 : Hp) (e : n + k = l.length) (l2 : K1.le K2) (m2 : Fz.le F2 K2) (r : Rep G fr K2 (H2 ++ (it, J k) :: R) s) (h : I k F2 H2)
theorem Rep.away {it : Addr} {x : AO} {s : Shared} (r : Rep G fr F ((it, x) :: H) s) (hx : ∀ ρ, x ≠ .ns ρ) {h' : Heap} (he : ∀ b o, b ≠ it → s.heap.get? b = some o → h'.get? b = some o) : Rep G fr F H { s with heap := h' } := by
  have d := r.dropNot hx
  have nit : ∀ p ∈ H, p.1 ≠ it := fun p hp q => (List.nodup_cons.mp r.nd).1 (mem_keys hp q)
  have fit : F it = none := (r.own _ (.head _)).1
  exact ⟨d.gok, d.base, fun b o e => he b o (fun q => by subst q; rw [fit] at e; cases e) (d.fz b o e), fun p hp => (d.own p hp).imp id fun q => q.imp fun o q => ⟨he _ _ (nit p hp) q.1, q.2⟩, d.nd, d.frs, d.gens, d.os⟩
structure IterG (G : Glob) (A : Around) (F : Fz) (it : Addr) (tg : Expr) (l : List V) (J : Nat → Hp) : Prop where
  item : ∀ {fr : List Env} {R : Hp} {k : Nat} {y : V} {s : Shared} {K : Fz} {Q : Option Value → Shared → Prop} {E : Value → Shared → Prop}, F.le K → l[k]? = some y → Rep G fr K (J k ++ R) s →
    (∀ v K1 s1, K.le K1 → RV K1 v y → (∀ {Q : Unit → Shared → Prop} {E : Value → Shared → Prop}, (∀ s2, Rep G fr K1 (J (k + 1) ++ R) s2 → Q () s2) → wpAny G.M A (letOwnedTupleGo tg (.ref it) v) Q E s1) → Q (some v) s1) → wpAny G.M A (pyNext (.ref it)) Q E s
  fin : ∀ {fr : List Env} {R : Hp} {s : Shared} {K : Fz} {Q : Option Value → Shared → Prop} {E : Value → Shared → Prop}, F.le K → Rep G fr K (J l.length ++ R) s → (∀ s1, Rep G fr K R s1 → Q none s1) → wpAny G.M A (pyNext (.ref it)) Q E s
  self : ∀ {fr : List Env} {R : Hp} {k : Nat} {s : Shared} {K : Fz} {Q : Value → Shared → Prop} {E : Value → Shared → Prop}, Rep G fr K (J k ++ R) s → Q (.ref it) s → wpAny G.M A (pyIter (.ref it)) Q E s
noncomputable def IterO (G : Glob) (A : Around) (tg : Expr) (F : Fz) (H : Hp) (x : V) (l : List V) (H' : Hp) : Prop := ∀ {fr : List Env} {R : Hp} {K : Fz} {s : Shared} {v : Value} {Q E : Value → Shared → Prop}, F.le K → Rep G fr K (H ++ R) s → RV K v x →
  (∀ it K1 s1 J, K.le K1 → Rep G fr K1 (J 0 ++ (H' ++ R)) s1 → IterG G A K1 it tg l J → Q (.ref it) s1) → wpAny G.M A (pyIter v) Q E s
theorem IterP.toG {it : Addr} {tg : Expr} {l : List V} {I : Nat → AO} (P : IterP G A F it l I) : IterG G A F it tg l fun k => [(it, I k)] where
  item := fun {fr R k y s K Q E} le hy r h => P.item k y s K le (r.own _ (.head _)).2 r.fz hy fun v h' o tk hv ho hro hs => by
    have r1 : Rep G fr K ((it, I (k + 1)) :: R) { s with heap := h', toks := tk } := Rep.upd (tk := tk) (dr := s.drawn) r hs.extBut ho hro fun hq => hq.elim fun ρ q => absurd q (P.notNs k ρ)
    exact h v K _ (.refl K) hv fun {Q E} hq => P.go (k + 1) tg v _ K (r1.own _ (.head _)).2 (hq _ r1)
  fin := fun {fr R s K Q E} le r h => P.fin s K le (r.own _ (.head _)).2 r.fz fun h' he => h _ (Rep.away r (P.notNs _) he)
  self := fun {fr R k s K Q E} r h => P.self k s K (r.own _ (.head _)).2 h
theorem Iterable.o {tg : Expr} {x : V} {l : List V} (h : Iterable G A x l) : IterO G A tg F H x l H := fun {fr R K s v Q E} m r hv hq =>
  h K s v r.fz hv fun it h' o I hit0 hkp hit hro P => hq it K _ _ (.refl K) (r.new (tk := s.toks) (dr := s.drawn) hkp hit0 hit hro) P.toG
theorem Ex_For {target iter body pos} (hE : Noted G fr A env E)
    (h : Ev G fr A F H (eval iter env) (fun x F1 H1 => ∃ l, Iterable G A x l ∧ ∃ I : Nat → Fz → Hp → Prop, I 0 F1 H1 ∧
      (∀ k y F2 H2, l[k]? = some y → I k F2 H2 → ∀ Qn : Fz → Hp → Prop, (∀ F3 H3, I (k + 1) F3 H3 → Qn F3 H3) → As G fr A env F2 H2 target y (fun F3 H3 => Ex G fr A F3 H3 (execs body env) (Turn Qn Q) E) E) ∧
      (∀ F2 H2, I l.length F2 H2 → Q .next F2 H2)) E)
    (hs : ∀ x, foldedSetIterable iter env x = pure x := by intro _; rfl) :
    Ex G fr A F H (exec (.For target iter body [] pos) env) Q E := fun K m R s hR => by
  refine wpAny_For (h.go m hR (.refl K) fun x y F1 K1 H1 s1 l1 m1 r1 hy hq => ?_) hs
  obtain ⟨l, itr, I, h0, step, fin⟩ := hq
  have hE' : ∀ e s', PQ G fr K R (fun e => Dn (E e)) e s' → notedBy G.M A env (fun e s' => cameBackBy G.M A env (PQ G fr K R fun e => Dn (E e)) e s') e s' := fun e s' q => hE K R e s' q
  refine itr K1 s1 x r1.fz hy fun it h' o J hit0 hkp hit hro P => ?_
  have perm : ∀ (H : Hp) (p : Addr × AO) (R : Hp), (H ++ p :: R).Perm (p :: (H ++ R)) := fun H p R => List.perm_middle
  have r2 : Rep G fr K1 (H1 ++ (it, J 0) :: R) { s1 with heap := h' } := (r1.new (tk := s1.toks) (dr := s1.drawn) hkp hit0 hit hro).perm (perm H1 _ R).symm
  refine codeAny_forLoop_any (I := ForI G fr K1 it J R l I)
    (fun n s hI => ?_) l.length ⟨0, F1, K1, H1, by lia, .refl K1, m1, r2, h0⟩
  obtain ⟨k, F2, K2, H2, hnk, l2, m2, r2, hI⟩ := hI
  have hro : ∃ o, s.heap.get? it = some o ∧ RO G.w K2 o (J k) := (r2.own (it, _) (List.mem_append_right _ (.head _))).2
  cases hv : l[k]? with
  | none =>
    have hk : l.length ≤ k := pick.mp hv
    have hkl : k = l.length := by lia
    subst hkl
    refine wpAny_mono (P.fin s K2 (E := PQ G fr K R fun e => Dn (E e)) l2 hro r2.fz (Q := fun r s₁ => r = none ∧ PQ G fr K R (FQ Q) .next s₁) fun h' he => ⟨rfl, ?_⟩) (fun r s₁ hr => ?_) hE'
    · have r4 := (r2.perm (perm H2 _ R)).away (P.notNs _) he
      exact upPQ (l1.trans l2) (fret r4 .next m2 (fin F2 H2 hI))
    · obtain ⟨rfl, hr⟩ := hr
      exact wpAny_execs_nil hr
  | some y =>
    have hk : k < l.length := (List.getElem?_eq_some_iff.mp hv).1
    refine wpAny_mono (P.item k y s K2 (E := PQ G fr K R fun e => Dn (E e)) l2 hro r2.fz hv (Q := fun r s₁ => ∃ v, r = some v ∧ RV K2 v y ∧ Rep G fr K2 (H2 ++ (it, J (k + 1)) :: R) s₁) fun v h' o tk rv ho hro' hs => ⟨v, rfl, rv, ?_⟩) (fun r s₁ hr => ?_) hE'
    · have r3 := (r2.perm (perm H2 _ R)).upd (h' := h') (tk := tk) (dr := s.drawn) (o' := o) (x' := J (k + 1)) hs.extBut ho hro' (fun hq => by obtain ⟨ρ, q⟩ := hq; exact absurd q (P.notNs k ρ))
      exact r3.perm (perm H2 _ R).symm
    · obtain ⟨v, rfl, ry, r3⟩ := hr
      show wpAny _ _ (letOwnedTupleGo target (.ref it) v) _ _ s₁
      refine P.go (k + 1) target v s₁ K2 (r3.own (it, _) (List.mem_append_right _ (.head _))).2 ?_
      have dropIt : ∀ {K4 H4 s4}, Rep G fr K4 (H4 ++ (it, J (k + 1)) :: R) s4 → Rep G fr K4 (H4 ++ R) s4 := fun r => (r.perm (perm _ _ R)).dropNot (P.notNs _)
      have dropE : ∀ {K4 : Fz} (_ : K.le K4) e s', PQ G fr K4 ((it, J (k + 1)) :: R) (fun e => Dn (E e)) e s' → PQ G fr K R (fun e => Dn (E e)) e s' := fun l4 e s' q => by
        obtain ⟨K5, H5, l5, r5, q⟩ := q
        exact ⟨K5, H5, l4.trans l5, dropIt r5, q⟩
      refine wpAny_mono (step k y F2 H2 hv hI (I (k + 1)) (fun _ _ q => q) K2 m2 v ry _ s₁ r3) (fun _ s₂ hq => ?_) fun e s' q => hE' e s' (dropE (l1.trans l2) e s' q)
      obtain ⟨K3, H3, l3, r3', F3, m3, q⟩ := hq
      have l13 := l1.trans (l2.trans l3)
      refine wpAny_mono (q K3 m3 _ s₂ r3') (fun f s4 hq => ?_) fun e s' q => hE' e s' (dropE l13 e s' q)
      obtain ⟨K4, H4, l4, r4, fv, hf, F4, m4, q⟩ := hq
      have l := l13.trans l4
      cases hf with
      | next => exact ⟨n - 1, nk1 hnk hk, k + 1, F4, K4, H4, nk2 hnk hk, l2.trans (l3.trans l4), m4, r4, q⟩
      | cont => exact ⟨n - 1, nk1 hnk hk, k + 1, F4, K4, H4, nk2 hnk hk, l2.trans (l3.trans l4), m4, r4, q⟩
      | brk => exact upPQ l (fret (dropIt r4) .next m4 q)
      | ret hx => exact upPQ l (fret (dropIt r4) (.ret hx) m4 q)
end
section
variable {G : Glob} {fr : List Env} {A : Around} {env : Env} {F : Fz} {H : Hp} {E : Value → Fz → Hp → Prop} {Q : V → Fz → Hp → Prop}
theorem Ev_global {x : Str} {pos} {v : Value} {y : V} (hv : G.mg x = some v) (hr : RV F v y) (h : Q y F H) (hk : autoParam (env.scope.kind = .function) tac0) (hx : autoParam (env.kindOf x = some .globalImplicit) tac0) (hg : autoParam (env.globals = mainGlobals) tac0)
    (hd : autoParam ((x == ("__debug__" : Str)) = false) tac14) : Ev G fr A F H (eval (.Name x pos) env) Q E := fun K m R s hR =>
  Name_function_global hk hx (loadGlobal_global (by rw [hg]; exact hR.glob.1) hv (vret hR (hr.mono m) m h)) hd
theorem Ev_blt {x : Str} {pos} {v : Value} {y : V} (hn : G.mg x = none) (hv : G.mb x = some v) (hr : RV F v y) (h : Q y F H) (hk : autoParam (env.scope.kind = .function) tac0) (hx : autoParam (env.kindOf x = some .globalImplicit) tac0) (hg : autoParam (env.globals = mainGlobals) tac0) (hb : autoParam (env.builtins = builtinsNs) tac0)
    (hd : autoParam ((x == ("__debug__" : Str)) = false) tac14) : Ev G fr A F H (eval (.Name x pos) env) Q E := fun K m R s hR =>
  Name_function_global hk hx (loadGlobal_builtin (by rw [hg]; exact hR.glob.1) hn (by rw [hb]; exact hR.glob.2.1) hv (vret hR (hr.mono m) m h)) hd
theorem Ev_cell {x : Str} {pos} {c : Addr} {y : V} (hc : env.cells.lookup x = some c) (hm : Has H c (.cell (some y))) (h : Q y F H) (hk : autoParam (env.scope.kind = .function) tac0) (hx : autoParam (env.kindOf x = some .cell) tac0)
    (hd : autoParam ((x == ("__debug__" : Str)) = false) tac14) : Ev G fr A F H (eval (.Name x pos) env) Q E := fun K m R s hR => by
  obtain ⟨o, ho, v, hd', hv⟩ := hR.has hm
  exact wpAny_Name (wpAny_loadName_cell hk hx hc ⟨o, ho, hd'⟩ (vret hR hv m h)) hd
inductive CellF (F : Fz) (c : Addr) (y : V) : Prop where
  | intro (o : Obj) (v : Value) (h1 : F c = some o) (h2 : o.data = .cell (some v)) (h3 : RV F v y)
theorem CellF.mono {F F' : Fz} {c : Addr} {y : V} (le : F.le F') (h : CellF F c y) : CellF F' c y := by obtain ⟨o, v, a, b, r⟩ := h; exact ⟨o, v, le _ _ a, b, r.mono le⟩
theorem Ev_freeF {x : Str} {pos} {c : Addr} {y : V} (hc : env.cells.lookup x = some c) (hm : CellF F c y) (h : Q y F H) (hk : autoParam (env.scope.kind = .function) tac0) (hx : autoParam (env.kindOf x = some .free) tac0)
    (hd : autoParam ((x == ("__debug__" : Str)) = false) tac14) (hn : autoParam ((x == ("__classdict__" : Str)) = false) tac14) : Ev G fr A F H (eval (.Name x pos) env) Q E := fun K m R s hR => by
  obtain ⟨o, v, ho, hd', hv⟩ := hm
  exact wpAny_Name (wpAny_loadName_free hk hx hc ⟨o, hR.fz _ _ (m _ _ ho), hd'⟩ (vret hR (hv.mono m) m h) hn) hd
end

section
variable {G : Glob} {fr : List Env} {A : Around} {env : Env} {F : Fz} {H : Hp} {E : Value → Fz → Hp → Prop}
theorem Evs_nil {pos} {Q : List V → Fz → Hp → Prop} (h : Q [] F H) : Evs G fr A F H (spliced (backTo pos (starEach [] env))) Q E := fun K m R s hR => args_nil ⟨K, H, .refl K, hR, [], .nil, F, m, h⟩
theorem Evs_cons {e : Expr} {rest : List Expr} {pos} {Q : List V → Fz → Hp → Prop} (h : Ev G fr A F H (eval e env) (fun x F1 H1 => Evs G fr A F1 H1 (spliced (backTo pos (starEach rest env))) (fun xs F2 H2 => Q (x :: xs) F2 H2) E) E)
    (he : autoParam (starEach (e :: rest) env = (false, eval e env) :: starEach rest env) tac0) : Evs G fr A F H (spliced (backTo pos (starEach (e :: rest) env))) Q E := fun K m R s hR =>
  args_cons (h.go m hR (.refl K) fun v x F1 K1 H1 s1 l1 m1 r1 hx h1 => h1.go m1 r1 l1 fun vs xs F2 K2 H2 s2 l2 m2 r2 hxs q => ⟨K2, H2, l1.trans l2, r2, x :: xs, .cons (hx.mono l2) hxs, F2, m2, q⟩) he
inductive KOk (F : Fz) : V → Prop where
  | blt {n : String} : KOk F (.blt n)
  | typ {n : String} : KOk F (.typ n)
  | fn {a : Addr} {o : Obj} {fd : FuncData} (h : F a = some o) (hd : o.data = .func fd) : KOk F (.ref a)
  | meth {a : Addr} {o : Obj} {vs : Array Value} (h : F a = some o) (hd : o.data = .fields vs) (hc : o.cls = .type "builtin_function_or_method") : KOk F (.ref a)
theorem callWith_meth' {M : Model} {pos : Pos} {a : Addr} {o : Obj} {vs : Array Value} {args : List (Bool × Sem Value)} {Q E : Value → Shared → Prop} {s : Shared} (hd : o.data = .fields vs) (hc : o.cls = .type "builtin_function_or_method") (hplain : args.any (·.1) = false)
    (h : wpAny M A (evalArgs (.ref a) true args []) (fun x s₁ => s₁.heap.get? a = some o ∧ wpAny M A (call (.ref a) ([] ++ x.pos) x.kw) Q E s₁) E s) : wpAny M A (callWith pos (.ref a) [] args []) Q E s := by
  unfold callWith
  refine wpAny_bind (wpAny_holding (wpAny_mono h (fun x s₁ h₁ => wpAny_bind (wpAny_standAt ?_)) fun _ _ x => x))
  rw [hplain]
  refine wpAny_bind (m := keeperOf (.ref a)) (wpAny_bind (wpAny_load h₁.1 ?_))
  rw [hd, hc]
  refine wpAny_pure (?_ : wpAny _ _ (_ >>= _) _ _ _)
  exact (wpAny_bind (wpAny_mono h₁.2 (fun r s₂ hr => wpAny_bind (wpAny_holding (wpAny_point (wpAny_pure hr)))) fun _ _ x => x))
theorem KOk.mono {F F' : Fz} {x : V} (le : F.le F') (h : KOk F x) : KOk F' x := by
  cases h with
  | blt => exact .blt
  | typ => exact .typ
  | fn h hd => exact .fn (le _ _ h) hd
  | meth h hd hc => exact .meth (le _ _ h) hd hc
noncomputable def Cl (G : Glob) (fr : List Env) (A : Around) (F : Fz) (H : Hp) (f : V) (xs : List V) (Q : V → Fz → Hp → Prop) (E : Value → Fz → Hp → Prop) : Prop :=
  ∀ K, F.le K → ∀ v vs, RV K v f → RVs K vs xs → EvAt G fr A K H (call v vs) Q E
variable {Q : V → Fz → Hp → Prop}
theorem callW {pos : Pos} {s : Shared} {F1 : Fz} {f : Value} {x : V} {args : List (Bool × Sem Value)} {P E' : Value → Shared → Prop} (hx : RV F1 f x) (hk : KOk F1 x) (hp : args.any (·.1) = false)
    (key : wpAny G.M A (evalArgs f true args []) (fun a s2 => a.kw = [] ∧ (∀ b o, F1 b = some o → s2.heap.get? b = some o) ∧ wpAny G.M A (call f a.pos) P E' s2) E' s) : wpAny G.M A (callWith pos f [] args []) P E' s := by
  have key' : wpAny G.M A (evalArgs f true args []) (fun a s2 => (∀ b o, F1 b = some o → s2.heap.get? b = some o) ∧ wpAny G.M A (call f ([] ++ a.pos) a.kw) P E' s2) E' s :=
    wpAny_mono key (fun a s2 h => ⟨h.2.1, h.1.symm ▸ h.2.2⟩) fun _ _ x => x
  clear key
  cases hk with
  | blt => exact hx.e_blt (P := fun f => wpAny G.M A (evalArgs f true args []) (fun a s2 => (∀ b o, F1 b = some o → s2.heap.get? b = some o) ∧ wpAny G.M A (call f ([] ++ a.pos) a.kw) P E' s2) E' s → wpAny G.M A (callWith pos f [] args []) P E' s) (fun key => callWith_builtin hp (wpAny_mono key (fun _ _ h => h.2) fun _ _ x => x)) key'
  | typ => exact hx.e_typ (P := fun f => wpAny G.M A (evalArgs f true args []) (fun a s2 => (∀ b o, F1 b = some o → s2.heap.get? b = some o) ∧ wpAny G.M A (call f ([] ++ a.pos) a.kw) P E' s2) E' s → wpAny G.M A (callWith pos f [] args []) P E' s) (fun key => PyProof.Rows.callWith_type hp (wpAny_mono key (fun _ _ h => h.2) fun _ _ x => x)) key'
  | fn h hd => exact hx.e_ref (P := fun f => wpAny G.M A (evalArgs f true args []) (fun a s2 => (∀ b o, F1 b = some o → s2.heap.get? b = some o) ∧ wpAny G.M A (call f ([] ++ a.pos) a.kw) P E' s2) E' s → wpAny G.M A (callWith pos f [] args []) P E' s) (fun key => callWith_function (wpAny_mono key (fun _ _ q => ⟨⟨q.1 _ _ h, hd⟩, q.2⟩) fun _ _ x => x)) key'
  | meth h hd hc => exact hx.e_ref (P := fun f => wpAny G.M A (evalArgs f true args []) (fun a s2 => (∀ b o, F1 b = some o → s2.heap.get? b = some o) ∧ wpAny G.M A (call f ([] ++ a.pos) a.kw) P E' s2) E' s → wpAny G.M A (callWith pos f [] args []) P E' s) (fun key => callWith_meth' hd hc hp (wpAny_mono key (fun _ _ q => ⟨q.1 _ _ h, q.2⟩) fun _ _ x => x)) key'
theorem Ev_Call {func e : Expr} {rest : List Expr} {pos} (h : Ev G fr A F H (eval func env) (fun f F1 H1 => KOk F1 f ∧ Evs G fr A F1 H1 (spliced (backTo pos (starEach (e :: rest) env))) (fun xs F2 H2 => Cl G fr A F2 H2 f xs Q E) E) E)
    (he : autoParam (eval (.Call func (e :: rest) [] pos) env = (do callWith pos (← eval func env) [] (backTo pos (starEach (e :: rest) env)) (backToKw pos (keywordEach [] env)))) tac0)
    (hs : autoParam (starEach (e :: rest) env = (false, eval e env) :: starEach rest env) tac0) (hplain : autoParam ((backTo pos (starEach rest env)).any (·.1) = false) tac0) :
    Ev G fr A F H (eval (.Call func (e :: rest) [] pos) env) Q E := fun K m R s hR => by
  refine Call_ (h.go m hR (.refl K) fun f x F1 K1 H1 s1 l1 m1 r1 hx hq => ?_) he
  obtain ⟨hk, h1⟩ := hq
  have hp : (backTo pos (starEach (e :: rest) env)).any (·.1) = false := by rw [hs]; show (false || (backTo pos (starEach rest env)).any (·.1)) = false; rw [hplain]; rfl
  refine callW hx (hk.mono m1) hp ?_
  rw [hs] at h1 ⊢
  refine evalArgs_plain ?_
  exact (show Evs G fr A F1 H1 (spliced ((false, eval e env) :: backTo pos (starEach rest env))) _ E from h1).go m1 r1 l1 fun vs xs F2 K2 H2 s2 l2 m2 r2 hxs q => ⟨rfl, fun b o e => r2.fz b o (l2 b o e), (q K2 m2 f vs (hx.mono l2) hxs).last r2 (l1.trans l2)⟩
theorem Ev_Call0 {func : Expr} {pos} (h : Ev G fr A F H (eval func env) (fun f F1 H1 => KOk F1 f ∧ Cl G fr A F1 H1 f [] Q E) E)
    (he : autoParam (eval (.Call func [] [] pos) env = (do callWith pos (← eval func env) [] (backTo pos (starEach [] env)) (backToKw pos (keywordEach [] env)))) tac0) :
    Ev G fr A F H (eval (.Call func [] [] pos) env) Q E := fun K m R s hR => by
  refine Call_ (h.go m hR (.refl K) fun f x F1 K1 H1 s1 l1 m1 r1 hx hq => ?_) he
  obtain ⟨hk, h1⟩ := hq
  refine callW hx (hk.mono m1) rfl (PyProof.Rows.evalArgs_none ⟨rfl, fun b o e => r1.fz b o e, (h1 K1 m1 f [] hx .nil).last r1 l1⟩)
inductive TyIs (F : Fz) (H : Hp) : V → String → Prop where
  | str {x : Str} : TyIs F H (.str x) "str"
  | int {i : Int} : TyIs F H (.int i) "int"
  | tup {l : List V} : TyIs F H (.tup l) "tuple"
  | list {a : Addr} {l : List V} (h : Has H a (.list l)) : TyIs F H (.ref a) "list"
  | dict {a : Addr} {l : List (V × V)} (h : Has H a (.dict l)) : TyIs F H (.ref a) "dict"
  | frz {a : Addr} {o : Obj} {T : String} (h : F a = some o) (hc : o.cls = .type T) (hd : o.dict = none) : TyIs F H (.ref a) T
theorem TyIs.mono {F F' : Fz} {H : Hp} {x : V} {T : String} (le : F.le F') (h : TyIs F H x T) : TyIs F' H x T := by
  cases h with
  | str => exact .str
  | int => exact .int
  | tup => exact .tup
  | list h => exact .list h
  | dict h => exact .dict h
  | frz h hc hd => exact .frz (le _ _ h) hc hd
noncomputable def TyOf (s : Shared) (T : String) (v : Value) : Prop := s.TypeIs v T ∧ ∀ a, v = .ref a → ∃ ob, s.heap.get? a = some ob ∧ ob.dict = none
theorem ty_of {s : Shared} {a : Addr} {o : Obj} {T : String} (h : s.heap.get? a = some o) (hc : o.cls = .type T) (hd : o.dict = none) : TyOf s T (.ref a) :=
  ⟨⟨_, h, hc⟩, fun b e => by cases e; exact ⟨_, h, hd⟩⟩
theorem TyIs.typeIs {R : Hp} {s : Shared} {x : V} {T : String} {v : Value} (h : TyIs F H x T) (hR : Rep G fr F (H ++ R) s) (hv : RV F v x) : TyOf s T v := by
  cases h with
  | str => exact hv.e_str (P := TyOf s _) fun _ => ⟨typeIs_str _ _ _, fun _ e => nomatch e⟩
  | int => exact hv.e_int (P := TyOf s _) fun _ => ⟨typeIs_int _ _ _, fun _ e => nomatch e⟩
  | tup => exact hv.e_tup (P := TyOf s _) fun _ _ _ h _ _ => ty_of (hR.fz _ _ h) rfl rfl
  | list h =>
    obtain ⟨o, ho, vs, n, rfl, _⟩ := hR.has h
    exact hv.e_ref (P := TyOf s _) (ty_of ho rfl rfl)
  | dict h =>
    obtain ⟨o, ho, vs, n, rfl, _⟩ := hR.has h
    exact hv.e_ref (P := TyOf s _) (ty_of ho rfl rfl)
  | frz h hc hd => exact hv.e_ref (P := TyOf s _) (ty_of (hR.fz _ _ h) hc hd)

inductive Meth (G : Glob) (fr : List Env) (A : Around) (env : Env) (pos : Pos) (args : List Expr) (name : Str) (Q : V → Fz → Hp → Prop) (E : Value → Fz → Hp → Prop) (x : V) (F1 : Fz) (H1 : Hp) : Prop where
  | mk (T id : String) (h1 : PlainAttrs T) (h2 : Slot T name id) (h3 : typeOf (.builtin id) = pure (.type "method_descriptor")) (h4 : TyIs F1 H1 x T)
    (h : Evs G fr A F1 H1 (spliced (backTo pos (starEach args env))) (fun xs F2 H2 => Cl G fr A F2 H2 (.blt id) (x :: xs) Q E) E)
theorem Ev_method {o : Expr} {name : Str} {apos pos : Pos} {args : List Expr}
    (h : Ev G fr A F H (eval o env) (Meth G fr A env pos args name Q E) E)
    (hbase : autoParam (attributeBase o name env (eval o env) = eval o env) tac0)
    (hfew : autoParam (((backTo pos (starEach args env)).all (fun x => !x.1) && (backToKw pos (keywordEach [] env)).all (fun x => x.1.isSome)
      && decide (args.length + ([] : List Keyword).length + (if ([] : List Keyword).isEmpty then 0 else 1) < 30)) = true) tac0)
    (hline : autoParam ((apos.endLine == pos.line) = true) tac0)
    (hargs : ∀ f (Q : Args → Shared → Prop) E s, wpAny G.M A (spliced (backTo pos (starEach args env))) (fun vs s' => Q ⟨vs, []⟩ s') E s → wpAny G.M A (evalArgs f true (backTo pos (starEach args env)) []) Q E s := by intro _ _ _ _ h; first | exact evalArgs_plain h | exact Mine.evalArgs_nil' h)
    (hplain : autoParam ((backTo pos (starEach args env)).any (·.1) = false) tac0) :
    Ev G fr A F H (eval (.Call (.Attribute o name apos) args [] pos) env) Q E := fun K m R s hR => by
  refine wpAny_Call_method_lateS hbase hfew hline (h.go m hR (.refl K) fun v x F1 K1 H1 s1 l1 m1 r1 hx hq => ?_)
  obtain ⟨T, id, pa, sl, ht, ty, h1⟩ := hq
  obtain ⟨t1, t2⟩ := (ty.mono m1).typeIs r1 hx
  refine ⟨T, id, pa, sl, ht, t1, t2, callWith_builtin hplain (hargs _ _ _ _ ?_)⟩
  exact h1.go m1 r1 l1 fun vs xs F2 K2 H2 s2 l2 m2 r2 hxs q => (q K2 m2 (.builtin id) (v :: vs) .blt (.cons (hx.mono l2) hxs)).last r2 (l1.trans l2)
theorem evalArgs_nil' {M : Model} {pos : Pos} {f : Value} {E : Value → Shared → Prop} {s : Shared} {Q : Args → Shared → Prop} (h : wpAny M A (spliced (backTo pos (starEach [] env))) (fun vs s' => Q ⟨vs, []⟩ s') E s) : wpAny M A (evalArgs f true (backTo pos (starEach [] env)) []) Q E s := by
  have h' : wpAny M A (pure [] : Sem (List Value)) (fun vs s' => Q ⟨vs, []⟩ s') E s := h
  intro Γ p hΓ
  exact PyProof.Rows.evalArgs_none (h' Γ p hΓ) Γ p hΓ
end

section
variable {G : Glob} {fr : List Env} {A : Around} {F : Fz} {H : Hp} {E : Value → Fz → Hp → Prop} {E' : Addr → Value → Fz → Hp → Prop} {Q : V → Fz → Hp → Prop}
inductive CodeF (F : Fz) (cd : Value) (q : Str) : Prop where
  | intro (c : Addr) (o : Obj) (vs : Array Value) (t : Tok) (h1 : cd = .ref c) (h2 : F c = some o) (h3 : o.data = .fields vs) (h4 : vs[1]? = some (.str q t))
theorem CodeF.mono {F F' : Fz} {cd : Value} {q : Str} (le : F.le F') (h : CodeF F cd q) : CodeF F' cd q := by obtain ⟨c, o, vs, t, e, g, d, r⟩ := h; exact ⟨c, o, vs, t, e, le _ _ g, d, r⟩
theorem CodeF.crec {cd : Value} {q : Str} {h : Heap} (x : CodeF F cd q) (k : ∀ a o, F a = some o → h.get? a = some o) : h.CodeRec cd q := by obtain ⟨c, o, vs, t, e, g, d, r⟩ := x; exact ⟨c, o, vs, t, e, k _ _ g, d, r⟩
structure Deep (A A' : Around) (env : Env) : Prop where
  handled : A'.handled = A.handled
  depth : A'.depth = A.depth + 1
  units : A'.units = A.units + 3
  guards : A'.guards = A.guards
  frames : A'.frames = A.frames.map (env :: ·)
theorem deep (A : Around) (env : Env) : Deep A (A.deeper env) env := ⟨rfl, rfl, rfl, rfl, rfl⟩
structure Ok (fr : List Env) (A : Around) (n : Nat) : Prop where
  handled : A.handled = none
  depth : A.depth + n < recursionLimit
  units : A.units + 8 * n < cLine
  guards : A.guards = some []
  frames : A.frames = some fr
theorem Ok.room {fr : List Env} {A : Around} {n : Nat} (h : Ok fr A n) : A.depth < recursionLimit := Nat.lt_of_le_of_lt (Nat.le_add_right _ _) h.depth
theorem Ok.deep {fr : List Env} {A A' : Around} {env : Env} {n : Nat} (h : Ok fr A (n + 1)) (d : Deep A A' env) : Ok (env :: fr) A' n :=
  ⟨d.handled.trans h.handled, by rw [d.depth]; have := h.depth; lia, by rw [d.units]; have := h.units; lia, d.guards.trans h.guards, by rw [d.frames, h.frames]; rfl⟩
theorem Ok.less {fr : List Env} {A : Around} {n m : Nat} (h : Ok fr A n) (hm : m ≤ n) : Ok fr A m := ⟨h.handled, Nat.lt_of_le_of_lt (Nat.add_le_add_left hm _) h.depth, Nat.lt_of_le_of_lt (Nat.add_le_add_left (Nat.mul_le_mul_left 8 hm) _) h.units, h.guards, h.frames⟩
inductive Ret (L : Addr) (Q : V → Fz → Hp → Prop) (fv : FV) (F : Fz) (H : Hp) : Prop where
  | intro (ρ : List (Str × Option V)) (H' : Hp) (hr : Rem H L (.ns ρ) H') (h : Q (match fv with | .ret x => x | _ => .none) F H')
noncomputable def Leaves (G : Glob) (fr : List Env) (A : Around) (env : Env) (E E' : Value → Fz → Hp → Prop) : Prop :=
  (∀ e ∈ fr, e.frame ≠ env.frame) → ∀ K R e s, PQ G (env :: fr) K R (fun e => Dn (E e)) e s → wpAny G.M (A.deeper env) (leaving env e) (fun _ s' => PQ G fr K R (fun e => Dn (E' e)) e s') (fun e' s' => PQ G fr K R (fun e => Dn (E' e)) e' s') s
theorem leaves_no {env : Env} : Leaves G fr A env No E := fun _ _ _ _ _ h => (noPQ h).elim
noncomputable def mkRho (ns : List Str) (xs : List V) (r : List Str) : List (Str × Option V) := (ns.zip xs).map (fun p => (p.1, some p.2)) ++ r.map fun n => (n, none)
theorem mkRho_names {ns : List Str} {xs : List V} {r : List Str} (h : ns.length = xs.length) : (mkRho ns xs r).map (·.1) = ns ++ r := by
  unfold mkRho
  rw [List.map_append, List.map_map, List.map_map]
  show (ns.zip xs).map Prod.fst ++ r.map id = _
  rw [List.map_fst_zip (Nat.le_of_eq h), List.map_id]
theorem zip_rv {ns : List Str} {xs : List V} {vs : List Value} (hl : ns.length = xs.length) (hv : RVs F vs xs) : ∀ q ∈ ns.zip xs, ∃ v, (q.1, v) ∈ ns.zip vs ∧ RV F v q.2 := by
    intro q hq
    induction hv generalizing ns with
    | nil => rw [List.zip_nil_right] at hq; cases hq
    | cons h t ih =>
      cases ns with
      | nil => cases hq
      | cons n ns =>
        rcases List.mem_cons.mp hq with rfl | hq
        · exact ⟨_, .head _, h⟩
        · obtain ⟨v, b, c⟩ := ih (Nat.succ.inj hl) hq
          exact ⟨v, .tail _ b, c⟩
theorem mem_mkRho {ns : List Str} {xs : List V} {r : List Str} {vs : List Value} (hl : ns.length = xs.length) (hv : RVs F vs xs) : ∀ p ∈ mkRho ns xs r, (p.1 ∈ r ∧ p.2 = none) ∨ ∃ x v, p.2 = some x ∧ (p.1, v) ∈ ns.zip vs ∧ RV F v x := by
  intro p hp
  rcases List.mem_append.mp hp with hp | hp
  · obtain ⟨q, hq, rfl⟩ := List.mem_map.mp hp
    obtain ⟨v, b, c⟩ := zip_rv hl hv q hq
    exact .inr ⟨_, v, rfl, b, c⟩
  · obtain ⟨n, hn, rfl⟩ := List.mem_map.mp hp
    exact .inl ⟨hn, rfl⟩
theorem lookup_mem {β : Type} {l : List (Str × β)} {n : Str} {v : β} (nd : (l.map (·.1)).Nodup) (h : (n, v) ∈ l) : l.lookup n = some v := by
  induction l with
  | nil => cases h
  | cons p l ih =>
    rw [List.map_cons, List.nodup_cons] at nd
    rcases List.mem_cons.mp h with e | h
    · subst e
      rw [List.lookup_cons, beq_self_eq_true]
    · have hne : (n == p.1) = false := by
        refine beq_eq_false_iff_ne.mpr fun e => nd.1 ?_
        have := List.mem_map_of_mem (f := fun q : Str × β => q.1) h
        exact e ▸ this
      rw [List.lookup_cons, hne]
      exact ih nd.2 h
theorem zip_names {ns : List Str} {vs : List Value} (h : ns.length = vs.length) : (ns.zip vs).map (·.1) = ns := by
  rw [List.map_fst_zip]; lia
theorem call_def {a : Addr} {fo : Obj} {name qual : Str} {params : Arguments} {scope : Scope} {cl : List (Str × Addr)} {dV kV doc pm cdv ct : Value} {an : Option Addr} {body : List Stmt} {xs : List V} (hf : F a = some fo)
    (hd : fo.data = .func (fnX name qual params body scope cl dV kV doc pm an cdv ct)) (hcd : CodeF F cdv qual)
    (ns rest : List Str) (hn : ns.length = xs.length) (hnd : (ns ++ rest).Nodup) (hbind : ∀ vs : List Value, vs.length = xs.length → bindArgs (fnX name qual params body scope cl dV kV doc pm an cdv ct) ⟨vs, []⟩ = pure (ns.zip vs))
    (hcell : (scope.names.all fun x => x.2 != .cell) = true) (hloc : (ns.all fun x => decide (scope.names.lookup x = some .local)) = true)
    (hroom : A.depth < recursionLimit) (hE : ∀ L, Leaves G fr A (envX qual scope L a cdv cl) (E' L) E)
    (h : ∀ L A', Deep A A' (envX qual scope L a cdv cl) → Ex G (envX qual scope L a cdv cl :: fr) A' F ((L, .ns (mkRho ns xs rest)) :: H) (execs body (envX qual scope L a cdv cl)) (Ret L Q) (E' L))
    (hco : autoParam (scope.isCoroutine = false) tac0) (hgen : autoParam (scope.isGenerator = false) tac0) (hk : autoParam (scope.kind = .function) tac0) :
    Cl G fr A F H (.ref a) xs Q E := fun K m v vs hv hvs R s hR => by
  obtain rfl := hv.i_ref
  have hlen := hvs.length
  refine wpAny_call (codeAny_call_def hroom (hR.fz _ _ (m _ _ hf)) hd hR.glob.2.2 ((hcd.mono m).crec hR.fz) rfl (BindsTo.of_eq (hbind vs hlen)) (fun x hx => by simpa using List.all_eq_true.mp hcell x hx) (fun x hx => of_decide_eq_true (List.all_eq_true.mp hloc _ (List.of_mem_zip hx).1)) (fun h₀ hns₀ hk₀ => ?_) hco hgen hk)
  have nd1 : ((ns.zip vs).reverse.map (·.1)).Nodup := by
    rw [List.map_reverse, (List.reverse_perm _).nodup_iff, zip_names (by lia)]
    exact (List.nodup_append.mp hnd).1
  have fresh : ∀ env ∈ fr, env.frame ≠ some s.heap.objs.size := fun env he e => by
    obtain ⟨L, ρ, q, m⟩ := (hR.frs env he).2
    obtain ⟨_, o, g, _⟩ := hR.own _ m
    rw [Option.some.inj (q.symm.trans e)] at g
    exact absurd (Heap.lt_size g) (Nat.lt_irrefl _)
  have r1 : Rep G (envX qual scope s.heap.objs.size a cdv cl :: fr) K (((s.heap.objs.size, AO.ns (mkRho ns xs rest)) :: H) ++ R) { s with heap := h₀, toks := s.toks + (ns.zip vs).length } := by
    obtain ⟨o, es, ep, ho, hdd, hkk, hff⟩ := hns₀
    have := hR.new (D := s.heap.objs.size) (x := AO.ns (mkRho ns xs rest)) (tk := s.toks + (ns.zip vs).length) (dr := s.drawn) hk₀ (none_at_size _) ho ⟨es, ep, hdd, hkk, by rw [mkRho_names hn]; exact hnd, fun p hp => by
      rcases mem_mkRho hn hvs p hp with ⟨h1, h2⟩ | ⟨x, v, h1, h2, h3⟩
      · rw [h2]
        trivial
      · rw [h1]
        exact ⟨v, (hff _).trans (lookup_mem nd1 (List.mem_reverse.mpr h2)), h3⟩⟩
    exact ⟨this.gok, this.base, this.fz, this.own, this.nd, fun env he => by
      rcases List.mem_cons.mp he with rfl | he
      · exact ⟨hk, _, _, rfl, .head _⟩
      · exact this.frs env he, this.gens, this.os⟩
  refine wpAny_mono (h s.heap.objs.size _ (deep A _) K m R _ r1) (fun f s' hq => ?_) fun e s' q => wpAny_mono (hE _ fresh K R e s' q) (fun _ _ x => x) fun _ _ x => x
  obtain ⟨F', H', l', r', fv, hfv, F1, m1, ρ, H2, hrem, q⟩ := hq
  have r2 : Rep G fr F' (H2 ++ R) s' := (r'.pop.perm (hrem.perm.append_right R)).drop fresh
  refine ⟨F', H2, l', r2, _, ?_, F1, m1, q⟩
  cases hfv with
  | next => exact .none
  | brk => exact .none
  | cont => exact .none
  | ret hx => exact hx
end
section
variable {G : Glob} {fr : List Env} {A : Around} {env : Env} {F : Fz} {H H' : Hp} {E : Value → Fz → Hp → Prop} {Q : V → Fz → Hp → Prop}

theorem RVs.toArr {vs : Array Value} {l : List V} (h : RVs F vs.toList l) : vs.size = l.length := by rw [← h.length]; simp
theorem cl_b1 {n : String} {x : V} (k : ∀ K, F.le K → ∀ a, RV K a x → EvAt G fr A K H (call (.builtin n) [a]) Q E) : Cl G fr A F H (.blt n) [x] Q E := fun K m v vs hv hvs => hv.e_blt (P := fun v => EvAt _ _ _ _ _ (call v vs) _ _) (hvs.e1 (P := fun vs => EvAt _ _ _ _ _ (call _ vs) _ _) (k K m))
theorem cl_b2 {n : String} {x y : V} (k : ∀ K, F.le K → ∀ a b, RV K a x → RV K b y → EvAt G fr A K H (call (.builtin n) [a, b]) Q E) : Cl G fr A F H (.blt n) [x, y] Q E := fun K m v vs hv hvs => hv.e_blt (P := fun v => EvAt _ _ _ _ _ (call v vs) _ _) (hvs.e2 (P := fun vs => EvAt _ _ _ _ _ (call _ vs) _ _) (k K m))
theorem cl_t0 {n : String} (k : ∀ K, F.le K → EvAt G fr A K H (call (.type n) []) Q E) : Cl G fr A F H (.typ n) [] Q E := fun K m v vs hv hvs => hv.e_typ (P := fun v => EvAt _ _ _ _ _ (call v vs) _ _) (hvs.e0 (P := fun vs => EvAt _ _ _ _ _ (call _ vs) _ _) (k K m))
theorem cl_t1 {n : String} {x : V} (k : ∀ K, F.le K → ∀ a, RV K a x → EvAt G fr A K H (call (.type n) [a]) Q E) : Cl G fr A F H (.typ n) [x] Q E := fun K m v vs hv hvs => hv.e_typ (P := fun v => EvAt _ _ _ _ _ (call v vs) _ _) (hvs.e1 (P := fun vs => EvAt _ _ _ _ _ (call _ vs) _ _) (k K m))
theorem cl_t2 {n : String} {x y : V} (k : ∀ K, F.le K → ∀ a b, RV K a x → RV K b y → EvAt G fr A K H (call (.type n) [a, b]) Q E) : Cl G fr A F H (.typ n) [x, y] Q E := fun K m v vs hv hvs => hv.e_typ (P := fun v => EvAt _ _ _ _ _ (call v vs) _ _) (hvs.e2 (P := fun vs => EvAt _ _ _ _ _ (call _ vs) _ _) (k K m))
theorem notNs_dict {l l' : List (V × V)} : (∃ ρ, AO.dict l = .ns ρ) → ∃ ρ, AO.dict l' = .ns ρ := fun h => by obtain ⟨_, q⟩ := h; cases q
theorem notNs_attrs {l l' : List (Str × V)} : (∃ ρ, AO.attrs l = .ns ρ) → ∃ ρ, AO.attrs l' = .ns ρ := fun h => by obtain ⟨_, q⟩ := h; cases q
theorem notNs_list {l l' : List V} : (∃ ρ, AO.list l = .ns ρ) → ∃ ρ, AO.list l' = .ns ρ := fun h => by obtain ⟨_, q⟩ := h; cases q
theorem len_list {a : Addr} {l : List V} (hm : Has H a (.list l)) (hl : l.length < 2 ^ 63) (h : Q (.int l.length) F H) : Cl G fr A F H (.blt "len") [.ref a] Q E := cl_b1 fun K m v hv => by
    refine hv.e_ref (P := fun v => EvAt _ _ _ _ _ (call _ [v]) _ _) fun R s hR => ?_
    obtain ⟨o, ho, items, n, rfl, hr⟩ := hR.has hm
    have e := hr.toArr
    refine call_len_list ⟨_, ho, rfl, n, rfl⟩ (by rw [e]; exact_mod_cast hl) ?_
    rw [e]
    exact vret (hR.toks _) .int m h
theorem divmod_ii {i j : Int} (hj : j ≠ 0) (hs : j.natAbs < 1073741824) (h : Q (.tup [.int (i.fdiv j), .int (i.fmod j)]) F H) : Cl G fr A F H (.blt "divmod") [.int i, .int j] Q E := cl_b2 fun K m v w hv hw => by
      refine hv.e_int (P := fun v => EvAt _ _ _ _ _ (call _ [v, w]) _ _) fun t => hw.e_int (P := fun w => EvAt _ _ _ _ _ (call _ [_, w]) _ _) fun u R s hR => ?_
      refine divmod_int hj ?_ (.inl (PyProof.noPylong_small hs))
      obtain ⟨le, r⟩ := hR.newF (D := s.heap.objs.size) (tk := s.toks + 1 + 1) (dr := s.drawn) (fun b o e => Heap.get?_push_of_some { cls := .type "tuple", data := .seq #[.int (i.fdiv j) s.toks, .int (i.fmod j) (s.toks + 1)] } e) (none_at_size _) (Heap.get?_push_size _ rfl)
      exact ⟨_, H, le, r, _, .tup (vs := [.int (i.fdiv j) s.toks, .int (i.fmod j) (s.toks + 1)]) (Fz.add_self _ _ _) rfl (RVs.get (.cons .int (.cons .int .nil))), F, m.trans le, h⟩
theorem append {a : Addr} {l : List V} {x : V} (hu : Upd H a (.list l) (.list (l ++ [x])) H') (hl : l.length ≤ sizeLine) (h : Q .none F H') : Cl G fr A F H (.blt "list.append") [.ref a, x] Q E := cl_b2 fun K m w v hw h2 => by
      refine hw.e_ref (P := fun w => EvAt _ _ _ _ _ (call _ [w, v]) _ _) fun R s hR => ?_
      obtain ⟨o, ho, items, n, rfl, hr⟩ := hR.get hu.mem
      have e := hr.toArr
      refine call_meets slot_list_append ⟨_, ho, rfl⟩ entry_list_append (args_list_append _ _) (PySem.AutoListH.list_append_list_val_0 a items n v (by rw [e]; exact hl)) ⟨ho, ?_⟩
      have g := Heap.get?_update_self (Obj.mapSeq fun x => x.push v) ho rfl
      exact ⟨K, H', .refl K, hR.upd' (tk := s.toks) (dr := s.drawn) hu (Heap.SameBut.update ..).extBut g ⟨_, _, rfl, by simpa using hr.append (.cons h2 .nil)⟩ notNs_list, _, .none, F, m, h⟩

noncomputable def Stores (env : Env) : List Str → List V → Fz → Hp → (Fz → Hp → Prop) → Prop
  | x :: xs, y :: ys, F, H, Q => Store env x y F H fun F1 H1 => Stores env xs ys F1 H1 Q
  | [], [], F, H, Q => Q F H
  | _, _, _, _, _ => False
noncomputable def nameOf? : Expr → Option (Str × Pos)
  | .Name x p => some (x, p)
  | _ => none
noncomputable def namesOf? : List Expr → Option (List Str)
  | [] => some []
  | e :: r => match nameOf? e, namesOf? r with
    | some p, some xs => some (p.1 :: xs)
    | _, _ => none
theorem nameOf_eq {e : Expr} {p : Str × Pos} (h : nameOf? e = some p) : e = .Name p.1 p.2 := by
  cases e <;> first | (cases h; rfl) | cases h
theorem namesOf_ind {P : List Expr → List Str → Prop} (h0 : P [] []) (h1 : ∀ x pos es xs, P es xs → P (.Name x pos :: es) (x :: xs)) : ∀ (es : List Expr) (xs : List Str), namesOf? es = some xs → P es xs
  | [], xs, h => Option.some.inj h ▸ h0
  | e :: r, xs, h => by
    have h : (match nameOf? e, namesOf? r with
      | some p, some xs => some (p.1 :: xs)
      | _, _ => none) = some xs := h
    cases e1 : nameOf? e with
    | none => rw [e1] at h; cases h
    | some p =>
      cases e2 : namesOf? r with
      | none => rw [e1, e2] at h; cases h
      | some ys =>
        rw [e1, e2] at h
        rw [nameOf_eq e1, ← Option.some.inj h]
        exact h1 _ _ _ _ (namesOf_ind h0 h1 r ys e2)
theorem assignAll_ (hk : env.scope.kind = .function) {es : List Expr} {xs : List Str} {ys : List V} {vs : List Value} {F K : Fz} {H : Hp} {Q : Fz → Hp → Prop} (m : F.le K) (hn : namesOf? es = some xs) (hl : ∀ x ∈ xs, env.kindOf x = some .local) (hv : RVs K vs ys) (h : Stores env xs ys F H Q) :
    TpAt G fr A K H (assignInOrder ((assignEach es env).map (·.2)) vs) (fun _ => Dn Q) E := by
  refine namesOf_ind (P := fun es xs => ∀ (ys : List V) (vs : List Value) (F K : Fz) (H : Hp), F.le K → (∀ x ∈ xs, env.kindOf x = some .local) → RVs K vs ys → Stores env xs ys F H Q → TpAt G fr A K H (assignInOrder ((assignEach es env).map (·.2)) vs) (fun _ => Dn Q) E) ?_ ?_ es xs hn ys vs F K H m hl hv h
  · intro ys vs F K H m hl hv h
    cases hv with
    | nil => exact fun R s hR => wpAny_pure (tret (Q := fun _ => Q) hR m h)
    | cons => exact h.elim
  · intro x pos es xs ih ys vs F K H m hl hv h R s hR
    cases hv with
    | nil => exact h.elim
    | @cons v y vs ys h1 h2 =>
      show wpAny _ _ (do holding vs (assign (.Name x pos) env v); assignInOrder ((assignEach es env).map (·.2)) vs) _ _ s
      refine wpAny_bind (wpAny_holding (wpAny_assign_Name ((store (G := G) (fr := fr) (A := A) (E := E) m h1 (show Store _ _ _ _ _ _ from h) hk (hl x (.head _))).seq hR (.refl K) fun _ K2 H2 s2 l2 r2 hq => ?_)))
      obtain ⟨F2, m2, q⟩ := hq
      exact (ih ys vs F2 K2 H2 m2 (fun x hx => hl x (.tail _ hx)) (h2.mono l2) q).last r2 l2
theorem extBut_keeps {h h' : Heap} (x : Heap.ExtBut h.objs.size h h') : ∀ b o, h.get? b = some o → h'.get? b = some o := fun b o e => x b o (Nat.ne_of_lt (Heap.lt_size e)) e
theorem assignEach_names {env : Env} {es : List Expr} {xs : List Str} (h : namesOf? es = some xs) : (assignEach es env).length = xs.length ∧ (assignEach es env).findIdx? (·.1) = none := by
  refine namesOf_ind (P := fun es xs => (assignEach es env).length = xs.length ∧ (assignEach es env).findIdx? (·.1) = none) ⟨rfl, rfl⟩ ?_ es xs h
  intro x pos es xs ih
  refine ⟨congrArg (· + 1) ih.1, ?_⟩
  show ((false, assign (.Name x pos) env) :: assignEach es env).findIdx? (·.1) = none
  rw [List.findIdx?_cons, ih.2]
  rfl
theorem As_Tuple {es : List Expr} {k pos} {xs : List Str} {ys : List V} {Q : Fz → Hp → Prop} (hh : A.handled = none) (hn : namesOf? es = some xs) (hl : (xs.all fun x => decide (env.kindOf x = some .local)) = true) (hlen : xs.length = ys.length) (h : Stores env xs ys F H Q)
    (hk : autoParam (env.scope.kind = .function) tac0) : As G fr A env F H (.Tuple es k pos) (.tup ys) Q E := fun K m v hv => by
  refine hv.e_tup (P := fun v => TpAt _ _ _ _ _ (assign _ _ v) _ _) fun a vs n ha hlv hr R s hR => ?_
  obtain ⟨e1, e2⟩ := assignEach_names (env := env) hn
  refine assign_Tuple_tuple (items := vs.toArray) hh ⟨_, hR.fz _ _ ha, rfl, n, rfl⟩ (by rw [e1]; simp; lia) e2 fun h' he => ?_
  exact (assignAll_ hk m hn (fun x hx => of_decide_eq_true (List.all_eq_true.mp hl x hx)) (RVs.of hlv hr) h) R _ (hR.keeps (tk := s.toks) (dr := s.drawn) (extBut_keeps he))
theorem Ex_Assign_Tuple {es : List Expr} {k pos' value pos} {xs : List Str} {Q : FV → Fz → Hp → Prop} (hh : A.handled = none) (hn : namesOf? es = some xs) (hl : (xs.all fun x => decide (env.kindOf x = some .local)) = true)
    (h : Ev G fr A F H (eval value env) (fun y F1 H1 => ∃ ys, y = .tup ys ∧ xs.length = ys.length ∧ Stores env xs ys F1 H1 (Q .next)) E)
    (hs : autoParam (swapsWithSole [.Tuple es k pos'] value pos.line env = pure false) tac0) (hw : autoParam (swappedStores [.Tuple es k pos'] value env = pure none) tac0) (hk : autoParam (env.scope.kind = .function) tac0) :
    Ex G fr A F H (exec (.Assign [.Tuple es k pos'] value pos) env) Q E := fun K m R s hR => by
  have he : exec (.Assign [.Tuple es k pos'] value pos) env = (do
    standAt pos
    if ← swapsWithSole [.Tuple es k pos'] value pos.line env then do
      evalThenUse value env fun v => assignAll v ((assignEach [.Tuple es k pos'] env).map (·.2))
      pure .next
    else do
      let v ← eval value env
      assignStores env v (← swappedStores [.Tuple es k pos'] value env) ((assignEach [.Tuple es k pos'] env).map (·.2))) := rfl
  rw [he, hs, hw]
  refine wpAny_bind (wpAny_standAt (wpAny_bind (wpAny_pure ?_)))
  simp only [Bool.false_eq_true, if_false]
  refine wpAny_bind (h.go m hR (.refl K) fun v y F1 K1 H1 s1 l1 m1 r1 hy hq => wpAny_bind (wpAny_pure ?_))
  obtain ⟨ys, rfl, hlen, q⟩ := hq
  show wpAny _ _ (do assignAll v [assign (.Tuple es k pos') env]; pure Flow.next) _ _ s1
  refine wpAny_bind ?_
  show wpAny _ _ (assign (.Tuple es k pos') env v) _ _ s1
  exact (As_Tuple (G := G) (fr := fr) (E := E) hh hn hl hlen q hk K1 m1 v hy).seq r1 l1 fun _ K2 H2 s2 l2 r2 hq => wpAny_pure (by obtain ⟨F2, m2, q⟩ := hq; exact upPQ (l1.trans l2) (fret r2 .next m2 q))
theorem Ex_Expr {e pos} {Q : FV → Fz → Hp → Prop} (h : Ev G fr A F H (eval e env) (fun x F1 H1 => x = .none ∧ Q .next F1 H1) E) (hi : autoParam (interactive env = false) tac0) (hs : autoParam (swapsWith e none pos.line env = pure false) tac0) :
    Ex G fr A F H (exec (.Expr e pos) env) Q E := fun K m R s hR =>
  wpAny_Expr (h.go m hR (.refl K) fun v x F1 K1 H1 s1 l1 m1 r1 hx hq => by
    obtain ⟨rfl, q⟩ := hq
    obtain rfl := hx.i_none
    exact upPQ l1 (fret r1 .next m1 q)) hi hs
theorem Ev_Tuple {elts : List Expr} {k pos} (h : Evs G fr A F H (spliced (backTo pos (starEach elts env))) (fun xs F1 H1 => xs.length ≤ sizeLine ∧ Q (.tup xs) F1 H1) E) : Ev G fr A F H (eval (.Tuple elts k pos) env) Q E := fun K m R s hR =>
  wpAny_Tuple (h.go m hR (.refl K) fun vs xs F1 K1 H1 s1 l1 m1 r1 hxs hq => by
    obtain ⟨hl, q⟩ := hq
    refine ⟨hxs.length.symm ▸ hl, ?_⟩
    obtain ⟨le, r⟩ := r1.newF (tk := s1.toks) (dr := s1.drawn) (fun b o e => Heap.get?_push_of_some _ e) (none_at_size s1.heap) (Heap.get?_push_size s1.heap (o := { cls := .type "tuple", data := .seq vs.toArray }) rfl)
    exact ⟨_, H1, l1.trans le, r, _, .tup (Fz.add_self _ _ _) hxs.length (hxs.mono le).get, F1, m1.trans le, q⟩)
theorem list_freeze {fr : List Env} {R : Hp} {s : Shared} {a : Addr} {l : List V} (r : Rep G fr F ((a, .list l) :: H ++ R) s) : ∃ F', F.le F' ∧ Rep G fr F' (H ++ R) s ∧ RV F' (.ref a) (.lst l) := by
  obtain ⟨o, ⟨vs, n, rfl, hr⟩, le, r'⟩ := Rep.freeze r fun ρ q => nomatch q
  exact ⟨_, le, r', .lst (vs := vs.toList) (n := n) (Fz.add_self _ _ _) rfl rfl hr.length (hr.mono le).get⟩
theorem Cl.freeze {f : V} {xs : List V} (h : Cl G fr A F H f xs (fun x F1 H1 => ∃ a l H2, x = .ref a ∧ Rem H1 a (.list l) H2 ∧ Q (.lst l) F1 H2) E) : Cl G fr A F H f xs Q E := fun K m v vs hv hvs R s hR => by
  refine wpAny_mono (h K m v vs hv hvs R s hR) (fun v s' hq => ?_) fun _ _ x => x
  obtain ⟨K1, H1, l1, r1, x, hx, F1, m1, a, l, H2, rfl, hrem, q⟩ := hq
  obtain rfl := hx.i_ref
  obtain ⟨K2, l2, r2, hv2⟩ := list_freeze (r1.perm (hrem.perm.append_right R))
  exact ⟨K2, H2, l1.trans l2, r2, _, hv2, F1, m1.trans l2, q⟩
theorem Rep.freezeN {R : Hp} {s : Shared} {x : Str} {L a : Addr} {l : List V} {ρ ρ' : List (Str × Option V)} {H1 H2 : Hp} (hr : Rem H a (.list l) H1) (hu : Upd H1 L (.ns ρ) (.ns ρ') H2) (hx : Lk ρ x (.ref a)) (hs : SetL ρ x (some (.lst l)) ρ')
    (hR : Rep G fr F (H ++ R) s) : ∃ F', F.le F' ∧ Rep G fr F' (H2 ++ R) s := by
  obtain ⟨F', le, r1, hv⟩ := list_freeze (hR.perm (hr.perm.append_right R))
  refine ⟨F', le, ?_⟩
  obtain ⟨o, ho, es, ep, hd, hk, nd, hp⟩ := r1.get hu.mem
  refine r1.upd' (h' := s.heap) (tk := s.toks) (dr := s.drawn) (o' := o) hu (Heap.ExtBut.refl _ _) ho ⟨es, ep, hd, hk, by rw [hs.names.1]; exact nd, fun p hpm => ?_⟩ fun _ => ⟨_, rfl⟩
  rcases hs.spec nd p hpm with ⟨h1, h2⟩ | ⟨h1, h2⟩
  · rw [h2]
    obtain ⟨v, q1, q2⟩ := hp _ hx.mem
    obtain rfl := q2.i_ref
    exact ⟨_, by rw [h1]; exact q1, hv⟩
  · exact hp p h2
theorem Ex_freeze {t : Sem Flow} {Q : FV → Fz → Hp → Prop} (x : Str) {L a : Addr} {l : List V} {ρ ρ' : List (Str × Option V)} {H1 H2 : Hp} (hr : Rem H a (.list l) H1) (hu : Upd H1 L (.ns ρ) (.ns ρ') H2) (hx : Lk ρ x (.ref a)) (hs : SetL ρ x (some (.lst l)) ρ')
    (h : Ex G fr A F H2 t Q E) : Ex G fr A F H t Q E := fun K m R s hR => by
  obtain ⟨K', le, r2⟩ := Rep.freezeN hr hu hx hs hR
  exact h.last (m.trans le) r2 le
end
noncomputable def mkRhoB : List Bool → List Str → List V → List Str → List (Str × Option V)
  | true :: ks, n :: ns, x :: xs, r => (n, some x) :: mkRhoB ks ns xs r
  | false :: ks, _ :: ns, _ :: xs, r => mkRhoB ks ns xs r
  | _, _, _, r => r.map fun n => (n, none)
noncomputable def initB : List Bool → List Str → List V → Str → Option V
  | true :: ks, _ :: ns, _ :: xs, c => initB ks ns xs c
  | false :: ks, n :: ns, x :: xs, c => if n = c then some x else initB ks ns xs c
  | _, _, _, _ => none
noncomputable def namesB : List Bool → List Str → List Str
  | true :: ks, n :: ns => n :: namesB ks ns
  | false :: ks, _ :: ns => namesB ks ns
  | _, _ => []
noncomputable def kindB (k : Str → Option NameKind) : List Bool → List Str → Bool
  | true :: ks, n :: ns => decide (k n = some .local) && kindB k ks ns
  | false :: ks, n :: ns => decide (k n = some .cell) && kindB k ks ns
  | [], [] => true
  | _, _ => false
inductive LkO (F : Fz) : Option Value → Option V → Prop where
  | none : LkO F none none
  | some {v : Value} {x : V} (h : RV F v x) : LkO F (some v) (some x)
theorem and_l {a b : Bool} (h : (a && b) = true) : a = true := by cases a with | true => rfl | false => exact h
theorem and_r {a b : Bool} (h : (a && b) = true) : b = true := by cases a with | true => exact h | false => exact Bool.noConfusion h
section
variable {F : Fz}
theorem kindB_ind {k : Str → Option NameKind} {P : List Bool → List Str → Prop} (h0 : P [] []) (h1 : ∀ ks n ns, k n = some .local → P ks ns → P (true :: ks) (n :: ns)) (h2 : ∀ ks n ns, k n = some .cell → P ks ns → P (false :: ks) (n :: ns)) :
    ∀ (ks : List Bool) (ns : List Str), kindB k ks ns = true → P ks ns
  | [], [], _ => h0
  | true :: ks, n :: ns, h => h1 _ _ _ (of_decide_eq_true (and_l h)) (kindB_ind h0 h1 h2 ks ns (and_r h))
  | false :: ks, n :: ns, h => h2 _ _ _ (of_decide_eq_true (and_l h)) (kindB_ind h0 h1 h2 ks ns (and_r h))
  | [], _ :: _, h => Bool.noConfusion (h : false = true)
  | true :: _, [], h => Bool.noConfusion (h : false = true)
  | false :: _, [], h => Bool.noConfusion (h : false = true)
theorem bindL_not {k : Str → Option NameKind} {n : Str} : ∀ {binds : List (Str × Value)} {m : Str → Option Value}, (n ∉ binds.map (·.1) ∨ k n ≠ some .local) → bindL k binds m n = m n
  | [], m, _ => rfl
  | (n', v) :: r, m, h => by
    refine (bindL_not (binds := r) (h.imp (fun q m => q (.tail _ m)) id)).trans ?_
    split
    · rename_i hk
      exact if_neg fun (e : n = n') => h.elim (fun q => q (e ▸ .head _)) fun q => q (e ▸ hk)
    · rfl
theorem bindC_not {k : Str → Option NameKind} {n : Str} : ∀ {binds : List (Str × Value)} {m : Str → Option Value}, n ∉ binds.map (·.1) → bindC k binds m n = m n
  | [], m, _ => rfl
  | (n', v) :: r, m, h => by
    refine (bindC_not (binds := r) fun m => h (.tail _ m)).trans ?_
    split
    · rfl
    · exact if_neg fun (e : n = n') => h (e ▸ .head _)
theorem mem_mkRhoB {k : Str → Option NameKind} {r : List Str} : ∀ {ks : List Bool} {ns : List Str} {xs : List V} {vs : List Value} (m : Str → Option Value), kindB k ks ns = true → ns.length = xs.length → (ns ++ r).Nodup → RVs F vs xs → (∀ n ∈ r, m n = none) →
    ∀ p ∈ mkRhoB ks ns xs r, LkO F (bindL k (ns.zip vs) m p.1) p.2 := fun {ks ns xs vs} m hk => by
  refine kindB_ind (P := fun ks ns => ∀ (xs : List V) (vs : List Value) (m : Str → Option Value), ns.length = xs.length → (ns ++ r).Nodup → RVs F vs xs → (∀ n ∈ r, m n = none) → ∀ p ∈ mkRhoB ks ns xs r, LkO F (bindL k (ns.zip vs) m p.1) p.2) ?_ ?_ ?_ ks ns hk xs vs m
  · intro xs vs m _ _ _ hm p hp
    obtain ⟨n, hn, rfl⟩ := List.mem_map.mp hp
    show LkO F (m n) none
    rw [hm n hn]; exact .none
  · intro ks n ns hk ih xs vs m hl hnd h hm p hp
    cases h with
    | nil => cases hl
    | @cons v x vs xs hv t =>
      have hl' := Nat.succ.inj hl
      have hnd := List.nodup_cons.mp hnd
      show LkO F (bindL k (ns.zip vs) (if _ then _ else _) p.1) p.2
      rw [if_pos hk]
      rcases List.mem_cons.mp hp with rfl | hp
      · show LkO F (bindL k (ns.zip vs) _ n) (some x)
        rw [bindL_not (.inl (by rw [zip_names (hl'.trans t.length.symm)]; exact fun q => hnd.1 (List.mem_append_left _ q))), if_pos rfl]
        exact .some hv
      · exact ih xs vs _ hl' hnd.2 t (fun y hy => (if_neg fun (q : y = n) => hnd.1 (q ▸ List.mem_append_right _ hy)).trans (hm y hy)) p hp
  · intro ks n ns hk ih xs vs m hl hnd h hm p hp
    cases h with
    | nil => cases hl
    | @cons v x vs xs hv t =>
      show LkO F (bindL k (ns.zip vs) (if _ then _ else _) p.1) p.2
      rw [if_neg (by rw [hk]; decide)]
      exact ih xs vs _ (Nat.succ.inj hl) (List.nodup_cons.mp hnd).2 t hm p hp
theorem initB_spec {k : Str → Option NameKind} {c : Str} (hc : k c = some .cell) : ∀ {ks : List Bool} {ns : List Str} {xs : List V} {vs : List Value} (m : Str → Option Value), kindB k ks ns = true → ns.length = xs.length → ns.Nodup → RVs F vs xs → m c = none →
    LkO F (bindC k (ns.zip vs) m c) (initB ks ns xs c) := fun {ks ns xs vs} m hk => by
  refine kindB_ind (P := fun ks ns => ∀ (xs : List V) (vs : List Value) (m : Str → Option Value), ns.length = xs.length → ns.Nodup → RVs F vs xs → m c = none → LkO F (bindC k (ns.zip vs) m c) (initB ks ns xs c)) ?_ ?_ ?_ ks ns hk xs vs m
  · intro xs vs m _ _ _ hm
    show LkO F (m c) none
    rw [hm]; exact .none
  · intro ks n ns hk ih xs vs m hl hnd h hm
    cases h with
    | nil => cases hl
    | @cons v x vs xs hv t =>
      show LkO F (bindC k (ns.zip vs) (if _ then _ else _) c) _
      rw [if_pos hk]
      exact ih xs vs _ (Nat.succ.inj hl) (List.nodup_cons.mp hnd).2 t hm
  · intro ks n ns hk ih xs vs m hl hnd h hm
    cases h with
    | nil => cases hl
    | @cons v x vs xs hv t =>
      have hl' := Nat.succ.inj hl
      show LkO F (bindC k (ns.zip vs) (if _ then _ else _) c) (if n = c then some x else _)
      rw [if_neg (by rw [hk]; decide)]
      by_cases hnc : n = c
      · rw [if_pos hnc, bindC_not (by rw [zip_names (hl'.trans t.length.symm), ← hnc]; exact (List.nodup_cons.mp hnd).1), if_pos hnc.symm]
        exact .some hv
      · rw [if_neg hnc]
        exact ih xs vs _ hl' (List.nodup_cons.mp hnd).2 t ((if_neg fun q => hnc q.symm).trans hm)
theorem mkRhoB_names {k : Str → Option NameKind} {ks : List Bool} {ns : List Str} {xs : List V} {r : List Str} (hk : kindB k ks ns = true) (hl : ns.length = xs.length) : (mkRhoB ks ns xs r).map (·.1) = namesB ks ns ++ r := by
  refine kindB_ind (P := fun ks ns => ∀ xs : List V, ns.length = xs.length → (mkRhoB ks ns xs r).map (·.1) = namesB ks ns ++ r) ?_ ?_ ?_ ks ns hk xs hl
  · exact fun xs _ => (List.map_map ..).trans (List.map_id r)
  · intro ks n ns _ ih xs hl
    cases xs with
    | nil => cases hl
    | cons x xs => exact congrArg (n :: ·) (ih xs (Nat.succ.inj hl))
  · intro ks n ns _ ih xs hl
    cases xs with
    | nil => cases hl
    | cons x xs => exact ih xs (Nat.succ.inj hl)
theorem kindB_mem {k : Str → Option NameKind} {ks : List Bool} {ns : List Str} (hk : kindB k ks ns = true) : ∀ n ∈ ns, k n = some .local ∨ (k n = some .cell ∧ (false, n) ∈ ks.zip ns) := by
  refine kindB_ind (P := fun ks ns => ∀ n ∈ ns, k n = some .local ∨ (k n = some .cell ∧ (false, n) ∈ ks.zip ns)) (fun _ h => nomatch h) ?_ ?_ ks ns hk
  · exact fun ks n ns hk ih x hx => (List.mem_cons.mp hx).elim (fun e => .inl (e ▸ hk)) fun hx => (ih x hx).imp id fun q => ⟨q.1, .tail _ q.2⟩
  · exact fun ks n ns hk ih x hx => (List.mem_cons.mp hx).elim (fun e => .inr ⟨e ▸ hk, e ▸ .head _⟩) fun hx => (ih x hx).imp id fun q => ⟨q.1, .tail _ q.2⟩
end
theorem zip_unzip' {α β : Type} : ∀ (l : List (α × β)), (l.map (·.1)).zip (l.map (·.2)) = l
  | [] => rfl
  | (a, b) :: l => congrArg ((a, b) :: ·) (zip_unzip' l)
theorem lookup_isSome {β : Type} : ∀ {l : List (Str × β)} {n : Str}, n ∈ l.map (·.1) → (l.lookup n).isSome = true
  | (n', v') :: l, n, h => by
    show (match n == n' with | true => some v' | false => l.lookup n).isSome = true
    cases e : n == n' with
    | true => rfl
    | false => exact lookup_isSome ((List.mem_cons.mp h).resolve_left (ne_of_beq_false e))
section
variable {G : Glob} {fr : List Env} {A : Around} {F : Fz} {H : Hp} {E : Value → Fz → Hp → Prop} {E' : Addr → Value → Fz → Hp → Prop} {Q : V → Fz → Hp → Prop}
theorem Rep.newCells {R : Hp} {s : Shared} (hR : Rep G fr F R s) : ∀ (cells : List (Str × Addr)) (f : Str → Option V) (H0 : Hp), (∀ p ∈ cells, F p.2 = none ∧ ∃ o, s.heap.get? p.2 = some o ∧ RO G.w F o (.cell (f p.1))) → (cells.map (·.2)).Nodup → (∀ p ∈ cells, p.2 ∉ R.map (·.1)) →
    Rep G fr F (cells.map (fun p => (p.2, AO.cell (f p.1))) ++ R) s
  | [], f, H0, _, _, _ => hR
  | p :: cells, f, H0, h, hnd, hR' => by
    rw [List.map_cons, List.nodup_cons] at hnd
    have ih := Rep.newCells hR cells f H0 (fun q hq => h q (.tail _ hq)) hnd.2 (fun q hq => hR' q (.tail _ hq))
    obtain ⟨h1, o, h2, h3⟩ := h p (.head _)
    rw [List.map_cons, List.cons_append]
    refine ⟨ih.gok, ih.base, ih.fz, fun q hq => ?_, ?_, fun e he => ⟨(ih.frs e he).1, by obtain ⟨L, ρ, a, b⟩ := (ih.frs e he).2; exact ⟨L, ρ, a, .tail _ b⟩⟩, ih.gens, ih.os⟩
    · rcases List.mem_cons.mp hq with rfl | hq
      · exact ⟨h1, o, h2, h3⟩
      · exact ih.own q hq
    · rw [List.map_cons, List.nodup_cons]
      refine ⟨fun q => ?_, ih.nd⟩
      rw [List.map_append, List.mem_append] at q
      rcases q with q | q
      · rw [List.map_map] at q
        exact hnd.1 q
      · exact hR' p (.head _) q
theorem code_cells {a : Addr} {fo : Obj} {name qual : Str} {params : Arguments} {scope : Scope} {dV kV doc pm cdv ct : Value} {an : Option Addr} {body : List Stmt} {xs : List V} (hf : F a = some fo)
    (hd : fo.data = .func (fnX name qual params body scope [] dV kV doc pm an cdv ct)) (hcd : CodeF F cdv qual)
    (ks : List Bool) (ns rest cns : List Str) {inits : List (Option V)} (hn : ns.length = xs.length) (hnd : (ns ++ rest).Nodup) (hndB : (namesB ks ns ++ rest).Nodup) (hbind : ∀ vs : List Value, vs.length = xs.length → bindArgs (fnX name qual params body scope [] dV kV doc pm an cdv ct) ⟨vs, []⟩ = pure (ns.zip vs))
    (hkind : kindB (fun x => scope.names.lookup x) ks ns = true) (hcm : ((ks.zip ns).all fun p => p.1 || cns.contains p.2) = true) (hcn : ∀ n, (cellsFrom n scope.names []).map (·.1) = cns) (hcnd : cns.Nodup) (hck : (cns.all fun x => decide (scope.names.lookup x = some .cell)) = true) (hin : cns.map (initB ks ns xs) = inits)
    (hroom : A.depth < recursionLimit) (hE : ∀ L cl, Leaves G fr A (envX qual scope L a cdv cl) (E' L) E)
    (h : ∀ L cs A', cs.length = cns.length → Deep A A' (envX qual scope L a cdv (cns.zip cs)) → Ex G (envX qual scope L a cdv (cns.zip cs) :: fr) A' F ((L, .ns (mkRhoB ks ns xs rest)) :: (cs.zip (inits.map AO.cell) ++ H)) (execs body (envX qual scope L a cdv (cns.zip cs))) (Ret L Q) (E' L))
    {K : Fz} (m : F.le K) {vs : List Value} (hvs : RVs K vs xs) {R : Hp} {s : Shared} (hR : Rep G fr K (H ++ R) s)
    (hco : autoParam (scope.isCoroutine = false) tac0) (hgen : autoParam (scope.isGenerator = false) tac0) (hk : autoParam (scope.kind = .function) tac0) :
    codeAny G.M A (.call (.ref a) ⟨vs, []⟩) (fun r s' => match r with | .ok (.ret v) => PQ G fr K R (VQ Q) v s' | .ok _ => False | .error e => PQ G fr K R (fun e => Dn (E e)) e s') s := by
  have hlen := hvs.length
  have hz : (ns.zip vs).map (·.1) = ns := zip_names (by lia)
  refine codeAny_call_cells hroom (hR.fz _ _ (m _ _ hf)) hd hR.glob.2.2 ((hcd.mono m).crec hR.fz) rfl (hbind vs hlen) rfl (fun x hx => ?_) (fun s₁ x => ?_) hco hgen hk
  · have hx' := (List.of_mem_zip hx).1
    rcases kindB_mem hkind x.1 hx' with q | ⟨q, q'⟩
    · exact .inl q
    · refine .inr ⟨q, lookup_isSome ?_⟩
      rw [hcn]
      have := List.all_eq_true.mp hcm _ q'
      simpa using this
  · have henv : callEnvC (fnX name qual params body scope [] dV kV doc pm an cdv ct) s.heap.objs.size a = envX qual scope s.heap.objs.size a cdv (cns.zip ((cellsFrom (s.heap.objs.size + 1) scope.names []).map (·.2))) := by
      rw [← hcn (s.heap.objs.size + 1), zip_unzip']; rfl
    have hcells : cns.zip ((cellsFrom (s.heap.objs.size + 1) scope.names []).map (·.2)) = cellsFrom (s.heap.objs.size + 1) scope.names [] := by rw [← hcn (s.heap.objs.size + 1), zip_unzip']
    obtain ⟨⟨⟨h₁, tk, rfl⟩, hns, hkeep, hfresh⟩, hcell, hapart, habove⟩ := x
    rw [henv]
    have hns' : h₁.Ns s.heap.objs.size (bindL (fun x => scope.names.lookup x) (ns.zip vs) fun _ => none) := hns
    have hcell' : ∀ n c, (n, c) ∈ cellsFrom (s.heap.objs.size + 1) scope.names [] → h₁.IsCell c (bindC (fun x => scope.names.lookup x) (ns.zip vs) (fun _ => none) n) := fun n c hm => hcell n c (lookup_mem (l := cellsFrom (s.heap.objs.size + 1) scope.names []) (by rw [hcn]; exact hcnd) hm)
    have habove' : ∀ n c, (n, c) ∈ cellsFrom (s.heap.objs.size + 1) scope.names [] → s.heap.objs.size < c := habove
    have hapart' : (cellsFrom (s.heap.objs.size + 1) scope.names []).Pairwise fun x y => x.2 ≠ y.2 := hapart
    have hkeep' : ∀ b o, s.heap.get? b = some o → h₁.get? b = some o := hkeep
    have fresh : ∀ env ∈ fr, env.frame ≠ some s.heap.objs.size := fun env he e => by
      obtain ⟨L, ρ, q, m⟩ := (hR.frs env he).2
      obtain ⟨_, o, g, _⟩ := hR.own _ m
      rw [Option.some.inj (q.symm.trans e)] at g
      exact absurd (Heap.lt_size g) (Nat.lt_irrefl _)
    have gone : ∀ c, s.heap.objs.size ≤ c → s.heap.get? c = none := fun c hc => by
      cases q : s.heap.get? c with
      | none => rfl
      | some o => exact absurd (Heap.lt_size q) (Nat.not_lt.mpr hc)
    have r0 : Rep G fr K (H ++ R) { s with heap := h₁, toks := tk } := hR.keeps (tk := tk) (dr := s.drawn) hkeep'
    have r1 : Rep G fr K ((cellsFrom (s.heap.objs.size + 1) scope.names []).map (fun p => (p.2, AO.cell (initB ks ns xs p.1))) ++ (H ++ R)) { s with heap := h₁, toks := tk } := by
      refine r0.newCells _ (initB ks ns xs) [] (fun p hp => ?_) ?_ fun p hp => ?_
      · have hs := habove' p.1 p.2 hp
        obtain ⟨o, ho, hdd⟩ := hcell' p.1 p.2 hp
        refine ⟨(hR.fresh (gone _ (by lia))).1, o, ho, ?_⟩
        have hkc : scope.names.lookup p.1 = some .cell := of_decide_eq_true (List.all_eq_true.mp hck p.1 (by rw [← hcn (s.heap.objs.size + 1)]; exact List.mem_map_of_mem hp))
        have q := initB_spec (F := K) hkc (fun _ => none) hkind hn (List.nodup_append.mp hnd).1 hvs rfl
        generalize initB ks ns xs p.1 = z at q ⊢
        generalize bindC (fun x => scope.names.lookup x) (ns.zip vs) (fun _ => none) p.1 = y at q hdd
        cases q with
        | none => exact hdd
        | some h2 => exact ⟨_, hdd, h2⟩
      · exact List.pairwise_map.mpr hapart'
      · exact (hR.fresh (gone _ (Nat.le_of_lt (habove' p.1 p.2 hp)))).2
    have r2 : Rep G (envX qual scope s.heap.objs.size a cdv (cns.zip ((cellsFrom (s.heap.objs.size + 1) scope.names []).map (·.2))) :: fr) K ((s.heap.objs.size, AO.ns (mkRhoB ks ns xs rest)) :: ((cellsFrom (s.heap.objs.size + 1) scope.names []).map (fun p => (p.2, AO.cell (initB ks ns xs p.1))) ++ (H ++ R))) { s with heap := h₁, toks := tk } := by
      obtain ⟨o, es, ep, ho, hdd, hkk, hff⟩ := hns'
      refine ⟨r1.gok, r1.base, r1.fz, fun q hq => ?_, ?_, fun env he => ?_, r1.gens, r1.os⟩
      · rcases List.mem_cons.mp hq with rfl | hq
        · refine ⟨(hR.fresh (none_at_size _)).1, o, ho, es, ep, hdd, hkk, by rw [mkRhoB_names hkind hn]; exact hndB, fun p hp => ?_⟩
          have q := mem_mkRhoB (F := K) (fun _ => none) hkind hn hnd hvs (fun _ _ => rfl) p hp
          generalize hz : bindL (fun x => scope.names.lookup x) (ns.zip vs) (fun _ => none) p.1 = z at q
          generalize p.2 = y at q ⊢
          cases q with
          | none => trivial
          | some h2 => exact ⟨_, (hff _).trans hz, h2⟩
        · exact r1.own q hq
      · rw [List.map_cons, List.nodup_cons]
        refine ⟨fun q => ?_, r1.nd⟩
        rw [List.map_append, List.mem_append] at q
        rcases q with q | q
        · rw [List.map_map] at q
          obtain ⟨p, hp, e⟩ := List.mem_map.mp q
          have := habove' p.1 p.2 hp
          have e' : p.2 = s.heap.objs.size := e
          rw [e'] at this
          exact Nat.lt_irrefl _ this
        · exact (hR.fresh (none_at_size _)).2 q
      · rcases List.mem_cons.mp he with rfl | he
        · exact ⟨hk, _, _, rfl, .head _⟩
        · exact ⟨(r1.frs env he).1, by obtain ⟨L, ρ, a, b⟩ := (r1.frs env he).2; exact ⟨L, ρ, a, .tail _ b⟩⟩
    have e3 : (cellsFrom (s.heap.objs.size + 1) scope.names []).map (fun p => (p.2, AO.cell (initB ks ns xs p.1))) = ((cellsFrom (s.heap.objs.size + 1) scope.names []).map (·.2)).zip (inits.map AO.cell) := by
      rw [← hin, ← hcn (s.heap.objs.size + 1)]
      generalize cellsFrom (s.heap.objs.size + 1) scope.names [] = l
      induction l with
      | nil => rfl
      | cons p l ih => simp only [List.map_cons, List.zip_cons_cons, ih]
    rw [e3, ← List.append_assoc, ← List.cons_append] at r2
    refine wpAny_mono (h s.heap.objs.size ((cellsFrom (s.heap.objs.size + 1) scope.names []).map (·.2)) _ (by rw [List.length_map, ← hcn (s.heap.objs.size + 1), List.length_map]) (deep A _) K m R _ r2) (fun f s' hq => ?_) fun e s' q => wpAny_mono (hE _ _ fresh K R e s' q) (fun _ _ x => x) fun _ _ x => x
    obtain ⟨F', H', l', r', fv, hfv, F1, m1, ρ, H2, hrem, q⟩ := hq
    have r3 : Rep G fr F' (H2 ++ R) s' := (r'.pop.perm (hrem.perm.append_right R)).drop fresh
    refine ⟨F', H2, l', r3, _, ?_, F1, m1, q⟩
    cases hfv with
    | next => exact .none
    | brk => exact .none
    | cont => exact .none
    | ret hx => exact hx
theorem call_cells {a : Addr} {fo : Obj} {name qual : Str} {params : Arguments} {scope : Scope} {dV kV doc pm cdv ct : Value} {an : Option Addr} {body : List Stmt} {xs : List V} (hf : F a = some fo)
    (hd : fo.data = .func (fnX name qual params body scope [] dV kV doc pm an cdv ct)) (hcd : CodeF F cdv qual)
    (ks : List Bool) (ns rest cns : List Str) {inits : List (Option V)} (hn : ns.length = xs.length) (hnd : (ns ++ rest).Nodup) (hndB : (namesB ks ns ++ rest).Nodup) (hbind : ∀ vs : List Value, vs.length = xs.length → bindArgs (fnX name qual params body scope [] dV kV doc pm an cdv ct) ⟨vs, []⟩ = pure (ns.zip vs))
    (hkind : kindB (fun x => scope.names.lookup x) ks ns = true) (hcm : ((ks.zip ns).all fun p => p.1 || cns.contains p.2) = true) (hcn : ∀ n, (cellsFrom n scope.names []).map (·.1) = cns) (hcnd : cns.Nodup) (hck : (cns.all fun x => decide (scope.names.lookup x = some .cell)) = true) (hin : cns.map (initB ks ns xs) = inits)
    (hroom : A.depth < recursionLimit) (hE : ∀ L cl, Leaves G fr A (envX qual scope L a cdv cl) (E' L) E)
    (h : ∀ L cs A', cs.length = cns.length → Deep A A' (envX qual scope L a cdv (cns.zip cs)) → Ex G (envX qual scope L a cdv (cns.zip cs) :: fr) A' F ((L, .ns (mkRhoB ks ns xs rest)) :: (cs.zip (inits.map AO.cell) ++ H)) (execs body (envX qual scope L a cdv (cns.zip cs))) (Ret L Q) (E' L))
    (hco : autoParam (scope.isCoroutine = false) tac0) (hgen : autoParam (scope.isGenerator = false) tac0) (hk : autoParam (scope.kind = .function) tac0) : Cl G fr A F H (.ref a) xs Q E := fun K m v vs hv hvs R s hR => by
  obtain rfl := hv.i_ref
  exact wpAny_call (code_cells hf hd hcd ks ns rest cns hn hnd hndB hbind hkind hcm hcn hcnd hck hin hroom hE h m hvs hR hco hgen hk)
end
noncomputable def tabsH (tabs : List (Addr × Addr)) : Hp := tabs.map fun q => (q.2, AO.raw (tabObj #[]))
noncomputable def topG (prog : Program) (w : World) (s₁ : Shared) (tabs : List (Addr × Addr)) (mg mb : Str → Option Value) : Glob := { prog, w, F0 := (ghostOf s₁.heap tabs).get?, os := s₁.os, mg, mb }
theorem ints_rv {F : Fz} {vs : List Value} {zs : List Int} (h : IntsAre vs zs) : RVs F vs (zs.map .int) := by
  induction h with
  | nil => exact .nil
  | cons => rename_i ih; exact .cons .int ih
theorem grown_all {h : Heap} : ∀ {tabs : List (Addr × Addr)}, (∀ q ∈ tabs, GrownAt q.2 h) → GrownAll tabs h
  | [], _ => trivial
  | q :: _, k => ⟨k q (.head _), grown_all fun q hq => k q (.tail _ hq)⟩
theorem law_top {prog : Program} {w : World} {s₁ : Shared} {cw : ClaimW} {cl : Str → Option Addr} {mean : ExcName → Option Value} {args : List WData} {tabs : List (Addr × Addr)} {mg mb : Str → Option Value} {fa a : Addr} {vs : List Value} {zs : List Int}
    (hT : TabsAt tabs s₁.heap) (hnd : (tabs.map (·.2)).Nodup) (hr : ∀ a x, cw.raises a x = false) (hpost : cw.post args (.bool true) args = true) (hg : s₁.gens = #[]) (hL : s₁.heap.IsList a vs.toArray) (hI : IntsAre vs zs) (gok : GOk (topG prog w s₁ tabs mg mb))
    (h : ∀ R s, Rep (topG prog w s₁ tabs mg mb) [] (ghostOf s₁.heap tabs).get? (tabsH tabs ++ R) s → ∀ xs, RVs (ghostOf s₁.heap tabs).get? xs [.lst (zs.map .int)] →
      codeAny (model prog w) callerA (.call (.ref fa) ⟨xs, []⟩) (fun r s' => match r with
        | .ok (.ret v) => PQ (topG prog w s₁ tabs mg mb) [] (ghostOf s₁.heap tabs).get? R (VQ fun x _ H' => x = .bool true ∧ ∀ q ∈ tabs, ∃ ps, (q.2, AO.raw (tabObj ps)) ∈ H') v s'
        | .ok _ => False
        | .error e => PQ (topG prog w s₁ tabs mg mb) [] (ghostOf s₁.heap tabs).get? R (fun e => Dn (No e)) e s') s) :
    wpAny (model prog w) callerA (call (.ref fa) [.ref a]) (fun v s' => GoodWG cw cl mean args s₁ (.ok (.ret v)) s') (fun e s' => GoodWG cw cl mean args s₁ (.error e) s') s₁ := by
  have gn : ∀ q ∈ tabs, (ghostOf s₁.heap tabs).get? q.2 = none := fun q hq => hideAll_none _ (List.mem_map_of_mem hq)
  have rep : Rep (topG prog w s₁ tabs mg mb) [] (ghostOf s₁.heap tabs).get? (tabsH tabs ++ []) s₁ := by
    refine ⟨gok, fun _ _ e => e, fun a o e => of_hideAll _ e, fun p hp => ?_, ?_, (fun _ h => nomatch h), hg, rfl⟩
    · rw [List.append_nil] at hp
      obtain ⟨q, hq, rfl⟩ := List.mem_map.mp hp
      exact ⟨gn q hq, _, (hT q hq).2, rfl⟩
    · rw [List.append_nil]
      unfold tabsH
      rw [List.map_map]
      exact hnd
  have hl : RVs (ghostOf s₁.heap tabs).get? [.ref a] [.lst (zs.map .int)] := by
    obtain ⟨o, ho, hc, n, hd⟩ := hL
    have hr := ints_rv (F := (ghostOf s₁.heap tabs).get?) hI
    refine .cons (.lst (o := o) (vs := vs) (n := n) ?_ hc hd hr.length hr.get) .nil
    refine ghost_ne ho fun hm => ?_
    obtain ⟨q, hq, rfl⟩ := List.mem_map.mp hm
    rw [(hT q hq).2] at ho
    cases ho
    cases hc
  refine wpAny_call (codeAny_mono (kn_post (cl := cl) (mean := mean) (args := args) hT hr (codeAny_mono (h [] s₁ rep _ hl) fun r s' hq => ?_)) fun r s' hq => ?_)
  · cases r with
    | error e => exact (noPQ (v := e) hq).elim
    | ok f =>
      cases f with
      | ret v =>
        obtain ⟨F', H', le, r', x, hx, _, _, e, ht⟩ := hq
        subst e
        cases hx
        refine ⟨⟨.inl ⟨_, .bool true, [], rfl, fun _ => hr _ _, .bool true, hpost, fun _ => ⟨.nil, (fun _ h => nomatch h)⟩⟩, fun b o e => r'.fz b o (le b o e), r'.os, r'.gens⟩, ?_⟩
        exact grown_all fun q hq => by
          obtain ⟨ps, hm⟩ := ht q hq
          obtain ⟨o, ho, hro⟩ := r'.get hm
          exact ⟨ps, by rw [ho]; exact congrArg some hro⟩
      | _ => exact hq.elim
  · cases r with
    | error e => exact hq
    | ok f =>
      have hv : ∃ v, f = .ret v := by
        rcases hq.1 with ⟨v, _, _, q, _⟩ | ⟨_, _, _, q, _⟩
        · cases q; exact ⟨_, rfl⟩
        · cases q
      obtain ⟨v, rfl⟩ := hv
      exact hq
theorem len0 {α : Type} {l : List α} (h : l.length = 0) : l = [] := List.length_eq_zero_iff.mp h
theorem lenC {α : Type} {l : List α} {n : Nat} (h : l.length = n + 1) : ∃ a t, l = a :: t ∧ t.length = n := by
  cases l with
  | nil => cases h
  | cons a t => exact ⟨a, t, rfl, Nat.succ.inj h⟩
theorem len1 {α : Type} {l : List α} (h : l.length = 1) : ∃ a, l = [a] := by obtain ⟨a, _, e, h⟩ := lenC h; exact ⟨a, by rw [e, len0 h]⟩
theorem len2 {α : Type} {l : List α} (h : l.length = 2) : ∃ a b, l = [a, b] := by obtain ⟨a, _, e, h⟩ := lenC h; exact by obtain ⟨b, e'⟩ := len1 h; exact ⟨a, b, by rw [e, e']⟩
theorem len3 {α : Type} {l : List α} (h : l.length = 3) : ∃ a b c, l = [a, b, c] := by obtain ⟨a, _, e, h⟩ := lenC h; exact by obtain ⟨b, c, e'⟩ := len2 h; exact ⟨a, b, c, by rw [e, e']⟩
theorem len4 {α : Type} {l : List α} (h : l.length = 4) : ∃ a b c d, l = [a, b, c, d] := by obtain ⟨a, _, e, h⟩ := lenC h; exact by obtain ⟨b, c, d, e'⟩ := len3 h; exact ⟨a, b, c, d, by rw [e, e']⟩
theorem len5 {α : Type} {l : List α} (h : l.length = 5) : ∃ a b c d e, l = [a, b, c, d, e] := by obtain ⟨a, _, e, h⟩ := lenC h; exact by obtain ⟨b, c, d, f, e'⟩ := len4 h; exact ⟨a, b, c, d, f, by rw [e, e']⟩
theorem len6 {α : Type} {l : List α} (h : l.length = 6) : ∃ a b c d e f, l = [a, b, c, d, e, f] := by obtain ⟨a, _, e, h⟩ := lenC h; exact by obtain ⟨b, c, d, f, g, e'⟩ := len5 h; exact ⟨a, b, c, d, f, g, by rw [e, e']⟩
inductive LstIs (H : Hp) : V → List V → Prop where
  | lst {l : List V} : LstIs H (.lst l) l
  | own {a : Addr} {l : List V} (h : Has H a (.list l)) : LstIs H (.ref a) l
section
variable {G : Glob} {fr : List Env} {A : Around} {env : Env} {F : Fz} {H H' : Hp} {E : Value → Fz → Hp → Prop} {Q : V → Fz → Hp → Prop}
theorem LstIs.is {R : Hp} {s : Shared} {x : V} {l : List V} {v : Value} (h : LstIs H x l) (hR : Rep G fr F (H ++ R) s) (hv : RV F v x) : ∃ a vs, v = .ref a ∧ s.heap.IsList a vs ∧ RVs F vs.toList l := by
  cases h with
  | lst => exact hv.e_lst (P := fun v => ∃ a vs, v = .ref a ∧ s.heap.IsList a vs ∧ RVs F vs.toList l) fun a vs n o h hc hd hl hr => ⟨a, vs.toArray, rfl, ⟨o, hR.fz _ _ h, hc, n, hd⟩, RVs.of hl hr⟩
  | own h =>
    obtain ⟨o, ho, vs, n, rfl, hr⟩ := hR.has h
    exact hv.e_ref (P := fun v => ∃ a vs, v = .ref a ∧ s.heap.IsList a vs ∧ RVs F vs.toList l) ⟨_, vs, rfl, ⟨_, ho, rfl, n, rfl⟩, hr⟩
theorem RV.isTup {R : Hp} {s : Shared} {l : List V} {v : Value} (hv : RV F v (.tup l)) (hR : Rep G fr F (H ++ R) s) : ∃ a vs, v = .ref a ∧ IsTup s.heap a vs ∧ RVs F vs.toList l := by
  exact hv.e_tup (P := fun v => ∃ a vs, v = .ref a ∧ IsTup s.heap a vs ∧ RVs F vs.toList l) fun a vs n h hl hr => ⟨a, vs.toArray, rfl, ⟨_, hR.fz _ _ h, rfl, n, rfl⟩, RVs.of hl hr⟩
theorem RVs.atA {vs : Array Value} {l : List V} (h : RVs F vs.toList l) {i : Nat} {x : V} (e : l[i]? = some x) : ∃ v, vs[i]? = some v ∧ RV F v x := by
  obtain ⟨v, h1, h2⟩ := h.at e
  exact ⟨v, by simpa using h1, h2⟩

theorem Ev_Subscript {value slice pos} (h : Ev G fr A F H (eval value env) (fun o F1 H1 => Ev G fr A F1 H1 (eval slice env) (fun i F2 H2 => Op2 G fr A F2 H2 (subscriptTail value slice) o i Q E) E) E) :
    Ev G fr A F H (eval (.Subscript value slice pos) env) Q E := fun K m R s hR =>
  Subscript_ (h.go m hR (.refl K) fun a x F1 K1 H1 s1 l1 m1 r1 hx h1 => h1.go m1 r1 l1 fun b y F2 K2 H2 s2 l2 m2 r2 hy h2 => (h2 K2 m2 a b (hx.mono l2) hy).last r2 (l1.trans l2))
noncomputable def notSlice : Expr → Bool
  | .Slice .. => false
  | _ => true
theorem sub_of {slice : Expr} {o i : Value} (h : notSlice slice = true) : subscripted slice false o i = operate [o, i] (getItem o i) := by
  cases slice <;> first | rfl | cases h
theorem sub_lst {value slice : Expr} {x y : V} {l : List V} {i : Int} (hl : LstIs H x l) (h0 : 0 ≤ i) (hi : i < 2 ^ 63) (he : l[i.toNat]? = some y) (h : Q y F H) (hs : autoParam (notSlice slice = true) tac0) :
    Op2 G fr A F H (subscriptTail value slice) x (.int i) Q E := fun K m vo vi ho hi' R s hR => by
  obtain ⟨a, vs, rfl, hL, hr⟩ := hl.is hR ho
  refine hi'.e_int (P := fun vi => wpAny _ _ (subscriptTail value slice _ vi) _ _ _) fun t => ?_
  obtain ⟨v, h1, h2⟩ := hr.atA he
  exact tail_any hL.typeIs slot_list_getitem.lookup (wpAny_getItem_list hL h0 hi h1 (vret hR h2 m h)) (sub_of hs)
theorem sub_lstN {value slice : Expr} {x y : V} {l : List V} {k : Nat} (hl : LstIs H x l) (hi : k < 2 ^ 63) (he : l[k]? = some y) (h : Q y F H) (hs : autoParam (notSlice slice = true) tac0) :
    Op2 G fr A F H (subscriptTail value slice) x (.int k) Q E :=
  sub_lst hl (Int.natCast_nonneg k) (by lia) (by rw [Int.toNat_natCast]; exact he) h hs
theorem sub_lst_neg {value slice : Expr} {x y : V} {l : List V} {i : Int} (hl : LstIs H x l) (h0 : i < 0) (h1 : 0 ≤ i + l.length) (h2 : -(2 ^ 63) ≤ i) (he : l[(i + l.length).toNat]? = some y) (h : Q y F H) (hs : autoParam (notSlice slice = true) tac0) :
    Op2 G fr A F H (subscriptTail value slice) x (.int i) Q E := fun K m vo vi ho hi' R s hR => by
  obtain ⟨a, vs, rfl, hL, hr⟩ := hl.is hR ho
  refine hi'.e_int (P := fun vi => wpAny _ _ (subscriptTail value slice _ vi) _ _ _) fun t => ?_
  obtain ⟨v, q1, q2⟩ := hr.atA he
  have e := hr.toArr
  exact tail_any hL.typeIs slot_list_getitem.lookup (wpAny_getItem_list_neg hL h0 (by rw [e]; lia) h2 (by rw [e]; exact q1) (vret hR q2 m h)) (sub_of hs)
theorem sub_tup {value slice : Expr} {y : V} {l : List V} {i : Int} (h0 : 0 ≤ i) (hi : i < 2 ^ 63) (he : l[i.toNat]? = some y) (h : Q y F H) (hs : autoParam (notSlice slice = true) tac0) :
    Op2 G fr A F H (subscriptTail value slice) (.tup l) (.int i) Q E := fun K m vo vi ho hi' R s hR => by
  obtain ⟨a, vs, rfl, hL, hr⟩ := ho.isTup hR
  refine hi'.e_int (P := fun vi => wpAny _ _ (subscriptTail value slice _ vi) _ _ _) fun t => ?_
  obtain ⟨v, h1, h2⟩ := hr.atA he
  have e := hr.toArr
  have hlt : i.toNat < l.length := (List.getElem?_eq_some_iff.mp he).1
  refine tail_any hL.typeIs slot_tuple_getitem.lookup (PyProof.Rows.getItem_tuple (j := i.toNat) hL (Int.le_trans (by decide) h0) hi ?_ h1 (vret hR h2 m h)) (sub_of hs)
  unfold seqIndex?
  simp only [if_neg (Int.not_lt.mpr h0)]
  rw [if_pos (by simp; exact toN h0 (by rw [e]; exact hlt))]
theorem sub_str {value slice : Expr} {x : Str} {i : Int} {c : Nat} (h0 : 0 ≤ i) (hi : i < 2 ^ 63) (he : x.cps[i.toNat]? = some c) (h : Q (.str ⟨#[c]⟩) F H) (hs : autoParam (notSlice slice = true) tac0) :
    Op2 G fr A F H (subscriptTail value slice) (.str x) (.int i) Q E := fun K m vo vi ho hi' R s hR => by
  refine ho.e_str (P := fun vo => wpAny _ _ (subscriptTail value slice vo vi) _ _ _) fun t => hi'.e_int (P := fun vi => wpAny _ _ (subscriptTail value slice _ vi) _ _ _) fun u => ?_
  have hlt : i.toNat < x.cps.size := (Array.getElem?_eq_some_iff.mp he).1
  refine tail_any (typeIs_str _ _ _) PySem.F.slot_str_getitem.lookup (PySem.P.getItem_str (c := c) (by rw [decide_eq_false (Int.not_lt.mpr (Int.le_trans (by decide) h0)), decide_eq_false (Int.not_le.mpr hi)]; rfl) ?_ (vret (hR.toks _) .str m h)) (sub_of hs)
  have : seqIndex? i x.length = some i.toNat := by
    unfold seqIndex?
    simp only [if_neg (Int.not_lt.mpr h0)]
    rw [if_pos (by
      have : x.length = x.cps.size := rfl
      simp only [Bool.and_eq_true, decide_eq_true_eq]
      exact toN h0 hlt)]
  rw [this]
  exact he

noncomputable def EvP (G : Glob) (fr : List Env) (A : Around) (env : Env) (F : Fz) (H : Hp) (e : Option Expr) (Q : Option Int → Fz → Hp → Prop) (E : Value → Fz → Hp → Prop) : Prop :=
  match e with
  | none => Q none F H
  | some e => Ev G fr A F H (eval e env) (AInt Q) E
theorem EvP_none {Q : Option Int → Fz → Hp → Prop} (h : Q none F H) : EvP G fr A env F H none Q E := h
theorem EvP_some {e : Expr} {Q : Option Int → Fz → Hp → Prop} (h : Ev G fr A F H (eval e env) (AInt Q) E) : EvP G fr A env F H (some e) Q E := h
theorem EvP.seq {e : Option Expr} {Q : Option Int → Fz → Hp → Prop} {R : Hp} {s : Shared} {K K₀ : Fz} (h : EvP G fr A env F H e Q E) (m : F.le K) (hR : Rep G fr K (H ++ R) s) (le : K₀.le K) {P : Value → Shared → Prop}
    (k : ∀ o F1 K1 H1 s1, K.le K1 → Fz.le F1 K1 → Rep G fr K1 (H1 ++ R) s1 → Q (o.map (·.1)) F1 H1 → P (partValue o) s1) : wpAny G.M A (evalPart e env) P (PQ G fr K₀ R fun e => Dn (E e)) s := by
  cases e with
  | none => exact wpAny_pure (k none F K H s (.refl K) m hR h)
  | some e =>
    refine Ev.go (show Ev _ _ _ _ _ _ _ _ from h) m hR le fun v x F1 K1 H1 s1 l1 m1 r1 hx hq => ?_
    obtain ⟨i, rfl, q⟩ := hq
    exact hx.e_int (P := fun v => P v s1) fun t => k (some (i, t)) F1 K1 H1 s1 l1 m1 r1 q
noncomputable def slIdx (lo hi st : Option Int) (n : Nat) : List Nat := sliceRange (sliceBounds lo hi st n).1 (sliceBounds lo hi st n).2.1 (sliceBounds lo hi st n).2.2
noncomputable def slV (l : List V) (lo hi st : Option Int) : List V := (slIdx lo hi st l.length).filterMap (l[·]?)
theorem RVs.pick {vs : List Value} {l : List V} (h : RVs F vs l) (is : List Nat) : RVs F (is.filterMap (vs[·]?)) (is.filterMap (l[·]?)) := by
  induction is with
  | nil => exact .nil
  | cons i is ih =>
    cases hv : vs[i]? with
    | none =>
      have : l[i]? = none := by rw [List.getElem?_eq_none_iff, ← h.length, ← List.getElem?_eq_none_iff]; exact hv
      simp only [List.filterMap_cons, hv, this]
      exact ih
    | some v =>
      have hi : i < vs.length := by
        rcases Nat.lt_or_ge i vs.length with q | q
        · exact q
        · rw [List.getElem?_eq_none q] at hv; cases hv
      have hi' : i < l.length := by rw [← h.length]; exact hi
      have hl : l[i]? = some l[i] := List.getElem?_eq_getElem hi'
      simp only [List.filterMap_cons, hv, hl]
      exact .cons (h.get i v _ hv hl) ih
theorem slicePick_rv {vs : Array Value} {l : List V} (h : RVs F vs.toList l) (lo hi st : Option Int) : RVs F (slicePick vs lo hi st).toList (slV l lo hi st) := by
  have e := h.toArr
  unfold slicePick slV slIdx
  rw [e]
  have := h.pick (sliceRange (sliceBounds lo hi st l.length).1 (sliceBounds lo hi st l.length).2.1 (sliceBounds lo hi st l.length).2.2)
  simpa using this
theorem isPart (o : Option (Int × Tok)) : IsPart (partValue o) (o.map (·.1)) := by
  cases o with
  | none => exact .none
  | some p => exact .int _ _
variable {x y : Str}
theorem ss {K : Fz} {P : Value → Value → Prop} (k : ∀ t u, P (.str x t) (.str y u)) : ∀ a b, RV K a (.str x) → RV K b (.str y) → P a b := fun _ b ha hb => ha.e_str (P := fun a => P a b) fun t => hb.e_str (k t)
theorem add_ss (hs : x.length + y.length ≤ sizeLine) (h : Q (.str (x ++ y)) F H) : Op2 G fr A F H (binaryOp .Add) (.str x) (.str y) Q E := fun K m => ss fun t u R s hR => PySem.SB.add (fun t' k => vret (hR.toks _) .str m h) hs
theorem eq_ss (h : Q (.bool (x.cps.toList == y.cps.toList)) F H) : Op2 G fr A F H (compareOp .Eq) (.str x) (.str y) Q E := fun K m => ss fun t u R s hR => PySem.P.eq_str (vret hR .bool m h)
theorem ne_ss (h : Q (.bool (x.cps.toList != y.cps.toList)) F H) : Op2 G fr A F H (compareOp .NotEq) (.str x) (.str y) Q E := fun K m => ss fun t u R s hR => PySem.P.ne_str (vret hR .bool m h)
theorem len_s (hl : x.length < 2 ^ 63) (h : Q (.int x.length) F H) : Cl G fr A F H (.blt "len") [.str x] Q E := cl_b1 fun K m v hv => hv.e_str (P := fun v => EvAt _ _ _ _ _ (call _ [v]) _ _) fun t R s hR => PySem.P.len_str (by lia) (vret (hR.toks _) .int m h)
theorem len_lst {z : V} {l : List V} (hz : LstIs H z l) (hl : l.length < 2 ^ 63) (h : Q (.int l.length) F H) : Cl G fr A F H (.blt "len") [z] Q E := cl_b1 fun K m v h1 R s hR => by
    obtain ⟨a, vs, rfl, hL, hr⟩ := hz.is hR h1
    have e := hr.toArr
    refine call_len_list hL (by rw [e]; exact_mod_cast hl) ?_
    rw [e]
    exact vret (hR.toks _) .int m h
theorem isNot_none {z : V} (h : Q (.bool (!z.isN)) F H) : Op2 G fr A F H (compareOp .IsNot) z .none Q E := fun K m a b ha hb => hb.e_none (P := fun b => EvAt _ _ _ _ _ (compareOp _ a b) _ _) fun R s hR => by
  refine PySem.isNot_none ?_
  rw [RV.isN ha]
  exact vret hR .bool m h
theorem is_none {z : V} (h : Q (.bool z.isN) F H) : Op2 G fr A F H (compareOp .Is) z .none Q E := fun K m a b ha hb => hb.e_none (P := fun b => EvAt _ _ _ _ _ (compareOp _ a b) _ _) fun R s hR => by
  refine PySem.is_none ?_
  rw [RV.isN ha]
  exact vret hR .bool m h
end
section
variable {G : Glob} {fr : List Env} {A : Around} {env : Env} {F : Fz} {H : Hp} {E : Value → Fz → Hp → Prop}
noncomputable def Tests (G : Glob) (fr : List Env) (A : Around) (env : Env) (F : Fz) (H : Hp) (ifs : List Expr) (Q : Bool → Fz → Hp → Prop) (E : Value → Fz → Hp → Prop) : Prop :=
  match ifs with
  | [] => Q true F H
  | [c] => Tp G fr A F H (isTrue c env (eval c env)) Q E
  | _ => False
inductive Off (C : Addr) (nms : List Str) (Q : Fz → Hp → Prop) (F : Fz) (H : Hp) : Prop where
  | intro (ρ : List (Str × Option V)) (H' : Hp) (hr : Rem H C (.ns ρ) H') (hn : ρ.map (·.1) = nms) (h : Q F H')
structure Turns (G : Glob) (fr : List Env) (A : Around) (cenv : Addr → Env) (nms : List Str) (target elt : Expr) (ifs : List Expr) (l : List V) (I : Nat → List V → Fz → Hp → Prop) : Prop where
  turn : ∀ k y acc F2 H2 C ρ, l[k]? = some y → I k acc F2 H2 → ρ.map (·.1) = nms → ∀ Qn : List V → Fz → Hp → Prop, (∀ acc' F3 H3, I (k + 1) acc' F3 H3 → Qn acc' F3 H3) →
    As G fr A (cenv C) F2 ((C, .ns ρ) :: H2) target y (fun F3 H3 => Tests G fr A (cenv C) F3 H3 ifs (fun b F4 H4 =>
      if b then Ev G fr A F4 H4 (eval elt (cenv C)) (fun z F5 H5 => Off C nms (Qn (acc ++ [z])) F5 H5) No else Off C nms (Qn acc) F4 H4) No) No
noncomputable def Nv {α : Type} : α → Shared → Prop := fun _ _ => False
theorem compLoopG {elt target iter : Expr} {ifs : List Expr} {scope : Scope} {pos : Pos} {it acc : Value} {cenv : Env} {P : Result → Shared → Prop} {s : Shared} (I : Nat → Shared → Prop)
    (turn : ∀ n s, I n s → wpAny G.M A (pyNext it) (fun r s₁ => match r with
      | none => P (.ok .next) s₁
      | some v => wpAny G.M A (letOwnedTupleGo target it v) (fun _ s₁ => wpAny G.M A (assign target cenv v) (fun _ s₂ =>
          wpAny G.M A (forIn ifs true fun c r => if r = true then do let ok ← isTrue c cenv (eval c cenv); pure (ForInStep.yield ok) else pure (ForInStep.yield r)) (fun ok s₃ =>
            if ok = true then wpAny G.M A (eval elt cenv) (fun x s₄ => wpAny G.M A (call (.builtin "list.append") [acc, x]) (fun _ s₅ => ∃ m, m < n ∧ I m s₅) Nv s₄) Nv s₃
            else ∃ m, m < n ∧ I m s₃) Nv s₂) Nv s₁) Nv s₁) Nv s)
    (n : Nat) (h : I n s) : codeAny G.M A (.compLoop (.ListComp elt [⟨target, iter, ifs, 0⟩] scope pos) 0 it acc cenv) P s := by
  refine codeAny_loop rfl I (fun n s hI => ?_) n h
  show wpAny _ A ((compTurn (.ListComp elt [⟨target, iter, ifs, 0⟩] scope pos) 0 it acc cenv).onRaise (fun x => do noteFrame x cenv; theTreesLotGoes x)) _ _ s
  refine wpAny_noted ?_
  rw [compTurn_list]
  refine wpAny_bind (wpAny_standAt (wpAny_bind (wpAny_mono (turn n s hI) (fun r s₁ h₁ => ?_) fun _ _ h' => h'.elim)))
  cases r with
  | none => exact wpAny_pure h₁
  | some v =>
    refine wpAny_bind (wpAny_mono h₁ (fun _ s₁ h₁ => wpAny_bind (wpAny_mono h₁ (fun _ s₂ h₂ => wpAny_bind (wpAny_mono h₂ (fun ok s₃ h₃ => ?_) fun _ _ h' => h'.elim)) fun _ _ h' => h'.elim)) fun _ _ h' => h'.elim)
    cases ok with
    | false => exact wpAny_pure ⟨rfl, h₃⟩
    | true => exact wpAny_bind (wpAny_bind (wpAny_mono h₃ (fun x s₄ h₄ => wpAny_bind (wpAny_mono h₄ (fun _ s₅ h₅ => wpAny_pure (wpAny_pure ⟨rfl, h₅⟩)) fun _ _ h' => h'.elim)) fun _ _ h' => h'.elim))
inductive CompI (G : Glob) (fr : List Env) (K1 : Fz) (nms : List Str) (C D : Addr) (J : Nat → Hp) (R : Hp) (l : List V) (I : Nat → List V → Fz → Hp → Prop) (n : Nat) (s : Shared) : Prop where
  | mk (k : Nat) (acc : List V) (F2 K2 : Fz) (H2 : Hp) (ρ : List (Str × Option V)) (e1 : n + k = l.length) (e2 : acc.length ≤ k) (l2 : K1.le K2) (m2 : Fz.le F2 K2) (hρ : ρ.map (·.1) = nms) (r : Rep G fr K2 (J k ++ ((C, AO.ns ρ) :: (D, AO.list acc) :: (H2 ++ R))) s) (h : I k acc F2 H2)
noncomputable def CompL (G : Glob) (fr : List Env) (K1 : Fz) (nms : List Str) (C D : Addr) (J : Nat → Hp) (R : Hp) (l : List V) (I : Nat → List V → Fz → Hp → Prop) (n : Nat) (s : Shared) : Prop := ∃ m, m < n ∧ CompI G fr K1 nms C D J R l I m s
theorem perm_in {c d : Addr × AO} {J H R : Hp} : (J ++ (c :: d :: (H ++ R))).Perm ((c :: H) ++ (d :: (J ++ R))) :=
  (List.perm_middle.trans (List.perm_middle.cons c)).trans ((((List.perm_append_comm_assoc ..).cons d).trans List.perm_middle.symm).cons c)
theorem emap {nms : List Str} : (nms.map fun n => (n, (none : Option V))).map (·.1) = nms := by rw [List.map_map]; exact List.map_id nms
theorem comp_core {elt target iter : Expr} {ifs : List Expr} {scope : Scope} {cl : List (Str × Addr)} {pos : Pos} {l : List V} {F1 K1 : Fz} {H1 H1' R : Hp} {s1 : Shared} {x : Value} {y : V} {I : Nat → List V → Fz → Hp → Prop} {nms : List Str} {E0 : Value → Shared → Prop} {P : Value → Addr → Result → Shared → Prop}
    (m1 : F1.le K1) (hy : RV K1 x y) (r1 : Rep G fr K1 (H1 ++ R) s1) (itr : IterO G A target F1 H1 y l H1') (hsz : l.length ≤ sizeLine) (h0 : I 0 [] F1 H1') (T : Turns G fr A (fun C => compEnvC scope cl C env) nms target elt ifs l I)
    (hkind : scope.kind = .function) (hcell : ∀ z ∈ scope.names, z.2 ≠ .cell) (hnd : nms.Nodup)
    (fin : ∀ D C acc F2 K2 H2 ρ s', (∀ e ∈ fr, e.frame ≠ some C) → K1.le K2 → Fz.le F2 K2 → I l.length acc F2 H2 → acc.length ≤ l.length → Rep G fr K2 ((C, AO.ns ρ) :: (D, AO.list acc) :: (H2 ++ R)) s' → P (.ref D) C (.ok .next) s') :
    wpAny G.M A (pyIter x) (fun it s₂ => wpAny G.M A (newList []) (fun acc s₃ => wpAny G.M A (newFunctionEnv scope env.globals cl [] env.qual none .none (some env)) (fun cenv s₄ =>
      codeAny G.M A (.compStart (.ListComp elt [⟨target, iter, ifs, 0⟩] scope pos) 0 it acc { cenv with scope := relabel scope env }) (P acc cenv.locals) s₄) E0 s₃) E0 s₂) E0 s1 := by
  refine itr m1 r1 hy fun it K1' s2 J l1 r2 Pi => ?_
  refine wpAny_newObj_type ?_
  have r3 := r2.new (D := s2.heap.objs.size) (x := AO.list []) (tk := s2.toks) (dr := s2.drawn) (fun b o e => Heap.get?_push_of_some { cls := .type "list", data := .seq ([] : List Value).toArray } e) (none_at_size _) (Heap.get?_push_size _ rfl) ⟨#[], 0, rfl, .nil⟩
  refine wpAny_newFunctionEnv hcell (by intro y hy; simp at hy) (fun h₁ hns₁ hsb₁ => ?_) hkind
  generalize hH2 : (s2.heap.push { cls := .type "list", dict := none, data := .seq ([] : List Value).toArray }) = H2 at hns₁ hsb₁ r3
  have r4 : Rep G fr K1' ((H2.objs.size, AO.ns (nms.map fun n => (n, none))) :: (s2.heap.objs.size, AO.list []) :: (J 0 ++ (H1' ++ R))) { s2 with heap := h₁, toks := s2.toks + ([] : List (Str × Value)).length } := by
    obtain ⟨o, es, ep, ho, hd, hk, hf⟩ := hns₁
    refine r3.new (s := { s2 with heap := H2 }) (D := H2.objs.size) (tk := s2.toks + ([] : List (Str × Value)).length) (dr := s2.drawn) (fun b o e => hsb₁.extBut b o (Nat.ne_of_lt (Heap.lt_size e)) (Heap.get?_push_of_some _ e)) (none_at_size _) ho ⟨es, ep, hd, hk, emap.symm ▸ hnd, fun p hp => ?_⟩
    obtain ⟨n, _, rfl⟩ := List.mem_map.mp hp
    trivial
  have hfrC : ∀ e ∈ fr, e.frame ≠ some H2.objs.size := fun e he q => by
    obtain ⟨L, ρ, q', m⟩ := (r3.frs e he).2
    obtain ⟨_, o, g, _⟩ := r3.own _ m
    rw [Option.some.inj (q'.symm.trans q)] at g
    exact absurd (Heap.lt_size g) (Nat.lt_irrefl _)
  generalize H2.objs.size = C at r4 hfrC
  generalize s2.heap.objs.size = D at r4
  generalize ({ s2 with heap := h₁, toks := s2.toks + ([] : List (Str × Value)).length } : Shared) = s4 at r4
  have r5 : Rep G fr K1' (J 0 ++ ((C, AO.ns (nms.map fun n => (n, none))) :: (D, AO.list []) :: (H1' ++ R))) s4 := r4.perm (List.perm_middle.trans (List.perm_middle.cons _)).symm
  have goal : codeAny G.M A (.compLoop (.ListComp elt [⟨target, iter, ifs, 0⟩] scope pos) 0 (.ref it) (.ref D) (compEnvC scope cl C env)) (P (.ref D) C) s4 := by
    refine compLoopG (CompI G fr K1' nms C D J R l I) (fun n s hI => ?_) l.length ⟨0, [], F1, K1', H1', _, Nat.add_zero _, Nat.le_refl _, .refl K1', m1.trans l1, emap, r5, h0⟩
    obtain ⟨k, acc, F2, K2, H2, ρ, hnk, hak, l2, m2, hρ, r, hI⟩ := hI
    cases hv : l[k]? with
    | none =>
      obtain rfl : k = l.length := by have := pick.mp hv; lia
      exact Pi.fin l2 r fun s' r => fin D C acc F2 K2 H2 ρ s' hfrC (l1.trans l2) m2 hI hak r
    | some y =>
      have hk : k < l.length := (List.getElem?_eq_some_iff.mp hv).1
      refine Pi.item l2 hv r fun v K3 s₁ l3 hvy go => go fun s₂ r => ?_
      have m3 := m2.trans l3
      refine wpAny_mono (T.turn k y acc F2 H2 C ρ hv hI hρ (I (k + 1)) (fun _ _ _ q => q) K3 m3 v hvy _ s₂ (r.perm perm_in)) (fun _ s₃ hq => ?_) fun e s₃ q => (noPQ (v := e) q).elim
      obtain ⟨K4, H4, l4, r4, F4, m4, q⟩ := hq
      have after : ∀ (b : Bool) F5 K5 H5 s5, K4.le K5 → Fz.le F5 K5 → Rep G fr K5 (H5 ++ ((D, AO.list acc) :: (J (k + 1) ++ R))) s5 → (if b then Ev G fr A F5 H5 (eval elt (compEnvC scope cl C env)) (fun z F5 H5 => Off C nms (I (k + 1) (acc ++ [z])) F5 H5) No else Off C nms (I (k + 1) acc) F5 H5) →
          if b = true then wpAny G.M A (eval elt (compEnvC scope cl C env)) (fun x s₄ => wpAny G.M A (call (.builtin "list.append") [.ref D, x]) (fun _ s₅ => CompL G fr K1' nms C D J R l I n s₅) Nv s₄) Nv s5 else CompL G fr K1' nms C D J R l I n s5 := by
        intro b F5 K5 H5 s5 l5 m5 r5 q
        have l25 := l2.trans (l3.trans (l4.trans l5))
        cases b with
        | true =>
          refine wpAny_mono ((show Ev _ _ _ _ _ _ _ _ from q) K5 m5 _ s5 r5) (fun x s6 hq => ?_) fun e s' q => (noPQ (v := e) q).elim
          obtain ⟨K6, H6, l6, r6, z, hz, F6, m6, ρ', H7, hrem, hρ', q⟩ := hq
          have r7 : Rep G fr K6 ((D, AO.list acc) :: ((C, AO.ns ρ') :: (J (k + 1) ++ (H7 ++ R)))) s6 := r6.perm (((hrem.perm.append_right _).trans (perm_in.symm.trans (List.perm_middle.trans (List.perm_middle.cons _)))).trans (.swap ..))
          have ap : EvAt G fr A K6 [(D, AO.list acc)] (call (.builtin "list.append") [.ref D, x]) (fun v F6 H6' => H6' = [(D, AO.list (acc ++ [z]))]) No :=
            append (F := K6) .hd (by lia) rfl K6 (.refl K6) (.builtin "list.append") [.ref D, x] .blt (.cons .ref (.cons hz .nil))
          refine wpAny_mono (ap _ s6 r7) (fun v s7 hq => ?_) fun e s' q => (noPQ (v := e) q).elim
          obtain ⟨K8, H8, l8, r8, _, _, _, _, e2⟩ := hq
          subst e2
          exact ⟨n - 1, nk1 hnk hk, k + 1, acc ++ [z], F6, K8, H7, ρ', nk2 hnk hk, by rw [List.length_append, List.length_singleton]; exact Nat.succ_le_succ hak, l25.trans (l6.trans l8), m6.trans l8, hρ', r8.perm ((List.Perm.swap ..).trans (List.perm_middle.trans (List.perm_middle.cons _)).symm), q⟩
        | false =>
          obtain ⟨ρ', H6, hrem, hρ', q⟩ := q
          exact ⟨n - 1, nk1 hnk hk, k + 1, acc, F5, K5, H6, ρ', nk2 hnk hk, Nat.le_succ_of_le hak, l25, m5, hρ', r5.perm ((hrem.perm.append_right _).trans perm_in.symm), q⟩
      match ifs, q with
      | [], q => exact wpAny_tests_nil (after true F4 K4 H4 s₃ (.refl K4) m4 r4 q)
      | [c], q => exact wpAny_tests_one (wpAny_mono ((show Tp _ _ _ _ _ _ _ _ from q) K4 m4 _ s₃ r4) (fun b s5 hq => by obtain ⟨K5, H5, l5, r5, F5, m5, q⟩ := hq; exact after b F5 K5 H5 s5 l5 m5 r5 q) fun e s' q => (noPQ (v := e) q).elim)
      | _ :: _ :: _, q => exact q.elim
  exact codeAny_compStart_list goal (Pi.self r5 goal)
theorem Rep.other {s : Shared} {h' : Heap} {C : Addr} {x : AO} (r : Rep G fr F ((C, x) :: H) s) (hfr : ∀ e ∈ fr, e.frame ≠ some C) (hs : Heap.SameBut C s.heap h') : Rep G fr F H { s with heap := h' } := by
  have d := r.drop hfr
  have fC : F C = none := (r.own _ (.head _)).1
  have nC : ∀ p ∈ H, p.1 ≠ C := fun p hp q => (List.nodup_cons.mp r.nd).1 (mem_keys hp q)
  exact ⟨d.gok, d.base, fun b o e => hs.extBut b o (fun q => by subst q; rw [fC] at e; cases e) (d.fz b o e), fun p hp => by obtain ⟨n, o, g, rr⟩ := d.own p hp; exact ⟨n, o, hs.extBut _ _ (nC p hp) g, rr⟩, d.nd, d.frs, d.gens, d.os⟩
theorem names_ok {scope : Scope} (h : (scope.names.all fun x => (x.2 != .local) || decide (scope.names.lookup x.1 = some .local)) = true) : ∀ x ∈ scope.names, x.2 = .local → scope.names.lookup x.1 = some .local := fun x hx hl => by
  have := List.all_eq_true.mp h x hx
  rw [hl] at this
  simpa using this
inductive CompS (G : Glob) (fr : List Env) (A : Around) (cenv : Addr → Env) (nms : List Str) (target elt : Expr) (ifs : List Expr) (y : V) (F1 : Fz) (H1 : Hp) (Fin : List V → Fz → Hp → Prop) : Prop where
  | mk (l : List V) (H1' : Hp) (itr : IterO G A target F1 H1 y l H1') (hl : l.length ≤ sizeLine) (I : Nat → List V → Fz → Hp → Prop) (h0 : I 0 [] F1 H1') (T : Turns G fr A cenv nms target elt ifs l I) (fin : ∀ acc F2 H2, I l.length acc F2 H2 → Fin acc F2 H2)
theorem Ev_ListCompO {elt target iter : Expr} {ifs : List Expr} {scope : Scope} {cl : List (Str × Addr)} {pos : Pos} {Q : V → Fz → Hp → Prop} (nms : List Str)
    (hclos : closureFor scope env = pure cl)
    (h : Ev G fr A F H (eval iter env) (fun y F1 H1 => CompS G fr A (fun C => compEnvC scope cl C env) nms target elt ifs y F1 H1 fun acc F2 H2 => Q (.lst acc) F2 H2) E)
    (hnd : nms.Nodup) (hcell : autoParam ((scope.names.all fun x => x.2 != .cell) = true) tac0) (hkind : autoParam (scope.kind = .function) tac0) (hnames : autoParam ((scope.names.all fun x => (x.2 != .local) || decide (scope.names.lookup x.1 = some .local)) = true) tac0)
    (hs : ∀ x, foldedSetIterable iter env x = pure x := by intro _; rfl) :
    Ev G fr A F H (eval (.ListComp elt [⟨target, iter, ifs, 0⟩] scope pos) env) Q E := fun K m R s hR => by
  rw [eval_ListComp]
  refine wpAny_comprehension_free (use := none) rfl hs hclos hkind (names_ok hnames) (h.go m hR (.refl K) fun x y F1 K1 H1 s1 l1 m1 r1 hy hq => ?_)
  obtain ⟨l, H1', itr, hsz, I, h0, T, fin⟩ := hq
  refine comp_core m1 hy r1 itr hsz h0 T hkind (fun z hz => by simpa using List.all_eq_true.mp hcell z hz) hnd fun D C acc F2 K2 H2 ρ s' hfr l2 m2 hI hak r => ?_
  obtain ⟨o, ho, hro⟩ := (r.own _ (.head _)).2
  obtain ⟨ms, hn, _, _⟩ := nsOf ho hro
  refine ⟨ms, hn, fun h' hs' => ?_⟩
  obtain ⟨K3, l3, r3, hv⟩ := list_freeze (H := H2) (R := R) (r.other hfr hs')
  exact ⟨K3, H2, l1.trans (l2.trans l3), r3, _, hv, F2, m2.trans l3, fin acc F2 H2 hI⟩
theorem Ev_ListComp {elt target iter : Expr} {ifs : List Expr} {scope : Scope} {cl : List (Str × Addr)} {pos : Pos} {Q : V → Fz → Hp → Prop} (nms : List Str)
    (hclos : closureFor scope env = pure cl)
    (h : Ev G fr A F H (eval iter env) (fun y F1 H1 => ∃ l, Iterable G A y l ∧ l.length ≤ sizeLine ∧ ∃ I : Nat → List V → Fz → Hp → Prop, I 0 [] F1 H1 ∧ Turns G fr A (fun C => compEnvC scope cl C env) nms target elt ifs l I ∧
      ∀ acc F2 H2, I l.length acc F2 H2 → Q (.lst acc) F2 H2) E)
    (hnd : nms.Nodup) (hcell : autoParam ((scope.names.all fun x => x.2 != .cell) = true) tac0) (hkind : autoParam (scope.kind = .function) tac0) (hnames : autoParam ((scope.names.all fun x => (x.2 != .local) || decide (scope.names.lookup x.1 = some .local)) = true) tac0)
    (hs : ∀ x, foldedSetIterable iter env x = pure x := by intro _; rfl) :
    Ev G fr A F H (eval (.ListComp elt [⟨target, iter, ifs, 0⟩] scope pos) env) Q E :=
  Ev_ListCompO nms hclos (h.mono (fun _ _ _ hq => by obtain ⟨l, itr, hl, I, h0, T, fin⟩ := hq; exact ⟨l, _, itr.o, hl, I, h0, T, fin⟩) fun _ _ _ e => e) hnd hcell hkind hnames hs
theorem Ex_Assign_ListCompO {elt target iter : Expr} {ifs : List Expr} {scope : Scope} {cl : List (Str × Addr)} {pos py spos : Pos} {y : Str} {Q : FV → Fz → Hp → Prop} (nms : List Str)
    (hclos : closureFor scope env = pure cl)
    (h : Ev G fr A F H (eval iter env) (fun x F1 H1 => CompS G fr A (fun C => compEnvC scope cl C env) nms target elt ifs x F1 H1 fun acc F2 H2 => Store env y (.lst acc) F2 H2 (Q .next)) E)
    (hnd : nms.Nodup) (hsw : autoParam (swapsWith (.ListComp elt [⟨target, iter, ifs, 0⟩] scope pos) (some (.Name y py)) spos.line env = pure true) tac0) (hcell : autoParam ((scope.names.all fun x => x.2 != .cell) = true) tac0) (hkind : autoParam (scope.kind = .function) tac0) (hnames : autoParam ((scope.names.all fun x => (x.2 != .local) || decide (scope.names.lookup x.1 = some .local)) = true) tac0)
    (hk : autoParam (env.scope.kind = .function) tac0) (hl : autoParam (env.kindOf y = some .local) tac0)
    (hs : ∀ x, foldedSetIterable iter env x = pure x := by intro _; rfl) :
    Ex G fr A F H (exec (.Assign [.Name y py] (.ListComp elt [⟨target, iter, ifs, 0⟩] scope pos) spos) env) Q E := fun K m R s hR => by
  rw [exec_Assign_Name_used _ _ _ _ hsw]
  refine wpAny_bind (wpAny_standAt (wpAny_bind ?_))
  show wpAny _ A (do let _ ← comprehension (.ListComp elt [⟨target, iter, ifs, 0⟩] scope pos) scope env _ (newList []) false (eval iter env) (some (assign (.Name y py) env))) _ _ s
  refine wpAny_bind (wpAny_mono (wpAny_comprehension_free (use := some (assign (.Name y py) env)) (Q := fun _ s' => PQ G fr K R (FQ Q) .next s') rfl hs hclos hkind (names_ok hnames)
    (h.go m hR (.refl K) fun x y' F1 K1 H1 s1 l1 m1 r1 hy hq => ?_)) (fun _ s' hq => wpAny_pure (wpAny_pure hq)) fun _ _ e => e)
  obtain ⟨l, H1', itr, hsz, I, h0, T, fin⟩ := hq
  refine comp_core m1 hy r1 itr hsz h0 T hkind (fun z hz => by simpa using List.all_eq_true.mp hcell z hz) hnd fun D C acc F2 K2 H2 ρ s' hfr l2 m2 hI hak r => ?_
  obtain ⟨K3, l3, r3, hv⟩ := list_freeze (H := (C, AO.ns ρ) :: H2) (R := R) (r.perm (.swap ..))
  have l13 := l1.trans (l2.trans l3)
  show wpAny _ A (assign (.Name y py) env (.ref D)) _ _ s'
  refine wpAny_mono (wpAny_assign_Name (TpAt.seq (R := (C, AO.ns ρ) :: R) (P := fun _ s'' => ∃ m, s''.heap.Ns C m ∧ ∀ h', Heap.SameBut C s''.heap h' → PQ G fr K R (FQ Q) .next { s'' with heap := h' })
    (store (G := G) (fr := fr) (A := A) (E := E) (m2.trans l3) hv (fin acc F2 H2 hI) hk hl) (r3.perm List.perm_middle.symm) (.refl K3) fun _ K4 H4 s4 l4 r4 hq => ?_)) (fun _ _ x => x) fun e s5 hq => ?_
  · obtain ⟨F4, m4, q⟩ := hq
    have r5 : Rep G fr K4 ((C, AO.ns ρ) :: (H4 ++ R)) s4 := r4.perm List.perm_middle
    obtain ⟨o, ho, hro⟩ := (r5.own _ (.head _)).2
    obtain ⟨ms, hn, _, _⟩ := nsOf ho hro
    exact ⟨ms, hn, fun h' hs' => upPQ (l13.trans l4) (fret (r5.other hfr hs') .next m4 q)⟩
  · obtain ⟨K5, H5, l5, r5, q⟩ := hq
    exact ⟨K5, H5, l13.trans l5, (r5.perm List.perm_middle).drop hfr, q⟩
theorem Ex_Assign_ListComp {elt target iter : Expr} {ifs : List Expr} {scope : Scope} {cl : List (Str × Addr)} {pos py spos : Pos} {y : Str} {Q : FV → Fz → Hp → Prop} (nms : List Str)
    (hclos : closureFor scope env = pure cl)
    (h : Ev G fr A F H (eval iter env) (fun x F1 H1 => ∃ l, Iterable G A x l ∧ l.length ≤ sizeLine ∧ ∃ I : Nat → List V → Fz → Hp → Prop, I 0 [] F1 H1 ∧ Turns G fr A (fun C => compEnvC scope cl C env) nms target elt ifs l I ∧
      ∀ acc F2 H2, I l.length acc F2 H2 → Store env y (.lst acc) F2 H2 (Q .next)) E)
    (hnd : nms.Nodup) (hsw : autoParam (swapsWith (.ListComp elt [⟨target, iter, ifs, 0⟩] scope pos) (some (.Name y py)) spos.line env = pure true) tac0) (hcell : autoParam ((scope.names.all fun x => x.2 != .cell) = true) tac0) (hkind : autoParam (scope.kind = .function) tac0) (hnames : autoParam ((scope.names.all fun x => (x.2 != .local) || decide (scope.names.lookup x.1 = some .local)) = true) tac0)
    (hk : autoParam (env.scope.kind = .function) tac0) (hl : autoParam (env.kindOf y = some .local) tac0)
    (hs : ∀ x, foldedSetIterable iter env x = pure x := by intro _; rfl) :
    Ex G fr A F H (exec (.Assign [.Name y py] (.ListComp elt [⟨target, iter, ifs, 0⟩] scope pos) spos) env) Q E :=
  Ex_Assign_ListCompO nms hclos (h.mono (fun _ _ _ hq => by obtain ⟨l, itr, hl, I, h0, T, fin⟩ := hq; exact ⟨l, _, itr.o, hl, I, h0, T, fin⟩) fun _ _ _ e => e) hnd hsw hcell hkind hnames hk hl hs
end
section
variable {G : Glob} {fr : List Env} {A : Around} {env : Env} {F : Fz} {H H' : Hp} {E : Value → Fz → Hp → Prop} {Q : V → Fz → Hp → Prop} {i j : Int}
theorem mod_ii (hj : j ≠ 0) (h : Q (.int (i.fmod j)) F H) : Op2 G fr A F H (binaryOp .Mod) (.int i) (.int j) Q E := fun K m => ii fun t u R s hR => PySem.AutoIntOps.mod_1 (by simpa using hj) (vret (hR.toks _) .int m h)
theorem Ex_AugAssign {ρ : List (Str × Option V)} {x : Str} {y : V} {pos' op value pos} {Q : FV → Fz → Hp → Prop} (hm : Has H env.locals (.ns ρ)) (hx : Lk ρ x y)
    (h : Ev G fr A F H (eval value env) (fun z F1 H1 => Op2 G fr A F1 H1 (inplaceOp op) y z (fun r F2 H2 => Store env x r F2 H2 (Q .next)) E) E)
    (hk : autoParam (env.scope.kind = .function) tac0) (hl : autoParam (env.kindOf x = some .local) tac0) : Ex G fr A F H (exec (.AugAssign (.Name x pos') op value pos) env) Q E := fun K m R s hR => by
  obtain ⟨o, ho, r⟩ := hR.has hm
  obtain ⟨ms, hn, nd, hp⟩ := nsOf ho r
  obtain ⟨v, hv, hr⟩ := hp _ hx.mem
  refine wpAny_AugAssign_Name (wpAny_loadName_local hk hl hn hv (h.go m hR (.refl K) fun b z F1 K1 H1 s1 l1 m1 r1 hz h1 => (h1 K1 m1 v b (hr.mono l1) hz).go r1 l1 fun c q F2 K2 H2 s2 l2 m2 r2 hq hqq => ?_))
  exact (store m2 hq hqq hk hl).seq r2 (l1.trans l2) fun _ K3 H3 s3 l3 r3 hq => by
    obtain ⟨F3, m3, q⟩ := hq
    exact upPQ (l1.trans (l2.trans l3)) (fret r3 .next m3 q)
theorem range1 (h : Q (.rng 0 i 1) F H) : Cl G fr A F H (.typ "range") [.int i] Q E := cl_t1 fun K m v hv => by
    refine hv.e_int (P := fun v => EvAt _ _ _ _ _ (call _ [v]) _ _) fun t R s hR => ?_
    refine call_range_1 ?_
    obtain ⟨le, r⟩ := hR.newF (tk := s.toks + 1 + 1) (dr := s.drawn) (fun b o e => Heap.get?_push_of_some { cls := .type "range", data := .fields #[.int 0 s.toks, .int i _, .int 1 (s.toks + 1)] } e) (none_at_size s.heap) (Heap.get?_push_size s.heap rfl)
    exact ⟨_, H, le, r, _, .rng (Fz.add_self _ _ _), F, m.trans le, h⟩
theorem range2 (h : Q (.rng i j 1) F H) : Cl G fr A F H (.typ "range") [.int i, .int j] Q E := cl_t2 fun K m v w hv hw => by
      refine hv.e_int (P := fun v => EvAt _ _ _ _ _ (call _ [v, w]) _ _) fun t => hw.e_int (P := fun w => EvAt _ _ _ _ _ (call _ [_, w]) _ _) fun u R s hR => ?_
      refine call_range_2 ?_
      obtain ⟨le, r⟩ := hR.newF (tk := s.toks + 1) (dr := s.drawn) (fun b o e => Heap.get?_push_of_some { cls := .type "range", data := .fields #[.int i _, .int j _, .int 1 s.toks] } e) (none_at_size s.heap) (Heap.get?_push_size s.heap rfl)
      exact ⟨_, H, le, r, _, .rng (Fz.add_self _ _ _), F, m.trans le, h⟩
theorem rngV_n (n : Nat) : rngV 0 n 1 = (List.range n).map fun (k : Nat) => .int k := by
  have e : (Builtin.Range.rangeSize 0 n 1).toNat = n := by
    unfold Builtin.Range.rangeSize
    simp
    split <;> lia
  unfold rngV
  rw [e]
  simp
theorem small_n {n : Nat} (h : n < 2 ^ 62) : Builtin.Range.small 0 n 1 = true := by
  have e : Builtin.Range.rangeSize 0 n 1 = n := by
    unfold Builtin.Range.rangeSize
    simp
    try lia
  unfold Builtin.Range.small
  rw [e]
  simp [Builtin.Range.rangeFitsLong]
  lia
end
section
variable {G : Glob} {fr : List Env} {A : Around} {env : Env} {F : Fz} {H H' : Hp} {E : Value → Fz → Hp → Prop} {Q : V → Fz → Hp → Prop}
theorem Ev_Attribute {value : Expr} {attr : Str} {pos : Pos} (h : Ev G fr A F H (eval value env) (fun x F1 H1 => Op1 G fr A F1 H1 (fun v => getAttr v attr true) x Q E) E)
    (he : autoParam (eval (.Attribute value attr pos) env = (do
      let o ← eval value env
      standAt pos.atName
      let r ← holding [o] (getAttr o attr true)
      letTemporaryGo value o r
      pure r)) tac3) : Ev G fr A F H (eval (.Attribute value attr pos) env) Q E := fun K m R s hR =>
  Attribute_any_ (h.go m hR (.refl K) fun v x F1 K1 H1 s1 l1 m1 r1 hx h1 => (h1 K1 m1 v hx).last r1 l1) he
noncomputable def noBlt : V → Prop
  | .blt _ => False
  | _ => True
theorem noBlt.handed {v : Value} {y : V} (h : noBlt y) (hv : RV F v y) : handedOut v = pure v := by
  cases hv <;> first | rfl | exact h.elim
theorem get_exc {x D : Addr} {c : String} {args : List V} {tb : Option Addr} {cx : Bool} {ρ : List (Str × V)} {name : Str} {y : V} (hx : Has H x (.exc "Exception" args tb (some D) cx)) (hD : Has H D (.attrs ρ)) (hy : ρ.lookup name = some y) (hn : noBlt y) (hB : typeLookup (.type "Exception") name = pure none) (h : Q y F H) :
    Op1 G fr A F H (fun v => getAttr v name true) (.ref x) Q E := fun K m v hv R s hR => by
  obtain rfl := hv.i_ref
  obtain ⟨o, ho, vs, a, v5, hc, hd, hdt, _⟩ := hR.has hx
  obtain ⟨oD, hoD, es, ep, hed, hk, hu, hf⟩ := hR.has hD
  have := hf name
  rw [hy] at this
  obtain ⟨v, hv, hr⟩ := this
  exact exc_get ho hc hd hdt ⟨oD, es, ep, hoD, hed, hk, fun _ => rfl⟩ hv hB (hn.handed hr) (vret (hR.toks _) hr m h)
noncomputable def SetA (G : Glob) (fr : List Env) (A : Around) (F : Fz) (H : Hp) (attr : Str) (x y : V) (Q : Fz → Hp → Prop) (E : Value → Fz → Hp → Prop) : Prop := ∀ K, F.le K → ∀ a v, RV K a x → RV K v y → TpAt G fr A K H (setAttr a attr v) (fun _ => Dn Q) E
theorem Ex_Assign_Attr {o : Expr} {attr : Str} {pos' value pos} {Q : FV → Fz → Hp → Prop}
    (h : Ev G fr A F H (eval value env) (fun y F1 H1 => Ev G fr A F1 H1 (eval o env) (fun x F2 H2 => SetA G fr A F2 H2 attr x y (Q .next) E) E) E)
    (hs : autoParam (swapsWith value (some (.Attribute o attr pos')) pos.line env = pure false) tac0) : Ex G fr A F H (exec (.Assign [.Attribute o attr pos'] value pos) env) Q E := fun K m R s hR =>
  plainObj_wpAny_Assign_Attribute (h.go m hR (.refl K) fun v y F1 K1 H1 s1 l1 m1 r1 hy h1 => h1.go m1 r1 l1 fun a x F2 K2 H2 s2 l2 m2 r2 hx h2 =>
    (h2 K2 m2 a v hx (hy.mono l2)).seq r2 (l1.trans l2) fun _ K3 H3 s3 l3 r3 hq => by
      obtain ⟨F3, m3, q⟩ := hq
      exact upPQ (l1.trans (l2.trans l3)) (fret r3 .next m3 q)) hs
theorem lookup_cons' {ρ : List (Str × V)} {name n : Str} {y : V} : ((name, y) :: ρ).lookup n = if n = name then some y else ρ.lookup n := by
  by_cases e : n = name
  · subst e; simp [List.lookup]
  · have hne : (n == name) = false := beq_eq_false_iff_ne.mpr e
    simp [List.lookup, hne, e]
theorem attrs_of {w : World} {h : Heap} {D : Addr} {ρ : List (Str × V)} {m : Str → Option Value} {name : Str} {v : Value} {y : V} (hn : h.Ns1 D (fun z => if z = name then some v else m z)) (hv : RV F v y) (hm : ∀ n, match ρ.lookup n with | none => m n = none | some x => ∃ v, m n = some v ∧ RV F v x) :
    ∃ o, h.get? D = some o ∧ RO w F o (.attrs ((name, y) :: ρ)) := by
  obtain ⟨o, es, ep, ho, hd, hk, hu, hf⟩ := hn
  refine ⟨o, ho, es, ep, hd, hk, hu, fun n => ?_⟩
  rw [lookup_cons', hf n]
  dsimp only
  by_cases e : n = name
  · rw [if_pos e, if_pos e]; exact ⟨v, rfl, hv⟩
  · rw [if_neg e, if_neg e]; exact hm n
theorem set_exc {x D : Addr} {args : List V} {tb : Option Addr} {cx : Bool} {ρ : List (Str × V)} {name : Str} {y : V} {Q : Fz → Hp → Prop} (hx : Has H x (.exc "Exception" args tb (some D) cx)) (hD : Upd H D (.attrs ρ) (.attrs ((name, y) :: ρ)) H') (hsz : ρ.length + 1 ≤ sizeLine) (hB : typeLookup (.type "Exception") name = pure none) (h : Q F H') :
    SetA G fr A F H name (.ref x) y Q E := fun K m a v ha hv R s hR => by
  obtain rfl := ha.i_ref
  obtain ⟨o, ho, vs, a, v5, hc, hd, hdt, _⟩ := hR.has hx
  obtain ⟨oD, hoD, es, ep, hed, hk, hu, hf⟩ := hR.get hD.mem
  have hn1 : s.heap.Ns1 D (fun n => nsFind es n) := ⟨oD, es, ep, hoD, hed, hk, hu, fun _ => rfl⟩
  refine exc_set ho hc fun tk P E' A' hP => excset_more (ns := ρ.map (·.1)) ho hc hd hdt hB hn1 (fun n hne => ?_) (by rw [List.length_map]; exact hsz) fun h' tk' hn' hs' => hP _ ?_
  · have := hf n
    cases q : ρ.lookup n with
    | none => rw [q] at this; exact absurd this hne
    | some z =>
      have : ∀ {l : List (Str × V)} {n : Str} {z : V}, l.lookup n = some z → n ∈ l.map (·.1) := by
        intro l
        induction l with
        | nil => intro n z h; cases h
        | cons p l ih =>
          intro n z h
          rw [lookup_cons'] at h
          by_cases e : n = p.1
          · exact e ▸ .head _
          · rw [if_neg e] at h; exact .tail _ (ih h)
      exact this q
  · obtain ⟨o', ho', r'⟩ := attrs_of (w := G.w) hn' hv hf
    exact ⟨K, H', .refl K, hR.upd' (tk := tk') (dr := s.drawn) hD hs'.extBut ho' r' notNs_attrs, F, m, h⟩
theorem Rep.adopt {s : Shared} {D : Addr} {o : Obj} {x : AO} (h : Rep G fr F H s) (hF : F D = none) (hH : D ∉ H.map (·.1)) (ho : s.heap.get? D = some o) (r : RO G.w F o x) : Rep G fr F ((D, x) :: H) s :=
  ⟨h.gok, h.base, h.fz, fun p hp => by
    cases hp with
    | head => exact ⟨hF, o, ho, r⟩
    | tail _ hp => exact h.own p hp, List.nodup_cons.mpr ⟨hH, h.nd⟩, fun e he => ⟨(h.frs e he).1, by obtain ⟨L, ρ, a, b⟩ := (h.frs e he).2; exact ⟨L, ρ, a, .tail _ b⟩⟩, h.gens, h.os⟩
theorem set_exc_first {x : Addr} {args : List V} {name : Str} {y : V} {H1 : Hp} {cx : Bool} {Q : Fz → Hp → Prop} (hx : Rem H x (.exc "Exception" args none none cx) H1) (hB : typeLookup (.type "Exception") name = pure none)
    (h : ∀ D, Q F ((D, .attrs [(name, y)]) :: (x, .exc "Exception" args none (some D) cx) :: H1)) :
    SetA G fr A F H name (.ref x) y Q E := fun K m a v ha hv R s hR => by
  obtain rfl := ha.i_ref
  have r1 := hR.perm (hx.perm.append_right R)
  obtain ⟨_, o, ho, hro⟩ := r1.own _ (.head _)
  obtain ⟨vs, a, v5, hc, hd, hdt, h0, ha, h1, h5, h5s, hcx⟩ := id hro
  refine exc_set ho hc fun tk P E' A' hP => excset_first ho hc hd hdt hB fun h' tk' D hD hx' hn' hk => hP _ ?_
  have r2 : Rep G fr K ((x, .exc "Exception" args none (some D) cx) :: (H1 ++ R)) { s with heap := h', toks := tk' } :=
    Rep.upd (dr := s.drawn) (x := .exc "Exception" args none none cx) (x' := .exc "Exception" args none (some D) cx) r1 (fun b o hb e => hk b o hb e) hx' ⟨vs, a, v5, hc, rfl, hdt, h0, ha, h1, h5, h5s, hcx⟩ (fun hq => by obtain ⟨_, e⟩ := hq; cases e)
  obtain ⟨o', ho', r'⟩ := attrs_of (w := G.w) (F := K) (ρ := []) hn' hv (fun n => rfl)
  have fr1 := r1.fresh hD
  exact ⟨K, _, .refl K, r2.adopt fr1.1 fr1.2 ho' r', F, m, h D⟩
theorem exc_new0 (h : ∀ a, Q (.ref a) F ((a, .exc "Exception" [] none none true) :: H)) : Cl G fr A F H (.typ "Exception") [] Q E := cl_t0 fun K m R s hR => by
  refine wpAny_call_exc PySem.F.excCall_Exception fun h' e hm => ?_
  obtain ⟨hk, hn, t, he, ht, hto⟩ := hm
  obtain ⟨le, r1⟩ := hR.newF (tk := s.toks) (dr := s.drawn) hk ht hto
  have fr1 := hR.fresh hn
  have hne : e ≠ t := fun q => by
    subst q
    rw [he] at hto
    exact absurd (congrArg Obj.cls (Option.some.inj hto)) (by simp)
  have r2 := Rep.adopt (x := .exc "Exception" [] none none true) r1 (by unfold Fz.add; rw [if_neg hne]; exact fr1.1) fr1.2 he ⟨_, t, _, rfl, rfl, rfl, rfl, .tup (vs := []) (l := []) (Fz.add_self _ _ _) rfl (fun i v x e => by simp at e), rfl, rfl, (fun q => absurd q (by decide)), fun _ => rfl⟩
  exact ⟨_, _, le, r2, _, .ref, F, m.trans le, h e⟩
theorem RD.length {w : World} {es : List DictEntry} {l : List (V × V)} (h : RD w F es l) : es.length = l.length := by
  induction h with
  | nil => rfl
  | cons _ _ _ ih => simp [ih]
theorem clear {a : Addr} {l : List (V × V)} (hu : Upd H a (.dict l) (.dict []) H') (hl : l.length ≤ sizeLine) (h : Q .none F H') : Cl G fr A F H (.blt "dict.clear") [.ref a] Q E := cl_b1 fun K m v hv R s hR => by
    obtain rfl := hv.i_ref
    obtain ⟨o, ho, es, n, rfl, hr⟩ := hR.get hu.mem
    have hes : es.size ≤ sizeLine := by have := hr.length; simp at this; lia
    refine wpAny_call_entry PySem.F.slot_dict_clear ⟨_, ho, rfl⟩ PySem.F.entry_dict_clear ?_ (PySem.F.args_dict_clear_1 _)
    unfold Builtin.«dict.clear»
    refine wpAny_bind ?_
    unfold Builtin.Dict.noArgs
    refine wpAny_bind (wpAny_notOrdered_dict ⟨_, ho, rfl⟩ ?_)
    show wpAny _ _ (pure a) _ _ s
    refine wpAny_pure ?_
    refine wpAny_bind (wpAny_dictEntries ho rfl ?_)
    refine wpAny_bind ?_
    unfold bearsInstanceDictMark
    refine wpAny_bind (wpAny_load ho (wpAny_pure ?_))
    refine wpAny_bind (wpAny_updateDictKeys (hz := hes) ho rfl ?_)
    have g := Heap.get?_update_self (Obj.mapDictKeys fun _ => #[]) ho (Obj.isFreed_of_dict (Obj.data_mapDictKeys rfl _))
    have r2 : Rep G fr K (H' ++ R) { s with heap := s.heap.update a (Obj.mapDictKeys fun _ => #[]) } := hR.upd' (tk := s.toks) (dr := s.drawn) hu (Heap.SameBut.update ..).extBut g ⟨#[], n + 1, rfl, .nil⟩ notNs_dict
    split
    · exact wpAny_bind (wpAny_letGo (wpAny_pure ⟨.none, rfl, K, H', .refl K, r2, _, .none, F, m, h⟩))
    · exact wpAny_bind (wpAny_pure (wpAny_pure ⟨.none, rfl, K, H', .refl K, r2, _, .none, F, m, h⟩))
inductive PatF (F : Fz) (p : Addr) : Prop where
  | intro (o : Obj) (fs items : Array Value) (c : Addr) (oc : Obj) (n : Nat) (t3 t6 : Tok) (h1 : F p = some o) (h2 : o.cls = .type "re.Pattern") (h3 : o.dict = none) (h4 : o.data = .fields fs) (h5 : fs.getD 6 .none = .int 0 t6) (h6 : fs.getD 5 .none = .ref c) (h7 : fs.getD 2 .none = .int 3 t3)
    (h8 : F c = some oc) (h9 : oc.data = .seq items n) (h10 : Code (wordsOf items)) (h11 : Sre.header (wordsOf items) = (1, 5))
theorem PatF.mono {F F' : Fz} {p : Addr} (le : F.le F') (h : PatF F p) : PatF F' p := by
  obtain ⟨o, fs, items, c, oc, n, t3, t6, h1, h2, h3, h4, h5, h6, h7, h8, h9, h10, h11⟩ := h
  exact ⟨o, fs, items, c, oc, n, t3, t6, le _ _ h1, h2, h3, h4, h5, h6, h7, le _ _ h8, h9, h10, h11⟩
noncomputable def BoundF (F : Fz) (b p : Addr) : Prop := F b = some (boundM "re.Pattern.match" (.ref p)) ∧ PatF F p
theorem BoundF.mono {F F' : Fz} {b p : Addr} (le : F.le F') (h : BoundF F b p) : BoundF F' b p := ⟨le _ _ h.1, h.2.mono le⟩
theorem BoundF.ok {b p : Addr} (h : BoundF F b p) : KOk F (.ref b) := .meth h.1 rfl rfl
theorem get_match {p : Addr} (hp : PatF F p) (h : ∀ b F', F.le F' → BoundF F' b p → Q (.ref b) F' H) : Op1 G fr A F H (fun v => getAttr v "match" true) (.ref p) Q E := fun K m v hv R s hR => by
  obtain rfl := hv.i_ref
  obtain ⟨o, fs, items, c, oc, n, t3, t6, h1, h2, h3, h4, _⟩ := id hp
  refine pat_match (hR.fz _ _ (m _ _ h1)) h2 h3 h4 ?_
  obtain ⟨le, r⟩ := hR.newF (tk := s.toks + 1) (dr := s.drawn) (fun b o e => Heap.get?_push_of_some (boundM "re.Pattern.match" (.ref p)) e) (none_at_size _) (Heap.get?_push_size _ rfl)
  exact ⟨_, H, le, r, _, .ref, _, .refl _, h _ _ (m.trans le) ⟨Fz.add_self _ _ _, hp.mono (m.trans le)⟩⟩
inductive MatchF (F : Fz) (m : Addr) (T : Str) (st hd : Nat) (s0 s1 s2 : Option (Nat × Nat)) : Prop where
  | intro (tk : Tok) (pat : Value) (lim : Nat) (li : Int) (u : Addr) (h1 : F m = some (matchObj (.str T tk) pat st lim li u)) (h2 : F u = some { cls := .type "tuple", data := .seq (spanTup st hd s0 s1 s2).toArray })
theorem MatchF.mono {F F' : Fz} {m : Addr} {T : Str} {st hd : Nat} {s0 s1 s2 : Option (Nat × Nat)} (le : F.le F') (h : MatchF F m T st hd s0 s1 s2) : MatchF F' m T st hd s0 s1 s2 := by obtain ⟨a, b, c, d, e, h1, h2⟩ := h; exact ⟨a, b, c, d, e, le _ _ h1, le _ _ h2⟩
theorem MatchF.ty {m : Addr} {T : Str} {st hd : Nat} {s0 s1 s2 : Option (Nat × Nat)} (h : MatchF F m T st hd s0 s1 s2) : TyIs F H (.ref m) "re.Match" := by obtain ⟨a, b, c, d, e, h1, h2⟩ := h; exact .frz h1 rfl rfl
theorem match_num {b p : Addr} {T : Str} {i : Nat} (hb : BoundF F b p) (hi : i < T.cps.size) (hT : T.cps.size ≤ Sre.maxRepeat)
    (hnone : intAt T.cps T.cps.size (signAt T.cps T.cps.size i) = none → Q .none F H)
    (hsome : ∀ p, intAt T.cps T.cps.size (signAt T.cps T.cps.size i) = some p → ∀ m F', F.le F' → MatchF F' m T i (expEnd T.cps T.cps.size (fracEnd T.cps T.cps.size p)) (some (i, p)) ((fracAt T.cps T.cps.size p).map fun e => (p, e)) ((expAt T.cps T.cps.size (fracEnd T.cps T.cps.size p)).map fun e => (fracEnd T.cps T.cps.size p, e)) → Q (.ref m) F' H) :
    Cl G fr A F H (.ref b) [.str T, .int i] Q E := fun K m v vs hv hvs => by
      obtain rfl := hv.i_ref
      refine hvs.e2 (P := fun vs => EvAt _ _ _ _ _ (call _ vs) _ _) fun x y hx hy => hx.e_str (P := fun x => EvAt _ _ _ _ _ (call _ [x, y]) _ _) fun t => hy.e_int (P := fun y => EvAt _ _ _ _ _ (call _ [_, y]) _ _) fun u' R s hR => ?_
      obtain ⟨hb, o, fs, items, c, oc, n, t3, t6, h1, h2, h3, h4, h5, h6, h7, h8, h9, h10, h11⟩ := BoundF.mono m hb
      refine call_match (hR.fz _ _ hb) (hR.fz _ _ h1) h2 h4 fun A' => match_run (hR.fz _ _ h1) h4 h5 h6 h7 (hR.fz _ _ h8) h9 h10 h11 hi hT (fun hn => ⟨_, rfl, K, H, .refl K, hR, _, .none, F, m, hnone hn⟩) fun p hp h' hk u v li n1 n2 n3 hu hv => ?_
      obtain ⟨le1, r1⟩ := hR.newF (tk := s.toks) (dr := s.drawn) hk n1 hu
      have f2 : (K.add u { cls := .type "tuple", data := .seq (spanTup i (expEnd T.cps T.cps.size (fracEnd T.cps T.cps.size p)) (some (i, p)) ((fracAt T.cps T.cps.size p).map fun e => (p, e)) ((expAt T.cps T.cps.size (fracEnd T.cps T.cps.size p)).map fun e => (fracEnd T.cps T.cps.size p, e))).toArray }) v = none := by
        unfold Fz.add; rw [if_neg (fun q => n3 q.symm)]; exact (hR.fresh n2).1
      obtain ⟨o', ho', le2, r2⟩ := Rep.freeze (x := .raw _) (Rep.adopt (x := .raw (matchObj (.str T _) (.ref _) i T.cps.size li u)) r1 f2 (hR.fresh n2).2 hv rfl) (fun _ e => nomatch e)
      have ho'' : o' = matchObj (.str T _) (.ref _) i T.cps.size li u := ho'
      subst ho''
      exact ⟨_, rfl, _, H, le1.trans le2, r2, _, .ref, _, .refl _, hsome p hp v _ (m.trans (le1.trans le2)) ⟨_, _, _, _, u, Fz.add_self _ _ _, le2 _ _ (Fz.add_self _ _ _)⟩⟩
noncomputable def grp? (T : Str) : Option (Nat × Nat) → V
  | none => .none
  | some (x, y) => .str ⟨T.cps.extract x y⟩
theorem grp_rv {T : Str} {b : Tok} {sp : Option (Nat × Nat)} : RV F (grpV T b sp) (grp? T sp) := by
  cases sp with
  | none => exact .none
  | some p => exact .str
theorem groups {m : Addr} {T : Str} {st hd : Nat} {s0 s1 s2 : Option (Nat × Nat)} (hm : MatchF F m T st hd s0 s1 s2) (hT : T.cps.size ≤ sizeLine) (h : Q (.tup [grp? T s0, grp? T s1, grp? T s2]) F H) : Cl G fr A F H (.blt "re.Match.groups") [.ref m] Q E := cl_b1 fun K m v hv R s hR => by
    obtain rfl := hv.i_ref
    obtain ⟨tk, pat, lim, li, u, h1, h2⟩ := hm.mono m
    refine wpAny_call_entry slot_groups ⟨_, hR.fz _ _ h1, rfl⟩ entry_groups (groups_run (hR.fz _ _ h1) (hR.fz _ _ h2) hT fun a b c tk' => ⟨_, rfl, ?_⟩) (args_groups _)
    obtain ⟨le, r⟩ := hR.newF (tk := tk') (dr := s.drawn) (fun b' o e => Heap.get?_push_of_some { cls := .type "tuple", data := .seq #[grpV T a s0, grpV T b s1, grpV T c s2] } e) (none_at_size s.heap) (Heap.get?_push_size s.heap (o := { cls := .type "tuple", data := .seq #[grpV T a s0, grpV T b s1, grpV T c s2] }) rfl)
    exact ⟨_, H, le, r, _, .tup (vs := [grpV T a s0, grpV T b s1, grpV T c s2]) (Fz.add_self _ _ _) rfl (RVs.get (.cons grp_rv (.cons grp_rv (.cons grp_rv .nil)))), F, m.trans le, h⟩
theorem mend {m : Addr} {T : Str} {st hd : Nat} {s0 s1 s2 : Option (Nat × Nat)} (hm : MatchF F m T st hd s0 s1 s2) (h : Q (.int hd) F H) : Cl G fr A F H (.blt "re.Match.end") [.ref m] Q E := cl_b1 fun K m v hv R s hR => by
    obtain rfl := hv.i_ref
    obtain ⟨tk, pat, lim, li, u, h1, h2⟩ := hm.mono m
    exact wpAny_call_entry slot_end ⟨_, hR.fz _ _ h1, rfl⟩ entry_end (end_run (hR.fz _ _ h1) (hR.fz _ _ h2) fun a tk' => ⟨_, rfl, vret (hR.toks _) .int m h⟩) (args_end _)
end
section
variable {G : Glob} {fr : List Env} {A : Around} {env : Env} {F : Fz} {H H' : Hp} {E : Value → Fz → Hp → Prop}
inductive StoreC (env : Env) (x : Str) (y : V) (F : Fz) (H : Hp) (Q : Fz → Hp → Prop) : Prop where
  | intro (c : Addr) (z : Option V) (H' : Hp) (hc : env.cells.lookup x = some c) (hu : Upd H c (.cell z) (.cell (some y)) H') (h : Q F H')
theorem StoreC.mk {env : Env} {x : Str} {y : V} {Q : Fz → Hp → Prop} {c : Addr} {z : Option V} {H' : Hp} (hc : env.cells.lookup x = some c) (hu : Upd H c (.cell z) (.cell (some y)) H') (h : Q F H') : StoreC env x y F H Q := ⟨c, z, H', hc, hu, h⟩
theorem notNs_cell {z z' : Option V} : (∃ ρ, AO.cell z = .ns ρ) → ∃ ρ, AO.cell z' = .ns ρ := fun h => by obtain ⟨_, q⟩ := h; cases q
theorem storeC {K : Fz} {x : Str} {v : Value} {y : V} {Q : Fz → Hp → Prop} (m : F.le K) (hv : RV K v y) (h : StoreC env x y F H Q) (hk : autoParam (env.scope.kind = .function) tac0) (hl : autoParam (env.kindOf x = some .cell) tac0) : TpAt G fr A K H (storeName env x v) (fun _ => Dn Q) E := fun R s hR => by
  obtain ⟨c, z, H', hc, hu, h⟩ := h
  obtain ⟨o, ho, r⟩ := hR.get hu.mem
  have hcell : ∃ v₀, s.heap.IsCell c v₀ := by
    cases z with
    | none => exact ⟨none, o, ho, r⟩
    | some z => obtain ⟨v, e, _⟩ := r; exact ⟨some v, o, ho, e⟩
  obtain ⟨v₀, hcell⟩ := hcell
  refine wpAny_storeName_cell hk hl hc hcell fun h' hc' hs' => ?_
  obtain ⟨o', ho', hd'⟩ := hc'
  exact ⟨K, H', .refl K, hR.upd' (tk := s.toks) (dr := s.drawn) hu hs'.extBut ho' ⟨v, hd', hv⟩ notNs_cell, F, m, h⟩
noncomputable def Sto (G : Glob) (fr : List Env) (A : Around) (env : Env) (F : Fz) (H : Hp) (x : Str) (y : V) (Q : Fz → Hp → Prop) (E : Value → Fz → Hp → Prop) : Prop := ∀ K, F.le K → ∀ v, RV K v y → TpAt G fr A K H (storeName env x v) (fun _ => Dn Q) E
theorem Sto_l {x : Str} {y : V} {Q : Fz → Hp → Prop} (h : Store env x y F H Q) (hk : autoParam (env.scope.kind = .function) tac0) (hl : autoParam (env.kindOf x = some .local) tac0) : Sto G fr A env F H x y Q E := fun K m v hv => store m hv h hk hl
theorem Sto_c {x : Str} {y : V} {Q : Fz → Hp → Prop} (h : StoreC env x y F H Q) (hk : autoParam (env.scope.kind = .function) tac0) (hl : autoParam (env.kindOf x = some .cell) tac0) : Sto G fr A env F H x y Q E := fun K m v hv => storeC m hv h hk hl
noncomputable def tabOf (l : List (Nat × Nat × Addr)) : Array Value := (l.flatMap fun t => [rawInt t.1, rawInt t.2.1, .ref t.2.2]).toArray
theorem tab_triples : ∀ l : List (Nat × Nat × Addr), TriplesOk (tabOf l).toList
  | [] => trivial
  | t :: l => tab_triples l
noncomputable def tabFind (pos : Pos) : List (Nat × Nat × Addr) → Option Addr
  | [] => none
  | t :: l => if t.1 = pos.line ∧ t.2.1 = pos.col then some t.2.2 else tabFind pos l
theorem tab_among (pos : Pos) : ∀ l : List (Nat × Nat × Addr), codeAmong pos (tabOf l).toList = (tabFind pos l).map .ref
  | [] => rfl
  | t :: l => by
    have e : codeAmong pos (tabOf (t :: l)).toList = if ((t.1 : Int) == (pos.line : Int) && (t.2.1 : Int) == (pos.col : Int)) then some (.ref t.2.2) else codeAmong pos (tabOf l).toList := rfl
    have e2 : tabFind pos (t :: l) = if t.1 = pos.line ∧ t.2.1 = pos.col then some t.2.2 else tabFind pos l := rfl
    rw [e, tab_among pos l, e2]
    by_cases h : t.1 = pos.line ∧ t.2.1 = pos.col
    · rw [if_pos h, if_pos (by simp [h.1, h.2])]; rfl
    · rw [if_neg h, if_neg]
      intro q
      rw [Bool.and_eq_true, beq_iff_eq, beq_iff_eq] at q
      exact h ⟨by exact_mod_cast q.1, by exact_mod_cast q.2⟩
theorem tab_snoc (l : List (Nat × Nat × Addr)) (x y : Nat) (c : Addr) : tabOf l ++ #[rawInt x, rawInt y, .ref c] = tabOf (l ++ [(x, y, c)]) := by
  unfold tabOf
  rw [List.flatMap_append]
  simp
noncomputable def CodeOk (F : Fz) (c P : Addr) : Prop := ∀ h : Heap, (∀ a o, F a = some o → h.get? a = some o) → CodeHd h c P
theorem CodeOk.mono {F F' : Fz} {c P : Addr} (le : F.le F') (h : CodeOk F c P) : CodeOk F' c P := fun hp k => h hp fun a o e => k a o (le a o e)
noncomputable def BOk (G : Glob) (P : Addr) : Prop := mainGlobals ≠ P ∧ ∀ h : Heap, (∀ a o, G.F0 a = some o → h.get? a = some o) → h.BuiltinsAt G.mg P
inductive FnF (F : Fz) (f : Addr) (name qual : Str) (params : Arguments) (body : List Stmt) (scope : Scope) (clos : List (Str × Addr)) : Prop where
  | intro (doc pm : Value) (c : Addr) (ctv : Value) (h1 : F f = some (fnMade name qual params body scope clos doc pm c ctv)) (h2 : CodeF F (.ref c) qual)
theorem FnF.mono {F F' : Fz} {f : Addr} {name qual : Str} {params : Arguments} {body : List Stmt} {scope : Scope} {clos : List (Str × Addr)} (le : F.le F') (h : FnF F f name qual params body scope clos) : FnF F' f name qual params body scope clos := by obtain ⟨a, b, c, d, e, g⟩ := h; exact ⟨a, b, c, d, le _ _ e, g.mono le⟩
theorem FnF.ok {f : Addr} {name qual : Str} {params : Arguments} {body : List Stmt} {scope : Scope} {clos : List (Str × Addr)} (h : FnF F f name qual params body scope clos) : KOk F (.ref f) := by obtain ⟨a, b, c, d, e, g⟩ := h; exact .fn e rfl
theorem made {R : Hp} {s : Shared} {P : Addr} {l : List (Nat × Nat × Addr)} {x y : Nat} {H1 : Hp} {h' : Heap} {tk : Nat} {o : Obj} {c' : Addr} {qual : Str} (ho : o.isFreed = false) (hR : Rep G fr F (H ++ R) s) (hrem : Rem H P (.raw (tabObj (tabOf l))) H1)
    (he : Heap.ExtBut P s.heap h') (h1 : s.heap.objs.size ≤ c') (h2 : c' < h'.objs.size) (hc : h'.CodeRec (.ref c') qual) (hP : h'.get? P = some (tabObj (tabOf l ++ #[rawInt x, rawInt y, .ref c']))) :
    ∃ F', F.le F' ∧ F' h'.objs.size = some o ∧ CodeF F' (.ref c') qual ∧ Rep G fr F' (((P, .raw (tabObj (tabOf (l ++ [(x, y, c')])))) :: H1) ++ R) { s with heap := h'.push o, toks := tk } := by
  rw [tab_snoc] at hP
  have r1 := hR.perm (hrem.perm.append_right R)
  have r2 : Rep G fr F ((P, .raw (tabObj (tabOf (l ++ [(x, y, c')])))) :: (H1 ++ R)) { s with heap := h' } := Rep.upd (tk := s.toks) (dr := s.drawn) (x := .raw (tabObj (tabOf l))) (x' := .raw (tabObj (tabOf (l ++ [(x, y, c')])))) r1 he hP rfl (fun hq => by obtain ⟨_, e⟩ := hq; cases e)
  obtain ⟨c, oc, vs, t, e1, e2, e3, e4⟩ := hc
  cases e1
  have gone : s.heap.get? c' = none := by
    cases q : s.heap.get? c' with
    | none => rfl
    | some o => exact absurd (Heap.lt_size q) (Nat.not_lt.mpr h1)
  have n1 := r1.fresh gone
  obtain ⟨o', ho', le1, r3⟩ := Rep.freeze (x := .raw oc) (r2.adopt n1.1 n1.2 e2 rfl) (fun _ e => nomatch e)
  have ho'' : o' = oc := ho'
  subst ho''
  obtain ⟨le2, r4⟩ := r3.newF (h' := h'.push o) (tk := tk) (dr := s.drawn) (fun b o e => Heap.get?_push_of_some _ e) (none_at_size _) (Heap.get?_push_size _ ho)
  refine ⟨_, le1.trans le2, Fz.add_self _ _ _, ⟨c', o', vs, t, rfl, le2 _ _ (Fz.add_self _ _ _), e3, e4⟩, r4⟩
theorem Ex_FunctionDef {name : Str} {params : Arguments} {body : List Stmt} {scope : Scope} {pos : Pos} {c P : Addr} {l : List (Nat × Nat × Addr)} {H1 : Hp} {clos : List (Str × Addr)} {Q : FV → Fz → Hp → Prop}
    (hcode : env.code = .ref c) (hC : CodeOk F c P) (hB : BOk G P) (hrem : Rem H P (.raw (tabObj (tabOf l))) H1) (hnew : tabFind pos l = none) (hcl : closureFor scope env = pure clos)
    (h : ∀ f c' F', F.le F' → FnF F' f name (qualnameIn env name name) params body scope clos → Sto G fr A env F' ((P, .raw (tabObj (tabOf (l ++ [(pos.line, pos.col, c')])))) :: H1) name (.ref f) (Q .next) E)
    (hd0 : autoParam (params.defaults = []) tac0) (hk0 : autoParam (params.kw_defaults = []) tac0) (ha : autoParam (annTrees params none env = []) tac0) (hg : autoParam (env.globals = mainGlobals) tac0) :
    Ex G fr A F H (exec (.FunctionDef name params body [] none [] scope none name pos) env) Q E := fun K m R s hR => by
  have hP : s.heap.get? P = some (tabObj (tabOf l)) := by
    obtain ⟨_, o, ho, hro⟩ := (hR.perm (hrem.perm.append_right R)).own _ (.head _)
    have hro' : o = tabObj (tabOf l) := hro
    subst hro'; exact ho
  refine nestDef_K hd0 hk0 ha (makeFunction_K (mg := G.mg) hcl hg hR.glob.1 hcode ((hC.mono m) _ hR.fz) hP (tab_triples l) (by rw [tab_among, hnew]; rfl) hB.1 (hB.2 _ fun a o e => hR.fz a o (hR.base a o e)) fun c' ctv doc h' tk he h1 h2 hc hP' => ?_)
  obtain ⟨F', le, hf, hcf, r⟩ := made (o := fnMade name (qualnameIn env name name) params body scope clos doc ((G.mg "__name__").getD .none) c' ctv) (tk := tk) rfl hR hrem he h1 h2 hc hP'
  exact (h h'.objs.size c' F' (m.trans le) ⟨doc, _, c', ctv, hf, hcf⟩ F' (.refl F') _ .ref).seq r le fun _ K2 H2 s2 l2 r2 hq => by
    obtain ⟨F2, m2, q⟩ := hq
    exact upPQ (le.trans l2) (fret r2 .next m2 q)
end
section
variable {G : Glob} {fr : List Env} {A : Around} {F : Fz} {H : Hp} {E : Value → Fz → Hp → Prop} {E' : Addr → Value → Fz → Hp → Prop} {Q : V → Fz → Hp → Prop}
theorem call_fn {a : Addr} {name qual : Str} {params : Arguments} {scope : Scope} {cl : List (Str × Addr)} {body : List Stmt} {xs : List V} (hf : FnF F a name qual params body scope cl)
    (ns rest : List Str) (hn : ns.length = xs.length) (hnd : (ns ++ rest).Nodup) (hbind : ∀ doc pm c ctv, ∀ vs : List Value, vs.length = xs.length → bindArgs (fnX name qual params body scope cl .none .none doc pm none c ctv) ⟨vs, []⟩ = pure (ns.zip vs))
    (hcell : (scope.names.all fun x => x.2 != .cell) = true) (hloc : (ns.all fun x => decide (scope.names.lookup x = some .local)) = true)
    (hroom : A.depth < recursionLimit) (hE : ∀ L c, Leaves G fr A (envX qual scope L a c cl) (E' L) E)
    (h : ∀ L A' c, Deep A A' (envX qual scope L a c cl) → Ex G (envX qual scope L a c cl :: fr) A' F ((L, .ns (mkRho ns xs rest)) :: H) (execs body (envX qual scope L a c cl)) (Ret L Q) (E' L))
    (hco : autoParam (scope.isCoroutine = false) tac0) (hgen : autoParam (scope.isGenerator = false) tac0) (hk : autoParam (scope.kind = .function) tac0) :
    Cl G fr A F H (.ref a) xs Q E := by
  obtain ⟨doc, pm, c, ctv, hf, hc⟩ := hf
  exact call_def hf rfl hc ns rest hn hnd (hbind doc pm _ ctv) hcell hloc hroom (fun L => hE L _) (fun L A' hD => h L A' _ hD) hco hgen hk
end
section
variable {G : Glob} {fr : List Env} {A : Around} {env : Env} {F : Fz} {H H' : Hp} {E : Value → Fz → Hp → Prop} {Q : V → Fz → Hp → Prop} {i j : Int}
theorem tr_bool {b : Bool} {Q : Bool → Fz → Hp → Prop} (h : Q b F H) : Tr G fr A F H (.bool b) Q E := fun K m a ha => ha.e_bool (P := fun a => TpAt _ _ _ _ _ (truthy a) _ _) fun R s hR => wpAny_truthy_bool (tret (Q := Q) hR m h)
theorem tr_none {Q : Bool → Fz → Hp → Prop} (h : Q false F H) : Tr G fr A F H .none Q E := fun K m a ha R s hR => by
  obtain rfl := ha.i_none
  have e : truthy .none = pure false := by first | rfl | (unfold truthy; rfl)
  rw [e]; exact wpAny_pure (tret (Q := Q) hR m h)
theorem tr_int {Q : Bool → Fz → Hp → Prop} (h : Q (i != 0) F H) : Tr G fr A F H (.int i) Q E := fun K m a ha => ha.e_int (P := fun a => TpAt _ _ _ _ _ (truthy a) _ _) fun t R s hR => PySem.P.truthy_int (tret (Q := Q) hR m h)
theorem tr_str {x : Str} {Q : Bool → Fz → Hp → Prop} (hx : (x.length : Int) < 2 ^ 63) (h : Q ((x.length : Int) != 0) F H) : Tr G fr A F H (.str x) Q E := fun K m a ha => ha.e_str (P := fun a => TpAt _ _ _ _ _ (truthy a) _ _) fun t R s hR => PySem.P.truthy_str (by lia) (tret (Q := Q) (hR.toks _) m h)
theorem RVs.isEmpty {vs : Array Value} {l : List V} (h : RVs F vs.toList l) : vs.isEmpty = l.isEmpty := by
  have e := h.toArr
  cases l with
  | nil => simpa using e
  | cons y l =>
    have : vs.size ≠ 0 := by rw [e]; simp
    simpa using this
theorem tr_list {a : Addr} {l : List V} {Q : Bool → Fz → Hp → Prop} (hm : Has H a (.list l)) (hl : (l.length : Int) < 2 ^ 63) (h : Q (!l.isEmpty) F H) : Tr G fr A F H (.ref a) Q E := fun K m v hv R s hR => by
  obtain ⟨o, ho, items, n, rfl, hr⟩ := hR.has hm
  obtain rfl := hv.i_ref
  refine wpAny_truthy_list ⟨_, ho, rfl, n, rfl⟩ (by rw [hr.toArr]; exact hl) ?_
  rw [hr.isEmpty]
  exact tret (Q := Q) (hR.toks _) m h
theorem tr_lst {l : List V} {Q : Bool → Fz → Hp → Prop} (hl : (l.length : Int) < 2 ^ 63) (h : Q (!l.isEmpty) F H) : Tr G fr A F H (.lst l) Q E := fun K m v hv => by
    refine hv.e_lst (P := fun v => TpAt _ _ _ _ _ (truthy v) _ _) fun a vs n o ha hc hd hlen hr R s hR => ?_
    have hvs : RVs K vs.toArray.toList l := RVs.of hlen hr
    refine wpAny_truthy_list ⟨o, hR.fz _ _ ha, hc, n, hd⟩ (by rw [hvs.toArr]; exact hl) ?_
    rw [hvs.isEmpty]
    exact tret (Q := Q) (hR.toks _) m h
theorem Ev_or {a b : Expr} {pos : Pos} (h : Ev G fr A F H (eval a env) (fun x F1 H1 => Tr G fr A F1 H1 x (fun t F2 H2 => if t then Q x F2 H2 else Ev G fr A F2 H2 (eval b env) Q E) E) E) : Ev G fr A F H (eval (.BoolOp .Or [a, b] pos) env) Q E := fun K m R s hR => by
  rw [arm_eval_BoolOp]
  show wpAny G.M A (do let v ← eval a env; standAt pos; let t ← holding [v] (truthy v); match BoolOp.Or, t with | .And, false | .Or, true => pure v | _, _ => boolOp pos .Or [eval b env]) _ _ s
  refine wpAny_bind (h.go m hR (.refl K) fun v x F1 K1 H1 s1 l1 m1 r1 hx h1 => wpAny_bind (wpAny_standAt (wpAny_bind (wpAny_holding ((h1 K1 m1 v hx).seq r1 l1 fun t K2 H2 s2 l2 r2 hq => ?_)))))
  obtain ⟨F2, m2, q⟩ := hq
  cases t with
  | true => exact wpAny_pure ⟨K2, H2, l1.trans l2, r2, x, hx.mono l2, F2, m2, q⟩
  | false => exact (show Ev _ _ _ _ _ _ _ _ from q).last m2 r2 (l1.trans l2)
theorem int_str {x : Str} {n : Int} (hn : PySem.intText? x = some n) (hl : x.length ≤ 640) (h : Q (.int n) F H) : Cl G fr A F H (.typ "int") [.str x] Q E := cl_t1 fun K m v hv => hv.e_str (P := fun v => EvAt _ _ _ _ _ (call _ [v]) _ _) fun t R s hR => by
    exact KIN.call_text hn hl (vret (hR.toks _) .int m h)
theorem strs_of {vs : List Value} {xs : List Str} (h : RVs F vs (xs.map .str)) : ∃ l, vs = strValues l ∧ l.map (·.1) = xs := by
  induction xs generalizing vs with
  | nil => cases h; exact ⟨[], rfl, rfl⟩
  | cons x xs ih =>
    refine h.ec (P := fun vs => ∃ l, vs = strValues l ∧ l.map (·.1) = x :: xs) fun v vs h1 h2 => ?_
    obtain ⟨l, e1, e2⟩ := ih h2
    exact h1.e_str (P := fun v => ∃ l, v :: vs = strValues l ∧ l.map (·.1) = x :: xs) fun t => ⟨(x, t) :: l, by rw [e1]; rfl, by simp [e2]⟩
open Builtin Builtin.Str in
theorem occ_full (x sub : Str) (hi : Nat) : ∀ (l : List Nat) (k f : Nat), (forIn l ((#[k] : Array Nat), f) (StrLaws.occBody x sub hi 1)).run.fst = #[k]
  | [], _, _ => rfl
  | a :: l, k, f => by
    rw [List.forIn_cons]
    unfold StrLaws.occBody
    rw [if_neg (by simp)]
    exact occ_full x sub hi l k f
open Builtin Builtin.Str in
theorem occ_first (x sub : Str) (hi k free : Nat) (hk : k + sub.length ≤ hi ∧ subAt x sub k = true) : ∀ (pre post : List Nat), (∀ i ∈ pre, ¬ (i + sub.length ≤ hi ∧ subAt x sub i = true)) → free ≤ k → (forIn (pre ++ k :: post) ((#[] : Array Nat), free) (StrLaws.occBody x sub hi 1)).run.fst = #[k]
  | [], post, _, hf => by
    rw [List.nil_append, List.forIn_cons]
    unfold StrLaws.occBody
    rw [if_pos ⟨⟨⟨by simp, hf⟩, hk.1⟩, hk.2⟩]
    exact occ_full x sub hi post k _
  | a :: pre, post, hp, hf => by
    rw [List.cons_append, List.forIn_cons]
    unfold StrLaws.occBody
    rw [if_neg fun q => hp a (.head _) ⟨q.1.2, q.2⟩]
    exact occ_first x sub hi k free hk pre post (fun i hi => hp i (.tail _ hi)) hf
open Builtin Builtin.Str in
theorem occ_at {x sub : Str} {lo k : Nat} (hlo : lo ≤ k) (hk : k + sub.length ≤ x.length ∧ subAt x sub k = true) (hn : ∀ i, lo ≤ i → i < k → subAt x sub i = false) : occurrences x sub lo x.length 1 = [k] := by
  rw [StrLaws.occ_eq]
  have e : List.range' lo (x.length + 1 - lo) = List.range' lo (k - lo) ++ k :: List.range' (k + 1) (x.length - k) := by
    have h1 : x.length + 1 - lo = (k - lo) + ((x.length - k) + 1) := occ1 hlo (Nat.le_trans (Nat.le_add_right _ _) hk.1)
    rw [h1, ← List.range'_append_1, List.range'_succ]
    have h2 : lo + (k - lo) = k := Nat.add_sub_cancel' hlo
    rw [h2]
  rw [e, occ_first x sub x.length k lo hk _ _ (fun i hi => ?_) hlo]
  rw [List.mem_range'] at hi
  obtain ⟨j, hj, rfl⟩ := hi
  intro q
  rw [hn _ (Nat.le_add_right _ _) (by rw [Nat.one_mul]; exact Nat.add_lt_of_lt_sub' hj)] at q
  exact absurd q.2 (by simp)
theorem RVs.take {vs : List Value} {l : List V} (h : RVs F vs l) : ∀ k, RVs F (vs.take k) (l.take k) := by
  induction h with
  | nil => intro k; simp; exact .nil
  | cons h t ih => intro k; cases k with
    | zero => exact .nil
    | succ k => exact .cons h (ih k)
end
section
variable {G : Glob} {fr : List Env} {A : Around} {env : Env} {F : Fz} {H H' : Hp} {E : Value → Fz → Hp → Prop} {Q : V → Fz → Hp → Prop} {i j : Int}
theorem RF.mono {F F' : Fz} {f : Flow} {x : FV} (le : F.le F') (h : RF F f x) : RF F' f x := by
  cases h with
  | next => exact .next
  | brk => exact .brk
  | cont => exact .cont
  | ret h => exact .ret (h.mono le)
end
mutual
inductive VD : V → PyData → Prop where
  | none : VD .none .none
  | bool {b : Bool} : VD (.bool b) (.bool b)
  | int {i : Int} : VD (.int i) (.int i)
  | str {x : Str} : VD (.str x) (.str x)
  | tup {l : List V} {ds : List PyData} (h : VDs l ds) : VD (.tup l) (.tuple ds)
  | lst {l : List V} {ds : List PyData} (h : VDs l ds) : VD (.lst l) (.list ds)
inductive VDs : List V → List PyData → Prop where
  | nil : VDs [] []
  | cons {x : V} {d : PyData} {l : List V} {ds : List PyData} (h : VD x d) (t : VDs l ds) : VDs (x :: l) (d :: ds)
end
theorem reads_of {F : Fz} {h : Heap} (k : ∀ a o, F a = some o → h.get? a = some o) {x : V} {d : PyData} {v : Value} (hd : VD x d) : RV F v x → ∃ as, Reads h v d as := by
  revert v
  refine VD.rec (motive_1 := fun x d _ => ∀ {v : Value}, RV F v x → ∃ as, Reads h v d as) (motive_2 := fun l ds _ => ∀ {vs : List Value}, RVs F vs l → ∃ as, ReadsAll h vs ds as) ?_ ?_ ?_ ?_ ?_ ?_ ?_ ?_ hd
  · exact fun hv => hv.e_none (P := fun v => ∃ as, Reads h v _ as) ⟨_, .none⟩
  · exact fun hv => hv.e_bool (P := fun v => ∃ as, Reads h v _ as) ⟨_, .bool _⟩
  · exact fun hv => hv.e_int (P := fun v => ∃ as, Reads h v _ as) fun _ => ⟨_, .int _ _⟩
  · exact fun hv => hv.e_str (P := fun v => ∃ as, Reads h v _ as) fun _ => ⟨_, .str _ _⟩
  · exact fun _ ih _ hv => hv.e_tup (P := fun v => ∃ as, Reads h v _ as) fun a vs n ha hl hr => (ih (RVs.of hl hr)).elim fun as q => ⟨_, .tuple (k _ _ ha) rfl rfl q⟩
  · exact fun _ ih _ hv => hv.e_lst (P := fun v => ∃ as, Reads h v _ as) fun a vs n o ha hc hd hl hr => (ih (RVs.of hl hr)).elim fun as q => ⟨_, .list (k _ _ ha) hc hd q⟩
  · exact fun hv => hv.e0 (P := fun vs => ∃ as, ReadsAll h vs _ as) ⟨_, .nil⟩
  · exact fun _ _ i1 i2 _ hv => hv.ec (P := fun vs => ∃ as, ReadsAll h vs _ as) fun v vs g1 g2 => (i1 g1).elim fun as r1 => (i2 g2).elim fun bs r2 => ⟨_, .cons r1 r2⟩
theorem VD.noDict {x : V} {d : PyData} (hd : VD x d) : d.hasDict = false := by
  refine VD.rec (motive_1 := fun x d _ => d.hasDict = false) (motive_2 := fun l ds _ => PyData.hasDictAll ds = false) ?_ ?_ ?_ ?_ ?_ ?_ ?_ ?_ hd
  all_goals intros
  · rfl
  · rfl
  · rfl
  · rfl
  · assumption
  · assumption
  · rfl
  · rename_i q1 q2
    show (_ || _) = false
    rw [q1, q2]; rfl
section
variable {G : Glob} {fr : List Env} {A : Around} {env : Env} {F : Fz} {H H' : Hp} {E : Value → Fz → Hp → Prop} {Q : V → Fz → Hp → Prop}
end
theorem VD.uniq {x : V} {d : PyData} (h : VD x d) : ∀ {d' : PyData}, VD x d' → d = d' := by
  refine VD.rec (motive_1 := fun x d _ => ∀ {d' : PyData}, VD x d' → d = d') (motive_2 := fun l ds _ => ∀ {ds' : List PyData}, VDs l ds' → ds = ds') ?_ ?_ ?_ ?_ ?_ ?_ ?_ ?_ h
  · intro _ h'; cases h'; rfl
  · intro _ _ h'; cases h'; rfl
  · intro _ _ h'; cases h'; rfl
  · intro _ _ h'; cases h'; rfl
  · intro _ _ _ ih _ h'; cases h' with | tup g => exact congrArg PyData.tuple (ih g)
  · intro _ _ _ ih _ h'; cases h' with | lst g => exact congrArg PyData.list (ih g)
  · intro _ h'; cases h'; rfl
  · intro _ _ _ _ _ _ i1 i2 _ h'
    cases h' with
    | cons g1 g2 => rw [i1 g1, i2 g2]
theorem slV_rev (l : List V) : slV l none none (some (-1)) = l.reverse := by
  unfold slV slIdx
  rw [krv_bounds]
  show (sliceRange ((l.length : Int) - 1) (-1) (-1)).filterMap (l[·]?) = _
  rw [krv_sliceRange, krv_range, List.filterMap_reverse]
  have := krv_all l.toArray
  simp at this
  rw [this]
noncomputable abbrev kindsM (env : Env) : List Bool → List Str → Bool := kindB env.kindOf
section
variable {G : Glob} {fr : List Env} {A : Around} {env : Env} {F : Fz} {H H' : Hp} {E : Value → Fz → Hp → Prop} {Q : V → Fz → Hp → Prop}
end
section
variable {G : Glob} {fr : List Env} {A : Around} {env : Env} {F : Fz} {H : Hp} {E : Value → Fz → Hp → Prop}
noncomputable def MapTurn (G : Glob) (fr : List Env) (A : Around) (cenv : Addr → Env) (nms : List Str) (target elt : Expr) (l : List V) (F1 : Fz) (H1 : Hp) (f : Nat → V) : Prop :=
  ∀ k y C ρ, l[k]? = some y → ρ.map (·.1) = nms → As G fr A (cenv C) F1 ((C, .ns ρ) :: H1) target y (fun F3 H3 => Ev G fr A F3 H3 (eval elt (cenv C)) (fun z F5 H5 => F5 = F1 ∧ Off C nms (fun _ H6 => z = f k ∧ H6 = H1) F5 H5) No) No
theorem map_turns {cenv : Addr → Env} {nms : List Str} {target elt : Expr} {l : List V} {F1 : Fz} {H1 : Hp} {f : Nat → V} (h : MapTurn G fr A cenv nms target elt l F1 H1 f) :
    Turns G fr A cenv nms target elt [] l (fun j acc F4 H4 => F4 = F1 ∧ acc = (List.range j).map f ∧ H4 = H1) := ⟨by
  rintro k y acc F2 H2 C ρ hy ⟨rfl, rfl, rfl⟩ hρ Qn hn K m v hv R s hR
  refine wpAny_mono (h k y C ρ hy hρ K m v hv R s hR) (fun _ _ hq => ?_) fun _ _ e => e
  obtain ⟨K1, H4, l4, r4, F3, m3, q⟩ := hq
  refine ⟨K1, H4, l4, r4, F3, m3, ?_⟩
  show Ev _ _ _ _ _ _ _ _
  refine q.mono (fun z F4 H4 hq => ?_) fun _ _ _ e => e
  obtain ⟨rfl, ρ', H5, hr, hnn, e1, e2⟩ := hq
  exact ⟨ρ', H5, hr, hnn, hn _ _ _ ⟨rfl, by rw [List.range_succ, List.map_append, e1]; rfl, e2⟩⟩⟩
theorem Ev_map {elt target iter : Expr} {scope : Scope} {cl : List (Str × Addr)} {pos : Pos} {Q : V → Fz → Hp → Prop} (nms : List Str)
    (hclos : closureFor scope env = pure cl)
    (h : Ev G fr A F H (eval iter env) (fun y F1 H1 => ∃ l, Iterable G A y l ∧ l.length ≤ sizeLine ∧ ∃ f : Nat → V, MapTurn G fr A (fun C => compEnvC scope cl C env) nms target elt l F1 H1 f ∧ Q (.lst ((List.range l.length).map f)) F1 H1) E)
    (hnd : nms.Nodup) (hcell : autoParam ((scope.names.all fun x => x.2 != .cell) = true) tac0) (hkind : autoParam (scope.kind = .function) tac0) (hnames : autoParam ((scope.names.all fun x => (x.2 != .local) || decide (scope.names.lookup x.1 = some .local)) = true) tac0)
    (hs : ∀ x, foldedSetIterable iter env x = pure x := by intro _; rfl) :
    Ev G fr A F H (eval (.ListComp elt [⟨target, iter, [], 0⟩] scope pos) env) Q E :=
  Ev_ListComp nms hclos (h.mono (fun y F1 H1 hq => by
    obtain ⟨l, h1, h2, f, h3, h4⟩ := hq
    exact ⟨l, h1, h2, _, ⟨rfl, rfl, rfl⟩, map_turns h3, fun acc F2 H2 e => by obtain ⟨rfl, rfl, rfl⟩ := e; exact h4⟩) fun _ _ _ e => e) hnd hcell hkind hnames hs
theorem Ex_Assign_map {elt target iter : Expr} {scope : Scope} {cl : List (Str × Addr)} {pos py spos : Pos} {y : Str} {Q : FV → Fz → Hp → Prop} (nms : List Str)
    (hclos : closureFor scope env = pure cl)
    (h : Ev G fr A F H (eval iter env) (fun x F1 H1 => ∃ l, Iterable G A x l ∧ l.length ≤ sizeLine ∧ ∃ f : Nat → V, MapTurn G fr A (fun C => compEnvC scope cl C env) nms target elt l F1 H1 f ∧ Store env y (.lst ((List.range l.length).map f)) F1 H1 (Q .next)) E)
    (hnd : nms.Nodup) (hsw : autoParam (swapsWith (.ListComp elt [⟨target, iter, [], 0⟩] scope pos) (some (.Name y py)) spos.line env = pure true) tac0) (hcell : autoParam ((scope.names.all fun x => x.2 != .cell) = true) tac0) (hkind : autoParam (scope.kind = .function) tac0) (hnames : autoParam ((scope.names.all fun x => (x.2 != .local) || decide (scope.names.lookup x.1 = some .local)) = true) tac0)
    (hk : autoParam (env.scope.kind = .function) tac0) (hl : autoParam (env.kindOf y = some .local) tac0)
    (hs : ∀ x, foldedSetIterable iter env x = pure x := by intro _; rfl) :
    Ex G fr A F H (exec (.Assign [.Name y py] (.ListComp elt [⟨target, iter, [], 0⟩] scope pos) spos) env) Q E :=
  Ex_Assign_ListComp nms hclos (h.mono (fun x F1 H1 hq => by
    obtain ⟨l, h1, h2, f, h3, h4⟩ := hq
    exact ⟨l, h1, h2, _, ⟨rfl, rfl, rfl⟩, map_turns h3, fun acc F2 H2 e => by obtain ⟨rfl, rfl, rfl⟩ := e; exact h4⟩) fun _ _ _ e => e) hnd hsw hcell hkind hnames hk hl hs
end
noncomputable def tbH : Option Addr → Hp
  | none => []
  | some t => [(t, .tb)]
section
variable {G : Glob} {fr : List Env} {A : Around} {F K : Fz} {H R : Hp} {s : Shared} {E : Value → Fz → Hp → Prop}
theorem Rep.slots (h : Rep G fr K H s) {h' : Heap} (hs : Heap.SlotsOnly (fr.filterMap (·.frame)) s.heap h') : Rep G fr K H { s with heap := h' } := by
  have fin : ∀ b ∈ fr.filterMap (·.frame), ∃ ρ, (b, AO.ns ρ) ∈ H := fun b hb => by
    obtain ⟨env, he, e⟩ := List.mem_filterMap.mp hb
    obtain ⟨L, ρ, e', m⟩ := (h.frs env he).2
    rw [e] at e'
    cases e'
    exact ⟨ρ, m⟩
  refine ⟨h.gok, h.base, fun a o e => ?_, fun p hp => ?_, h.nd, h.frs, h.gens, h.os⟩
  · refine (hs.2.1 a fun hm => ?_).trans (h.fz a o e)
    obtain ⟨ρ, m⟩ := fin a hm
    rw [(h.own _ m).1] at e
    cases e
  · obtain ⟨n, o, g, r⟩ := h.own p hp
    by_cases hm : p.1 ∈ fr.filterMap (·.frame)
    · obtain ⟨ρ, m⟩ := fin _ hm
      have hpe : p = (p.1, AO.ns ρ) := by
        have := h.nd
        obtain ⟨a, x⟩ := p
        have key : ∀ {H : Hp}, (H.map (·.1)).Nodup → (a, x) ∈ H → (a, AO.ns ρ) ∈ H → x = AO.ns ρ := by
          intro H
          induction H with
          | nil => intro _ q; cases q
          | cons q H ih =>
            intro nd h1 h2
            rw [List.map_cons, List.nodup_cons] at nd
            rcases List.mem_cons.mp h1 with e1 | e1 <;> rcases List.mem_cons.mp h2 with e2 | e2
            · rw [← e1] at e2; exact (Prod.mk.inj e2).2.symm
            · subst e1; exact absurd (mem_keys e2 rfl) nd.1
            · subst e2; exact absurd (mem_keys e1 rfl) nd.1
            · exact ih nd.2 e1 e2
        rw [key this hp m]
      obtain ⟨sl, g'⟩ := hs.2.2 p.1 o g
      rw [hpe] at r ⊢
      obtain ⟨es, ep, e1, e2, e3, e4⟩ := r
      exact ⟨n, _, g', es, ep, e1, e2, e3, e4⟩
    · exact ⟨n, o, (hs.2.1 _ hm).trans g, r⟩
theorem Rep.funFrames (h : Rep G fr K H s) : s.heap.FunFrames { objs := #[] } fr := by
  have : ∀ l : List Env, (∀ e ∈ l, e ∈ fr) → s.heap.FunFrames { objs := #[] } l := by
    intro l
    induction l with
    | nil => intro _; trivial
    | cons env l ih =>
      intro hl
      obtain ⟨hk, L, ρ, hf, m⟩ := h.frs env (hl env (.head _))
      obtain ⟨_, o, g, es, ep, hd, _⟩ := h.own _ m
      exact ⟨by rw [hk]; decide, ⟨L, o, hf, by first | rfl | simp [Heap.get?], g, fun vs q => by rw [hd] at q; cases q⟩, ih fun e he => hl e (.tail _ he)⟩
  exact this fr fun _ h => h
theorem notNs_exc {c : String} {args : List V} {tb : Option Addr} {d : Option Addr} {cx : Bool} {X : AO} : (∃ ρ, AO.exc c args tb d cx = .ns ρ) → ∃ ρ, X = .ns ρ := fun h => by obtain ⟨_, q⟩ := h; cases q
theorem notNs_tb {X : AO} : (∃ ρ, AO.tb = .ns ρ) → ∃ ρ, X = .ns ρ := fun h => by obtain ⟨_, q⟩ := h; cases q
theorem RO.excSet {w : World} {o : Obj} {c : String} {args : List V} {tb : Option Addr} {d : Option Addr} {cx : Bool} (h : RO w K o (.exc c args tb d cx)) (t : Addr) : RO w K (o.mapFields (·.setIfInBounds 1 (.ref t))) (.exc c args (some t) d cx) := by
  obtain ⟨vs, a, v5, e1, e2, e3, e4, e5, e6, e7, e8, e9⟩ := h
  have hsz : 1 < vs.size := (Array.getElem?_eq_some_iff.mp e6).1
  obtain ⟨oc, od, odt, osl⟩ := o
  obtain rfl : odt = .fields vs := e3
  refine ⟨vs.setIfInBounds 1 (.ref t), a, v5, e1, e2, rfl, ?_, e5, ?_, ?_, e8, fun q => ?_⟩
  · rw [Array.getElem?_setIfInBounds_ne (by decide)]; exact e4
  · rw [Array.getElem?_setIfInBounds_self]; simp [hsz]
  · rw [Array.getElem?_setIfInBounds_ne (by decide)]; exact e7
  · rw [Array.getElem?_setIfInBounds_ne (by decide)]; exact e9 q
theorem entry {env : Env} {outer : List Env} (hfr : A.frames = some (env :: outer)) {x : Addr} {c : String} {args : List V} {tb : Option Addr} {d : Option Addr} {cx : Bool} {L : Addr} {head : Value} {had : Bool} (hf : env.frame = some L) :
    TpAt G (env :: outer) A K ((x, .exc c args tb d cx) :: H) (do let a ← frameOf env; let pl ← entryPlaceOf L had; let b ← EntryCells.newEntry head a .none (rawInt L) .none pl; setField (.ref x) 1 b)
      (fun _ K' H' => K' = K ∧ ∃ t, H' = (x, .exc c args (some t) d cx) :: (t, .tb) :: H) E := fun R s hR => by
  refine wpAny_bind (wpAny_frameOf_fun hfr hR.funFrames hf fun h₁ hs₁ => ?_)
  have r1 := hR.slots hs₁
  refine wpAny_bind (wpAny_entryPlaceOf fun pl hpl => ?_)
  unfold EntryCells.newEntry newFields
  refine wpAny_bind (wpAny_newObj_type ?_ (hpl.sizeOk5 _ _ _ _ _))
  have r2 := r1.new (D := h₁.objs.size) (x := .tb) (tk := s.toks) (dr := s.drawn) (fun b o e => Heap.get?_push_of_some { cls := .type "traceback", dict := none, data := .fields ([head, .ref L, .none, rawInt L, .none] ++ (if pl.isEmpty then List.replicate 6 Value.none else pl)).toArray } e) (none_at_size _) (Heap.get?_push_size _ rfl) ⟨_, rfl, rfl, by simp only [List.size_toArray, List.length_append, List.length_cons, List.length_nil]; lia⟩
  have r3 := r2.perm (H' := (x, .exc c args tb d cx) :: (h₁.objs.size, .tb) :: (H ++ R)) (.swap ..)
  obtain ⟨_, o, ho, hro⟩ := r3.own _ (.head _)
  obtain ⟨vs, a, v5, e1, e2, e3, e4, e5, e6, e7⟩ := id hro
  have hsz : 1 < vs.size := (Array.getElem?_eq_some_iff.mp e6).1
  refine wpAny_setField ho e3 hsz ?_
  have g := Heap.get?_update_self (Obj.mapFields (·.setIfInBounds 1 (Value.ref h₁.objs.size))) ho (Obj.isFreed_of_fields (Obj.data_mapFields e3 _))
  exact ⟨K, _, .refl K, r3.upd (tk := s.toks) (dr := s.drawn) (Heap.SameBut.update ..).extBut g (hro.excSet _) notNs_exc, rfl, _, rfl⟩
theorem note {env : Env} {outer : List Env} (hfr : A.frames = some (env :: outer)) {x : Addr} {c : String} {args : List V} {tb : Option Addr} {d : Option Addr} {cx : Bool} :
    TpAt G (env :: outer) A K ((x, .exc c args tb d cx) :: (tbH tb ++ H)) (noteFrame (.ref x) env) (fun _ K' H' => K' = K ∧ ∃ t, H' = (x, .exc c args (some t) d cx) :: (t, .tb) :: H) E := fun R s hR => by
  obtain ⟨_, L, _, hf, _⟩ := hR.frs env (.head _)
  obtain ⟨_, o, ho, hro⟩ := hR.own _ (.head _)
  obtain ⟨vs, a, v5, e1, e2, e3, e4, e5, e6, e7⟩ := id hro
  unfold noteFrame
  simp only [hf]
  refine wpAny_bind (wpAny_field ho e3 e6 ?_)
  cases tb with
  | none =>
    rw [if_neg (by decide)]
    exact entry hfr hf R s hR
  | some t =>
    rw [if_pos (show ((some t).elim Value.none Value.ref != Value.none) = true from by simp)]
    have r1 : Rep G (env :: outer) K ((t, .tb) :: (x, .exc c args (some t) d cx) :: (H ++ R)) s := hR.perm (.swap ..)
    obtain ⟨_, ot, hot, ts, t1, t2, t3⟩ := r1.own _ (.head _)
    refine wpAny_bind (wpAny_field hot t2 (x := ts[3]) (Array.getElem?_eq_getElem t3) ?_)
    by_cases hb : (ts[3] == rawInt L) = true
    · rw [if_pos hb]
      exact wpAny_pure ⟨K, _, .refl K, hR, rfl, t, rfl⟩
    · rw [if_neg hb]
      refine wpAny_bind (wpAny_setField hot t2 t3 ?_)
      have g := Heap.get?_update_self (Obj.mapFields (·.setIfInBounds 3 Value.none)) hot (Obj.isFreed_of_fields (Obj.data_mapFields t2 _))
      have r2 : Rep G (env :: outer) K ((t, .tb) :: (x, .exc c args (some t) d cx) :: (H ++ R)) { s with heap := s.heap.update t (Obj.mapFields (·.setIfInBounds 3 Value.none)) } :=
        r1.upd (x' := .tb) (tk := s.toks) (dr := s.drawn) (Heap.SameBut.update ..).extBut g ⟨_, by rw [Obj.cls_mapFields]; exact t1, Obj.data_mapFields t2 _, by simpa using t3⟩ notNs_tb
      exact entry hfr hf R _ (r2.dropNot fun _ q => nomatch q)
theorem flight {x t : Addr} {c : String} {args : List V} {d : Option Addr} {cx : Bool} {f : Option Addr} :
    TpAt G fr A K ((x, .exc c args (some t) d cx) :: (t, .tb) :: H) (setFlight (.ref x) f) (fun _ K' H' => K' = K ∧ H' = (x, .exc c args (some t) d cx) :: (t, .tb) :: H) E := fun R s hR => by
  obtain ⟨_, o, ho, hro⟩ := hR.own _ (.head _)
  obtain ⟨vs, a, v5, e1, e2, e3, e4, e5, e6, e7⟩ := id hro
  unfold setFlight
  refine wpAny_bind (wpAny_field ho e3 e6 ?_)
  have hb : ((some t).elim Value.none Value.ref != Value.none) = true := by simp
  rw [if_pos hb]
  have r1 : Rep G fr K ((t, .tb) :: (x, .exc c args (some t) d cx) :: (H ++ R)) s := hR.perm (.swap ..)
  obtain ⟨_, ot, hot, ts, t1, t2, t3⟩ := r1.own _ (.head _)
  refine wpAny_setField hot t2 t3 ?_
  have g := Heap.get?_update_self (Obj.mapFields (·.setIfInBounds 3 (f.elim Value.none fun f => rawInt f))) hot (Obj.isFreed_of_fields (Obj.data_mapFields t2 _))
  have r2 : Rep G fr K ((t, .tb) :: (x, .exc c args (some t) d cx) :: (H ++ R)) { s with heap := s.heap.update t (Obj.mapFields (·.setIfInBounds 3 (f.elim Value.none fun f => rawInt f))) } :=
    r1.upd (x' := .tb) (tk := s.toks) (dr := s.drawn) (Heap.SameBut.update ..).extBut g ⟨_, by rw [Obj.cls_mapFields]; exact t1, Obj.data_mapFields t2 _, by simpa using t3⟩ notNs_tb
  exact ⟨K, _, .refl K, r2.perm (.swap ..), rfl, rfl⟩
inductive Thr0 (P : Addr → String → List V → Bool → Fz → Hp → Prop) (e : Value) (F : Fz) (H : Hp) : Prop where
  | intro (x : Addr) (c : String) (args : List V) (tb : Option Addr) (cx : Bool) (H1 : Hp) (e1 : e = .ref x) (e2 : H.Perm ((x, .exc c args tb none cx) :: (tbH tb ++ H1))) (q : P x c args cx F H1)
noncomputable abbrev Thr (P : Addr → String → List V → Fz → Hp → Prop) : Value → Fz → Hp → Prop := Thr0 fun x c args _ F H => P x c args F H
section
variable {P Q : Addr → String → List V → Bool → Fz → Hp → Prop} {e : Value}
theorem Thr0.mk {x : Addr} {c : String} {args : List V} {cx : Bool} {H1 : Hp} (hr : Rem H x (.exc c args none none cx) H1) (p : P x c args cx F H1) : Thr0 P (.ref x) F H := ⟨x, c, args, none, cx, H1, rfl, hr.perm, p⟩
theorem Thr0.mono (h : Thr0 P e F H) (k : ∀ x c a b F1 H1, P x c a b F1 H1 → Q x c a b F1 H1) : Thr0 Q e F H := by obtain ⟨x, c, a, tb, cx, H1, h1, h2, h3⟩ := h; exact ⟨x, c, a, tb, cx, H1, h1, h2, k _ _ _ _ _ _ h3⟩
theorem Thr0.up {X : Addr × AO} (h : Thr0 (fun x c a b F1 H1 => P x c a b F1 (X :: H1)) e F H) : Thr0 P e F (X :: H) := by
  obtain ⟨x, c, a, tb, cx, H1, h1, h2, h3⟩ := h
  exact ⟨x, c, a, tb, cx, X :: H1, h1, (h2.cons X).trans ((List.Perm.swap ..).trans (List.Perm.cons _ List.perm_middle.symm)), h3⟩
theorem thr_no (h : Thr0 (fun _ _ _ _ _ _ => False) e F H) : False := by obtain ⟨_, _, _, _, _, _, _, _, h3⟩ := h; exact h3
end
theorem noted_thr2 {A' : Around} {env : Env} {outer : List Env} (hfr : A.frames = some (env :: outer)) {P : Addr → String → List V → Bool → Fz → Hp → Prop} {e : Value} (hq : PQ G (env :: outer) K R (fun e => Dn (Thr0 P e)) e s) :
    notedBy G.M A env (cameBackBy G.M A' env (PQ G (env :: outer) K R fun e => Dn (Thr0 P e))) e s := by
  obtain ⟨K1, H1, l1, r1, F1, m1, x, c, args, tb, cx, H2, rfl, hp, p⟩ := hq
  have r1 : Rep G (env :: outer) K1 (((x, .exc c args tb none cx) :: (tbH tb ++ H2)) ++ R) s := r1.perm (hp.append_right R)
  refine wpAny_mono (note hfr (E := No) R s r1) (fun _ s2 hq => ?_) fun e s2 q => (noPQ (v := e) q).elim
  obtain ⟨K2, H3, l2, r2, rfl, t, rfl⟩ := hq
  obtain ⟨_, o, ho, hro⟩ := r2.own _ (.head _)
  obtain ⟨vs, a, v5, e1, e2, e3, e4, e5, e6, e7⟩ := id hro
  show wpAny G.M A' (do
    if (← field (.ref x) 1) == .none then unsupported "frame.own-activation:exception-without-traceback"
    setFlight (.ref x) env.frame) _ _ s2
  refine wpAny_bind (wpAny_field ho e3 e6 ?_)
  rw [if_neg (show ¬ ((some t).elim Value.none Value.ref == Value.none) = true from by simp)]
  refine wpAny_mono (flight (E := No) R s2 r2) (fun _ s3 hq => ?_) fun e s2 q => (noPQ (v := e) q).elim
  obtain ⟨K3, H3, l3, r3, rfl, rfl⟩ := hq
  exact ⟨K3, _, l1, r3, F1, m1, x, c, args, some t, cx, H2, rfl, .refl _, p⟩
theorem noted_thr {env : Env} {outer : List Env} (hfr : A.frames = some (env :: outer)) {P : Addr → String → List V → Bool → Fz → Hp → Prop} : Noted G (env :: outer) A env (Thr0 P) := fun K R e s hq => noted_thr2 hfr hq
inductive Lv (L : Addr) (P : Addr → String → List V → Bool → Fz → Hp → Prop) (x : Addr) (c : String) (a : List V) (b : Bool) (F : Fz) (H : Hp) : Prop where
  | intro (ρ : List (Str × Option V)) (H' : Hp) (hr : Rem H L (.ns ρ) H') (q : P x c a b F H')
theorem leaves_thr {env : Env} {L : Addr} (hfr : A.frames = some fr) (hL : env.frame = some L) {P : Addr → String → List V → Bool → Fz → Hp → Prop} :
    Leaves G fr A env (Thr0 (Lv L P)) (Thr0 P) := fun fresh K R e s hq => by
  obtain ⟨K1, H1, l1, r1, F1, m1, x, c, args, tb, cx, H2, rfl, hp, ρ, H3, hrem, p⟩ := hq
  have r1 : Rep G (env :: fr) K1 (((x, .exc c args tb none cx) :: (tbH tb ++ H2)) ++ R) s := r1.perm (hp.append_right R)
  have hfr' : (A.deeper env).frames = some (env :: fr) := Around.frames_deeper hfr
  unfold leaving
  refine wpAny_bind (wpAny_mono (note hfr' (E := No) R s r1) (fun _ s2 hq => ?_) fun e s2 q => (noPQ (v := e) q).elim)
  obtain ⟨K2, H4, l2, r2, rfl, t, rfl⟩ := hq
  refine wpAny_mono (flight (E := No) R s2 r2) (fun _ s3 hq => ?_) fun e s2 q => (noPQ (v := e) q).elim
  obtain ⟨K3, H5, l3, r3, rfl, rfl⟩ := hq
  have hr3 : Rem ((x, AO.exc c args (some t) none cx) :: (t, AO.tb) :: H2) L (.ns ρ) ((x, AO.exc c args (some t) none cx) :: (t, AO.tb) :: H3) := .tl (.tl hrem)
  have r4 : Rep G fr K3 (((x, AO.exc c args (some t) none cx) :: (t, AO.tb) :: H3) ++ R) s3 := (r3.pop.perm (hr3.perm.append_right R)).drop fun e he q => fresh e he (q.trans hL.symm)
  exact ⟨K3, _, l1, r4, F1, m1, x, c, args, some t, cx, H3, rfl, .refl _, p⟩
end
section
variable {G : Glob} {fr : List Env} {A : Around} {env : Env} {F K : Fz} {H R : Hp} {s : Shared} {E : Value → Fz → Hp → Prop} {Q : V → Fz → Hp → Prop}
theorem stop_new1 {y : V} (h : ∀ x, Q (.ref x) F ((x, .exc "StopIteration" [y] none none true) :: H)) : Cl G fr A F H (.typ "StopIteration") [y] Q E := cl_t1 fun K m v hv R s hR => by
  refine stop_call fun h' e hm => ?_
  obtain ⟨hk, hn, t, he, ht, hto⟩ := hm
  obtain ⟨le, r1⟩ := hR.newF (tk := s.toks) (dr := s.drawn) hk ht hto
  have fr1 := hR.fresh hn
  have hne : e ≠ t := fun q => by
    subst q
    rw [he] at hto
    exact absurd (congrArg Obj.cls (Option.some.inj hto)) (by simp)
  have r2 := Rep.adopt (x := .exc "StopIteration" [y] none none true) r1 (by unfold Fz.add; rw [if_neg hne]; exact fr1.1) fr1.2 he
    ⟨_, t, v, rfl, rfl, rfl, rfl, .tup (vs := [v]) (l := [y]) (Fz.add_self _ _ _) rfl (RVs.get (.cons (hv.mono le) .nil)), rfl, rfl, fun _ => hv.mono le, fun _ => rfl⟩
  exact ⟨_, _, le, r2, _, .ref, F, m.trans le, h e⟩
theorem raise_any {M : Model} {x : Sem Value} {E : Value → Shared → Prop} {Q : Flow → Shared → Prop} (hh : A.handled = none)
    (h : wpAny M A x (fun v s₁ => ∃ c, ExcRaiseFacts c ∧ ∃ e o vs, v = .ref e ∧ s₁.heap.get? e = some o ∧ o.cls = .type c ∧ o.data = .fields vs ∧ vs[1]? = some .none ∧ E (.ref e) s₁) E s) :
    wpAny M A (raiseStmt env (some x) none) Q E s := by
  unfold raiseStmt
  refine wpAny_bind (wpAny_mono h (fun v s₁ h₁ => ?_) fun _ _ x => x)
  obtain ⟨c, F, e, o, vs, rfl, he, hc, hd, h1, hE⟩ := h₁
  obtain ⟨hp, g, d, tk, os⟩ := s₁
  have hsub := F.isExc
  have hmeta := F.plainMeta
  obtain ⟨oc, od, odt, osl⟩ := o
  obtain rfl : oc = .type c := hc
  obtain rfl : odt = .fields vs := hd
  repeat (first | refine wpAny_loadPart he ?_ | wp_step)
  rw [h1]
  refine wpAny_pure ?_
  rw [if_neg (by decide)]
  refine wpAny_pure ?_
  unfold raiseNew
  refine wpAny_bind (wpAny_handled ?_)
  rw [hh]
  first
    | exact wpAny_throw hE
    | exact wpAny_bind (wpAny_pure (wpAny_throw hE))
theorem Ex_Raise {e : Expr} {pos : Pos} {Q : FV → Fz → Hp → Prop} (hh : A.handled = none)
    (h : Ev G fr A F H (eval e env) (fun v F1 H1 => ∃ x c args cx, v = .ref x ∧ Has H1 x (.exc c args none none cx) ∧ ExcRaiseFacts c ∧ E (.ref x) F1 H1) E) : Ex G fr A F H (exec (.Raise (some e) none pos) env) Q E := fun K m R s hR => by
  rw [arm_exec_Raise]
  show wpAny G.M A (do standAt pos; raiseStmt env (some (do let v ← eval e env; standAt pos; pure v)) none) _ _ s
  refine wpAny_bind (wpAny_standAt ?_)
  have key : wpAny G.M A (do let v ← eval e env; standAt pos; pure v) (fun v s₁ => ∃ c, ExcRaiseFacts c ∧ ∃ e o vs, v = .ref e ∧ s₁.heap.get? e = some o ∧ o.cls = .type c ∧ o.data = .fields vs ∧ vs[1]? = some .none ∧ PQ G fr K R (fun e => Dn (E e)) (.ref e) s₁) (PQ G fr K R fun e => Dn (E e)) s := by
    refine wpAny_bind (h.go m hR (.refl K) fun v x F1 K1 H1 s1 l1 m1 r1 hx hq => wpAny_bind (wpAny_standAt (wpAny_pure ?_)))
    obtain ⟨x, c, args, cx, rfl, hm, hf, q⟩ := hq
    obtain rfl := hx.i_ref
    obtain ⟨o, ho, vs, a, v5, e1, e2, e3, e4, e5, e6, e7⟩ := r1.has hm
    exact ⟨c, hf, x, o, vs, rfl, ho, e1, e3, e6, K1, H1, l1, r1, F1, m1, q⟩
  refine raise_any hh key
end
noncomputable def Hd (G : Glob) (fr : List Env) (A : Around) (env : Env) (F : Fz) (H : Hp) (x : Addr) (hs : List ExceptHandler) (Q : FV → Fz → Hp → Prop) (E : Value → Fz → Hp → Prop) : Prop := ∀ K, F.le K → TpAt G fr A K H (handleBy (.ref x) env hs) (FQ Q) E
structure Cat (c T : String) (b : Bool) : Prop where
  exc : isSubtype (.type T) (.type "BaseException") = pure true
  nt : isSubtype (.type ((Manifest.find? T).elim "type" fun x => x.metatype)) (.type "tuple") = pure false
  sub : isSubtype (.type c) (.type T) = pure b
inductive Drp : Hp → Hp → Prop where
  | nil {H : Hp} : Drp H H
  | cons {H H1 H2 : Hp} {a : Addr} {x : AO} (hr : Rem H a x H1) (hx : ∀ ρ, x ≠ .ns ρ) (t : Drp H1 H2) : Drp H H2
theorem Rep.drp {G : Glob} {fr : List Env} {K : Fz} {H H' R : Hp} {s : Shared} (d : Drp H H') (r : Rep G fr K (H ++ R) s) : Rep G fr K (H' ++ R) s := by
  induction d with
  | nil => exact r
  | cons hr hx _ ih => exact ih ((r.perm (hr.perm.append_right R)).dropNot hx)
theorem Drp.one {H H1 : Hp} {a : Addr} {x : AO} (hr : Rem H a x H1) (hx : ∀ ρ, x ≠ .ns ρ) : Drp H H1 := .cons hr hx .nil
theorem Drp.two {H H1 H2 : Hp} {a b : Addr} {x y : AO} (hr : Rem H a x H1) (hx : ∀ ρ, x ≠ .ns ρ) (hs : Rem H1 b y H2) (hy : ∀ ρ, y ≠ .ns ρ) : Drp H H2 := .cons hr hx (.cons hs hy .nil)
inductive Unb (env : Env) (n : Str) (F : Fz) (H : Hp) (Q : Fz → Hp → Prop) : Prop where
  | intro (ρ ρ' : List (Str × Option V)) (H' : Hp) (hu : Upd H env.locals (.ns ρ) (.ns ρ') H') (hs : SetL ρ n none ρ') (h : Q F H')
theorem Unb.mk {env : Env} {n : Str} {F : Fz} {H H' : Hp} {Q : Fz → Hp → Prop} {ρ ρ' : List (Str × Option V)} (hu : Upd H env.locals (.ns ρ) (.ns ρ') H') (hs : SetL ρ n none ρ') (h : Q F H') : Unb env n F H Q := ⟨ρ, ρ', H', hu, hs, h⟩
section
variable {G : Glob} {fr outer : List Env} {A : Around} {env : Env} {F K : Fz} {H R : Hp} {s : Shared} {E : Value → Fz → Hp → Prop} {Q : FV → Fz → Hp → Prop} {P PB : Addr → String → List V → Bool → Fz → Hp → Prop}
theorem unbind {n : Str} {pos : Pos} {Q : Fz → Hp → Prop} (m : F.le K) (h : Unb env n F H Q) (hk : autoParam (env.scope.kind = .function) tac0) (hl : autoParam (env.kindOf n = some .local) tac0) :
    TpAt G fr A K H (do bindName env n .none; unbindBehindTheSuite env n pos) (fun _ => Dn Q) E := fun R s hR => by
  obtain ⟨ρ, ρ', H', hu, hs, q⟩ := h
  obtain ⟨o, ho, r⟩ := hR.get hu.mem
  obtain ⟨ms, hn, nd, hp⟩ := nsOf ho r
  have hpk : (env.scope.kind == .class || (env.scope.kind == .module && env.locals != env.globals)) = false := by rw [hk]; rfl
  refine wpAny_bind (wpAny_bindName (wpAny_storeName_local hl hn (fun h₁ hn₁ hs₁ => ?_) hpk))
  unfold unbindBehindTheSuite
  refine wpAny_onRaise ?_
  unfold unbindName
  refine wpAny_bind (wpAny_point (wpAny_bind ?_))
  unfold deleteName
  simp only [hl, hpk]
  rw [if_neg (by decide)]
  refine wpAny_bind (wpAny_nsDel_keeps hn₁ fun h₂ v hn₂ hs₂ => ?_)
  simp only [if_true, Option.isSome_some, Bool.not_true, Bool.false_eq_true, if_false]
  refine wpAny_pure (wpAny_point ?_)
  obtain ⟨o', es, ep, ho', hd', hk', hf'⟩ := hn₂
  refine ⟨K, H', .refl K, hR.upd' (tk := s.toks + 1) (dr := s.drawn) hu (hs₁.trans hs₂).extBut ho' ⟨es, ep, hd', hk', by rw [hs.names.1]; exact nd, fun p hpm => ?_⟩ fun _ => ⟨_, rfl⟩, F, m, q⟩
  rcases hs.spec nd p hpm with ⟨h1, h2⟩ | ⟨h1, h2⟩
  · rw [h2]; trivial
  · have q := hp p h2
    cases e : p.2 with
    | none => trivial
    | some z =>
      simp only [e] at q ⊢
      obtain ⟨u, q1, q2⟩ := q
      exact ⟨u, by rw [hf' p.1]; simp only [if_neg h1]; exact q1, q2⟩
theorem pass {what : String} {x t : Addr} {c : String} {args : List V} {d : Option Addr} {cx : Bool} {α : Type} {Q' : α → Shared → Prop} {E' : Value → Shared → Prop} (hR : Rep G fr K (((x, .exc c args (some t) d cx) :: (t, .tb) :: H) ++ R) s)
    (h : ∀ s', Rep G fr K (((x, .exc c args (some t) d cx) :: (t, .tb) :: H) ++ R) s' → E' (.ref x) s') : wpAny G.M A (PySem.passOn what (.ref x) env : Sem α) Q' E' s := by
  obtain ⟨_, o, ho, hro⟩ := hR.own _ (.head _)
  obtain ⟨vs, a, v5, e1, e2, e3, e4, e5, e6, e7⟩ := id hro
  unfold PySem.passOn
  refine wpAny_bind (wpAny_field ho e3 e6 ?_)
  rw [if_neg (show ¬ ((some t).elim Value.none Value.ref == Value.none) = true from by simp)]
  refine wpAny_bind (wpAny_mono (flight (E := No) R s hR) (fun _ s3 hq => ?_) fun e s2 q => (noPQ (v := e) q).elim)
  obtain ⟨K3, H3, l3, r3, rfl, rfl⟩ := hq
  exact wpAny_throw (h s3 r3)
theorem Ex_Try {body : List Stmt} {h₀ : ExceptHandler} {hs : List ExceptHandler} {pos : Pos} (hfr : A.frames = some (env :: outer))
    (h : Ex G (env :: outer) A F H (execs body env) Q (Thr0 PB))
    (hd : ∀ x c args t cx F1 H1, PB x c args cx F1 H1 → Hd G (env :: outer) A env F1 ((x, .exc c args (some t) none cx) :: (t, .tb) :: H1) x (h₀ :: hs) Q E) :
    Ex G (env :: outer) A F H (exec (.Try body (h₀ :: hs) [] [] pos) env) Q E := fun K m R s hR => by
  refine wpAny_Try_except (wpAny_mono (h K m R s hR) (fun f s₁ hq => ?_) fun e s₁ hq => ?_)
  · cases f with
    | next => exact wpAny_execs_nil hq
    | brk => exact hq
    | cont => exact hq
    | ret v => exact hq
  · obtain ⟨K1, H1, l1, r1, F1, m1, x, c, args, tb, cx, H2, rfl, hp, p⟩ := hq
    have r1 : Rep G (env :: outer) K1 (((x, .exc c args tb none cx) :: (tbH tb ++ H2)) ++ R) s₁ := r1.perm (hp.append_right R)
    refine wpAny_mono (note hfr (E := No) R s₁ r1) (fun _ s2 hq => ?_) fun e s2 q => (noPQ (v := e) q).elim
    obtain ⟨K2, H3, l2, r2, rfl, t, rfl⟩ := hq
    refine wpAny_mono (flight (E := No) R s2 r2) (fun _ s3 hq => ?_) fun e s2 q => (noPQ (v := e) q).elim
    obtain ⟨K3, H4, l3, r3, rfl, rfl⟩ := hq
    exact (hd x c args t cx F1 H2 p K3 m1).last r3 l1
theorem Rep.isExc {x : Addr} {c : String} {args : List V} {tb d : Option Addr} {cx : Bool} (hR : Rep G fr K (H ++ R) s) (hx : Has H x (.exc c args tb d cx)) : s.TypeIs (.ref x) c := by
  obtain ⟨o, ho, vs, a, v5, e1, _⟩ := hR.has hx
  exact ⟨o, ho, e1⟩
theorem Hd_as {x t : Addr} {c T : String} {args : List V} {cx : Bool} {n nm : Str} {npos pos : Pos} {b₀ : Stmt} {suite : List Stmt} {rest : List ExceptHandler} (hfr : A.frames = some (env :: outer)) (hg : G.mg n = none) (hb : G.mb n = some (.type T)) (cat : Cat c T true)
    (h : Store env nm (.ref x) F ((x, .exc c args (some t) none cx) :: (t, .tb) :: H) fun F1 H1 => Ex G (env :: outer) (A.mark (some (.ref x))) F1 H1 (execs (b₀ :: suite) env) (fun fv F2 H2 => Unb env nm F2 H2 (Q fv)) (Thr0 fun x c a b F2 H2 => Unb env nm F2 H2 (P x c a b)))
    (hk : autoParam (env.scope.kind = .function) tac0) (hkn : autoParam (env.kindOf n = some .globalImplicit) tac0) (hl : autoParam (env.kindOf nm = some .local) tac0) (hgl : autoParam (env.globals = mainGlobals) tac0) (hbl : autoParam (env.builtins = builtinsNs) tac0) (hd : autoParam ((n == ("__debug__" : Str)) = false) tac14) :
    Hd G (env :: outer) A env F ((x, .exc c args (some t) none cx) :: (t, .tb) :: H) x (.ExceptHandler (some (.Name n npos)) (some nm) (b₀ :: suite) pos :: rest) Q (Thr0 P) := fun K m R s hR => by
  refine wpAny_handleBy_builtin_as (b := true) cat.exc cat.nt cat.sub (Name_function_global hk hkn (loadGlobal_builtin (by rw [hgl]; exact hR.glob.1) hg (by rw [hbl]; exact hR.glob.2.1) hb ⟨rfl, hR.isExc .hd, ?_⟩) hd)
  rw [if_pos rfl]
  refine wpAny_mono (flight (E := No) R s hR) (fun _ s3 hq => ?_) fun e s2 q => (noPQ (v := e) q).elim
  obtain ⟨K3, H3, l3, r3, rfl, rfl⟩ := hq
  refine wpAny_mono (store (E := No) (A := A.mark (some (.ref x))) m .ref h hk hl R s3 r3) (fun _ s4 hq => ?_) fun e s2 q => (noPQ (v := e) q).elim
  obtain ⟨K4, H4, l4, r4, F4, m4, q⟩ := hq
  refine wpAny_mono (q K4 m4 R s4 r4) (fun f s5 hq => ?_) fun e s5 hq => ?_
  · obtain ⟨K5, H5, l5, r5, fv, hf, F5, m5, q⟩ := hq
    refine wpAny_mono (unbind (E := No) m5 q hk hl R s5 r5) (fun _ s6 hq => ?_) fun e s2 q => (noPQ (v := e) q).elim
    obtain ⟨K6, H6, l6, r6, F6, m6, q⟩ := hq
    exact ⟨K6, H6, l4.trans (l5.trans l6), r6, fv, hf.mono l6, F6, m6, q⟩
  · obtain ⟨K5, H5, l5, r5, F5, m5, x', c', args', tb', cx', H6, rfl, hp, q⟩ := hq
    have r5 : Rep G (env :: outer) K5 (((x', .exc c' args' tb' none cx') :: (tbH tb' ++ H6)) ++ R) s5 := r5.perm (hp.append_right R)
    refine wpAny_mono (note (A := A.mark (some (.ref x))) hfr (E := No) R s5 r5) (fun _ s6 hq => ?_) fun e s2 q => (noPQ (v := e) q).elim
    obtain ⟨K6, H7, l6, r6, rfl, t', rfl⟩ := hq
    have q' : Unb env nm F5 ((x', .exc c' args' (some t') none cx') :: (t', .tb) :: H6) fun F7 H7 => ∃ H8, H7 = (x', .exc c' args' (some t') none cx') :: (t', .tb) :: H8 ∧ P x' c' args' cx' F7 H8 := by
      obtain ⟨ρ, ρ', H8, hu, hs, q⟩ := q
      exact ⟨ρ, ρ', _, .tl (.tl hu), hs, H8, rfl, q⟩
    refine wpAny_mono (unbind (E := No) m5 q' hk hl R s6 r6) (fun _ s7 hq => ?_) fun e s2 q => (noPQ (v := e) q).elim
    obtain ⟨K7, H7, l7, r7, F7, m7, H8, rfl, q⟩ := hq
    refine pass r7 fun s8 r8 => noted_thr2 (A := A.mark (some (.ref x))) (A' := A) hfr ⟨K7, _, l4.trans (l5.trans l7), r8, F7, m7, x', c', args', some t', cx', H8, rfl, .refl _, q⟩
theorem Ex_Finally {body : List Stmt} {f₀ : Stmt} {fs : List Stmt} {pos : Pos} (hfr : A.frames = some (env :: outer))
    (h : Ex G (env :: outer) A F H (execs body env) (fun fv F1 H1 => Ex G (env :: outer) A F1 H1 (execs (f₀ :: fs) env) (fun g F2 H2 => g = .next ∧ Q fv F2 H2) No) (Thr0 PB))
    (hx : ∀ x c args t cx F1 H1, PB x c args cx F1 H1 → Ex G (env :: outer) (A.mark (some (.ref x))) F1 ((x, .exc c args (some t) none cx) :: (t, .tb) :: H1) (execs (f₀ :: fs) env) (fun g F2 H2 => g = .next ∧ ∃ H3, H2 = (x, .exc c args (some t) none cx) :: (t, .tb) :: H3 ∧ P x c args cx F2 H3) No) :
    Ex G (env :: outer) A F H (exec (.Try body [] [] (f₀ :: fs) pos) env) Q (Thr0 P) := fun K m R s hR => by
  have raised : ∀ e s₁, PQ G (env :: outer) K R (fun e => Dn (Thr0 PB e)) e s₁ → FinallyRaised G.prog G.w A (PQ G (env :: outer) K R fun e => Dn (Thr0 P e)) env (f₀ :: fs) (PQ G (env :: outer) K R (FQ Q)) e s₁ := fun e s₁ hq => by
    obtain ⟨K1, H1, l1, r1, F1, m1, x, c, args, tb, cx, H2, rfl, hp, p⟩ := hq
    have r1 : Rep G (env :: outer) K1 (((x, .exc c args tb none cx) :: (tbH tb ++ H2)) ++ R) s₁ := r1.perm (hp.append_right R)
    refine ⟨ref_ne_byPass x, wpAny_mono (note hfr (E := No) R s₁ r1) (fun _ s2 hq => ?_) fun e s2 q => (noPQ (v := e) q).elim⟩
    obtain ⟨K2, H3, l2, r2, rfl, t, rfl⟩ := hq
    refine wpAny_mono (flight (E := No) R s2 r2) (fun _ s3 hq => ?_) fun e s2 q => (noPQ (v := e) q).elim
    obtain ⟨K3, H4, l3, r3, rfl, rfl⟩ := hq
    refine wpAny_mono (hx x c args t cx F1 H2 p K3 m1 R s3 r3) (fun g s4 hq => ?_) fun e s2 q => (noPQ (α := Value) (v := e) q).elim
    obtain ⟨K4, H4, l4, r4, gv, hg, F4, m4, e, H5, rfl, q⟩ := hq
    subst e
    cases hg
    exact pass r4 fun s5 r5 => ⟨K4, _, l1.trans l4, r5, F4, m4, x, c, args, some t, cx, H5, rfl, .refl _, q⟩
  refine wpAny_Try_finally (wpAny_mono (h K m R s hR) (fun f s₁ hq => ?_) fun e s₁ hq => ?_)
  · obtain ⟨K1, H1, l1, r1, fv, hf, F1, m1, q⟩ := hq
    have fin : wpAny G.M A (execs (f₀ :: fs) env) (fun g s' => match g with | .next => PQ G (env :: outer) K R (FQ Q) f s' | g => PQ G (env :: outer) K R (FQ Q) g s') (notedBy G.M A env (cameBackBy G.M A env (PQ G (env :: outer) K R fun e => Dn (Thr0 P e)))) s₁ := by
      refine wpAny_mono (q K1 m1 R s₁ r1) (fun g s' hg => ?_) fun e s₁ q => (noPQ (α := Value) (v := e) q).elim
      obtain ⟨K2, H2, l2, r2, gv, hg, F2, m2, e, q⟩ := hg
      subst e
      cases hg
      exact ⟨K2, H2, l1.trans l2, r2, fv, hf.mono l2, F2, m2, q⟩
    cases f with
    | next => exact wpAny_execs_nil fin
    | brk => exact fin
    | cont => exact fin
    | ret v => exact fin
  · have hq0 := hq
    obtain ⟨K1, H1, l1, r1, F1, m1, x, c, args, tb, cx, H2, rfl, hp, p⟩ := hq
    have r1 : Rep G (env :: outer) K1 (((x, .exc c args tb none cx) :: (tbH tb ++ H2)) ++ R) s₁ := r1.perm (hp.append_right R)
    refine wpAny_mono (note hfr (E := No) R s₁ r1) (fun _ s2 hq => ?_) fun e s2 q => (noPQ (v := e) q).elim
    obtain ⟨K2, H3, l2, r2, rfl, t, rfl⟩ := hq
    exact raised _ _ ⟨K2, _, l1, r2, F1, m1, x, c, args, some t, cx, H2, rfl, .refl _, p⟩
end
inductive Is (y : V) (F : Fz) (H : Hp) : V → Fz → Hp → Prop where
  | mk : Is y F H y F H
inductive IsL (ys : List V) (F : Fz) (H : Hp) : List V → Fz → Hp → Prop where
  | mk : IsL ys F H ys F H
noncomputable def calmFns : List Str := ["len", "int", "str", "abs", "divmod", "repr", "range", "type", "isinstance", "sum", "max", "min"]
noncomputable def calmMeths : List Str := ["index", "find", "startswith", "get", "lower", "split", "join"]
noncomputable def calm : Nat → Expr → Bool
  | 0, _ => false
  | n + 1, e => match e with
    | .Name .. => true
    | .Constant .. => true
    | .BinOp l _ r _ => calm n l && calm n r
    | .UnaryOp _ x _ => calm n x
    | .Subscript v s _ => calm n v && calm n s
    | .Slice l u s _ => l.all (calm n) && u.all (calm n) && s.all (calm n)
    | .Attribute v _ _ => calm n v
    | .Tuple es _ _ => es.all (calm n)
    | .Call (.Name f _) as ks _ => calmFns.contains f && as.all (calm n) && ks.isEmpty
    | .Call (.Attribute o m _) as ks _ => calmMeths.contains m && calm n o && as.all (calm n) && ks.isEmpty
    | _ => false
section
variable {G : Glob} {fr : List Env} {A : Around} {env : Env} {F : Fz} {H : Hp} {E : Value → Fz → Hp → Prop} {Q : V → Fz → Hp → Prop} {x y : V}
theorem Ev.is {t : Sem Value} (h : Ev G fr A F H t (Is x F H) No) (k : Q x F H) : Ev G fr A F H t Q E := h.mono (fun _ _ _ q => by cases q; exact k) fun _ _ _ e => e.elim
theorem Evs.is {t : Sem (List Value)} {xs : List V} {Q : List V → Fz → Hp → Prop} (h : Evs G fr A F H t (IsL xs F H) No) (k : Q xs F H) : Evs G fr A F H t Q E := fun K m R s hR =>
  wpAny_mono (h K m R s hR) (fun _ _ q => by obtain ⟨F1, H1, l, r, x, hx, F2, m2, q⟩ := q; cases q; exact ⟨F1, H, l, r, xs, hx, F, m2, k⟩) fun e _ q => (noPQ (v := e) q).elim
theorem Ev_Attribute' {value : Expr} {attr : Str} {pos : Pos} (h1 : Ev G fr A F H (eval value env) (Is x F H) No) (h : Op1 G fr A F H (fun v => getAttr v attr true) x Q E) (hc : autoParam (calm 8 value = true) tac0)
    (he : autoParam (eval (.Attribute value attr pos) env = (do
      let o ← eval value env
      standAt pos.atName
      let r ← holding [o] (getAttr o attr true)
      letTemporaryGo value o r
      pure r)) tac3) : Ev G fr A F H (eval (.Attribute value attr pos) env) Q E := Ev_Attribute (h1.is h) he
theorem Evs_nil' {pos} : Evs G fr A F H (spliced (backTo pos (starEach [] env))) (IsL [] F H) No := Evs_nil .mk
theorem Evs_cons' {e : Expr} {rest : List Expr} {pos} {xs : List V} (h1 : Ev G fr A F H (eval e env) (Is x F H) No) (h2 : Evs G fr A F H (spliced (backTo pos (starEach rest env))) (IsL xs F H) No)
    (he : autoParam (starEach (e :: rest) env = (false, eval e env) :: starEach rest env) tac0) : Evs G fr A F H (spliced (backTo pos (starEach (e :: rest) env))) (IsL (x :: xs) F H) No := Evs_cons (h1.is (h2.is .mk)) he
theorem Ev_Call' {func e : Expr} {rest : List Expr} {pos} {xs : List V} (h1 : Ev G fr A F H (eval func env) (Is x F H) No) (hk : KOk F x) (h2 : Evs G fr A F H (spliced (backTo pos (starEach (e :: rest) env))) (IsL xs F H) No) (h : Cl G fr A F H x xs Q E) (hc : autoParam ((e :: rest).all (calm 8) = true) tac0)
    (he : autoParam (eval (.Call func (e :: rest) [] pos) env = (do callWith pos (← eval func env) [] (backTo pos (starEach (e :: rest) env)) (backToKw pos (keywordEach [] env)))) tac0)
    (hs : autoParam (starEach (e :: rest) env = (false, eval e env) :: starEach rest env) tac0) (hplain : autoParam ((backTo pos (starEach rest env)).any (·.1) = false) tac0) :
    Ev G fr A F H (eval (.Call func (e :: rest) [] pos) env) Q E := Ev_Call (h1.is ⟨hk, h2.is h⟩) he hs hplain
inductive MArgs (G : Glob) (fr : List Env) (A : Around) (env : Env) (F : Fz) (H : Hp) (pos : Pos) (args : List Expr) (x : V) (Q : V → Fz → Hp → Prop) (E : Value → Fz → Hp → Prop) (id : String) : Prop where
  | mk {xs : List V} (h1 : Evs G fr A F H (spliced (backTo pos (starEach args env))) (IsL xs F H) No) (h : Cl G fr A F H (.blt id) (x :: xs) Q E)
inductive MethC (G : Glob) (fr : List Env) (A : Around) (env : Env) (F : Fz) (H : Hp) (pos : Pos) (args : List Expr) (name : Str) (x : V) (Q : V → Fz → Hp → Prop) (E : Value → Fz → Hp → Prop) : Prop where
  | mk (T id : String) (h1 : PlainAttrs T) (h2 : Slot T name id) (h3 : typeOf (.builtin id) = pure (.type "method_descriptor")) (h4 : TyIs F H x T) (h : MArgs G fr A env F H pos args x Q E id)
theorem Ev_method' {o : Expr} {name : Str} {apos pos : Pos} {args : List Expr} (h1 : Ev G fr A F H (eval o env) (Is x F H) No)
    (h : MethC G fr A env F H pos args name x Q E) (hc : autoParam ((calm 8 o && args.all (calm 8)) = true) tac0)
    (hbase : autoParam (attributeBase o name env (eval o env) = eval o env) tac0)
    (hfew : autoParam (((backTo pos (starEach args env)).all (fun x => !x.1) && (backToKw pos (keywordEach [] env)).all (fun x => x.1.isSome)
      && decide (args.length + ([] : List Keyword).length + (if ([] : List Keyword).isEmpty then 0 else 1) < 30)) = true) tac0)
    (hline : autoParam ((apos.endLine == pos.line) = true) tac0)
    (hargs : ∀ f (Q : Args → Shared → Prop) E s, wpAny G.M A (spliced (backTo pos (starEach args env))) (fun vs s' => Q ⟨vs, []⟩ s') E s → wpAny G.M A (evalArgs f true (backTo pos (starEach args env)) []) Q E s := by intro _ _ _ _ h; first | exact evalArgs_plain h | exact Mine.evalArgs_nil' h)
    (hplain : autoParam ((backTo pos (starEach args env)).any (·.1) = false) tac0) :
    Ev G fr A F H (eval (.Call (.Attribute o name apos) args [] pos) env) Q E := by
  refine Ev_method (h1.is ?_) hbase hfew hline hargs hplain
  obtain ⟨T, id, a, b, c, d, e⟩ := h
  obtain ⟨h1, h⟩ := e
  exact ⟨T, id, a, b, c, d, h1.is h⟩
end
section
variable {K : Type} [DecidableEq K]
noncomputable def kvL (emb : K → V) (l : List (K × V)) : List (V × V) := l.map fun p => (emb p.1, p.2)
noncomputable def vAt (l : List (K × V)) (k : K) : Option V := (l.find? fun p => decide (p.1 = k)).map (·.2)
noncomputable def stV (l : List (K × V)) (k : K) (v : V) : List (K × V) := if l.any (fun p => p.1 = k) then l.map (fun p => if p.1 = k then (p.1, v) else p) else l ++ [(k, v)]
end
structure Kd (G : Glob) (K : Type) [DecidableEq K] where
  emb : K → V
  knd : KeyKind G.prog G.w K
  ok : ∀ k v h, keyHashV G.w (emb k) v h ↔ (knd.is k v = true ∧ h = knd.hash k)
  rv : ∀ F k v, RV F v (emb k) → knd.is k v = true
noncomputable def kStr (G : Glob) : Kd G Str where
  emb := .str
  knd := PySem.strKind G.prog G.w
  ok := fun k v h => by
    constructor
    · rintro (⟨x, t, e, rfl, rfl⟩ | ⟨i, t, e, _⟩)
      · cases e; exact ⟨PySem.strKind_is _ _ _ _, rfl⟩
      · cases e
    · rintro ⟨h1, rfl⟩
      obtain ⟨t, rfl⟩ := Value.isStrOf_shape h1
      exact .inl ⟨_, _, rfl, rfl, rfl⟩
  rv := fun F k v h => h.e_str (P := fun v => (PySem.strKind G.prog G.w).is k v = true) fun _ => PySem.strKind_is _ _ _ _
noncomputable def kInt (G : Glob) : Kd G Int where
  emb := .int
  knd := PySem.intKind G.prog G.w
  ok := fun k v h => by
    constructor
    · rintro (⟨x, t, e, _⟩ | ⟨i, t, e, rfl, rfl⟩)
      · cases e
      · cases e; exact ⟨PySem.intKind_is _ _ _ _, rfl⟩
    · rintro ⟨h1, rfl⟩
      obtain ⟨t, rfl⟩ := Value.isInt_shape h1
      exact .inr ⟨_, _, rfl, rfl, rfl⟩
  rv := fun F k v h => h.e_int (P := fun v => (PySem.intKind G.prog G.w).is k v = true) fun _ => PySem.intKind_is _ _ _ _
section
variable {G : Glob} {K : Type} [DecidableEq K] (kd : Kd G K) {F : Fz}
theorem RD.pairs : ∀ {es : List DictEntry} {l : List (K × V)}, RD G.w F es (kvL kd.emb l) → ∃ kvs : List (K × Value), (∀ e ∈ es, ∃ k, kd.knd.is k e.key = true ∧ e.hash = kd.knd.hash k) ∧ Pairs kd.knd es kvs ∧ kvs.map (·.1) = l.map (·.1) ∧ RVs F (kvs.map (·.2)) (l.map (·.2))
  | es, [], h => by
    cases h
    exact ⟨[], by simp, .nil, rfl, .nil⟩
  | es, p :: l, h => by
    cases h with
    | @cons e _ _ es _ hk hv t =>
      obtain ⟨kvs, h1, h2, h3, h4⟩ := RD.pairs t
      have hk' := (kd.ok _ _ _).mp hk
      refine ⟨(p.1, e.val) :: kvs, fun e' he => ?_, .cons hk'.1 rfl h2, by simp [h3], .cons hv h4⟩
      rcases List.mem_cons.mp he with rfl | he
      · exact ⟨p.1, hk'⟩
      · exact h1 e' he
theorem RD.of {es : List DictEntry} {l : List (K × V)} {kvs : List (K × Value)} (hk : ∀ e ∈ es, ∃ k, kd.knd.is k e.key = true ∧ e.hash = kd.knd.hash k) (hp : Pairs kd.knd es kvs) (he : kvs.map (·.1) = l.map (·.1)) (hr : RVs F (kvs.map (·.2)) (l.map (·.2))) : RD G.w F es (kvL kd.emb l) := by
  induction hp generalizing l with
  | nil =>
    cases l with
    | nil => exact .nil
    | cons _ _ => simp at he
  | @cons e kv es kvs h1 h2 h3 ih =>
    cases l with
    | nil => simp at he
    | cons p l =>
      simp only [List.map_cons, List.cons.injEq] at he hr
      cases hr with
      | cons r1 r2 =>
        obtain ⟨k, q1, q2⟩ := hk e (.head _)
        have : kv.1 = k := kd.knd.inj _ _ _ h1 q1
        exact .cons ((kd.ok _ _ _).mpr ⟨by rw [← he.1]; exact h1, by rw [← he.1, this]; exact q2⟩) (by rw [h2]; exact r1) (ih (fun e he => hk e (.tail _ he)) he.2 r2)
theorem vAt_rel {kvs : List (K × Value)} : ∀ {l : List (K × V)} (k : K), kvs.map (·.1) = l.map (·.1) → RVs F (kvs.map (·.2)) (l.map (·.2)) → match vAt l k with | none => valueAt kvs k = none | some x => ∃ v, valueAt kvs k = some v ∧ RV F v x := by
  induction kvs with
  | nil =>
    intro l k he hr
    cases l with
    | nil => rfl
    | cons => cases he
  | cons p kvs ih =>
    intro l k he hr
    cases l with
    | nil => cases he
    | cons q l =>
      rw [List.map_cons, List.map_cons] at he hr
      cases hr with
      | cons r1 r2 =>
        unfold vAt valueAt
        rw [List.find?_cons, List.find?_cons, (List.cons.inj he).1]
        by_cases hk : q.1 = k
        · rw [decide_eq_true hk]; exact ⟨_, rfl, r1⟩
        · rw [decide_eq_false hk]; exact ih k (List.cons.inj he).2 r2
theorem st_rel {kvs : List (K × Value)} {l : List (K × V)} {k : K} {v : Value} {x : V} (he : kvs.map (·.1) = l.map (·.1)) (hr : RVs F (kvs.map (·.2)) (l.map (·.2))) (hv : RV F v x) :
    (stored kvs k v).map (·.1) = (stV l k x).map (·.1) ∧ RVs F ((stored kvs k v).map (·.2)) ((stV l k x).map (·.2)) := by
  have hany : (kvs.any fun kv => decide (kv.1 = k)) = l.any fun p => decide (p.1 = k) := by
    have : ∀ {α : Type} (m : List (K × α)), (m.any fun p => decide (p.1 = k)) = (m.map (·.1)).any fun q => decide (q = k) := fun m => by rw [List.any_map]; rfl
    rw [this, this, he]
  unfold stored stV
  rw [hany]
  by_cases h : (l.any fun p => decide (p.1 = k)) = true
  · rw [if_pos h, if_pos h]
    clear h hany
    induction kvs generalizing l with
    | nil =>
      cases l with
      | nil => exact ⟨rfl, .nil⟩
      | cons _ _ => simp at he
    | cons p kvs ih =>
      cases l with
      | nil => simp at he
      | cons q l =>
        simp only [List.map_cons, List.cons.injEq] at he hr ⊢
        cases hr with
        | cons r1 r2 =>
          obtain ⟨i1, i2⟩ := ih he.2 r2
          by_cases hq : q.1 = k
          · rw [if_pos hq, if_pos (he.1.trans hq)]
            exact ⟨⟨he.1, i1⟩, .cons hv i2⟩
          · rw [if_neg hq, if_neg (fun e => hq (he.1.symm.trans e))]
            exact ⟨⟨he.1, i1⟩, .cons r1 i2⟩
  · rw [if_neg h, if_neg h]
    rw [List.map_append, List.map_append, List.map_append, List.map_append]
    exact ⟨by rw [he]; rfl, hr.append (.cons hv .nil)⟩
end
noncomputable def DictF (G : Glob) (F : Fz) (a : Addr) (l : List (V × V)) : Prop := (a == sysModules) = false ∧ ∃ es n, F a = some { cls := .type "dict", dict := none, data := .dict es n, slots := #[] } ∧ RD G.w F es.toList l
theorem DictF.mono {G : Glob} {F F' : Fz} {a : Addr} {l : List (V × V)} (le : F.le F') (h : DictF G F a l) : DictF G F' a l := by obtain ⟨h1, es, n, h2, h3⟩ := h; exact ⟨h1, es, n, le _ _ h2, h3.mono le⟩
inductive DctIs (G : Glob) (F : Fz) (H : Hp) : Addr → List (V × V) → Prop where
  | frz {a : Addr} {l : List (V × V)} (h : DictF G F a l) : DctIs G F H a l
  | own {a : Addr} {l : List (V × V)} (ha : (a == sysModules) = false) (h : Has H a (.dict l)) : DctIs G F H a l
section
variable {G : Glob} {fr : List Env} {A : Around} {env : Env} {F : Fz} {H H' : Hp} {E : Value → Fz → Hp → Prop} {Q : V → Fz → Hp → Prop} {K : Type} [DecidableEq K] {kd : Kd G K}
theorem DctIs.obj {R : Hp} {s : Shared} {K' : Fz} {a : Addr} {l : List (V × V)} (h : DctIs G F H a l) (m : F.le K') (hR : Rep G fr K' (H ++ R) s) : (a == sysModules) = false ∧ ∃ es n, s.heap.get? a = some { cls := .type "dict", dict := none, data := .dict es n, slots := #[] } ∧ RD G.w K' es.toList l := by
  cases h with
  | frz h => obtain ⟨h1, es, n, h2, h3⟩ := h.mono m; exact ⟨h1, es, n, hR.fz _ _ h2, h3⟩
  | own ha h => obtain ⟨o, ho, es, n, rfl, hr⟩ := hR.has h; exact ⟨ha, es, n, ho, hr⟩
theorem dictOf {s : Shared} {K' : Fz} {a : Addr} {l : List (K × V)} {es : Array DictEntry} {n : Nat} (hnd : (l.map (·.1)).Nodup) (ho : s.heap.get? a = some { cls := .type "dict", dict := none, data := .dict es n, slots := #[] }) (hr : RD G.w K' es.toList (kvL kd.emb l)) :
    ∃ kvs, s.heap.DictOf kd.knd a kvs ∧ kvs.map (·.1) = l.map (·.1) ∧ RVs K' (kvs.map (·.2)) (l.map (·.2)) := by
  obtain ⟨kvs, h1, h2, h3, h4⟩ := hr.pairs
  exact ⟨kvs, ⟨_, es, n, ho, ⟨rfl, rfl, rfl⟩, rfl, fun e he => h1 e (by simpa using he), h2, by rw [h3]; exact hnd⟩, h3, h4⟩
theorem sub_dict {value slice : Expr} {a : Addr} {l : List (K × V)} {k : K} {y : V} (hd : DctIs G F H a (kvL kd.emb l)) (hnd : (l.map (·.1)).Nodup) (hy : vAt l k = some y) (h : Q y F H) (hs : autoParam (notSlice slice = true) tac0) :
    Op2 G fr A F H (subscriptTail value slice) (.ref a) (kd.emb k) Q E := fun K' m vo vi ho hi R s hR => by
  obtain rfl := ho.i_ref
  obtain ⟨ha, es, n, hob, hr⟩ := hd.obj m hR
  obtain ⟨kvs, hD, e1, e2⟩ := dictOf hnd hob hr
  have := vAt_rel k e1 e2
  rw [hy] at this
  obtain ⟨v, hv, hrv⟩ := this
  exact tail_any hD.typeIs slot_dict_getitem.lookup (wpAny_getItem_of (kd.rv _ _ _ hi) hD.mapOf hv (vret (hR.toks _) hrv m h)) (sub_of hs)
theorem in_dict {a : Addr} {l : List (K × V)} {k : K} (hd : DctIs G F H a (kvL kd.emb l)) (hnd : (l.map (·.1)).Nodup) (h : Q (.bool (vAt l k).isSome) F H) :
    Op2 G fr A F H (compareOp .In) (kd.emb k) (.ref a) Q E := fun K' m vk vo hk ho R s hR => by
  obtain rfl := ho.i_ref
  obtain ⟨ha, es, n, hob, hr⟩ := hd.obj m hR
  obtain ⟨kvs, hD, e1, e2⟩ := dictOf hnd hob hr
  have := vAt_rel k e1 e2
  refine wpAny_in_of (kd.rv _ _ _ hk) ha hD.mapOf ?_
  have e : (valueAt kvs k).isSome = (vAt l k).isSome := by
    cases hx : vAt l k with
    | none => rw [hx] at this; simp only at this; rw [this]; rfl
    | some x => rw [hx] at this; obtain ⟨v, hv, _⟩ := this; rw [hv]; rfl
  rw [e]
  exact vret (hR.toks _) .bool m h
theorem len_dict {a : Addr} {l : List (K × V)} (hd : DctIs G F H a (kvL kd.emb l)) (hnd : (l.map (·.1)).Nodup) (hl : (l.length : Int) < 2 ^ 63) (h : Q (.int l.length) F H) :
    Cl G fr A F H (.blt "len") [.ref a] Q E := cl_b1 fun K' m vo ho R s hR => by
  obtain rfl := ho.i_ref
  obtain ⟨ha, es, n, hob, hr⟩ := hd.obj m hR
  obtain ⟨kvs, hD, e1, e2⟩ := dictOf hnd hob hr
  have e3 : kvs.length = l.length := by rw [← List.length_map (f := fun p : K × Value => p.1), e1, List.length_map]
  refine call_len_dict ha hD (by rw [e3]; exact hl) ?_
  rw [e3]
  exact vret (hR.toks _) .int m h
noncomputable def SetI (G : Glob) (fr : List Env) (A : Around) (F : Fz) (H : Hp) (x i y : V) (Q : Fz → Hp → Prop) (E : Value → Fz → Hp → Prop) : Prop := ∀ K, F.le K → ∀ a j v, RV K a x → RV K j i → RV K v y → TpAt G fr A K H (setItem a j v) (fun _ => Dn Q) E
theorem Ex_Assign_sub {o i' : Expr} {pos' value pos} {Q : FV → Fz → Hp → Prop}
    (h : Ev G fr A F H (eval value env) (fun y F1 H1 => Ev G fr A F1 H1 (eval o env) (fun x F2 H2 => Ev G fr A F2 H2 (eval i' env) (fun z F3 H3 => SetI G fr A F3 H3 x z y (Q .next) E) E) E) E)
    (hs : autoParam (swapsWith value (some (.Subscript o i' pos')) pos.line env = pure false) tac0) : Ex G fr A F H (exec (.Assign [.Subscript o i' pos'] value pos) env) Q E := fun K m R s hR => by
  refine wpAny_Assign_Subscript (h.go m hR (.refl K) fun v y F1 K1 H1 s1 l1 m1 r1 hy h1 => h1.go m1 r1 l1 fun ov x F2 K2 H2 s2 l2 m2 r2 hx h2 => h2.go m2 r2 (l1.trans l2) fun iv z F3 K3 H3 s3 l3 m3 r3 hz hq => ?_) hs
  exact (hq K3 m3 ov iv v (hx.mono l3) hz (hy.mono (l2.trans l3))).seq r3 (l1.trans (l2.trans l3)) fun _ K4 H4 s4 l4 r4 q => by
    obtain ⟨F4, m4, q⟩ := q
    exact upPQ (l1.trans (l2.trans (l3.trans l4))) (fret r4 .next m4 q)
theorem set_dict {a : Addr} {l : List (K × V)} {k : K} {y : V} {Q : Fz → Hp → Prop} (hnd : (l.map (·.1)).Nodup) (hu : Upd H a (.dict (kvL kd.emb l)) (.dict (kvL kd.emb (stV l k y))) H') (hl : l.length ≤ sizeLine) (h : Q F H') : SetI G fr A F H (.ref a) (kd.emb k) y Q E := fun K' m vo vi v ho hi hy R s hR => by
  obtain rfl := ho.i_ref
  obtain ⟨ob, ho, es, n, rfl, hr⟩ := hR.get hu.mem
  obtain ⟨kvs, hD, e1, e2⟩ := dictOf hnd ho hr
  have e3 : kvs.length = l.length := by rw [← List.length_map (f := fun p : K × Value => p.1), e1, List.length_map]
  refine wpAny_setItem_pairs (kd.rv _ _ _ hi) hD (fun h' hD' hs' => ?_) (by rw [e3]; exact hl)
  obtain ⟨o', es', n', ho', hx, hd', hk', hp', hn'⟩ := hD'
  obtain ⟨s1, s2⟩ := st_rel (k := k) e1 e2 hy
  obtain ⟨c1, c2, c3⟩ := hx
  obtain ⟨oc, od, odt, osl⟩ := o'
  subst c1 c2 c3 hd'
  exact ⟨K', H', .refl K', hR.upd' (tk := s.toks + 1) (dr := s.drawn) hu hs'.extBut ho' ⟨es', n', rfl, RD.of kd (fun e he => hk' e (by simpa using he)) hp' s1 s2⟩ notNs_dict, F, m, h⟩
end
theorem each_opt {env : Env} : ∀ ks : List Expr, evalEachOpt (ks.map some) env = ks.map fun k => some (eval k env)
  | [] => rfl
  | k :: ks => by
    show some (eval k env) :: evalEachOpt (ks.map some) env = _
    rw [each_opt ks]; rfl
theorem each_map {env : Env} : ∀ vs : List Expr, evalEach vs env = vs.map fun v => eval v env
  | [] => rfl
  | v :: vs => by
    show eval v env :: evalEach vs env = _
    rw [each_map vs]; rfl
theorem dict_sh {env : Env} {pos : Pos} (ks vs : List Expr) : (evalEachOpt (ks.map some) env).zip ((evalEach vs env).map fun v => do let x ← v; standAt pos; pure x) = ((ks.map fun k => eval k env).zip (vs.map fun v => (do let x ← eval v env; standAt pos; pure x : Sem Value))).map fun p => (some p.1, p.2) := by
  rw [each_opt, each_map, List.map_map, show (ks.map fun k => some (eval k env)) = (ks.map fun k => eval k env).map some from (List.map_map ..).symm, List.zip_map_left]
  rfl
section
variable {G : Glob} {fr : List Env} {A : Around} {env : Env} {F : Fz} {H H' : Hp} {E : Value → Fz → Hp → Prop} {Q : V → Fz → Hp → Prop} {K : Type} [DecidableEq K]
noncomputable def Evp (G : Glob) (fr : List Env) (A : Around) (env : Env) (E : Value → Fz → Hp → Prop) : List Expr → List Expr → Fz → Hp → (List (V × V) → Fz → Hp → Prop) → Prop
  | k :: ks, v :: vs, F, H, Q => Ev G fr A F H (eval k env) (fun x F1 H1 => Ev G fr A F1 H1 (eval v env) (fun y F2 H2 => Evp G fr A env E ks vs F2 H2 fun r F3 H3 => Q ((x, y) :: r) F3 H3) E) E
  | [], [], F, H, Q => Q [] F H
  | _, _, _, _, _ => False
inductive RPs (K : Fz) : List (Value × Value) → List (V × V) → Prop where
  | nil : RPs K [] []
  | cons {a b : Value} {x y : V} {vs : List (Value × Value)} {l : List (V × V)} (h1 : RV K a x) (h2 : RV K b y) (t : RPs K vs l) : RPs K ((a, b) :: vs) ((x, y) :: l)
theorem Evp.run {pos : Pos} : ∀ {ks vs : List Expr} {F K K₀ : Fz} {H R : Hp} {s : Shared} {Q : List (V × V) → Fz → Hp → Prop} {P : List (Value × Value) → Shared → Prop}, Evp G fr A env E ks vs F H Q → F.le K → Rep G fr K (H ++ R) s → K₀.le K →
    (∀ ps l F1 K1 H1 s1, K.le K1 → Fz.le F1 K1 → Rep G fr K1 (H1 ++ R) s1 → RPs K1 ps l → Q l F1 H1 → P ps s1) → wpAny G.M A (evalPairs ((ks.map fun k => eval k env).zip (vs.map fun v => do let x ← eval v env; standAt pos; pure x))) P (PQ G fr K₀ R fun e => Dn (E e)) s := by
  intro ks
  induction ks with
  | nil =>
    intro vs F K K₀ H R s Q P h m hR le k
    cases vs with
    | cons => exact h.elim
    | nil => exact evalPairs_nil (k [] [] F K H s (.refl K) m hR .nil h)
  | cons ke ks ih =>
    intro vs F K K₀ H R s Q P h m hR le k
    cases vs with
    | nil => exact h.elim
    | cons ve vs =>
      refine evalPairs_cons ((show Ev _ _ _ _ _ _ _ _ from h).go m hR le fun a x F1 K1 H1 s1 l1 m1 r1 hx h1 => wpAny_bind (h1.go m1 r1 (le.trans l1) fun b y F2 K2 H2 s2 l2 m2 r2 hy h2 => wpAny_bind (wpAny_standAt (wpAny_pure ?_))))
      exact ih h2 m2 r2 (le.trans (l1.trans l2)) fun ps l F3 K3 H3 s3 l3 m3 r3 hps q => k _ _ F3 K3 H3 s3 (l1.trans (l2.trans l3)) m3 r3 (.cons (hx.mono (l2.trans l3)) (hy.mono l3) hps) q
theorem merged_nodup : ∀ {kvs acc : List (K × Value)}, ((acc ++ kvs).map (·.1)).Nodup → merged acc kvs = acc ++ kvs
  | [], acc, _ => by simp [merged]
  | p :: kvs, acc, h => by
    have hn : p.1 ∉ acc.map (·.1) := fun hm => by
      rw [List.map_append, List.map_cons, List.nodup_append] at h
      exact h.2.2 _ hm _ (.head _) rfl
    have hs : stored acc p.1 p.2 = acc ++ [p] := by
      unfold stored
      rw [if_neg]
      rw [List.any_eq_true]
      rintro ⟨q, hq, e⟩
      exact hn (List.mem_map.mpr ⟨q, hq, of_decide_eq_true e⟩)
    have : merged acc (p :: kvs) = merged (stored acc p.1 p.2) kvs := by simp [merged]
    rw [this, hs, merged_nodup (by simpa using h)]
    simp
theorem carries (kd : Kd G K) {Kz : Fz} : ∀ {ps : List (Value × Value)} {l : List (K × V)}, RPs Kz ps (kvL kd.emb l) → ∃ kvs, Carries kd.knd ps kvs ∧ kvs.map (·.1) = l.map (·.1) ∧ RVs Kz (kvs.map (·.2)) (l.map (·.2))
  | _, [], h => by cases h; exact ⟨[], trivial, rfl, .nil⟩
  | _, p :: l, h => by
    cases h with
    | @cons a b _ _ vs _ h1 h2 t =>
      obtain ⟨kvs, c1, c2, c3⟩ := carries kd t
      exact ⟨(p.1, b) :: kvs, ⟨kd.rv _ _ _ h1, rfl, c1⟩, by simp [c2], .cons h2 c3⟩
theorem Ev_Dict (kd : Kd G K) {keys : List (Option Expr)} {values ks : List Expr} {pos : Pos} (hks : keys = ks.map some) (hl0 : ks ≠ []) (hlen : ks.length ≤ 15) (hlen2 : ks.length = values.length)
    (h : Evp G fr A env E ks values F H (fun l F1 H1 => ∃ m : List (K × V), l = kvL kd.emb m ∧ (m.map (·.1)).Nodup ∧ ∀ a, (a == sysModules) = false → Q (.ref a) F1 ((a, .dict (kvL kd.emb m)) :: H1))) :
    Ev G fr A F H (eval (.Dict keys values pos) env) Q E := fun K' m R s hR => by
  have hsh := dict_sh (env := env) (pos := pos) ks values
  rw [← hks] at hsh
  refine wpAny_Dict_pairs (knd := kd.knd) hsh ?_ ?_ ?_
  · intro e
    have := congrArg List.length e
    simp only [List.length_zip, List.length_map, List.length_nil] at this
    have : 0 < ks.length := List.length_pos_iff.mpr hl0
    lia
  · simp only [List.length_zip, List.length_map]; lia
  have hlo : (s.heap.objs.size == sysModules) = false := beq_eq_false_iff_ne.mpr (Nat.ne_of_gt (modules_low hR.glob.2.2))
  have r1 := hR.new (D := s.heap.objs.size) (x := .dict []) (tk := s.toks) (dr := s.drawn) (fun b o e => Heap.get?_push_of_some { cls := .type "dict", data := .dict #[] } e) (none_at_size _) (Heap.get?_push_size _ rfl) ⟨#[], 0, rfl, .nil⟩
  refine wpAny_mono (Evp.run (pos := pos) (R := (s.heap.objs.size, .dict []) :: R) (P := fun vs s₁ => ∃ kvs, Carries kd.knd vs kvs ∧ s₁.heap.DictOf kd.knd s.heap.objs.size [] ∧ ∀ h', h'.DictOf kd.knd s.heap.objs.size (merged [] kvs) → Heap.SameBut s.heap.objs.size s₁.heap h' → PQ G fr K' R (VQ Q) (.ref s.heap.objs.size) { s₁ with heap := h', toks := s₁.toks + vs.length })
    h m (r1.perm List.perm_middle.symm) (.refl K') fun ps l F1 K1 H1 s1 l1 m1 r2 hps hq => ?_) (fun _ _ x => x) fun e s1 q => ?_
  · obtain ⟨ml, rfl, hnd, hq⟩ := hq
    obtain ⟨kvs, c1, c2, c3⟩ := carries kd hps
    have r3 : Rep G fr K1 ((s.heap.objs.size, .dict []) :: (H1 ++ R)) s1 := r2.perm List.perm_middle
    obtain ⟨_, o, ho, es, n, rfl, hr⟩ := r3.own _ (.head _)
    have hD : s1.heap.DictOf kd.knd s.heap.objs.size [] := by
      obtain ⟨kvs', hD, e1, e2⟩ := dictOf (kd := kd) (l := []) .nil ho hr
      cases kvs' with
      | nil => exact hD
      | cons _ _ => simp at e1
    refine ⟨kvs, c1, hD, fun h' hD' hs' => ?_⟩
    rw [merged_nodup (by simpa [c2] using hnd)] at hD'
    obtain ⟨o', es', n', ho', hx, hd', hk', hp', hn'⟩ := hD'
    obtain ⟨x1, x2, x3⟩ := hx
    obtain ⟨oc, od, odt, osl⟩ := o'
    subst x1 x2 x3 hd'
    exact ⟨K1, _, l1, r3.upd (x' := .dict (kvL kd.emb ml)) (tk := s1.toks + ps.length) (dr := s1.drawn) hs'.extBut ho' ⟨es', n', rfl, RD.of kd (fun e he => hk' e (by simpa using he)) (by simpa using hp') c2 c3⟩ notNs_dict, _, .ref, F1, m1, hq _ hlo⟩
  · obtain ⟨K1, H1, l1, r2, q⟩ := q
    exact ⟨K1, H1, l1, (r2.perm List.perm_middle).dropNot (fun _ e => nomatch e), q⟩
theorem Rep.freezeD {R : Hp} {s : Shared} {a : Addr} {l : List (V × V)} {K' : Fz} (ha : (a == sysModules) = false) (r : Rep G fr K' ((a, .dict l) :: H ++ R) s) : ∃ K2, K'.le K2 ∧ Rep G fr K2 (H ++ R) s ∧ DictF G K2 a l := by
  obtain ⟨o, ⟨es, n, rfl, hr⟩, le, r'⟩ := Rep.freeze r fun ρ q => nomatch q
  exact ⟨_, le, r', ha, es, n, Fz.add_self _ _ _, hr.mono le⟩
end
section
variable {G : Glob} {fr : List Env} {A : Around} {env : Env} {F : Fz} {H H' : Hp} {E : Value → Fz → Hp → Prop} {Q : V → Fz → Hp → Prop}
theorem in_ss {x y : Str} (h : Q (.bool !(Builtin.Str.occurrences x y 0 x.length 1).isEmpty) F H) : Op2 G fr A F H (compareOp .In) (.str y) (.str x) Q E := fun K m => ss fun t u R s hR => PySem.P.in_str (vret hR .bool m h)
theorem preSum_list (l : List Int) (f : Nat → Int) (hf : ∀ i (h : i < l.length), f i = l[i]) : preSum f l.length = l.sum := by
  have key : ∀ n, n ≤ l.length → preSum f n = (l.take n).sum := by
    intro n
    induction n with
    | zero => intro _; simp [preSum]
    | succ n ih =>
      intro hn
      have h1 : preSum f (n + 1) = preSum f n + f n := rfl
      rw [h1, ih (by lia), hf n (by lia), List.take_add_one, List.getElem?_eq_getElem (show n < l.length by lia), Option.toList_some, List.sum_append, List.sum_singleton]
  rw [key _ (Nat.le_refl _), List.take_length]
theorem sum_lst {zs : List Int} {x : V} (hx : LstIs H x (zs.map .int)) (hh : A.handled = none) (h : Q (.int zs.sum) F H) : Cl G fr A F H (.blt "sum") [x] Q E := cl_b1 fun K m v hv R s hR => by
  obtain ⟨a, vs, rfl, hL, hr⟩ := hx.is hR hv
  have hlt : a < s.heap.objs.size := by obtain ⟨_, e, _⟩ := hL; exact Heap.lt_size e
  have hsz : vs.size = zs.length := by rw [hr.toArr, List.length_map]
  refine call_sum_walkAnyS (wpAny_pyIter_list hL ?_)
  refine ⟨_, _, _, _, _, _, _, fun i => zs.getD i 0, rfl, (Walks.list (A := A.in1) hh _ a (Nat.ne_of_lt hlt) vs).toS, ⟨⟨_, Heap.get?_push_size _ rfl, rfl, rfl⟩, hL.push _⟩, fun b hb => ?_, fun i v hv => ?_, fun s' t' hm => ?_⟩
  · show b < (s.heap.push _).objs.size
    rw [Heap.size_push]
    rcases List.mem_cons.mp hb with rfl | hb
    · exact Nat.lt_succ_self _
    · rcases List.mem_cons.mp hb with rfl | hb
      · exact Nat.lt_succ_of_lt hlt
      · cases hb
  · have hv' : vs.toList[i]? = some v := by simpa using hv
    have hi : i < zs.length := by
      rcases Nat.lt_or_ge i zs.length with q | q
      · exact q
      · rw [List.getElem?_eq_none (by simp; lia)] at hv'; cases hv'
    have := hr.get i v (.int zs[i]) hv' (by simp [hi])
    show ∃ t, v = .int (zs.getD i 0) t
    rw [List.getD_eq_getElem?_getD, List.getElem?_eq_getElem hi]
    exact this.e_int (P := fun v => ∃ t, v = .int zs[i] t) fun t => ⟨t, rfl⟩
  · rw [hsz, preSum_list zs _ fun i hi => by rw [List.getD_eq_getElem?_getD, List.getElem?_eq_getElem hi]; rfl]
    have hk : ∀ b o, s.heap.get? b = some o → s'.heap.get? b = some o := fun b o e => hm.heap b o (fun q => by
      rw [List.mem_singleton] at q; exact absurd (q ▸ Heap.lt_size e) (Nat.lt_irrefl _)) (Heap.get?_push_of_some _ e)
    obtain ⟨hp, gg, dd, tk, os⟩ := s'
    have e1 := hm.gens
    have e2 := hm.drawn
    have e3 := hm.os
    subst e1 e2 e3
    exact vret (hR.keeps (h' := hp) (tk := tk) (dr := s.drawn) hk) .int m h
theorem pop_last {a : Addr} {l : List V} {x : V} (hu : Upd H a (.list (l ++ [x])) (.list l) H') (hl : l.length + 1 ≤ sizeLine) (h : Q x F H') : Cl G fr A F H (.blt "list.pop") [.ref a] Q E := cl_b1 fun K m v hv R s hR => by
  obtain rfl := hv.i_ref
  obtain ⟨o, ho, items, n, rfl, hr⟩ := hR.get hu.mem
  have e := hr.toArr
  rw [List.length_append, List.length_singleton] at e
  have hgx := hr.atA (i := l.length) (x := x) (by simp)
  obtain ⟨y, hy, hyx⟩ := hgx
  have hz : items.size ≤ sizeLine := Nat.le_trans (Nat.le_of_eq e) hl
  refine call_meets PySem.F.slot_list_pop ⟨_, ho, rfl⟩ PySem.F.entry_list_pop (PySem.F.args_list_pop_1 _) (PySem.MeetsSeq.list_pop_last a items n y (by rw [e]; exact hy) hz) ⟨ho, ?_⟩
  have g := Heap.get?_update_self (Obj.mapSeq fun xs => xs.eraseIdxIfInBounds (items.size - 1)) ho rfl
  refine ⟨K, H', .refl K, hR.upd' (tk := s.toks) (dr := s.drawn) hu (Heap.SameBut.update ..).extBut g ⟨_, _, rfl, ?_⟩ notNs_list, _, hyx, F, m, h⟩
  have e2 : (items.eraseIdxIfInBounds (items.size - 1)).toList = items.toList.take l.length := by
    unfold Array.eraseIdxIfInBounds
    rw [dif_pos (by rw [e]; exact Nat.lt_succ_self _), Array.toList_eraseIdx]
    have : items.size - 1 = l.length := by rw [e]; rfl
    rw [this, List.eraseIdx_eq_take_drop_succ, List.drop_eq_nil_of_le (by simp; lia)]
    simp
  show RVs K (items.eraseIdxIfInBounds (items.size - 1)).toList l
  rw [e2]
  have := hr.take l.length
  simpa using this
end
section
variable {G : Glob} {fr : List Env} {A : Around} {env : Env} {F : Fz} {H H' : Hp} {E : Value → Fz → Hp → Prop} {Q : V → Fz → Hp → Prop}
theorem get_stop {x : Addr} {args : List V} {tb d : Option Addr} {cx : Bool} (hx : Has H x (.exc "StopIteration" args tb d cx)) (hn : noBlt (args.headD .none)) (h : Q (args.headD .none) F H) :
    Op1 G fr A F H (fun v => getAttr v (Str.ofString "value") true) (.ref x) Q E := fun K m v hv R s hR => by
  obtain rfl := hv.i_ref
  obtain ⟨o, ho, vs, a, v5, hc, hd, hdt, _, _, _, h5, h8, _⟩ := hR.has hx
  exact stop_value ho hc hdt h5 (hn.handed (h8 rfl)) (vret (hR.toks _) (h8 rfl) m h)
end
section
variable {α : Type} {G : Glob} {fr : List Env} {A A' : Around} {env : Env} {F : Fz} {H H' : Hp} {E E' : Value → Fz → Hp → Prop} {P P' : Addr → String → List V → Bool → Fz → Hp → Prop}
theorem Cl.mono {f : V} {xs : List V} {Q Q' : V → Fz → Hp → Prop} (h : Cl G fr A F H f xs Q E) (k : ∀ x F1 H1, Q x F1 H1 → Q' x F1 H1) (e : ∀ x F1 H1, E x F1 H1 → E' x F1 H1) : Cl G fr A F H f xs Q' E' := fun K m v vs hv hvs R s hR =>
  wpAny_mono (h K m v vs hv hvs R s hR) (fun _ _ q => by obtain ⟨F1, H1, l, r, x, hx, F2, m2, q⟩ := q; exact ⟨F1, H1, l, r, x, hx, F2, m2, k _ _ _ q⟩) fun _ _ q => by obtain ⟨F1, H1, l, r, F2, m2, q⟩ := q; exact ⟨F1, H1, l, r, F2, m2, e _ _ _ q⟩
theorem Cl.up {F' : Fz} {f : V} {xs : List V} {Q : V → Fz → Hp → Prop} (h : Cl G fr A F H f xs Q E) (le : F.le F') : Cl G fr A F' H f xs Q E := fun K m => h K (le.trans m)
theorem Cl.perm {f : V} {xs : List V} {Q : V → Fz → Hp → Prop} (p : H'.Perm H) (h : Cl G fr A F H f xs Q E) : Cl G fr A F H' f xs Q E := fun K m v vs hv hvs R s hR => h K m v vs hv hvs R s (hR.perm (p.append_right R))
theorem Dn.in {P : Fz → Hp → Prop} (h : P F H) : Dn P F H := ⟨F, .refl F, h⟩
theorem Cl.dn {f : V} {xs : List V} {Q : V → Fz → Hp → Prop} (h : Cl G fr A F H f xs (fun x => Dn (Q x)) E) : Cl G fr A F H f xs Q E := fun K m v vs hv hvs R s hR =>
  wpAny_mono (h K m v vs hv hvs R s hR) (fun _ _ q => by obtain ⟨F1, H1, l, r, x, hx, F2, m2, F3, m3, q⟩ := q; exact ⟨F1, H1, l, r, x, hx, F3, m3.trans m2, q⟩) fun _ _ q => q
theorem Cl.keep {f : V} {xs : List V} {Q : V → Fz → Hp → Prop} (h : Cl G fr A F H f xs Q E) : Cl G fr A F H f xs (fun x F1 H1 => F.le F1 ∧ Dn (Q x) F1 H1) E := fun K m v vs hv hvs R s hR =>
  wpAny_mono (h K m v vs hv hvs R s hR) (fun _ _ q => by obtain ⟨F1, H1, l, r, x, hx, F2, m2, q⟩ := q; exact ⟨F1, H1, l, r, x, hx, F1, .refl _, m.trans l, F2, m2, q⟩) fun _ _ q => q
noncomputable abbrev ClD (G : Glob) (fr : List Env) (A : Around) (F : Fz) (H : Hp) (f : V) (xs : List V) (Q : V → Fz → Hp → Prop) (E : Value → Fz → Hp → Prop) : Prop := ∀ env A', Deep A A' env → Cl G (env :: fr) A' F H f xs Q E
theorem Cl.drpQ {f : V} {xs : List V} {Q : V → Fz → Hp → Prop} (h : Cl G fr A F H f xs (fun x F1 H1 => ∃ H2, Drp H1 H2 ∧ Q x F1 H2) E) : Cl G fr A F H f xs Q E := fun K m v vs hv hvs R s hR =>
  wpAny_mono (h K m v vs hv hvs R s hR) (fun _ _ q => by obtain ⟨F1, H1, l, r, x, hx, F2, m2, H2, d, q⟩ := q; exact ⟨F1, H2, l, r.drp d, x, hx, F2, m2, q⟩) fun _ _ q => q
inductive LvD (L : Addr) (P : Addr → String → List V → Bool → Fz → Hp → Prop) (x : Addr) (c : String) (a : List V) (b : Bool) (F : Fz) (H : Hp) : Prop where
  | intro (ρ : List (Str × Option V)) (H' H'' : Hp) (hr : Rem H L (.ns ρ) H') (hd : Drp H' H'') (q : P x c a b F H'')
theorem leaves_thrD {L : Addr} (hfr : A.frames = some fr) (hL : env.frame = some L) : Leaves G fr A env (Thr0 (LvD L P)) (Thr0 P) := fun fresh K R e s hq => by
  have cv : ∀ e s, PQ G fr K R (fun e => Dn (Thr0 (fun x c a b F H => ∃ H'', Drp H H'' ∧ P x c a b F H'') e)) e s → PQ G fr K R (fun e => Dn (Thr0 P e)) e s := fun e s q => by
    obtain ⟨K1, H1, l1, r1, F1, m1, x, c, a, tb, b, H2, e1, e2, H3, d, p⟩ := q
    have r2 : Rep G fr K1 (((x, .exc c a tb none b) :: tbH tb) ++ (H2 ++ R)) s := by
      have := r1.perm (e2.append_right R)
      simpa using this
    have r3 : Rep G fr K1 (H3 ++ (((x, .exc c a tb none b) :: tbH tb) ++ R)) s := by
      refine Rep.drp d (r2.perm ?_)
      rw [← List.append_assoc, ← List.append_assoc]
      exact List.perm_append_comm.append_right R
    refine ⟨K1, ((x, .exc c a tb none b) :: (tbH tb ++ H3)), l1, r3.perm ?_, F1, m1, x, c, a, tb, b, H3, e1, .refl _, p⟩
    show List.Perm _ ((((x, AO.exc c a tb none b) :: tbH tb) ++ H3) ++ R)
    rw [← List.append_assoc]
    exact List.perm_append_comm.append_right R
  have hq' : PQ G (env :: fr) K R (fun e => Dn (Thr0 (Lv L fun x c a b F H => ∃ H'', Drp H H'' ∧ P x c a b F H'') e)) e s := by
    obtain ⟨K1, H1, l1, r1, F1, m1, q⟩ := hq
    exact ⟨K1, H1, l1, r1, F1, m1, q.mono fun x c a b F H ⟨ρ, H', H'', h1, h2, h3⟩ => ⟨ρ, H', h1, H'', h2, h3⟩⟩
  exact wpAny_mono (leaves_thr (L := L) (P := fun x c a b F H => ∃ H'', Drp H H'' ∧ P x c a b F H'') hfr hL fresh K R e s hq') (fun _ s' q => cv _ _ q) fun e' s' q => cv _ _ q
end
section
variable {prog : Program} {w : World} {A : Around} {E : Value → Shared → Prop}
end
section
variable {G : Glob} {fr : List Env} {A : Around} {env : Env} {F : Fz} {H : Hp} {E : Value → Fz → Hp → Prop} {Q : V → Fz → Hp → Prop}
end
theorem sub1 {T : Str} {c k : Nat} : Builtin.Str.subAt T ⟨#[c]⟩ k = decide (T.cps[k]? = some c) := by
  unfold Builtin.Str.subAt
  have e : Str.length ⟨#[c]⟩ = 1 := rfl
  rw [e]
  rcases Nat.lt_or_ge k T.cps.size with hk | hk
  · have e2 : T.cps.extract k (k + 1) = #[T.cps[k]] := by
      apply Array.ext'
      rw [Array.toList_extract, List.extract, Nat.add_sub_cancel_left, List.drop_eq_getElem_cons (by simpa using hk)]
      simp
    rw [e2, Array.getElem?_eq_getElem hk]
    by_cases q : T.cps[k] = c
    · rw [q]; simp
    · simp [q]
  · have e2 : T.cps.extract k (k + 1) = #[] := by simp; lia
    rw [e2, Array.getElem?_eq_none hk]
    rfl
theorem occ_no {x sub : Str} {lo : Nat} (hn : ∀ i, lo ≤ i → Builtin.Str.subAt x sub i = false) : Builtin.Str.occurrences x sub lo x.length 1 = [] := by
  rw [StrLaws.occ_eq]
  have : ∀ (l : List Nat) (f : Nat), (∀ i ∈ l, lo ≤ i) → (forIn l ((#[] : Array Nat), f) (StrLaws.occBody x sub x.length 1)).run.fst = #[] := by
    intro l
    induction l with
    | nil => intro f _; rfl
    | cons a l ih =>
      intro f hl
      rw [List.forIn_cons]
      unfold StrLaws.occBody
      rw [if_neg (by rw [hn a (hl a (.head _))]; simp)]
      exact ih f fun i hi => hl i (.tail _ hi)
  rw [this _ _ fun i hi => by rw [List.mem_range'] at hi; obtain ⟨j, hj, rfl⟩ := hi; lia]
theorem least {P : Nat → Prop} [DecidablePred P] : ∀ {n : Nat}, P n → ∃ k, k ≤ n ∧ P k ∧ ∀ j, j < k → ¬ P j := by
  intro n
  induction n using Nat.strongRecOn with
  | _ n ih =>
    intro h
    by_cases q : ∃ j, j < n ∧ P j
    · obtain ⟨j, hj, hp⟩ := q
      obtain ⟨k, h1, h2, h3⟩ := ih j hj hp
      exact ⟨k, by lia, h2, h3⟩
    · exact ⟨n, Nat.le_refl _, h, fun j hj hp => q ⟨j, hj, hp⟩⟩
theorem in_1 {x : Str} {c : Nat} : (!(Builtin.Str.occurrences x ⟨#[c]⟩ 0 x.length 1).isEmpty) = decide (c ∈ x.cps.toList) := by
  by_cases h : c ∈ x.cps.toList
  · obtain ⟨n, hn⟩ := List.mem_iff_getElem?.mp h
    rw [Array.getElem?_toList] at hn
    obtain ⟨k, hk, h1, h2⟩ := least (P := fun k => x.cps[k]? = some c) hn
    have hlt := (Array.getElem?_eq_some_iff.mp h1).1
    rw [occ_at (k := k) (Nat.zero_le _) ⟨by show k + 1 ≤ x.cps.size; lia, by rw [sub1, decide_eq_true h1]⟩ fun i _ h5 => by rw [sub1, decide_eq_false (h2 i h5)]]
    rw [decide_eq_true h]; rfl
  · rw [occ_no fun i _ => by rw [sub1, decide_eq_false]; exact fun e => h (by rw [← Array.getElem?_toList] at e; exact List.mem_of_getElem? e), decide_eq_false h]; rfl
noncomputable def word (T : Str) (i : Nat) (w : Str) : Bool := (Txt.slice T (some i) (some (i + (w.length : Int)))).cps.toList == w.cps.toList
noncomputable def chr (c : Nat) (w : Str) : Bool := (⟨#[c]⟩ : Str).cps.toList == w.cps.toList
theorem len_le {x y : Nat} {T : Str} : (⟨T.cps.extract x y⟩ : Str).length ≤ T.cps.size := by
  show (T.cps.extract x y).size ≤ _
  rw [Array.size_extract]; exact Nat.le_trans (Nat.sub_le _ _) (Nat.min_le_right _ _)
theorem ext_app {T : Str} {i j k : Nat} (h1 : i ≤ j) (h2 : j ≤ k) : (⟨T.cps.extract i j⟩ : Str) ++ (⟨T.cps.extract j k⟩ : Str) = ⟨T.cps.extract i k⟩ := by
  show (⟨T.cps.extract i j ++ T.cps.extract j k⟩ : Str) = _
  rw [Array.extract_append_extract]
  congr 2 <;> lia
structure Nothing (T : Str) (i c : Nat) : Prop where
  str : chr c "\"" = false
  obj : chr c "{" = false
  arr : chr c "[" = false
  null : (chr c "n" && word T i "null") = false
  tru : (chr c "t" && word T i "true") = false
  fls : (chr c "f" && word T i "false") = false
  num : intAt T.cps T.cps.size (signAt T.cps T.cps.size i) = none
  nan : (chr c "N" && word T i "NaN") = false
  inf : (chr c "I" && word T i "Infinity") = false
  ninf : (chr c "-" && word T i "-Infinity") = false
theorem slice_ext {T : Str} {i j : Nat} (h : i ≤ j) (hj : j ≤ T.cps.size) : Txt.slice T (some (i : Int)) (some (j : Int)) = ⟨T.cps.extract i j⟩ := by
  have e := slice_closes (x := T) (i := i) (j := j) ⟨by lia, by lia, by simp; lia⟩
  rw [beq_iff_eq] at e
  rw [e]
  congr 1
  apply Array.ext'
  rw [Array.toList_extract, List.extract]
  have : ((j : Int) - (i : Int)).toNat = j - i := Int.toNat_sub _ _
  rw [this, Int.toNat_natCast]
noncomputable def digL : List Nat → Nat
  | [] => 0
  | c :: r => if dig c then 1 + digL r else 0
noncomputable def sgnL : List Nat → Nat
  | [] => 0
  | c :: _ => if c = 45 then 1 else 0
noncomputable def intL : List Nat → Option Nat
  | [] => none
  | c :: r => if c = 48 then some 1 else if 49 ≤ c ∧ c ≤ 57 then some (1 + digL r) else none
noncomputable def fracL : List Nat → Nat
  | [] => 0
  | c :: r => if c = 46 then (if digL r = 0 then 0 else 1 + digL r) else 0
noncomputable def esgnL : List Nat → Nat
  | [] => 0
  | c :: _ => if c = 45 ∨ c = 43 then 1 else 0
noncomputable def expL : List Nat → Nat
  | [] => 0
  | c :: r => if c = 101 ∨ c = 69 then (if digL (r.drop (esgnL r)) = 0 then 0 else 1 + esgnL r + digL (r.drop (esgnL r))) else 0
noncomputable def numL (l : List Nat) : Option (Nat × Nat × Nat) := match intL (l.drop (sgnL l)) with
  | none => none
  | some k => some (sgnL l + k, fracL (l.drop (sgnL l + k)), expL (l.drop (sgnL l + k + fracL (l.drop (sgnL l + k)))))
section
variable {T : Array Nat}
theorem drop_cases (p : Nat) : (T.toList.drop p = [] ∧ T.size ≤ p) ∨ ∃ c, T.toList.drop p = c :: T.toList.drop (p + 1) ∧ p < T.size ∧ T.getD p 0 = c := by
  rcases Nat.lt_or_ge p T.size with h | h
  · refine .inr ⟨T[p], ?_, h, ?_⟩
    · rw [List.drop_eq_getElem_cons (by simpa using h)]; simp
    · simp [Array.getD, h]
  · exact .inl ⟨List.drop_eq_nil_of_le (by simpa using h), h⟩
theorem many_dig : ∀ (n p : Nat), n = T.size - p → many dig T n p = digL (T.toList.drop p)
  | 0, p, h => by
    rcases drop_cases (T := T) p with ⟨e, _⟩ | ⟨c, e, hp, _⟩
    · rw [e]; rfl
    · exact absurd h (Nat.ne_of_lt (Nat.sub_pos_of_lt hp))
  | n + 1, p, h => by
    rcases drop_cases (T := T) p with ⟨e, hz⟩ | ⟨c, e, hp, hc⟩
    · exact absurd (h.trans (Nat.sub_eq_zero_of_le hz)) (Nat.succ_ne_zero _)
    · have m : many dig T (n + 1) p = if dig (T.getD p 0) then 1 + many dig T n (p + 1) else 0 := rfl
      rw [m, e, hc, many_dig n (p + 1) (by rw [Nat.sub_succ, ← h]; rfl)]
      rfl
theorem digs_L (p : Nat) : digs T T.size p = digL (T.toList.drop p) := many_dig _ p rfl
theorem sign_L (p : Nat) : signAt T T.size p = p + sgnL (T.toList.drop p) := by
  unfold signAt
  rcases drop_cases (T := T) p with ⟨e, hz⟩ | ⟨c, e, hp, hc⟩
  · rw [e, if_neg (nlt hz)]; rfl
  · rw [e, hc]
    simp only [sgnL]
    by_cases h : c = 45
    · rw [if_pos ⟨hp, h⟩, if_pos h]
    · rw [if_neg (fun q => h q.2), if_neg h]; rfl
theorem int_L (p : Nat) : intAt T T.size p = (intL (T.toList.drop p)).map (p + ·) := by
  unfold intAt
  rcases drop_cases (T := T) p with ⟨e, hz⟩ | ⟨c, e, hp, hc⟩
  · rw [e, if_neg (nlt hz), if_neg (nlt hz)]; rfl
  · rw [e, hc, digs_L]
    simp only [intL]
    by_cases h : c = 48
    · rw [if_pos ⟨hp, h⟩, if_pos h]; rfl
    · rw [if_neg (fun q => h q.2), if_neg h]
      by_cases h2 : 49 ≤ c ∧ c ≤ 57
      · rw [if_pos ⟨hp, h2⟩, if_pos h2]; exact congrArg some (Nat.add_assoc p 1 _)
      · rw [if_neg (fun q => h2 q.2), if_neg h2]; rfl
theorem frac_L (p : Nat) : fracAt T T.size p = if fracL (T.toList.drop p) = 0 then none else some (p + fracL (T.toList.drop p)) := by
  unfold fracAt
  rcases drop_cases (T := T) p with ⟨e, hz⟩ | ⟨c, e, hp, hc⟩
  · rw [e, if_neg (nlt hz)]; rfl
  · rw [e, hc, digs_L]
    have d : fracL (c :: List.drop (p + 1) T.toList) = if c = 46 then (if digL (List.drop (p + 1) T.toList) = 0 then 0 else 1 + digL (List.drop (p + 1) T.toList)) else 0 := rfl
    by_cases h : c = 46
    · rw [if_pos h] at d
      by_cases h2 : digL (T.toList.drop (p + 1)) = 0
      · rw [if_pos h2] at d
        rw [d, if_neg (fun q => absurd q.2.2 (by rw [h2]; decide))]; rfl
      · rw [if_neg h2] at d
        rw [d, if_pos ⟨hp, h, Nat.pos_of_ne_zero h2⟩, if_neg (fun q => absurd (Nat.add_eq_zero_iff.mp q).1 (by decide))]
        exact congrArg some (Nat.add_assoc ..)
    · rw [if_neg h] at d
      rw [d, if_neg (fun q => h q.2.1)]; rfl
theorem esgn_L (p : Nat) : expSign T T.size p = p + esgnL (T.toList.drop p) := by
  unfold expSign
  rcases drop_cases (T := T) p with ⟨e, hz⟩ | ⟨c, e, hp, hc⟩
  · rw [e, if_neg (nlt hz)]; rfl
  · rw [e, hc]
    simp only [esgnL]
    by_cases h : c = 45 ∨ c = 43
    · rw [if_pos ⟨hp, h⟩, if_pos h]
    · rw [if_neg (fun q => h q.2), if_neg h]; rfl
theorem exp_L (p : Nat) : expAt T T.size p = if expL (T.toList.drop p) = 0 then none else some (p + expL (T.toList.drop p)) := by
  unfold expAt
  rcases drop_cases (T := T) p with ⟨e, hz⟩ | ⟨c, e, hp, hc⟩
  · rw [e, if_neg (nlt hz)]; rfl
  · rw [e, hc, esgn_L, digs_L]
    have d : expL (c :: List.drop (p + 1) T.toList) = if c = 101 ∨ c = 69 then (if digL ((List.drop (p + 1) T.toList).drop (esgnL (List.drop (p + 1) T.toList))) = 0 then 0 else 1 + esgnL (List.drop (p + 1) T.toList) + digL ((List.drop (p + 1) T.toList).drop (esgnL (List.drop (p + 1) T.toList)))) else 0 := rfl
    rw [List.drop_drop] at d
    by_cases h : c = 101 ∨ c = 69
    · rw [if_pos h] at d
      by_cases h2 : digL (T.toList.drop (p + 1 + esgnL (T.toList.drop (p + 1)))) = 0
      · rw [if_pos h2] at d
        rw [d, if_neg (fun q => absurd q.2.2 (by rw [h2]; decide))]; rfl
      · rw [if_neg h2] at d
        rw [d, if_pos ⟨hp, h, Nat.pos_of_ne_zero h2⟩, if_neg (fun q => absurd (Nat.add_eq_zero_iff.mp (Nat.add_eq_zero_iff.mp q).1).1 (by decide))]
        rw [Nat.add_assoc p 1, Nat.add_assoc p]
    · rw [if_neg h] at d
      rw [d, if_neg (fun q => h q.2.1)]; rfl
end
inductive Lx where
  | str | obj | arr
  | null | tru | fls
  | whole (n : Nat) | broken (n : Nat)
  | con (w : Str)
  | stop
noncomputable def preL (w : Str) (l : List Nat) : Bool := w.cps.toList.isPrefixOf l
noncomputable def lexL : List Nat → Lx
  | [] => .stop
  | c :: r =>
    if c = 34 then .str else if c = 123 then .obj else if c = 91 then .arr
    else if preL "null" (c :: r) then .null else if preL "true" (c :: r) then .tru else if preL "false" (c :: r) then .fls
    else match numL (c :: r) with
      | some (n1, n2, n3) => if n2 = 0 ∧ n3 = 0 then .whole n1 else .broken (n1 + n2 + n3)
      | none => if preL "NaN" (c :: r) then .con "NaN" else if preL "Infinity" (c :: r) then .con "Infinity" else if preL "-Infinity" (c :: r) then .con "-Infinity" else .stop
theorem chr_eq {c a : Nat} {w : Str} (hw : w.cps.toList = [a]) : chr c w = decide (c = a) := by
  unfold chr; rw [hw]
  by_cases h : c = a
  · subst h; simp
  · simp [h]
theorem slice_nat {T : Str} {i n : Nat} (hi : i ≤ T.cps.size) : (Txt.slice T (some (i : Int)) (some ((i : Int) + (n : Int)))).cps.toList = (T.cps.toList.drop i).take n := by
  rcases Nat.le_total (i + n) T.cps.size with h | h
  · have := slice_ext (T := T) (i := i) (j := i + n) (by lia) h
    rw [show ((i + n : Nat) : Int) = (i : Int) + (n : Int) by lia] at this
    rw [this]
    show (T.cps.extract i (i + n)).toList = _
    rw [Array.toList_extract, List.extract, Nat.add_sub_cancel_left]
  · have hcl : Txt.slice T (some (i : Int)) (some ((i : Int) + (n : Int))) = Txt.slice T (some (i : Int)) (some ((T.cps.size : Nat) : Int)) := by
      have hs : T.length = T.cps.size := rfl
      unfold Txt.slice
      have : ∀ x : Int, (T.cps.size : Int) ≤ x → Builtin.Str.strSliceIndices (some (i : Int)) (some x) 1 T.length = Builtin.Str.strSliceIndices (some (i : Int)) (some ((T.cps.size : Nat) : Int)) 1 T.length := fun x hx => by
        unfold Builtin.Str.strSliceIndices
        rw [hs]
        have e1 : min x (T.cps.size : Int) = min ((T.cps.size : Nat) : Int) (T.cps.size : Int) := by lia
        simp only [show (1 : Int) > 0 by decide, if_true]
        congr 1
        all_goals first | rfl | (try simp only [e1]) | skip
        all_goals (repeat' split) <;> lia
      rw [this _ (by lia)]
    rw [hcl, slice_ext hi (Nat.le_refl _)]
    show (T.cps.extract i T.cps.size).toList = _
    rw [Array.toList_extract, List.extract]
    rw [List.take_of_length_le (by simp), List.take_of_length_le (by simp; lia)]
theorem word_pre {T : Str} {i : Nat} {w : Str} (hi : i ≤ T.cps.size) : word T i w = preL w (T.cps.toList.drop i) := by
  unfold word preL
  have := slice_nat (T := T) (i := i) (n := w.length) hi
  rw [this]
  have hl : w.length = w.cps.toList.length := by simp [Str.length]
  rw [hl]
  generalize w.cps.toList = l
  generalize T.cps.toList.drop i = m
  induction l generalizing m with
  | nil => rfl
  | cons a l ih =>
    cases m with
    | nil => rfl
    | cons b m =>
      simp only [List.length_cons, List.take_succ_cons, List.isPrefixOf_cons_cons]
      rw [← ih m]
      have : ((b :: List.take l.length m) == (a :: l)) = ((b == a) && (List.take l.length m == l)) := rfl
      rw [this]
      congr 1
      by_cases h : a = b
      · subst h; simp
      · have h' : b ≠ a := fun q => h q.symm
        rw [beq_eq_false_iff_ne.mpr h, beq_eq_false_iff_ne.mpr h']
theorem pre_first {w : Str} {a : Nat} {l' : List Nat} (hw : w.cps.toList = a :: l') {c : Nat} {r : List Nat} (h : preL w (c :: r) = true) : c = a := by
  unfold preL at h
  rw [hw, List.isPrefixOf_cons_cons, Bool.and_eq_true] at h
  exact (beq_iff_eq.mp h.1).symm
theorem cw {T : Str} {i c : Nat} {r : List Nat} {w v : Str} {a : Nat} {l' : List Nat} (hi : i ≤ T.cps.size) (hl : T.cps.toList.drop i = c :: r) (hv : v.cps.toList = [a]) (hw : w.cps.toList = a :: l') : (chr c v && word T i w) = preL w (c :: r) := by
  rw [word_pre hi, hl, chr_eq hv]
  cases h : preL w (c :: r) with
  | false => simp
  | true => have := pre_first hw h; simp [this]
section
variable {T : Str} {i c : Nat}
theorem lex_at (hc : T.cps[i]? = some c) : i ≤ T.cps.size ∧ T.cps.toList.drop i = c :: T.cps.toList.drop (i + 1) := by
  rcases drop_cases (T := T.cps) i with ⟨e, hi⟩ | ⟨c', e, hi, hc'⟩
  · rw [Array.getElem?_eq_none hi] at hc; cases hc
  · have : T.cps.getD i 0 = c := by simp [Array.getD_eq_getD_getElem?, hc]
    rw [hc'] at this
    subst this
    exact ⟨Nat.le_of_lt hi, e⟩
theorem lex_str (hc : T.cps[i]? = some c) (h : chr c "\"" = true) : lexL (T.cps.toList.drop i) = .str := by
  rw [chr_eq rfl, decide_eq_true_eq] at h
  rw [(lex_at hc).2]; simp [lexL, h]
theorem lex_obj (hc : T.cps[i]? = some c) (h : chr c "{" = true) : lexL (T.cps.toList.drop i) = .obj := by
  rw [chr_eq rfl, decide_eq_true_eq] at h
  rw [(lex_at hc).2]; simp [lexL, h]
theorem lex_arr (hc : T.cps[i]? = some c) (h : chr c "[" = true) : lexL (T.cps.toList.drop i) = .arr := by
  rw [chr_eq rfl, decide_eq_true_eq] at h
  rw [(lex_at hc).2]; simp [lexL, h]
theorem no_pre {w : Str} {a : Nat} {l' r : List Nat} (hw : w.cps.toList = a :: l') (hne : c ≠ a) : preL w (c :: r) = false := by
  cases q : preL w (c :: r) with
  | false => rfl
  | true => exact absurd (pre_first hw q) hne
theorem lex_null (hc : T.cps[i]? = some c) (h : (chr c "n" && word T i "null") = true) : lexL (T.cps.toList.drop i) = .null := by
  obtain ⟨hi, e⟩ := lex_at hc
  rw [cw hi e rfl rfl] at h
  have hcc := pre_first (w := "null") (a := 110) rfl h
  subst hcc
  rw [e]; simp [lexL, h]
theorem lex_tru (hc : T.cps[i]? = some c) (h : (chr c "t" && word T i "true") = true) : lexL (T.cps.toList.drop i) = .tru := by
  obtain ⟨hi, e⟩ := lex_at hc
  rw [cw hi e rfl rfl] at h
  have hcc := pre_first (w := "true") (a := 116) rfl h
  subst hcc
  rw [e]; simp [lexL, h, no_pre (w := "null") (a := 110) (c := 116) rfl (by decide)]
theorem lex_fls (hc : T.cps[i]? = some c) (h : (chr c "f" && word T i "false") = true) : lexL (T.cps.toList.drop i) = .fls := by
  obtain ⟨hi, e⟩ := lex_at hc
  rw [cw hi e rfl rfl] at h
  have hcc := pre_first (w := "false") (a := 102) rfl h
  subst hcc
  rw [e]; simp [lexL, h, no_pre (w := "null") (a := 110) (c := 102) rfl (by decide), no_pre (w := "true") (a := 116) (c := 102) rfl (by decide)]
theorem lex_rest (hc : c ≠ 34) (h2 : c ≠ 123) (h3 : c ≠ 91) (h4 : c ≠ 110) (h5 : c ≠ 116) (h6 : c ≠ 102) (r : List Nat) : lexL (c :: r) = match numL (c :: r) with
      | some (n1, n2, n3) => if n2 = 0 ∧ n3 = 0 then .whole n1 else .broken (n1 + n2 + n3)
      | none => if preL "NaN" (c :: r) then .con "NaN" else if preL "Infinity" (c :: r) then .con "Infinity" else if preL "-Infinity" (c :: r) then .con "-Infinity" else .stop := by
  have hlx : lexL (c :: r) = if c = 34 then .str else if c = 123 then .obj else if c = 91 then .arr
    else if preL "null" (c :: r) then .null else if preL "true" (c :: r) then .tru else if preL "false" (c :: r) then .fls
    else match numL (c :: r) with
      | some (n1, n2, n3) => if n2 = 0 ∧ n3 = 0 then .whole n1 else .broken (n1 + n2 + n3)
      | none => if preL "NaN" (c :: r) then .con "NaN" else if preL "Infinity" (c :: r) then .con "Infinity" else if preL "-Infinity" (c :: r) then .con "-Infinity" else .stop := rfl
  rw [hlx, if_neg hc, if_neg h2, if_neg h3, if_neg (by rw [no_pre (w := "null") (a := 110) rfl h4]; simp), if_neg (by rw [no_pre (w := "true") (a := 116) rfl h5]; simp), if_neg (by rw [no_pre (w := "false") (a := 102) rfl h6]; simp)]
theorem num_not (h : c = 45 ∨ (48 ≤ c ∧ c ≤ 57)) : c ≠ 34 ∧ c ≠ 123 ∧ c ≠ 91 ∧ c ≠ 110 ∧ c ≠ 116 ∧ c ≠ 102 :=
  h.elim (fun e => by rw [e]; decide) fun q => ⟨Nat.ne_of_gt (Nat.lt_of_lt_of_le (by decide) q.1), Nat.ne_of_lt (Nat.lt_of_le_of_lt q.2 (by decide)), Nat.ne_of_lt (Nat.lt_of_le_of_lt q.2 (by decide)), Nat.ne_of_lt (Nat.lt_of_le_of_lt q.2 (by decide)), Nat.ne_of_lt (Nat.lt_of_le_of_lt q.2 (by decide)), Nat.ne_of_lt (Nat.lt_of_le_of_lt q.2 (by decide))⟩
theorem num_first (hc : T.cps[i]? = some c) {q : Nat} (hq : intAt T.cps T.cps.size (signAt T.cps T.cps.size i) = some q) : c = 45 ∨ (48 ≤ c ∧ c ≤ 57) := by
  obtain ⟨_, e⟩ := lex_at hc
  rw [sign_L, int_L, e] at hq
  unfold sgnL at hq
  by_cases hm : c = 45
  · exact .inl hm
  · simp only [if_neg hm, Nat.add_zero] at hq
    rw [e] at hq
    simp only [intL] at hq
    split at hq
    · rename_i q; exact .inr (by rw [q]; decide)
    · split at hq
      · rename_i q; exact .inr ⟨Nat.le_of_succ_le q.1, q.2⟩
      · cases hq
theorem num_none (hc : T.cps[i]? = some c) (hn : intAt T.cps T.cps.size (signAt T.cps T.cps.size i) = none) : numL (c :: T.cps.toList.drop (i + 1)) = none := by
  obtain ⟨_, e⟩ := lex_at hc
  rw [sign_L, int_L, Option.map_eq_none_iff, ← List.drop_drop, e] at hn
  unfold numL
  rw [hn]
theorem lex_num (hc : T.cps[i]? = some c) {q : Nat} (hq : intAt T.cps T.cps.size (signAt T.cps T.cps.size i) = some q) :
    ∃ n, expEnd T.cps T.cps.size (fracEnd T.cps T.cps.size q) = i + n ∧ lexL (T.cps.toList.drop i) = (if (fracAt T.cps T.cps.size q).isSome || (expAt T.cps T.cps.size (fracEnd T.cps T.cps.size q)).isSome then .broken n else .whole n) := by
  have hf := num_first hc hq
  obtain ⟨_, e⟩ := lex_at hc
  obtain ⟨z1, z2, z3, z4, z5, z6⟩ := num_not hf
  rw [e, lex_rest z1 z2 z3 z4 z5 z6]
  rw [sign_L, int_L, ← List.drop_drop, e] at hq
  cases hk : intL ((c :: T.cps.toList.drop (i + 1)).drop (sgnL (c :: T.cps.toList.drop (i + 1)))) with
  | none => rw [hk] at hq; cases hq
  | some k =>
    rw [hk] at hq
    generalize hn1 : sgnL (c :: T.cps.toList.drop (i + 1)) + k = n1
    have hqn : q = i + n1 := by have h9 : i + sgnL (c :: T.cps.toList.drop (i + 1)) + k = q := Option.some.inj hq; exact h9.symm.trans ((Nat.add_assoc ..).trans (congrArg (i + ·) hn1))
    subst hqn
    have hn : numL (c :: T.cps.toList.drop (i + 1)) = some (n1, fracL (T.cps.toList.drop (i + n1)), expL (T.cps.toList.drop (i + n1 + fracL (T.cps.toList.drop (i + n1))))) := by
      unfold numL
      rw [hk]
      simp only [← e, List.drop_drop]
      simp only [e, hn1, Nat.add_assoc]
    rw [hn]
    generalize hn2 : fracL (T.cps.toList.drop (i + n1)) = n2
    generalize hn3 : expL (T.cps.toList.drop (i + n1 + n2)) = n3
    have hfe : fracEnd T.cps T.cps.size (i + n1) = i + n1 + n2 := by
      show (fracAt T.cps T.cps.size (i + n1)).getD (i + n1) = _
      rw [frac_L, hn2]
      by_cases q : n2 = 0
      · rw [if_pos q, q]; rfl
      · rw [if_neg q]; rfl
    have hee : expEnd T.cps T.cps.size (i + n1 + n2) = i + n1 + n2 + n3 := by
      show (expAt T.cps T.cps.size (i + n1 + n2)).getD (i + n1 + n2) = _
      rw [exp_L, hn3]
      by_cases q : n3 = 0
      · rw [if_pos q, q]; rfl
      · rw [if_neg q]; rfl
    refine ⟨n1 + n2 + n3, by rw [hfe, hee]; exact (congrArg (· + n3) (Nat.add_assoc i n1 n2)).trans (Nat.add_assoc i (n1 + n2) n3), ?_⟩
    rw [hfe, frac_L, exp_L, hn2, hn3]
    by_cases z2 : n2 = 0 <;> by_cases z3 : n3 = 0 <;> simp [z2, z3]
theorem lex_con {w v : Str} {a : Nat} {l' : List Nat} (hw : w.cps.toList = a :: l') (hv : v.cps.toList = [a]) (hc : T.cps[i]? = some c) (hn : intAt T.cps T.cps.size (signAt T.cps T.cps.size i) = none) (h : (chr c v && word T i w) = true)
    (hk : w = "NaN" ∧ a = 78 ∨ w = "Infinity" ∧ a = 73 ∨ w = "-Infinity" ∧ a = 45) : lexL (T.cps.toList.drop i) = .con w := by
  obtain ⟨hi, e⟩ := lex_at hc
  rw [cw hi e hv hw] at h
  have hcc := pre_first hw h
  subst hcc
  have hno := num_none hc hn
  have z : c ≠ 34 ∧ c ≠ 123 ∧ c ≠ 91 ∧ c ≠ 110 ∧ c ≠ 116 ∧ c ≠ 102 := by rcases hk with ⟨-, q⟩ | ⟨-, q⟩ | ⟨-, q⟩ <;> rw [q] <;> decide
  rw [e, lex_rest z.1 z.2.1 z.2.2.1 z.2.2.2.1 z.2.2.2.2.1 z.2.2.2.2.2, hno]
  rcases hk with ⟨rfl, rfl⟩ | ⟨rfl, rfl⟩ | ⟨rfl, rfl⟩
  · simp [h]
  · simp [h, no_pre (w := "NaN") (a := 78) (c := 73) rfl (by decide)]
  · simp [h, no_pre (w := "NaN") (a := 78) (c := 45) rfl (by decide), no_pre (w := "Infinity") (a := 73) (c := 45) rfl (by decide)]
theorem lex_stop (hc : T.cps[i]? = some c) (hN : Nothing T i c) : lexL (T.cps.toList.drop i) = .stop := by
  obtain ⟨hi, e⟩ := lex_at hc
  have hno := num_none hc hN.num
  have d : ∀ {w : Str} {a : Nat}, w.cps.toList = [a] → chr c w = false → c ≠ a := fun hw q => by rw [chr_eq hw] at q; exact of_decide_eq_false q
  have w1 : (chr c "n" && word T i "null") = preL "null" (c :: T.cps.toList.drop (i + 1)) := cw hi e rfl rfl
  have w2 : (chr c "t" && word T i "true") = preL "true" (c :: T.cps.toList.drop (i + 1)) := cw hi e rfl rfl
  have w3 : (chr c "f" && word T i "false") = preL "false" (c :: T.cps.toList.drop (i + 1)) := cw hi e rfl rfl
  have w4 : (chr c "N" && word T i "NaN") = preL "NaN" (c :: T.cps.toList.drop (i + 1)) := cw hi e rfl rfl
  have w5 : (chr c "I" && word T i "Infinity") = preL "Infinity" (c :: T.cps.toList.drop (i + 1)) := cw hi e rfl rfl
  have w6 : (chr c "-" && word T i "-Infinity") = preL "-Infinity" (c :: T.cps.toList.drop (i + 1)) := cw hi e rfl rfl
  have hlx : lexL (c :: T.cps.toList.drop (i + 1)) = if c = 34 then .str else if c = 123 then .obj else if c = 91 then .arr
    else if preL "null" (c :: T.cps.toList.drop (i + 1)) then .null else if preL "true" (c :: T.cps.toList.drop (i + 1)) then .tru else if preL "false" (c :: T.cps.toList.drop (i + 1)) then .fls
    else match numL (c :: T.cps.toList.drop (i + 1)) with
      | some (n1, n2, n3) => if n2 = 0 ∧ n3 = 0 then .whole n1 else .broken (n1 + n2 + n3)
      | none => if preL "NaN" (c :: T.cps.toList.drop (i + 1)) then .con "NaN" else if preL "Infinity" (c :: T.cps.toList.drop (i + 1)) then .con "Infinity" else if preL "-Infinity" (c :: T.cps.toList.drop (i + 1)) then .con "-Infinity" else .stop := rfl
  rw [e, hlx, if_neg (d (a := 34) rfl hN.str), if_neg (d (a := 123) rfl hN.obj), if_neg (d (a := 91) rfl hN.arr), if_neg (by rw [← w1, hN.null]; simp), if_neg (by rw [← w2, hN.tru]; simp), if_neg (by rw [← w3, hN.fls]; simp), hno]
  simp only [← w4, ← w5, ← w6, hN.nan, hN.inf, hN.ninf, Bool.false_eq_true, if_false]
end
noncomputable abbrev Rho := List (Str × Option V)
noncomputable abbrev QV := V → Rho → Fz → Hp → Prop
noncomputable abbrev QB := Bool → Rho → Fz → Hp → Prop
noncomputable abbrev QL := List V → Rho → Fz → Hp → Prop
noncomputable abbrev QF := FV → Rho → Fz → Hp → Prop
noncomputable abbrev QU := Rho → Fz → Hp → Prop
noncomputable abbrev QP := List (V × V) → Rho → Fz → Hp → Prop
inductive GlIs (G : Glob) (F : Fz) (x : Str) (y : V) : Prop where
  | g (v : Value) (h : G.mg x = some v) (r : RV F v y)
  | b (v : Value) (h0 : G.mg x = none) (h : G.mb x = some v) (r : RV F v y)
inductive FrIs (env : Env) (F : Fz) (x : Str) (y : V) : Prop where
  | mk (c : Addr) (h : env.cells.lookup x = some c) (hm : CellF F c y)
theorem GlIs.mono {G : Glob} {F F' : Fz} {x : Str} {y : V} (le : F.le F') (h : GlIs G F x y) : GlIs G F' x y := by
  cases h with
  | g v h r => exact .g v h (r.mono le)
  | b v h0 h r => exact .b v h0 h (r.mono le)
theorem FrIs.mono {env : Env} {F F' : Fz} {x : Str} {y : V} (le : F.le F') (h : FrIs env F x y) : FrIs env F' x y := by
  obtain ⟨c, h, hm⟩ := h
  exact ⟨c, h, hm.mono le⟩
noncomputable def lkp {α : Type} : List (Str × α) → Str → Option α
  | [], _ => none
  | p :: r, x => if p.1 = x then some p.2 else lkp r x
theorem lkp_mem {α : Type} {x : Str} {y : α} : ∀ {l : List (Str × α)}, lkp l x = some y → (x, y) ∈ l
  | p :: r, h => by
    by_cases e : p.1 = x
    · have h : (if p.1 = x then some p.2 else lkp r x) = some y := h
      rw [if_pos e] at h
      cases h; subst e; exact .head _
    · have h : (if p.1 = x then some p.2 else lkp r x) = some y := h
      rw [if_neg e] at h
      exact .tail _ (lkp_mem h)
structure Cx where
  G : Glob
  fr : List Env
  A : Around
  env : Env
  gl : List (Str × V)
  fl : List (Str × V)
  E : Value → Fz → Hp → Prop
  hd0 : Bool
structure CxOk (C : Cx) (F : Fz) : Prop where
  kind : C.env.scope.kind = .function
  glob : C.env.globals = mainGlobals
  blt : C.env.builtins = builtinsNs
  dbg : (C.env.scope.names.all fun p => !(p.1 == ("__debug__" : Str)) && !(p.1 == ("__classdict__" : Str))) = true
  nt : Noted C.G C.fr C.A C.env C.E
  hd : C.hd0 = true → C.A.handled = none
  gls : ∀ p ∈ C.gl, GlIs C.G F p.1 p.2
  fls : ∀ p ∈ C.fl, FrIs C.env F p.1 p.2
theorem CxOk.mono {C : Cx} {F F' : Fz} (le : F.le F') (h : CxOk C F) : CxOk C F' :=
  ⟨h.kind, h.glob, h.blt, h.dbg, h.nt, h.hd, fun p hp => (h.gls p hp).mono le, fun p hp => (h.fls p hp).mono le⟩
theorem lookup_mem' {β : Type} {x : Str} {k : β} : ∀ {l : List (Str × β)}, l.lookup x = some k → (x, k) ∈ l
  | (n, v) :: l, h => by
    by_cases e : x = n
    · subst e
      have h : (match x == x with | true => some v | false => l.lookup x) = some k := h
      rw [beq_self_eq_true] at h
      cases h; exact .head _
    · have h : (match x == n with | true => some v | false => l.lookup x) = some k := h
      rw [beq_eq_false_iff_ne.mpr e] at h
      exact .tail _ (lookup_mem' h)
theorem CxOk.nodbg {C : Cx} {F : Fz} (h : CxOk C F) {x : Str} {k : NameKind} (hk : C.env.kindOf x = some k) : (x == ("__debug__" : Str)) = false ∧ (x == ("__classdict__" : Str)) = false := by
  have := List.all_eq_true.mp h.dbg _ (lookup_mem' (l := C.env.scope.names) hk)
  simpa using this
noncomputable def fm (C : Cx) (ρ : Rho) (H : Hp) : Hp := (C.env.locals, .ns ρ) :: H
inductive Nx {α : Type} (C : Cx) (ρ : Rho) (Q : α → Rho → Fz → Hp → Prop) (x : α) (F : Fz) (H : Hp) : Prop where
  | mk (ok : CxOk C F) (q : Q x ρ F H)
inductive Un {α : Type} (C : Cx) (Q : α → Rho → Fz → Hp → Prop) (x : α) (F : Fz) (H : Hp) : Prop where
  | mk (ρ : Rho) (H' : Hp) (e : H = fm C ρ H') (ok : CxOk C F) (q : Q x ρ F H')
noncomputable def kE (C : Cx) (ρ : Rho) : Value → Fz → Hp → Prop := fun e F H => C.E e F (fm C ρ H)
section
variable {C : Cx} {ρ : Rho} {F K : Fz} {H : Hp}
theorem liftT {α : Type} {t : Sem α} {Q : α → Rho → Fz → Hp → Prop} (h : TpAt C.G C.fr C.A K H t (fun v => Dn (Nx C ρ Q v)) (kE C ρ)) : TpAt C.G C.fr C.A K (fm C ρ H) t (fun v => Dn (Un C Q v)) C.E := fun R s hR => by
  refine wpAny_mono (h _ s (hR.perm List.perm_middle.symm)) (fun v s1 hq => ?_) fun e s1 hq => ?_
  · obtain ⟨F', H', le, rep, F1, m1, ok, q⟩ := hq
    exact ⟨F', fm C ρ H', le, rep.perm List.perm_middle, F1, m1, ρ, H', rfl, ok, q⟩
  · obtain ⟨F', H', le, rep, F1, m1, q⟩ := hq
    exact ⟨F', fm C ρ H', le, rep.perm List.perm_middle, F1, m1, q⟩
theorem liftU {α : Type} {t : Sem α} {Q : FV → Rho → Fz → Hp → Prop} (h : TpAt C.G C.fr C.A K H t (fun _ => Dn (Nx C ρ Q .next)) (kE C ρ)) : TpAt C.G C.fr C.A K (fm C ρ H) t (fun _ => Dn (Un C Q .next)) C.E := fun R s hR => by
  refine wpAny_mono (h _ s (hR.perm List.perm_middle.symm)) (fun v s1 hq => ?_) fun e s1 hq => ?_
  · obtain ⟨F', H', le, rep, F1, m1, ok, q⟩ := hq
    exact ⟨F', fm C ρ H', le, rep.perm List.perm_middle, F1, m1, ρ, H', rfl, ok, q⟩
  · obtain ⟨F', H', le, rep, F1, m1, q⟩ := hq
    exact ⟨F', fm C ρ H', le, rep.perm List.perm_middle, F1, m1, q⟩
theorem liftV {t : Sem Value} {Q : QV} (h : EvAt C.G C.fr C.A K H t (Nx C ρ Q) (kE C ρ)) : EvAt C.G C.fr C.A K (fm C ρ H) t (Un C Q) C.E := fun R s hR => by
  refine wpAny_mono (h _ s (hR.perm List.perm_middle.symm)) (fun v s1 hq => ?_) fun e s1 hq => ?_
  · obtain ⟨F', H', le, rep, x, hx, F1, m1, ok, q⟩ := hq
    exact ⟨F', fm C ρ H', le, rep.perm List.perm_middle, x, hx, F1, m1, ρ, H', rfl, ok, q⟩
  · obtain ⟨F', H', le, rep, F1, m1, q⟩ := hq
    exact ⟨F', fm C ρ H', le, rep.perm List.perm_middle, F1, m1, q⟩
end
noncomputable def lkR : Rho → Str → Option V
  | [], _ => none
  | p :: r, x => if p.1 = x then p.2 else lkR r x
noncomputable def stR : Rho → Str → V → Option Rho
  | [], _, _ => none
  | p :: r, x, y => if p.1 = x then some ((p.1, some y) :: r) else match stR r x y with
    | none => none
    | some r' => some (p :: r')
theorem lkR_lk {x : Str} {y : V} : ∀ {ρ : Rho}, lkR ρ x = some y → Lk ρ x y
  | p :: r, h => by
    have h : (if p.1 = x then p.2 else lkR r x) = some y := h
    by_cases e : p.1 = x
    · rw [if_pos e] at h
      obtain ⟨p1, p2⟩ := p
      cases h; cases e; exact .hd
    · rw [if_neg e] at h
      exact .tl (lkR_lk h)
theorem stR_set {x : Str} {y : V} : ∀ {ρ ρ' : Rho}, stR ρ x y = some ρ' → SetL ρ x (some y) ρ'
  | p :: r, ρ', h => by
    have h : (if p.1 = x then some ((p.1, some y) :: r) else match stR r x y with
      | none => none
      | some r' => some (p :: r')) = some ρ' := h
    by_cases e : p.1 = x
    · rw [if_pos e] at h
      obtain ⟨p1, p2⟩ := p
      cases h; cases e; exact .hd
    · rw [if_neg e] at h
      cases q : stR r x y with
      | none => rw [q] at h; cases h
      | some r' => rw [q] at h; cases h; exact .tl (stR_set q)
inductive WK where
  | e (x : Expr) (ρ : Rho) (F : Fz) (H : Hp) (Q : QV)
  | t (x : Expr) (ρ : Rho) (F : Fz) (H : Hp) (Q : QB)
  | b (op : BoolOp) (xs : List Expr) (ρ : Rho) (F : Fz) (H : Hp) (Q : QB)
  | a (xs : List Expr) (ρ : Rho) (F : Fz) (H : Hp) (Q : QL)
  | s (ss : List Stmt) (ρ : Rho) (F : Fz) (H : Hp) (Q : QF)
  | d (ks vs : List Expr) (ρ : Rho) (F : Fz) (H : Hp) (Q : QP)
noncomputable def WK.F : WK → Fz
  | .e _ _ F _ _ => F
  | .t _ _ F _ _ => F
  | .b _ _ _ F _ _ => F
  | .a _ _ F _ _ => F
  | .s _ _ F _ _ => F
  | .d _ _ _ F _ _ => F
noncomputable def SmE (C : Cx) (x : Expr) (ρ : Rho) (F : Fz) (H : Hp) (Q : QV) : Prop := Ev C.G C.fr C.A F (fm C ρ H) (eval x C.env) (Un C Q) C.E
noncomputable def SmS (C : Cx) (st : Stmt) (ρ : Rho) (F : Fz) (H : Hp) (Q : QF) : Prop := Ex C.G C.fr C.A F (fm C ρ H) (exec st C.env) (Un C Q) C.E
noncomputable def Sm (C : Cx) : WK → Prop
  | .e x ρ F H Q => SmE C x ρ F H Q
  | .t x ρ F H Q => Tp C.G C.fr C.A F (fm C ρ H) (isTrue x C.env (eval x C.env)) (Un C Q) C.E
  | .b op xs ρ F H Q => Tp C.G C.fr C.A F (fm C ρ H) (allTrue op xs C.env) (Un C Q) C.E
  | .a xs ρ F H Q => ∀ pos, Evs C.G C.fr C.A F (fm C ρ H) (spliced (backTo pos (starEach xs C.env))) (Un C Q) C.E
  | .s ss ρ F H Q => Ex C.G C.fr C.A F (fm C ρ H) (execs ss C.env) (Un C Q) C.E
  | .d ks vs ρ F H Q => Evp C.G C.fr C.A C.env C.E ks vs F (fm C ρ H) (Un C Q)
noncomputable def bifW : Bool → Prop → Prop → Prop
  | true, P, _ => P
  | false, _, Q => Q
theorem bifW.sp {b : Bool} {P Q : Prop} (h1 : b = true → P) (h2 : b = false → Q) : bifW b P Q := by
  cases b with
  | true => exact h1 rfl
  | false => exact h2 rfl
noncomputable def iiW (x y : V) (k : Int → Int → Prop) (leaf : Prop) : Prop := match x with
  | .int i => match y with
    | .int j => k i j
    | _ => leaf
  | _ => leaf
noncomputable def ssW (x y : V) (k : Str → Str → Prop) (leaf : Prop) : Prop := match x with
  | .str i => match y with
    | .str j => k i j
    | _ => leaf
  | _ => leaf
theorem iiW.go {x y : V} {k : Int → Int → Prop} {leaf P : Prop} (h : iiW x y k leaf) (h1 : ∀ i j, x = .int i → y = .int j → k i j → P) (h2 : leaf → P) : P := by
  cases x with
  | int i =>
    cases y with
    | int j => exact h1 _ _ rfl rfl h
    | _ => exact h2 h
  | _ => exact h2 h
theorem ssW.go {x y : V} {k : Str → Str → Prop} {leaf P : Prop} (h : ssW x y k leaf) (h1 : ∀ i j, x = .str i → y = .str j → k i j → P) (h2 : leaf → P) : P := by
  cases x with
  | str i =>
    cases y with
    | str j => exact h1 _ _ rfl rfl h
    | _ => exact h2 h
  | _ => exact h2 h
noncomputable def binL (C : Cx) (f : Value → Value → Sem Value) (x y : V) (ρ : Rho) (F : Fz) (H : Hp) (Q : QV) : Prop := Op2 C.G C.fr C.A F H f x y (Nx C ρ Q) (kE C ρ)
noncomputable def binW (C : Cx) (op : Operator) (x y : V) (ρ : Rho) (F : Fz) (H : Hp) (Q : QV) : Prop := match op with
  | .Add => iiW x y (fun i j => Q (.int (i + j)) ρ F H) (binL C (binaryOp .Add) x y ρ F H Q)
  | .Sub => iiW x y (fun i j => Q (.int (i - j)) ρ F H) (binL C (binaryOp .Sub) x y ρ F H Q)
  | op => binL C (binaryOp op) x y ρ F H Q
noncomputable def inpW (C : Cx) (op : Operator) (x y : V) (ρ : Rho) (F : Fz) (H : Hp) (Q : QV) : Prop := match op with
  | .Add => iiW x y (fun i j => Q (.int (i + j)) ρ F H) (binL C (inplaceOp .Add) x y ρ F H Q)
  | .Sub => iiW x y (fun i j => Q (.int (i - j)) ρ F H) (binL C (inplaceOp .Sub) x y ρ F H Q)
  | op => binL C (inplaceOp op) x y ρ F H Q
inductive AB (Q : QB) (x : V) (ρ : Rho) (F : Fz) (H : Hp) : Prop where
  | mk (c : Bool) (e : x = .bool c) (q : Q c ρ F H)
noncomputable def noneW (y : V) (k leaf : Prop) : Prop := match y with
  | .none => k
  | _ => leaf
theorem noneW.go {y : V} {k leaf P : Prop} (h : noneW y k leaf) (h1 : y = .none → k → P) (h2 : leaf → P) : P := by
  cases y with
  | none => exact h1 rfl h
  | _ => exact h2 h
noncomputable def cmpL (C : Cx) (op : CmpOp) (x y : V) (ρ : Rho) (F : Fz) (H : Hp) (Q : QB) : Prop := Op2 C.G C.fr C.A F H (compareOp op) x y (Nx C ρ (AB Q)) (kE C ρ)
noncomputable def cmpW (C : Cx) (op : CmpOp) (x y : V) (ρ : Rho) (F : Fz) (H : Hp) (Q : QB) : Prop := match op with
  | .Lt => iiW x y (fun i j => Q (decide (i < j)) ρ F H) (cmpL C .Lt x y ρ F H Q)
  | .LtE => iiW x y (fun i j => Q (decide (i ≤ j)) ρ F H) (cmpL C .LtE x y ρ F H Q)
  | .Gt => iiW x y (fun i j => Q (decide (i > j)) ρ F H) (cmpL C .Gt x y ρ F H Q)
  | .GtE => iiW x y (fun i j => Q (decide (i ≥ j)) ρ F H) (cmpL C .GtE x y ρ F H Q)
  | .Eq => iiW x y (fun i j => Q (i == j) ρ F H) (ssW x y (fun i j => Q (i.cps.toList == j.cps.toList) ρ F H) (cmpL C .Eq x y ρ F H Q))
  | .NotEq => iiW x y (fun i j => Q (i != j) ρ F H) (ssW x y (fun i j => Q (i.cps.toList != j.cps.toList) ρ F H) (cmpL C .NotEq x y ρ F H Q))
  | .Is => noneW y (Q x.isN ρ F H) (cmpL C .Is x y ρ F H Q)
  | .IsNot => noneW y (Q (!x.isN) ρ F H) (cmpL C .IsNot x y ρ F H Q)
  | op => cmpL C op x y ρ F H Q
noncomputable def trW (C : Cx) (x : V) (ρ : Rho) (F : Fz) (H : Hp) (Q : QB) : Prop := match x with
  | .bool b => Q b ρ F H
  | .none => Q false ρ F H
  | .int i => Q (i != 0) ρ F H
  | x => Tr C.G C.fr C.A F H x (Nx C ρ Q) (kE C ρ)
noncomputable def negW (C : Cx) (op : UnaryOp) (x : V) (ρ : Rho) (F : Fz) (H : Hp) (Q : QV) : Prop := match op with
  | .USub => match x with
    | .int i => Q (.int (-i)) ρ F H
    | x => Op1 C.G C.fr C.A F H (unaryOp .USub) x (Nx C ρ Q) (kE C ρ)
  | op => Op1 C.G C.fr C.A F H (unaryOp op) x (Nx C ρ Q) (kE C ρ)
section
variable {C : Cx} {ρ : Rho} {F : Fz} {H : Hp} {Q : QV} {x y : V}
theorem liftOp2 {f : Value → Value → Sem Value} (h : binL C f x y ρ F H Q) : Op2 C.G C.fr C.A F (fm C ρ H) f x y (Un C Q) C.E := fun K m a b ha hb => liftV (h K m a b ha hb)
theorem liftOp1 {f : Value → Sem Value} (h : Op1 C.G C.fr C.A F H f x (Nx C ρ Q) (kE C ρ)) : Op1 C.G C.fr C.A F (fm C ρ H) f x (Un C Q) C.E := fun K m a ha => liftV (h K m a ha)
theorem liftCl {f : V} {xs : List V} (h : Cl C.G C.fr C.A F H f xs (Nx C ρ Q) (kE C ρ)) : Cl C.G C.fr C.A F (fm C ρ H) f xs (Un C Q) C.E := fun K m v vs hv hvs => liftV (h K m v vs hv hvs)
theorem liftTr {Q : QB} (h : Tr C.G C.fr C.A F H x (Nx C ρ Q) (kE C ρ)) : Tr C.G C.fr C.A F (fm C ρ H) x (Un C Q) C.E := fun K m a ha => liftT (h K m a ha)
theorem binW.sound {op : Operator} (ok : CxOk C F) (h : binW C op x y ρ F H Q) : Op2 C.G C.fr C.A F (fm C ρ H) (binaryOp op) x y (Un C Q) C.E := by
  cases op with
  | Add => exact iiW.go h (fun i j e1 e2 q => by subst e1 e2; exact add_ii ⟨_, _, rfl, ok, q⟩) liftOp2
  | Sub => exact iiW.go h (fun i j e1 e2 q => by subst e1 e2; exact sub_ii ⟨_, _, rfl, ok, q⟩) liftOp2
  | _ => exact liftOp2 h
theorem inpW.sound {op : Operator} (ok : CxOk C F) (h : inpW C op x y ρ F H Q) : Op2 C.G C.fr C.A F (fm C ρ H) (inplaceOp op) x y (Un C Q) C.E := by
  cases op with
  | Add => exact iiW.go h (fun i j e1 e2 q => by subst e1 e2; exact iadd_ii ⟨_, _, rfl, ok, q⟩) liftOp2
  | Sub => exact iiW.go h (fun i j e1 e2 q => by subst e1 e2; exact isub_ii ⟨_, _, rfl, ok, q⟩) liftOp2
  | _ => exact liftOp2 h
theorem cmpL.sound {op : CmpOp} {Q : QB} (h : cmpL C op x y ρ F H Q) : Op2 C.G C.fr C.A F (fm C ρ H) (compareOp op) x y (ABool (Un C Q)) C.E := fun K m a b ha hb R s hR =>
  wpAny_mono (liftV (h K m a b ha hb) R s hR) (fun v s1 hq => by
    obtain ⟨F', H', le, rep, z, hz, F1, m1, ρ1, H1, e, ok, c, ec, q⟩ := hq
    exact ⟨F', H', le, rep, z, hz, F1, m1, c, ec, ρ1, H1, e, ok, q⟩) fun _ _ q => q
theorem cmpW.sound {op : CmpOp} {Q : QB} (ok : CxOk C F) (h : cmpW C op x y ρ F H Q) : Op2 C.G C.fr C.A F (fm C ρ H) (compareOp op) x y (ABool (Un C Q)) C.E := by
  have mk : ∀ {b : Bool}, Q b ρ F H → ABool (Un C Q) (.bool b) F (fm C ρ H) := fun q => ⟨_, rfl, _, _, rfl, ok, q⟩
  cases op with
  | Lt => exact iiW.go h (fun i j e1 e2 q => by subst e1 e2; exact lt_ii (mk q)) cmpL.sound
  | LtE => exact iiW.go h (fun i j e1 e2 q => by subst e1 e2; exact le_ii (mk q)) cmpL.sound
  | Gt => exact iiW.go h (fun i j e1 e2 q => by subst e1 e2; exact gt_ii (mk q)) cmpL.sound
  | GtE => exact iiW.go h (fun i j e1 e2 q => by subst e1 e2; exact ge_ii (mk q)) cmpL.sound
  | Eq => exact iiW.go h (fun i j e1 e2 q => by subst e1 e2; exact eq_ii (mk q)) fun h => ssW.go h (fun i j e1 e2 q => by subst e1 e2; exact eq_ss (mk q)) cmpL.sound
  | NotEq => exact iiW.go h (fun i j e1 e2 q => by subst e1 e2; exact ne_ii (mk q)) fun h => ssW.go h (fun i j e1 e2 q => by subst e1 e2; exact ne_ss (mk q)) cmpL.sound
  | Is => exact noneW.go h (fun e q => by subst e; exact is_none (mk q)) cmpL.sound
  | IsNot => exact noneW.go h (fun e q => by subst e; exact isNot_none (mk q)) cmpL.sound
  | _ => exact cmpL.sound h
theorem trW.sound {Q : QB} (ok : CxOk C F) (h : trW C x ρ F H Q) : Tr C.G C.fr C.A F (fm C ρ H) x (Un C Q) C.E := by
  cases x with
  | bool => exact tr_bool ⟨_, _, rfl, ok, h⟩
  | none => exact tr_none ⟨_, _, rfl, ok, h⟩
  | int => exact tr_int ⟨_, _, rfl, ok, h⟩
  | _ => exact liftTr h
theorem negW.sound {op : UnaryOp} (ok : CxOk C F) (h : negW C op x ρ F H Q) : Op1 C.G C.fr C.A F (fm C ρ H) (unaryOp op) x (Un C Q) C.E := by
  cases op with
  | USub =>
    cases x with
    | int => exact neg_i ⟨_, _, rfl, ok, h⟩
    | _ => exact liftOp1 h
  | _ => exact liftOp1 h
end
noncomputable def isK (n : Nat) (e : Expr) : Bool := Nat.beq e.ctorIdx n
noncomputable def notStar (e : Expr) : Bool := !isK 22 e
noncomputable def notCall (e : Expr) : Bool := !isK 16 e
noncomputable def notComp (e : Expr) : Bool := !(isK 8 e || isK 9 e || isK 10 e)
noncomputable def notTup (e : Expr) : Bool := !isK 25 e
noncomputable def notSet (e : Expr) : Bool := !isK 7 e
noncomputable def plainFn (e : Expr) : Bool := isK 23 e || isK 21 e
noncomputable def valTest (e : Expr) : Bool := !(isK 0 e || isK 3 e || isK 5 e || isK 15 e)
theorem star_cons {e : Expr} {r : List Expr} {env : Env} (h : notStar e = true) : starEach (e :: r) env = (false, eval e env) :: starEach r env := by
  cases e <;> first | rfl | exact Bool.noConfusion h
theorem star_any {env : Env} {pos : Pos} : ∀ {l : List Expr}, l.all notStar = true → (backTo pos (starEach l env)).any (·.1) = false
  | [], _ => rfl
  | e :: r, h => by
    have h : (notStar e && r.all notStar) = true := h
    rw [star_cons (and_l h)]
    exact star_any (l := r) (and_r h)
theorem star_all {env : Env} {pos : Pos} : ∀ {l : List Expr}, l.all notStar = true → (backTo pos (starEach l env)).all (fun x => !x.1) = true
  | [], _ => rfl
  | e :: r, h => by
    have h : (notStar e && r.all notStar) = true := h
    rw [star_cons (and_l h)]
    exact star_all (l := r) (and_r h)
theorem base_notCall {o : Expr} {a : Str} {env : Env} {w : Sem Value} (h : notCall o = true) : attributeBase o a env w = w := by
  cases o <;> first | rfl | exact Bool.noConfusion h
theorem swaps_notComp {v : Expr} {t : Option Expr} {n : Nat} {env : Env} (h : notComp v = true) : swapsWith v t n env = pure false := by
  cases v <;> first | rfl | exact Bool.noConfusion h
section
variable (C : Cx) (w : WK → Prop)
inductive KAnd (F : Fz) (f : V) (P : Prop) : Prop where
  | mk (k : KOk F f) (h : P)
inductive Mth (T : String) (name : Str) (id : String) : Prop where
  | mk (h1 : PlainAttrs T) (h2 : Slot T name id) (h3 : typeOf (.builtin id) = pure (.type "method_descriptor"))
noncomputable def kApm (id : String) (x : V) (Q : QV) : QL := fun xs ρ F H => Cl C.G C.fr C.A F H (.blt id) (x :: xs) (Nx C ρ Q) (kE C ρ)
inductive MethW (args : List Expr) (name : Str) (x : V) (ρ : Rho) (F : Fz) (H : Hp) (Q : QV) : Prop where
  | mk (T id : String) (m : Mth T name id) (t : TyIs F H x T) (h : w (.a args ρ F H (kApm C id x Q)))
inductive LstW (xs : List V) (ρ : Rho) (F : Fz) (H : Hp) (Q : QV) : Prop where
  | own (hl : xs.length ≤ sizeLine) (h : ∀ a, Q (.ref a) ρ F ((a, .list xs) :: H))
  | at (f : Addr → Hp) (hp : ∀ a, ((a, .list xs) :: H).Perm (f a)) (hl : xs.length ≤ sizeLine) (h : ∀ a, Q (.ref a) ρ F (f a))
  | frz (hl : xs.length ≤ sizeLine) (h : Q (.lst xs) ρ F H)
inductive SlL (o : V) (lo hi st : Option Int) (Q : V → Fz → Hp → Prop) (F : Fz) (H : Hp) : Prop where
  | str (x : Str) (e : o = .str x) (hz : x.length ≤ sizeLine) (h0 : st = none) (h : Q (.str (Txt.slice x lo hi)) F H)
  | lst (l : List V) (hl : LstIs H o l) (hz : l.length ≤ sizeLine) (h0 : st ≠ some 0) (h : Q (.lst (slV l lo hi st)) F H)
noncomputable def kQ (ρ : Rho) (Q : QV) : V → Fz → Hp → Prop := fun x F H => Q x ρ F H
noncomputable def kPart (k : Option Int → QU) : QV := fun x ρ F H => match x with
  | .int i => k (some i) ρ F H
  | _ => False
noncomputable def partW (e : Option Expr) (ρ : Rho) (F : Fz) (H : Hp) (k : Option Int → QU) : Prop := match e with
  | none => k none ρ F H
  | some e => w (.e e ρ F H (kPart k))
noncomputable def kSlL4 (o : V) (lo hi : Option Int) (Q : QV) : Option Int → QU := fun st ρ F H => SlL o lo hi st (kQ ρ Q) F H
noncomputable def kSlL3 (o : V) (st : Option Expr) (lo : Option Int) (Q : QV) : Option Int → QU := fun hi ρ F H => partW w st ρ F H (kSlL4 o lo hi Q)
noncomputable def kSlL2 (o : V) (hi st : Option Expr) (Q : QV) : Option Int → QU := fun lo ρ F H => partW w hi ρ F H (kSlL3 w o st lo Q)
noncomputable def kSl (lo hi st : Option Expr) (Q : QV) : QV := fun o ρ F H => partW w lo ρ F H (kSlL2 w o hi st Q)
noncomputable def kBin2 (op : Operator) (x : V) (Q : QV) : QV := fun y ρ F H => binW C op x y ρ F H Q
noncomputable def kBin (op : Operator) (r : Expr) (Q : QV) : QV := fun x ρ F H => w (.e r ρ F H (kBin2 C op x Q))
noncomputable def kNeg (op : UnaryOp) (Q : QV) : QV := fun x ρ F H => negW C op x ρ F H Q
noncomputable def kCmp2 (op : CmpOp) (x : V) (Q : QB) : QV := fun y ρ F H => cmpW C op x y ρ F H Q
noncomputable def kCmp (op : CmpOp) (r : Expr) (Q : QB) : QV := fun x ρ F H => w (.e r ρ F H (kCmp2 C op x Q))
noncomputable def kB (Q : QV) : QB := fun b ρ F H => Q (.bool b) ρ F H
noncomputable def kOr2 (b : Expr) (x : V) (Q : QV) : QB := fun t ρ F H => bifW t (Q x ρ F H) (w (.e b ρ F H Q))
noncomputable def kOr (b : Expr) (Q : QV) : QV := fun x ρ F H => trW C x ρ F H (kOr2 w b x Q)
noncomputable def kIte (a b : Expr) (Q : QV) : QB := fun t ρ F H => bifW t (w (.e a ρ F H Q)) (w (.e b ρ F H Q))
inductive IteW (t a b : Expr) (ρ : Rho) (F : Fz) (H : Hp) (Q : QV) : Prop where
  | run (h : w (.t t ρ F H (kIte w a b Q)))
  | mk (P : QV) (h : w (.t t ρ F H (kIte w a b P))) (k : ∀ x ρ F H, CxOk C F → P x ρ F H → Q x ρ F H)
noncomputable def kTup (Q : QV) : QL := fun xs ρ F H => bifW (Nat.ble xs.length 1000) (Q (.tup xs) ρ F H) False
noncomputable def kLst (Q : QV) : QL := fun xs ρ F H => LstW xs ρ F H Q
noncomputable def kAttr (a : Str) (Q : QV) : QV := fun x ρ F H => Op1 C.G C.fr C.A F H (fun v => getAttr v a true) x (Nx C ρ Q) (kE C ρ)
noncomputable def kSub2 (v s : Expr) (o : V) (Q : QV) : QV := fun i ρ F H => binL C (subscriptTail v s) o i ρ F H Q
noncomputable def kSub (v s : Expr) (Q : QV) : QV := fun o ρ F H => w (.e s ρ F H (kSub2 C v s o Q))
noncomputable def kApp (f : V) (Q : QV) : QL := fun xs ρ F H => Cl C.G C.fr C.A F H f xs (Nx C ρ Q) (kE C ρ)
noncomputable def argW (f : V) (args : List Expr) (ρ : Rho) (F : Fz) (H : Hp) (Q : QV) : Prop := match args with
  | [] => kApp C f Q [] ρ F H
  | args => w (.a args ρ F H (kApp C f Q))
noncomputable def kCall (args : List Expr) (Q : QV) : QV := fun f ρ F H => match f with
  | .blt n => argW C w (.blt n) args ρ F H Q
  | .typ n => argW C w (.typ n) args ρ F H Q
  | f => KAnd F f (argW C w f args ρ F H Q)
noncomputable def kMeth (name : Str) (args : List Expr) (Q : QV) : QV := fun x ρ F H => MethW C w args name x ρ F H Q
noncomputable def kCons (x : V) (Q : QL) : QL := fun xs ρ F H => Q (x :: xs) ρ F H
noncomputable def kArg (r : List Expr) (Q : QL) : QV := fun x ρ F H => w (.a r ρ F H (kCons x Q))
noncomputable def kNot (Q : QB) : QB := fun b ρ F H => Q (!b) ρ F H
noncomputable def kTr (Q : QB) : QV := fun x ρ F H => trW C x ρ F H Q
noncomputable def kAll (op : BoolOp) (r : List Expr) (Q : QB) : QB := fun b ρ F H => match op with
  | .And => bifW b (w (.b .And r ρ F H Q)) (Q false ρ F H)
  | .Or => bifW b (Q true ρ F H) (w (.b .Or r ρ F H Q))
noncomputable def nameW (n : Str) (ρ : Rho) (F : Fz) (H : Hp) (Q : QV) (leaf : Prop) : Prop := match C.env.kindOf n with
  | some .local => (match lkR ρ n with
    | some y => Q y ρ F H
    | none => leaf)
  | some .globalImplicit => (match lkp C.gl n with
    | some y => Q y ρ F H
    | none => leaf)
  | some .free => (match lkp C.fl n with
    | some y => Q y ρ F H
    | none => leaf)
  | some .cell => (match lkp C.fl n with
    | some y => Q y ρ F H
    | none => leaf)
  | _ => leaf
noncomputable def constW (c : Const) (ρ : Rho) (F : Fz) (H : Hp) (Q : QV) (leaf : Prop) : Prop := match c with
  | .int i => Q (.int i) ρ F H
  | .str x => Q (.str x) ρ F H
  | .bool b => Q (.bool b) ρ F H
  | .none => Q .none ρ F H
  | _ => leaf
noncomputable def attr? : Expr → Option (Expr × Str × Pos)
  | .Attribute o name apos => some (o, name, apos)
  | _ => none
noncomputable def callW1 (f : Expr) (args : List Expr) (pos : Pos) (ρ : Rho) (F : Fz) (H : Hp) (Q : QV) (leaf : Prop) : Prop := match attr? f with
  | some p => bifW (notCall p.1 && (p.2.2.endLine == pos.line && (args.all notStar && Nat.ble args.length 9))) (w (.e p.1 ρ F H (kMeth C w p.2.1 args Q))) leaf
  | none => bifW (plainFn f && args.all notStar) (w (.e f ρ F H (kCall C w args Q))) leaf
noncomputable def oneW (ops : List CmpOp) (rs : List Expr) (k : CmpOp → Expr → Prop) (leaf : Prop) : Prop := match ops with
  | [] => leaf
  | op :: ops => (match ops with
    | [] => (match rs with
      | [] => leaf
      | r :: rs => (match rs with
        | [] => k op r
        | _ :: _ => leaf))
    | _ :: _ => leaf)
noncomputable def orW (op : BoolOp) (xs : List Expr) (k : Expr → Expr → Prop) (leaf : Prop) : Prop := match op with
  | .And => leaf
  | .Or => (match xs with
    | [] => leaf
    | a :: xs => (match xs with
      | [] => leaf
      | b :: xs => (match xs with
        | [] => k a b
        | _ :: _ => leaf)))
noncomputable def optAll : List (Option Expr) → Option (List Expr)
  | [] => some []
  | k :: ks => match k with
    | none => none
    | some k => match optAll ks with
      | none => none
      | some ks => some (k :: ks)
inductive DictW {K : Type} [DecidableEq K] (kd : Kd C.G K) (l : List (V × V)) (ρ : Rho) (F : Fz) (H : Hp) (Q : QV) : Prop where
  | own (m : List (K × V)) (e : l = kvL kd.emb m) (nd : (m.map (·.1)).Nodup) (h : ∀ a, (a == sysModules) = false → Q (.ref a) ρ F ((a, .dict (kvL kd.emb m)) :: H))
  | frz (m : List (K × V)) (e : l = kvL kd.emb m) (nd : (m.map (·.1)).Nodup) (h : ∀ a F', F.le F' → CxOk C F' → DictF C.G F' a (kvL kd.emb m) → Q (.ref a) ρ F' H)
noncomputable def kDict {K : Type} [DecidableEq K] (kd : Kd C.G K) (Q : QV) : QP := fun l ρ F H => DictW C kd l ρ F H Q
noncomputable def keyK (k : Expr) : Option Bool := match k with
  | .Constant c _ _ => (match c with
    | .str _ => some true
    | .int _ => some false
    | _ => none)
  | _ => none
noncomputable def kD3 (x y : V) (Q : QP) : QP := fun r ρ F H => Q ((x, y) :: r) ρ F H
noncomputable def kD2 (ks vs : List Expr) (x : V) (Q : QP) : QV := fun y ρ F H => w (.d ks vs ρ F H (kD3 x y Q))
noncomputable def kD1 (v : Expr) (ks vs : List Expr) (Q : QP) : QV := fun x ρ F H => w (.e v ρ F H (kD2 w ks vs x Q))
noncomputable def dW (ks vs : List Expr) (ρ : Rho) (F : Fz) (H : Hp) (Q : QP) : Prop := match ks with
  | [] => (match vs with
    | [] => Q [] ρ F H
    | _ :: _ => False)
  | k :: ks => (match vs with
    | [] => False
    | v :: vs => w (.e k ρ F H (kD1 w v ks vs Q)))
noncomputable def dictW (ks vs : List Expr) (ρ : Rho) (F : Fz) (H : Hp) (Q : QV) (leaf : Prop) : Prop := match ks with
  | [] => (match vs with
    | [] => ∀ a, (a == sysModules) = false → Q (.ref a) ρ F ((a, .dict []) :: H)
    | _ :: _ => leaf)
  | k :: ks => bifW (Nat.ble (k :: ks).length 15 && Nat.beq (k :: ks).length vs.length) (match keyK k with
    | some true => w (.d (k :: ks) vs ρ F H (kDict C (kStr C.G) Q))
    | some false => w (.d (k :: ks) vs ρ F H (kDict C (kInt C.G) Q))
    | none => leaf) leaf
noncomputable def dictsW (keys : List (Option Expr)) (vs : List Expr) (p : Pos) (ρ : Rho) (F : Fz) (H : Hp) (Q : QV) : Prop := match optAll keys with
  | some ks => dictW C w ks vs ρ F H Q (SmE C (.Dict keys vs p) ρ F H Q)
  | none => SmE C (.Dict keys vs p) ρ F H Q
noncomputable def slice? : Expr → Option (Option Expr × Option Expr × Option Expr × Pos)
  | .Slice lo hi st p => some (lo, hi, st, p)
  | _ => none
noncomputable def subW (v s : Expr) (ρ : Rho) (F : Fz) (H : Hp) (Q : QV) : Prop := match slice? s with
  | some p => w (.e v ρ F H (kSl w p.1 p.2.1 p.2.2.1 Q))
  | none => w (.e v ρ F H (kSub C w v s Q))
noncomputable def isNil {α : Type} : List α → Bool
  | [] => true
  | _ :: _ => false
noncomputable def eW (x : Expr) (ρ : Rho) (F : Fz) (H : Hp) (Q : QV) : Prop := match x with
  | .Constant c k p => constW c ρ F H Q (SmE C (.Constant c k p) ρ F H Q)
  | .Name n p => nameW C n ρ F H Q (SmE C (.Name n p) ρ F H Q)
  | .BinOp l op r _ => w (.e l ρ F H (kBin C w op r Q))
  | .UnaryOp op a _ => w (.e a ρ F H (kNeg C op Q))
  | .Compare l ops rs p => oneW ops rs (fun op r => bifW (behindInMarks op r) (SmE C (.Compare l [op] [r] p) ρ F H Q) (w (.e l ρ F H (kCmp C w op r (kB Q))))) (SmE C (.Compare l ops rs p) ρ F H Q)
  | .BoolOp op xs p => orW op xs (fun a b => w (.e a ρ F H (kOr C w b Q))) (SmE C (.BoolOp op xs p) ρ F H Q)
  | .IfExp t a b _ => IteW C w t a b ρ F H Q
  | .Call f args kws pos => bifW (isNil kws) (callW1 C w f args pos ρ F H Q (SmE C (.Call f args kws pos) ρ F H Q)) (SmE C (.Call f args kws pos) ρ F H Q)
  | .Tuple es k p => bifW (es.all notStar) (w (.a es ρ F H (kTup Q))) (SmE C (.Tuple es k p) ρ F H Q)
  | .List es p => bifW (es.all notStar) (w (.a es ρ F H (kLst Q))) (SmE C (.List es p) ρ F H Q)
  | .Attribute v a p => bifW (notCall v) (w (.e v ρ F H (kAttr C a Q))) (SmE C (.Attribute v a p) ρ F H Q)
  | .Subscript v s _ => subW C w v s ρ F H Q
  | .Dict keys vs p => dictsW C w keys vs p ρ F H Q
  | x => SmE C x ρ F H Q
noncomputable def tvW (x : Expr) (ρ : Rho) (F : Fz) (H : Hp) (Q : QB) : Prop := bifW (valTest x) (w (.e x ρ F H (kTr C Q))) (Sm C (.t x ρ F H Q))
noncomputable def tW (x : Expr) (ρ : Rho) (F : Fz) (H : Hp) (Q : QB) : Prop := match x with
  | .UnaryOp op x p => (match op with
    | .Not => w (.t x ρ F H (kNot Q))
    | op => Sm C (.t (.UnaryOp op x p) ρ F H Q))
  | .BoolOp op xs _ => w (.b op xs ρ F H Q)
  | .Compare l ops rs p => oneW ops rs (fun op r => bifW (behindInMarks op r) (Sm C (.t (.Compare l [op] [r] p) ρ F H Q)) (w (.e l ρ F H (kCmp C w op r Q)))) (Sm C (.t (.Compare l ops rs p) ρ F H Q))
  | x => tvW C w x ρ F H Q
noncomputable def bW (op : BoolOp) (xs : List Expr) (ρ : Rho) (F : Fz) (H : Hp) (Q : QB) : Prop := match xs with
  | [] => (match op with
    | .And => Q true ρ F H
    | .Or => Q false ρ F H)
  | x :: r => w (.t x ρ F H (kAll w op r Q))
noncomputable def aW (xs : List Expr) (ρ : Rho) (F : Fz) (H : Hp) (Q : QL) : Prop := match xs with
  | [] => Q [] ρ F H
  | e :: r => bifW (notStar e) (w (.e e ρ F H (kArg w r Q))) False
end
section
variable {C : Cx} {w : WK → Prop} {ρ : Rho} {F : Fz} {H : Hp}
theorem bifW.go {b : Bool} {P Q R : Prop} (h : bifW b P Q) (h1 : b = true → P → R) (h2 : b = false → Q → R) : R := by
  cases b with
  | true => exact h1 rfl h
  | false => exact h2 rfl h
noncomputable def Sd (C : Cx) (w : WK → Prop) : Prop := ∀ k : WK, CxOk C k.F → w k → Sm C k
theorem Sd.e (hw : Sd C w) {x : Expr} {Q : QV} (ok : CxOk C F) (h : w (.e x ρ F H Q)) : Ev C.G C.fr C.A F (fm C ρ H) (eval x C.env) (Un C Q) C.E := hw (.e x ρ F H Q) ok h
theorem Sd.k (hw : Sd C w) {x : Expr} {Q : QV} {P : V → Fz → Hp → Prop} (ok : CxOk C F) (h : w (.e x ρ F H Q)) (k : ∀ x ρ F H, CxOk C F → Q x ρ F H → P x F (fm C ρ H)) : Ev C.G C.fr C.A F (fm C ρ H) (eval x C.env) P C.E :=
  (hw.e ok h).mono (fun x F1 H1 q => by obtain ⟨ρ1, H1, e, ok, q⟩ := q; subst e; exact k _ _ _ _ ok q) fun _ _ _ e => e
theorem Tp.un {α : Type} {t : Sem α} {Q : α → Rho → Fz → Hp → Prop} {P : α → Fz → Hp → Prop} (h : Tp C.G C.fr C.A F (fm C ρ H) t (Un C Q) C.E) (k : ∀ x ρ F H, CxOk C F → Q x ρ F H → P x F (fm C ρ H)) : Tp C.G C.fr C.A F (fm C ρ H) t P C.E :=
  h.mono (fun x F1 H1 q => by obtain ⟨ρ1, H1, e, ok, q⟩ := q; subst e; exact k _ _ _ _ ok q) fun _ _ _ e => e
theorem Sd.a (hw : Sd C w) {xs : List Expr} {Q : QL} (ok : CxOk C F) (h : w (.a xs ρ F H Q)) (pos : Pos) : Evs C.G C.fr C.A F (fm C ρ H) (spliced (backTo pos (starEach xs C.env))) (Un C Q) C.E := hw (.a xs ρ F H Q) ok h pos
theorem Evs.mono {G : Glob} {fr : List Env} {A : Around} {F : Fz} {H : Hp} {E : Value → Fz → Hp → Prop} {P Q : List V → Fz → Hp → Prop} {t : Sem (List Value)} (h : Evs G fr A F H t P E) (k : ∀ x F1 H1, P x F1 H1 → Q x F1 H1) : Evs G fr A F H t Q E := fun K m R s hR =>
  wpAny_mono (h K m R s hR) (fun _ _ q => by obtain ⟨F1, H1, l, r, x, hx, F2, m2, q⟩ := q; exact ⟨F1, H1, l, r, x, hx, F2, m2, k _ _ _ q⟩) fun _ _ q => q
theorem Sd.ak (hw : Sd C w) {xs : List Expr} {Q : QL} {P : List V → Fz → Hp → Prop} (ok : CxOk C F) (h : w (.a xs ρ F H Q)) (pos : Pos) (k : ∀ x ρ F H, CxOk C F → Q x ρ F H → P x F (fm C ρ H)) : Evs C.G C.fr C.A F (fm C ρ H) (spliced (backTo pos (starEach xs C.env))) P C.E :=
  (hw.a ok h pos).mono fun x F1 H1 q => by obtain ⟨ρ1, H1, e, ok, q⟩ := q; subst e; exact k _ _ _ _ ok q
theorem has_fm : Has (fm C ρ H) C.env.locals (.ns ρ) := .hd
theorem nameW.sound {n : Str} {p : Pos} {Q : QV} (ok : CxOk C F) (h : nameW C n ρ F H Q (SmE C (.Name n p) ρ F H Q)) : SmE C (.Name n p) ρ F H Q := by
  have nd := fun {k : NameKind} (e : C.env.kindOf n = some k) => ok.nodbg e
  have un : ∀ {y}, Q y ρ F H → Un C Q y F (fm C ρ H) := fun q => ⟨_, _, rfl, ok, q⟩
  have free : ∀ {y}, lkp C.fl n = some y → FrIs C.env F n y := fun e => ok.fls _ (lkp_mem e)
  cases hk : C.env.kindOf n with
  | none => unfold nameW at h; rw [hk] at h; exact h
  | some k =>
    unfold nameW at h
    rw [hk] at h
    cases k with
    | «local» =>
      cases e : lkR ρ n with
      | none => rw [e] at h; exact h
      | some y => rw [e] at h; exact Ev_local has_fm (lkR_lk e) (un h) ok.kind hk (nd hk).1
    | globalImplicit =>
      cases e : lkp C.gl n with
      | none => rw [e] at h; exact h
      | some y =>
        rw [e] at h
        rcases ok.gls _ (lkp_mem e) with ⟨v, hv, r⟩ | ⟨v, h0, hv, r⟩
        · exact Ev_global hv r (un h) ok.kind hk ok.glob (nd hk).1
        · exact Ev_blt h0 hv r (un h) ok.kind hk ok.glob ok.blt (nd hk).1
    | free =>
      cases e : lkp C.fl n with
      | none => rw [e] at h; exact h
      | some y =>
        rw [e] at h
        obtain ⟨c, hc, hm⟩ := free e
        exact Ev_freeF hc hm (un h) ok.kind hk (nd hk).1 (nd hk).2
    | cell =>
      cases e : lkp C.fl n with
      | none => rw [e] at h; exact h
      | some y =>
        rw [e] at h
        obtain ⟨c, hc, o, v, ho, hd', hv⟩ := free e
        exact fun K m R s hR => wpAny_Name (wpAny_loadName_cell ok.kind hk hc ⟨o, hR.fz _ _ (m _ _ ho), hd'⟩ (vret hR (hv.mono m) m (un h))) (nd hk).1
    | _ => exact h
theorem constW.sound {c : Const} {k : Nat} {p : Pos} {Q : QV} (ok : CxOk C F) (h : constW c ρ F H Q (SmE C (.Constant c k p) ρ F H Q)) : SmE C (.Constant c k p) ρ F H Q := by
  cases c with
  | int => exact Ev_int ⟨_, _, rfl, ok, h⟩
  | str => exact Ev_str ⟨_, _, rfl, ok, h⟩
  | bool => exact Ev_bool ⟨_, _, rfl, ok, h⟩
  | none => exact Ev_none ⟨_, _, rfl, ok, h⟩
  | _ => exact h
theorem kPart.sound {k : Option Int → QU} {P : Option Int → Fz → Hp → Prop} {x : V} (ok : CxOk C F) (h : kPart k x ρ F H) (hk : ∀ o, k o ρ F H → P o F (fm C ρ H)) : AInt P x F (fm C ρ H) := by
  cases x with
  | int => exact ⟨_, rfl, hk _ h⟩
  | _ => exact h.elim
theorem partW.sound (hw : Sd C w) {e : Option Expr} {k : Option Int → QU} {P : Option Int → Fz → Hp → Prop} (ok : CxOk C F) (h : partW w e ρ F H k) (hk : ∀ o ρ F H, CxOk C F → k o ρ F H → P o F (fm C ρ H)) : EvP C.G C.fr C.A C.env F (fm C ρ H) e P C.E := by
  cases e with
  | none => exact EvP_none (hk _ _ _ _ ok h)
  | some e => exact EvP_some (hw.k ok h fun x ρ F H ok q => kPart.sound ok q fun o q => hk o _ _ _ ok q)
theorem Has.tail {a : Addr} {x : AO} (h : Has H a x) : Has (fm C ρ H) a x := .tl h
theorem LstIs.tail {x : V} {l : List V} (h : LstIs H x l) : LstIs (fm C ρ H) x l := by
  cases h with
  | lst => exact .lst
  | own h => exact .own h.tail
theorem TyIs.tail {x : V} {T : String} (h : TyIs F H x T) : TyIs F (fm C ρ H) x T := by
  cases h with
  | str => exact .str
  | int => exact .int
  | tup => exact .tup
  | list h => exact .list h.tail
  | dict h => exact .dict h.tail
  | frz h hc hd => exact .frz h hc hd
theorem Ev_slice {G : Glob} {fr : List Env} {A : Around} {env : Env} {F : Fz} {H : Hp} {E : Value → Fz → Hp → Prop} {Q : V → Fz → Hp → Prop} {value : Expr} {lower upper step : Option Expr} {p pos} (h : Ev G fr A F H (eval value env) (fun o F1 H1 => EvP G fr A env F1 H1 lower (fun lo F2 H2 => EvP G fr A env F2 H2 upper (fun hi F3 H3 => EvP G fr A env F3 H3 step (fun st F4 H4 => SlL o lo hi st Q F4 H4) E) E) E) E) :
    Ev G fr A F H (eval (.Subscript value (.Slice lower upper step p) pos) env) Q E := fun K m R s hR => by
  refine Subscript_ (h.go m hR (.refl K) fun v o F1 K1 H1 s1 l1 m1 r1 hx h1 => wpAny_Slice (h1.seq m1 r1 l1 fun o1 F2 K2 H2 s2 l2 m2 r2 h2 => h2.seq m2 r2 (l1.trans l2) fun o2 F3 K3 H3 s3 l3 m3 r3 h3 => h3.seq m3 r3 (l1.trans (l2.trans l3)) fun o3 F4 K4 H4 s4 l4 m4 r4 hq => ?_))
  have hsub : ∀ v, ∃ ops, subscripted (.Slice lower upper step p) false v (.ref s4.heap.objs.size) = operate ops (getItem v (.ref s4.heap.objs.size)) := fun v => by
    cases step with
    | none => exact ⟨_, rfl⟩
    | some e => exact ⟨_, rfl⟩
  have k1 : ∀ b o, s4.heap.get? b = some o → (s4.heap.push { cls := .type "slice", data := .fields #[partValue o1, partValue o2, partValue o3] }).get? b = some o := fun b o e => Heap.get?_push_of_some _ e
  have hx4 := hx.mono (l2.trans (l3.trans l4))
  have l14 := l1.trans (l2.trans (l3.trans l4))
  rcases hq with ⟨x, rfl, hsz, h0, q⟩ | ⟨l, hl, hsz, h0, q⟩
  · have h3 : o3 = none := by cases o3 with | none => rfl | some z => cases h0
    subst h3
    refine hx.e_str (P := fun v => wpAny _ _ (subscriptTail value _ v _) _ _ _) fun t => ?_
    obtain ⟨ops, hsub⟩ := hsub (.str x t)
    refine tail_any (typeIs_str _ _ _) PySem.F.slot_str_getitem.lookup (wpAny_getItem_str_slice (l := o1) (u := o2) (st := none) ⟨_, Heap.get?_push_size _ rfl, rfl, rfl⟩ rfl (post_val_or_str ⟨Nat.le_trans (Txt.slice_le x _ _) hsz, fun t' k => ?_⟩)) hsub
    exact ⟨K4, H4, l14, r4.keeps (tk := k) (dr := s4.drawn) fun b o e => Heap.get?_push_of_some _ e, _, .str, F4, m4, q⟩
  · obtain ⟨a, vs, rfl, hL, hr⟩ := hl.is r4 hx4
    have e := hr.toArr
    have hL' := hL.push { cls := .type "slice", data := .fields #[partValue o1, partValue o2, partValue o3] }
    obtain ⟨ops, hsub⟩ := hsub (.ref a)
    refine tail_any hL'.typeIs slot_list_getitem.lookup (wpAny_getItem_list_slice hL' ⟨_, Heap.get?_push_size _ rfl, rfl, rfl⟩ (isPart o1) (isPart o2) (isPart o3) h0 ?_ (by rw [e]; exact hsz)) hsub
    have r5 := r4.keeps (tk := s4.toks) (dr := s4.drawn) k1
    obtain ⟨le, r6⟩ := r5.newF (tk := s4.toks) (dr := s4.drawn) (D := (s4.heap.push { cls := .type "slice", data := .fields #[partValue o1, partValue o2, partValue o3] }).objs.size) (fun b o e => Heap.get?_push_of_some { cls := .type "list", data := .seq (slicePick vs (o1.map (·.1)) (o2.map (·.1)) (o3.map (·.1))) } e) (none_at_size _) (Heap.get?_push_size _ rfl)
    have hp := slicePick_rv hr (o1.map (·.1)) (o2.map (·.1)) (o3.map (·.1))
    exact ⟨_, H4, l14.trans le, r6, _, .lst (vs := (slicePick vs (o1.map (·.1)) (o2.map (·.1)) (o3.map (·.1))).toList) (Fz.add_self _ _ _) rfl rfl hp.length (hp.mono le).get, F4, m4.trans le, q⟩
theorem SlL.tail {o : V} {lo hi st : Option Int} {Q : QV} (ok : CxOk C F) (h : SlL o lo hi st (kQ ρ Q) F H) : SlL o lo hi st (Un C Q) F (fm C ρ H) := by
  rcases h with ⟨x, e, hz, h0, q⟩ | ⟨l, hl, hz, h0, q⟩
  · exact .str x e hz h0 ⟨_, _, rfl, ok, q⟩
  · exact .lst l hl.tail hz h0 ⟨_, _, rfl, ok, q⟩
theorem slice.sound (hw : Sd C w) {v : Expr} {lo hi st : Option Expr} {p pos : Pos} {Q : QV} (ok : CxOk C F) (h : w (.e v ρ F H (kSl w lo hi st Q))) : SmE C (.Subscript v (.Slice lo hi st p) pos) ρ F H Q :=
  Ev_slice (hw.k ok h fun o ρ F H ok q => partW.sound hw ok q fun lo ρ F H ok q => partW.sound hw ok q fun hi ρ F H ok q => partW.sound hw ok q fun st ρ F H ok q => SlL.tail ok q)
theorem meth.sound (hw : Sd C w) {o : Expr} {name : Str} {apos pos : Pos} {args : List Expr} {Q : QV} (ok : CxOk C F) (h0 : notCall o = true) (h1 : (apos.endLine == pos.line) = true) (h2 : args.all notStar = true) (h3 : args.length ≤ 9) (h : w (.e o ρ F H (kMeth C w name args Q))) : SmE C (.Call (.Attribute o name apos) args [] pos) ρ F H Q := by
  refine Ev_method (hw.k ok h fun x ρ F H ok q => ?_) (base_notCall h0) ?_ h1 ?_ (star_any h2)
  · obtain ⟨T, id, ⟨m1, m2, m3⟩, t, h⟩ := q
    exact ⟨T, id, m1, m2, m3, t.tail, hw.ak ok h pos fun xs ρ F H ok q => liftCl q⟩
  · rw [star_all h2]
    show (true && true && decide (args.length + 0 + 0 < 30)) = true
    rw [decide_eq_true (show args.length + 0 + 0 < 30 by lia)]
    rfl
  · intro f Q E s hq
    cases args with
    | nil => exact evalArgs_nil' hq
    | cons e r =>
      rw [star_cons (and_l h2)] at hq ⊢
      exact evalArgs_plain hq
theorem kCall.sound (hw : Sd C w) {args : List Expr} {Q : QV} {f : V} (ok : CxOk C F) (h : kCall C w args Q f ρ F H) : KOk F f ∧ argW C w f args ρ F H Q := by
  cases f with
  | blt => exact ⟨.blt, h⟩
  | typ => exact ⟨.typ, h⟩
  | _ => exact ⟨h.1, h.2⟩
theorem call.sound (hw : Sd C w) {f : Expr} {pos : Pos} {args : List Expr} {Q : QV} (ok : CxOk C F) (h0 : plainFn f = true) (h2 : args.all notStar = true) (h : w (.e f ρ F H (kCall C w args Q))) : SmE C (.Call f args [] pos) ρ F H Q := by
  have he : eval (.Call f args [] pos) C.env = (do callWith pos (← eval f C.env) [] (backTo pos (starEach args C.env)) (backToKw pos (keywordEach [] C.env))) := by
    cases f <;> first | rfl | exact Bool.noConfusion h0
  cases args with
  | nil =>
    refine Ev_Call0 (hw.k ok h fun f ρ F H ok q => ?_) he
    obtain ⟨hk, q⟩ := kCall.sound hw ok q
    exact ⟨hk, liftCl q⟩
  | cons e r =>
    refine Ev_Call (hw.k ok h fun f ρ F H ok q => ?_) he (star_cons (and_l h2)) (star_any (and_r h2))
    obtain ⟨hk, q⟩ := kCall.sound hw ok q
    exact ⟨hk, hw.ak ok q pos fun xs ρ F H ok q => liftCl q⟩
theorem nosome {α : Type} {x : α} {P : Prop} (h : none = some x) : P := by cases h
theorem attr?_eq {f : Expr} {p : Expr × Str × Pos} (h : attr? f = some p) : f = .Attribute p.1 p.2.1 p.2.2 := by
  cases f <;> first | (rw [← Option.some.inj h]; done) | exact nosome h
theorem slice?_eq {f : Expr} {p : Option Expr × Option Expr × Option Expr × Pos} (h : slice? f = some p) : f = .Slice p.1 p.2.1 p.2.2.1 p.2.2.2 := by
  cases f <;> first | (rw [← Option.some.inj h]; done) | exact nosome h
theorem callW1.sound (hw : Sd C w) {f : Expr} {pos : Pos} {args : List Expr} {Q : QV} (ok : CxOk C F) (h : callW1 C w f args pos ρ F H Q (SmE C (.Call f args [] pos) ρ F H Q)) : SmE C (.Call f args [] pos) ρ F H Q := by
  unfold callW1 at h
  cases e : attr? f with
  | none => rw [e] at h; exact bifW.go h (fun e h => call.sound hw ok (and_l e) (and_r e) h) fun _ h => h
  | some p =>
    rw [e] at h
    rw [attr?_eq e] at h ⊢
    exact bifW.go h (fun e h => meth.sound hw ok (and_l e) (and_l (and_r e)) (and_l (and_r (and_r e))) (Nat.le_of_ble_eq_true (and_r (and_r (and_r e)))) h) fun _ h => h
theorem oneW.go {ops : List CmpOp} {rs : List Expr} {k : CmpOp → Expr → Prop} {leaf P : Prop} (h : oneW ops rs k leaf) (h1 : ∀ op r, ops = [op] → rs = [r] → k op r → P) (h2 : leaf → P) : P := by
  cases ops with
  | nil => exact h2 h
  | cons op ops =>
    cases ops with
    | nil =>
      cases rs with
      | nil => exact h2 h
      | cons r rs =>
        cases rs with
        | nil => exact h1 _ _ rfl rfl h
        | cons => exact h2 h
    | cons => exact h2 h
theorem orW.go {op : BoolOp} {xs : List Expr} {k : Expr → Expr → Prop} {leaf P : Prop} (h : orW op xs k leaf) (h1 : ∀ a b, op = .Or → xs = [a, b] → k a b → P) (h2 : leaf → P) : P := by
  cases op with
  | And => exact h2 h
  | Or =>
    cases xs with
    | nil => exact h2 h
    | cons a xs =>
      cases xs with
      | nil => exact h2 h
      | cons b xs =>
        cases xs with
        | nil => exact h1 _ _ rfl rfl h
        | cons => exact h2 h
theorem isNil_eq {α : Type} {l : List α} (h : isNil l = true) : l = [] := by
  cases l with
  | nil => rfl
  | cons => cases h
theorem attr_eq {value : Expr} {attr : Str} {pos : Pos} {env : Env} (h : notCall value = true) : eval (.Attribute value attr pos) env = (do
      let o ← eval value env
      standAt pos.atName
      let r ← holding [o] (getAttr o attr true)
      letTemporaryGo value o r
      pure r) := by
  have e : eval (.Attribute value attr pos) env = (do
      let o ← attributeBase value attr env (eval value env)
      standAt pos.atName
      let r ← holding [o] (getAttr o attr true)
      letTemporaryGo value o r
      pure r) := rfl
  rw [e, base_notCall h]
theorem lst.sound (hw : Sd C w) {es : List Expr} {p : Pos} {Q : QV} (ok : CxOk C F) (h : w (.a es ρ F H (kLst Q))) : SmE C (.List es p) ρ F H Q := fun K m R s hR =>
  wpAny_List ((hw.a ok h _).go m hR (.refl K) fun vs xs F1 K1 H1 s1 l1 m1 r1 hxs hq => by
    obtain ⟨ρ1, H1, rfl, ok, q⟩ := hq
    rcases q with ⟨hl, q⟩ | ⟨f, hp, hl, q⟩ | ⟨hl, q⟩
    · refine ⟨hxs.length.symm ▸ hl, K1, fm C ρ1 ((s1.heap.objs.size, .list xs) :: H1), l1, ?_, _, .ref, F1, m1, _, _, rfl, ok, q _⟩
      exact Rep.perm (H := (s1.heap.objs.size, .list xs) :: (fm C ρ1 H1 ++ R)) (r1.new (tk := s1.toks) (dr := s1.drawn) (fun b o e => Heap.get?_push_of_some _ e) (none_at_size _) (Heap.get?_push_size _ rfl) ⟨vs.toArray, 0, rfl, hxs⟩) (.swap ..)
    · refine ⟨hxs.length.symm ▸ hl, K1, fm C ρ1 (f s1.heap.objs.size), l1, ?_, _, .ref, F1, m1, _, _, rfl, ok, q _⟩
      exact Rep.perm (H := (s1.heap.objs.size, .list xs) :: (fm C ρ1 H1 ++ R)) (r1.new (tk := s1.toks) (dr := s1.drawn) (fun b o e => Heap.get?_push_of_some _ e) (none_at_size _) (Heap.get?_push_size _ rfl) ⟨vs.toArray, 0, rfl, hxs⟩) ((List.Perm.swap ..).trans (((hp _).append_right R).cons _))
    · refine ⟨hxs.length.symm ▸ hl, ?_⟩
      obtain ⟨le, r⟩ := r1.newF (tk := s1.toks) (dr := s1.drawn) (fun b o e => Heap.get?_push_of_some _ e) (none_at_size s1.heap) (Heap.get?_push_size s1.heap (o := { cls := .type "list", data := .seq vs.toArray }) rfl)
      exact ⟨_, fm C ρ1 H1, l1.trans le, r, _, .lst (Fz.add_self _ _ _) rfl rfl hxs.length (hxs.mono le).get, F1, m1.trans le, _, _, rfl, ok, q⟩)
theorem ite.sound (hw : Sd C w) {a b : Expr} {Q : QV} {t : Bool} (ok : CxOk C F) (q : bifW t (w (.e a ρ F H Q)) (w (.e b ρ F H Q))) : if t then Ev C.G C.fr C.A F (fm C ρ H) (eval a C.env) (Un C Q) C.E else Ev C.G C.fr C.A F (fm C ρ H) (eval b C.env) (Un C Q) C.E := by
  cases t with
  | true => exact hw.e ok q
  | false => exact Bif_f (hw.e ok q)
theorem cmpE.sound {op : CmpOp} {x y : V} {Q : QV} (ok : CxOk C F) (q : cmpW C op x y ρ F H (kB Q)) : Op2 C.G C.fr C.A F (fm C ρ H) (compareOp op) x y (Un C Q) C.E := fun K m a b ha hb R s hR => wpAny_mono (cmpW.sound ok q K m a b ha hb R s hR) (fun v s1 hq => by
      obtain ⟨F', H', le, rep, z, hz, F1, m1, c, ec, ρ1, H1, e, ok, q⟩ := hq
      subst ec
      exact ⟨F', H', le, rep, _, hz, F1, m1, ρ1, H1, e, ok, q⟩) fun _ _ q => q
theorem or.sound (hw : Sd C w) {b : Expr} {x : V} {Q : QV} (ok : CxOk C F) (q : trW C x ρ F H (kOr2 w b x Q)) : Tr C.G C.fr C.A F (fm C ρ H) x (fun t F2 H2 => if t then Un C Q x F2 H2 else Ev C.G C.fr C.A F2 H2 (eval b C.env) (Un C Q) C.E) C.E := fun K m a ha R s hR =>
  wpAny_mono (trW.sound ok q K m a ha R s hR) (fun t s1 hq => by
    obtain ⟨F', H', le, rep, F1, m1, ρ1, H1, e, ok, q⟩ := hq
    subst e
    refine ⟨F', _, le, rep, F1, m1, ?_⟩
    cases t with
    | true => exact ⟨_, _, rfl, ok, q⟩
    | false => exact Bif_f (hw.e ok q)) fun _ _ q => q
theorem subW.sound (hw : Sd C w) {v s : Expr} {p : Pos} {Q : QV} (ok : CxOk C F) (h : subW C w v s ρ F H Q) : SmE C (.Subscript v s p) ρ F H Q := by
  unfold subW at h
  cases e : slice? s with
  | none => rw [e] at h; exact Ev_Subscript (hw.k ok h fun x ρ F H ok q => hw.k ok q fun y ρ F H ok q => liftOp2 q)
  | some t => rw [e] at h; rw [slice?_eq e]; exact slice.sound hw ok h
theorem Evp.mono {G : Glob} {fr : List Env} {A : Around} {env : Env} {E : Value → Fz → Hp → Prop} : ∀ {ks vs : List Expr} {F : Fz} {H : Hp} {P P' : List (V × V) → Fz → Hp → Prop}, Evp G fr A env E ks vs F H P → (∀ l F1 H1, P l F1 H1 → P' l F1 H1) → Evp G fr A env E ks vs F H P' := by
  intro ks
  induction ks with
  | nil =>
    intro vs F H P P' hh k
    cases vs with
    | nil => exact k _ _ _ hh
    | cons _ _ => exact hh.elim
  | cons ke ks ih =>
    intro vs F H P P' hh k
    cases vs with
    | nil => exact hh.elim
    | cons ve vs => exact Ev.mono hh (fun x F1 H1 q => Ev.mono q (fun y F2 H2 q => ih q fun l F3 H3 q => k _ _ _ q) fun _ _ _ e => e) fun _ _ _ e => e
theorem dW.sound (hw : Sd C w) {ks vs : List Expr} {Q : QP} (ok : CxOk C F) (h : dW w ks vs ρ F H Q) : Sm C (.d ks vs ρ F H Q) := by
  cases ks with
  | nil =>
    cases vs with
    | nil => exact ⟨_, _, rfl, ok, h⟩
    | cons => exact h.elim
  | cons k ks =>
    cases vs with
    | nil => exact h.elim
    | cons v vs => exact hw.k ok h fun x ρ F H ok q => hw.k ok q fun y ρ F H ok q => Evp.mono (hw (.d ks vs ρ F H _) ok q) fun l F1 H1 q => by obtain ⟨ρ1, H2, e, ok, q⟩ := q; exact ⟨ρ1, H2, e, ok, q⟩
theorem optAll_eq : ∀ {keys : List (Option Expr)} {ks : List Expr}, optAll keys = some ks → keys = ks.map some
  | [], _, h => by cases h; rfl
  | none :: _, _, h => nosome h
  | some k :: keys, ks, h => by
    have h : (match optAll keys with
      | none => none
      | some ks => some (k :: ks)) = some ks := h
    cases e : optAll keys with
    | none => rw [e] at h; exact nosome h
    | some l => rw [e] at h; cases h; rw [optAll_eq e]; rfl
theorem Ev.permQ {G : Glob} {fr : List Env} {A : Around} {F : Fz} {H : Hp} {E : Value → Fz → Hp → Prop} {Q : V → Fz → Hp → Prop} {t : Sem Value} (h : Ev G fr A F H t (fun x F1 H1 => ∃ H2, H1.Perm H2 ∧ Q x F1 H2) E) : Ev G fr A F H t Q E := fun K m R s hR =>
  wpAny_mono (h K m R s hR) (fun _ _ q => by obtain ⟨F1, H1, l, r, x, hx, F2, m2, H2, p, q⟩ := q; exact ⟨F1, H2, l, r.perm (p.append_right R), x, hx, F2, m2, q⟩) fun _ _ q => q
theorem dict.sound (hw : Sd C w) {K : Type} [DecidableEq K] (kd : Kd C.G K) {keys : List (Option Expr)} {k : Expr} {ks vs : List Expr} {p : Pos} {Q : QV} (ok : CxOk C F) (hk : keys = (k :: ks).map some) (h1 : (k :: ks).length ≤ 15) (h2 : (k :: ks).length = vs.length) (h : w (.d (k :: ks) vs ρ F H (kDict C kd Q))) : SmE C (.Dict keys vs p) ρ F H Q := by
  have h3 := hw (.d (k :: ks) vs ρ F H _) ok h
  refine fun K' m R s hR => wpAny_mono (Ev.permQ (Q := fun x F2 H2 => (Un C Q x F2 H2) ∨ ∃ a ρ1 H1 l, x = .ref a ∧ (a == sysModules) = false ∧ H2 = (a, .dict l) :: fm C ρ1 H1 ∧ CxOk C F2 ∧ ∀ F', F2.le F' → CxOk C F' → DictF C.G F' a l → Q (.ref a) ρ1 F' H1) (Ev_Dict kd hk (fun e => nomatch e) h1 h2 (Evp.mono h3 fun l F1 H1 q => ?_)) K' m R s hR) (fun v s1 hq => ?_) fun _ _ e => e
  · obtain ⟨ρ1, H2, rfl, ok, q⟩ := q
    rcases q with ⟨m, e, nd, h⟩ | ⟨m, e, nd, h⟩
    · exact ⟨m, e, nd, fun a ha => ⟨_, .swap .., .inl ⟨_, _, rfl, ok, h a ha⟩⟩⟩
    · exact ⟨m, e, nd, fun a ha => ⟨_, .refl _, .inr ⟨a, _, _, _, rfl, ha, rfl, ok, fun F' le ok' hd => h a F' le ok' hd⟩⟩⟩
  · obtain ⟨K1, H1, l1, r1, x, hx, F1, m1, q⟩ := hq
    rcases q with q | ⟨a, ρ1, H2, l, rfl, ha, rfl, ok, q⟩
    · exact ⟨K1, H1, l1, r1, x, hx, F1, m1, q⟩
    · obtain rfl := hx.i_ref
      obtain ⟨K2, l2, r2, hd⟩ := Rep.freezeD ha r1
      exact ⟨K2, _, l1.trans l2, r2, _, .ref, K2, .refl _, _, _, rfl, ok.mono (m1.trans l2), q K2 (m1.trans l2) (ok.mono (m1.trans l2)) hd⟩
theorem Ev_Dict0' {G : Glob} {fr : List Env} {A : Around} {env : Env} {F : Fz} {H : Hp} {E : Value → Fz → Hp → Prop} {Q : V → Fz → Hp → Prop} {pos} (h : ∀ a, (a == sysModules) = false → Q (.ref a) F ((a, .dict []) :: H)) : Ev G fr A F H (eval (.Dict [] [] pos) env) Q E := fun K m R s hR =>
  wpAny_Dict_empty ⟨K, (s.heap.objs.size, .dict []) :: H, .refl K, hR.new (x := .dict []) (tk := s.toks) (dr := s.drawn) (fun b o e => Heap.get?_push_of_some _ e) (none_at_size _) (Heap.get?_push_size _ rfl) ⟨#[], 0, rfl, .nil⟩, _, .ref, F, m, h _ (beq_eq_false_iff_ne.mpr (Nat.ne_of_gt (modules_low hR.glob.2.2)))⟩
theorem dictsW.sound (hw : Sd C w) {keys : List (Option Expr)} {vs : List Expr} {p : Pos} {Q : QV} (ok : CxOk C F) (h : dictsW C w keys vs p ρ F H Q) : SmE C (.Dict keys vs p) ρ F H Q := by
  unfold dictsW at h
  cases e : optAll keys with
  | none => rw [e] at h; exact h
  | some ks =>
    rw [e] at h
    have hk := optAll_eq e
    cases ks with
    | nil =>
      cases vs with
      | nil =>
        subst hk
        exact Ev.permQ (Ev_Dict0' fun a ha => ⟨_, .swap .., _, _, rfl, ok, h a ha⟩)
      | cons => exact h
    | cons k ks =>
      refine bifW.go h (fun e h => ?_) fun _ h => h
      have h1 := Nat.le_of_ble_eq_true (and_l e)
      have h2 := Nat.eq_of_beq_eq_true (and_r e)
      cases e3 : keyK k with
      | none => rw [e3] at h; exact h
      | some b =>
        rw [e3] at h
        cases b with
        | true => exact dict.sound hw (kStr C.G) ok hk h1 h2 h
        | false => exact dict.sound hw (kInt C.G) ok hk h1 h2 h
theorem eW.sound (hw : Sd C w) {x : Expr} {Q : QV} (ok : CxOk C F) (h : eW C w x ρ F H Q) : SmE C x ρ F H Q := by
  cases x with
  | Constant => exact constW.sound ok h
  | Name => exact nameW.sound ok h
  | BinOp => exact Ev_BinOp (hw.k ok h fun x ρ F H ok q => hw.k ok q fun y ρ F H ok q => binW.sound ok q)
  | UnaryOp => exact Ev_UnaryOp (hw.k ok h fun x ρ F H ok q => negW.sound ok q)
  | Compare =>
    refine oneW.go h (fun op r e1 e2 h => ?_) fun h => h
    subst e1 e2
    exact bifW.go h (fun _ h => h) fun e h => Ev_Compare1 (hw.k ok h fun x ρ F H ok q => hw.k ok q fun y ρ F H ok q => cmpE.sound ok q) e
  | BoolOp =>
    refine orW.go h (fun a b e1 e2 h => ?_) fun h => h
    subst e1 e2
    exact Ev_or (hw.k ok h fun x ρ F H ok q => or.sound hw ok q)
  | IfExp =>
    rcases h with h | ⟨P, h, k⟩
    · exact Ev_IfExp (Tp.un (hw (.t _ ρ F H _) ok h) fun t ρ F H ok q => ite.sound hw ok q)
    · refine (Ev_IfExp (Tp.un (hw (.t _ ρ F H _) ok h) fun t ρ F H ok q => ite.sound hw ok q)).mono (fun x F1 H1 q => ?_) fun _ _ _ e => e
      obtain ⟨ρ1, H1, e, ok, q⟩ := q
      exact ⟨ρ1, H1, e, ok, k _ _ _ _ ok q⟩
  | Call =>
    refine bifW.go h (fun e h => ?_) fun _ h => h
    have e := isNil_eq e
    subst e
    exact callW1.sound hw ok h
  | Tuple => exact bifW.go h (fun e h => Ev_Tuple (hw.ak ok h _ fun xs ρ F H ok q => bifW.go q (fun e q => ⟨Nat.le_trans (Nat.le_of_ble_eq_true e) (by decide), _, _, rfl, ok, q⟩) fun _ q => q.elim)) fun _ h => h
  | List => exact bifW.go h (fun e h => lst.sound hw ok h) fun _ h => h
  | Attribute => exact bifW.go h (fun e h => Ev_Attribute (hw.k ok h fun x ρ F H ok q => liftOp1 q) (attr_eq e)) fun _ h => h
  | Subscript => exact subW.sound hw ok h
  | Dict => exact dictsW.sound hw ok h
  | _ => exact h
theorem val_eq {x : Expr} {env : Env} {whole : Sem Value} (h : valTest x = true) : isTrue x env whole = (do let v ← whole; standAt x.pos; holding [v] (truthy v)) := by
  cases x <;> first | rfl | exact Bool.noConfusion h
theorem tvW.sound (hw : Sd C w) {x : Expr} {Q : QB} (ok : CxOk C F) (h : tvW C w x ρ F H Q) : Sm C (.t x ρ F H Q) :=
  bifW.go h (fun e h => It_value (hw.k ok h fun x ρ F H ok q => trW.sound ok q) (val_eq e)) fun _ h => h
theorem tW.sound (hw : Sd C w) {x : Expr} {Q : QB} (ok : CxOk C F) (h : tW C w x ρ F H Q) : Sm C (.t x ρ F H Q) := by
  cases x with
  | UnaryOp op x p =>
    cases op with
    | Not => exact It_Not (Tp.un (hw (.t _ ρ F H _) ok h) fun t ρ F H ok q => ⟨_, _, rfl, ok, q⟩)
    | _ => exact h
  | BoolOp => exact It_BoolOp (hw (.b _ _ ρ F H _) ok h)
  | Compare =>
    refine oneW.go h (fun op r e1 e2 h => ?_) fun h => h
    subst e1 e2
    exact bifW.go h (fun _ h => h) fun e h => It_Compare1 (hw.k ok h fun x ρ F H ok q => hw.k ok q fun y ρ F H ok q => cmpW.sound ok q) e
  | _ => exact tvW.sound hw ok h
theorem bW.sound (hw : Sd C w) {op : BoolOp} {xs : List Expr} {Q : QB} (ok : CxOk C F) (h : bW w op xs ρ F H Q) : Sm C (.b op xs ρ F H Q) := by
  cases xs with
  | nil =>
    cases op with
    | And => exact It_and_nil ⟨_, _, rfl, ok, h⟩
    | Or => exact It_or_nil ⟨_, _, rfl, ok, h⟩
  | cons =>
    cases op with
    | And =>
      refine It_and (Tp.un (hw (.t _ ρ F H _) ok h) fun t ρ F H ok q => ?_)
      cases t with
      | true => exact hw (.b .And _ ρ F H _) ok q
      | false => exact Bif_f ⟨_, _, rfl, ok, q⟩
    | Or =>
      refine It_or (Tp.un (hw (.t _ ρ F H _) ok h) fun t ρ F H ok q => ?_)
      cases t with
      | true => exact ⟨_, _, rfl, ok, q⟩
      | false => exact Bif_f (hw (.b .Or _ ρ F H _) ok q)
theorem aW.sound (hw : Sd C w) {xs : List Expr} {Q : QL} (ok : CxOk C F) (h : aW w xs ρ F H Q) : Sm C (.a xs ρ F H Q) := fun pos => by
  cases xs with
  | nil => exact Evs_nil ⟨_, _, rfl, ok, h⟩
  | cons => exact bifW.go h (fun e h => Evs_cons (hw.k ok h fun x ρ F H ok q => hw.ak ok q pos fun xs ρ F H ok q => ⟨_, _, rfl, ok, q⟩) (star_cons e)) fun _ h => h.elim
end
section
variable {G : Glob} {fr : List Env} {A : Around} {env : Env} {F : Fz} {H : Hp} {E : Value → Fz → Hp → Prop}
theorem Ex_Assign_Sto {x : Str} {pos' value pos} {Q : FV → Fz → Hp → Prop} (h : Ev G fr A F H (eval value env) (fun y F1 H1 => Sto G fr A env F1 H1 x y (Q .next) E) E)
    (hs : swapsWith value (some (.Name x pos')) pos.line env = pure false) : Ex G fr A F H (exec (.Assign [.Name x pos'] value pos) env) Q E := fun K m R s hR =>
  wpAny_Assign_Name (h.go m hR (.refl K) fun v y F1 K1 H1 s1 l1 m1 r1 hy hq =>
    (hq K1 m1 v hy).seq r1 l1 fun _ K2 H2 s2 l2 r2 ⟨F2, m2, q⟩ => upPQ (l1.trans l2) (fret r2 .next m2 q)) hs
theorem As_Sto {x : Str} {pos} {y : V} {Q : Fz → Hp → Prop} (h : Sto G fr A env F H x y Q E) : As G fr A env F H (.Name x pos) y Q E := fun K m v hv R s hR => wpAny_assign_Name (h K m v hv R s hR)
theorem Op2.mono {f : Value → Value → Sem Value} {x y : V} {P Q : V → Fz → Hp → Prop} (h : Op2 G fr A F H f x y P E) (k : ∀ x F H, P x F H → Q x F H) : Op2 G fr A F H f x y Q E := fun K m a b ha hb R s hR =>
  wpAny_mono (h K m a b ha hb R s hR) (fun _ _ q => by obtain ⟨F1, H1, l, r, x, hx, F2, m2, q⟩ := q; exact ⟨F1, H1, l, r, x, hx, F2, m2, k _ _ _ q⟩) fun _ _ q => q
theorem swapped_notTup {es : List Expr} {k : Nat} {q : Pos} {v : Expr} (h : notTup v = true) : swappedStores [.Tuple es k q] v env = pure none := by
  cases v <;> first | rfl | exact Bool.noConfusion h
end
noncomputable def stA : Rho → List Str → List V → Option Rho
  | ρ, [], ys => match ys with
    | [] => some ρ
    | _ :: _ => none
  | ρ, x :: xs, ys => match ys with
    | [] => none
    | y :: ys => match stR ρ x y with
      | some ρ' => stA ρ' xs ys
      | none => none
noncomputable def optW {α : Type} (o : Option α) (k : α → Prop) : Prop := match o with
  | some x => k x
  | none => False
theorem optW.go {α : Type} {o : Option α} {k : α → Prop} {P : Prop} (h : optW o k) (h1 : ∀ x, o = some x → k x → P) : P := by
  cases o with
  | some x => exact h1 x rfl h
  | none => exact h.elim
section
variable (C : Cx) (w : WK → Prop)
noncomputable def kAugS (x : Str) (Q : QF) : QV := fun r ρ F H => optW (stR ρ x r) fun ρ' => Q .next ρ' F H
noncomputable def stoW (x : Str) (y : V) (ρ : Rho) (F : Fz) (H : Hp) (Q : QF) : Prop := match C.env.kindOf x with
  | some .local => kAugS x Q y ρ F H
  | some .cell => StoreC C.env x y F H (Nx C ρ Q .next)
  | _ => False
noncomputable def kSto (x : Str) (Q : QF) : QV := fun y ρ F H => stoW C x y ρ F H Q
noncomputable def kAug (op : Operator) (x : Str) (y : V) (Q : QF) : QV := fun z ρ F H => inpW C op y z ρ F H (kAugS x Q)
noncomputable def kUnp (xs : List Str) (Q : QF) : QV := fun x ρ F H => match x with
  | .tup ys => optW (stA ρ xs ys) fun ρ' => Q .next ρ' F H
  | _ => False
noncomputable def kIt3 (o y : V) (Q : QF) : QV := fun i ρ F H => SetI C.G C.fr C.A F H o i y (Nx C ρ Q .next) (kE C ρ)
noncomputable def kIt2 (i : Expr) (y : V) (Q : QF) : QV := fun o ρ F H => w (.e i ρ F H (kIt3 C o y Q))
noncomputable def kIt1 (o i : Expr) (Q : QF) : QV := fun y ρ F H => w (.e o ρ F H (kIt2 C w i y Q))
noncomputable def kAt2 (a : Str) (y : V) (Q : QF) : QV := fun o ρ F H => SetA C.G C.fr C.A F H a o y (Nx C ρ Q .next) (kE C ρ)
noncomputable def kAt1 (o : Expr) (a : Str) (Q : QF) : QV := fun y ρ F H => w (.e o ρ F H (kAt2 C a y Q))
noncomputable def kDrop (Q : QF) : QV := fun x ρ F H => noneW x (Q .next ρ F H) False
noncomputable def kRet (Q : QF) : QV := fun x ρ F H => Q (.ret x) ρ F H
inductive RetW (e : Expr) : Rho → Fz → Hp → QF → Prop where
  | run {ρ : Rho} {F : Fz} {H : Hp} {Q : QF} (h : w (.e e ρ F H (kRet Q))) : RetW e ρ F H Q
  | frz {ρ ρ' : Rho} {F : Fz} {H H' : Hp} {Q : QF} (x : Str) {a : Addr} {l : List V} (hx : lkR ρ x = some (.ref a)) (hr : Rem H a (.list l) H') (hs : stR ρ x (.lst l) = some ρ') (h : RetW e ρ' F H' Q) : RetW e ρ F H Q
noncomputable def kIf (a b : List Stmt) (Q : QF) : QB := fun t ρ F H => bifW t (w (.s a ρ F H Q)) (w (.s b ρ F H Q))
inductive IfW (t : Expr) (a b : List Stmt) (ρ : Rho) (F : Fz) (H : Hp) (Q : QF) : Prop where
  | run (h : w (.t t ρ F H (kIf w a b Q)))
  | mk (T : QB) (P : QF) (h : w (.t t ρ F H T)) (k1 : ∀ c ρ F H, CxOk C F → T c ρ F H → kIf w a b P c ρ F H) (k2 : ∀ fv ρ F H, CxOk C F → P fv ρ F H → Q fv ρ F H)
noncomputable def kMid (P : QU) (Q : QF) : QF := fun fv ρ F H => match fv with
  | .next => P ρ F H
  | fv => Q fv ρ F H
noncomputable def kTurn (Qn : QU) (Q : QF) : QF := fun fv ρ F H => match fv with
  | .next => Qn ρ F H
  | .cont => Qn ρ F H
  | .brk => Q .next ρ F H
  | .ret x => Q (.ret x) ρ F H
noncomputable def kSeq (r : List Stmt) (Q : QF) : QF := fun fv ρ F H => match fv with
  | .next => w (.s r ρ F H Q)
  | fv => Q fv ρ F H
noncomputable def kBody (body : List Stmt) (Q : QF) : QF := fun _ ρ F H => w (.s body ρ F H Q)
noncomputable def asW (t : Expr) (y : V) (ρ : Rho) (F : Fz) (H : Hp) (Q : QF) : Prop := match t with
  | .Name x _ => stoW C x y ρ F H Q
  | .Tuple es _ _ => optW (namesOf? es) fun xs => bifW (C.hd0 && xs.all fun x => decide (C.env.kindOf x = some .local)) (kUnp xs Q y ρ F H) False
  | _ => False
inductive ForW (tg : Expr) (body : List Stmt) (x : V) (ρ : Rho) (F : Fz) (H : Hp) (Q : QF) : Prop where
  | mk (l : List V) (it : Iterable C.G C.A x l) (I : Nat → QU) (h0 : I 0 ρ F H) (hI : ∀ k ρ F H, I k ρ F H → CxOk C F)
      (step : ∀ k y ρ F H, l[k]? = some y → I k ρ F H → ∀ Qn : QU, (∀ ρ F H, I (k + 1) ρ F H → Qn ρ F H) → asW C tg y ρ F H (kBody w body (kTurn Qn Q)))
      (fin : ∀ ρ F H, I l.length ρ F H → Q .next ρ F H)
  | frz (a : Addr) (l : List V) (H' : Hp) (e : x = .ref a) (hr : Rem H a (.list l) H') (it : Iterable C.G C.A (.lst l) l) (I : Nat → QU) (h0 : I 0 ρ F H') (hI : ∀ k ρ F H, I k ρ F H → CxOk C F)
      (step : ∀ k y ρ F H, l[k]? = some y → I k ρ F H → ∀ Qn : QU, (∀ ρ F H, I (k + 1) ρ F H → Qn ρ F H) → asW C tg y ρ F H (kBody w body (kTurn Qn Q)))
      (fin : ∀ ρ F H, I l.length ρ F H → Q .next ρ F H)
noncomputable def kFor (tg : Expr) (body : List Stmt) (Q : QF) : QV := fun x ρ F H => ForW C w tg body x ρ F H Q
noncomputable def asgW (t v : Expr) (p : Pos) (ρ : Rho) (F : Fz) (H : Hp) (Q : QF) : Prop := match t with
  | .Name x _ => w (.e v ρ F H (kSto C x Q))
  | .Tuple es k q => (match namesOf? es with
    | some xs => bifW (C.hd0 && (notTup v && xs.all fun x => decide (C.env.kindOf x = some .local))) (w (.e v ρ F H (kUnp xs Q))) (SmS C (.Assign [.Tuple es k q] v p) ρ F H Q)
    | none => SmS C (.Assign [.Tuple es k q] v p) ρ F H Q)
  | .Subscript o i _ => w (.e v ρ F H (kIt1 C w o i Q))
  | .Attribute o a _ => w (.e v ρ F H (kAt1 C w o a Q))
  | t => SmS C (.Assign [t] v p) ρ F H Q
noncomputable def asgsW (ts : List Expr) (v : Expr) (p : Pos) (ρ : Rho) (F : Fz) (H : Hp) (Q : QF) : Prop := match ts with
  | [] => SmS C (.Assign [] v p) ρ F H Q
  | t :: ts => (match ts with
    | [] => bifW (notComp v) (asgW C w t v p ρ F H Q) (SmS C (.Assign [t] v p) ρ F H Q)
    | u :: us => SmS C (.Assign (t :: u :: us) v p) ρ F H Q)
noncomputable def augW (t : Expr) (op : Operator) (v : Expr) (p : Pos) (ρ : Rho) (F : Fz) (H : Hp) (Q : QF) : Prop := match nameOf? t with
  | some n => bifW (decide (C.env.kindOf n.1 = some .local)) (optW (lkR ρ n.1) fun y => w (.e v ρ F H (kAug C op n.1 y Q))) (SmS C (.AugAssign t op v p) ρ F H Q)
  | none => SmS C (.AugAssign t op v p) ρ F H Q
noncomputable def stW (st : Stmt) (ρ : Rho) (F : Fz) (H : Hp) (Q : QF) : Prop := match st with
  | .Expr e p => bifW (notComp e) (w (.e e ρ F H (kDrop Q))) (SmS C (.Expr e p) ρ F H Q)
  | .Return v p => (match v with
    | some e => RetW w e ρ F H Q
    | none => SmS C (.Return none p) ρ F H Q)
  | .Assign ts v p => asgsW C w ts v p ρ F H Q
  | .AugAssign t op v p => augW C w t op v p ρ F H Q
  | .If t a b _ => IfW C w t a b ρ F H Q
  | .For tg it body els p => bifW (isNil els && notSet it) (w (.e it ρ F H (kFor C w tg body Q))) (SmS C (.For tg it body els p) ρ F H Q)
  | .Pass _ => Q .next ρ F H
  | .Break _ => Q .brk ρ F H
  | .Continue _ => Q .cont ρ F H
  | st => SmS C st ρ F H Q
noncomputable def sW (ss : List Stmt) (ρ : Rho) (F : Fz) (H : Hp) (Q : QF) : Prop := match ss with
  | [] => Q .next ρ F H
  | st :: r => stW C w st ρ F H (kSeq w r Q)
noncomputable def WF (k : WK) : Prop := match k with
  | .e x ρ F H Q => eW C w x ρ F H Q
  | .t x ρ F H Q => tW C w x ρ F H Q
  | .b op xs ρ F H Q => bW w op xs ρ F H Q
  | .a xs ρ F H Q => aW w xs ρ F H Q
  | .s ss ρ F H Q => sW C w ss ρ F H Q
  | .d ks vs ρ F H Q => dW w ks vs ρ F H Q
end
noncomputable def W (C : Cx) : Nat → WK → Prop
  | 0 => Sm C
  | n + 1 => WF C (W C n)
section
variable {C : Cx} {w : WK → Prop} {ρ : Rho} {F : Fz} {H : Hp}
theorem kAugS.sound {x : Str} {y : V} {Q : QF} (ok : CxOk C F) (h : kAugS x Q y ρ F H) : Store C.env x y F (fm C ρ H) (Un C Q .next) :=
  optW.go h fun ρ' e q => .mk .hd (stR_set e) ⟨_, _, rfl, ok, q⟩
theorem stoW.sound {x : Str} {y : V} {Q : QF} (ok : CxOk C F) (h : stoW C x y ρ F H Q) : Sto C.G C.fr C.A C.env F (fm C ρ H) x y (Un C Q .next) C.E := by
  unfold stoW at h
  cases hk : C.env.kindOf x with
  | none => rw [hk] at h; exact h.elim
  | some k =>
    rw [hk] at h
    cases k with
    | «local» => exact Sto_l (kAugS.sound ok h) ok.kind hk
    | cell =>
      obtain ⟨c, z, H', hc, hu, q⟩ := h
      exact Sto_c (.mk hc (.tl hu) ⟨_, _, rfl, q.1, q.2⟩) ok.kind hk
    | _ => exact h.elim
theorem stA.sound {Q : QF} (ok : CxOk C F) : ∀ {xs : List Str} {ys : List V} {ρ ρ' : Rho}, stA ρ xs ys = some ρ' → Q .next ρ' F H → Stores C.env xs ys F (fm C ρ H) (Un C Q .next) ∧ xs.length = ys.length
  | [], [], _, _, h, q => by cases h; exact ⟨⟨_, _, rfl, ok, q⟩, rfl⟩
  | [], _ :: _, _, _, h, _ => nosome h
  | _ :: _, [], _, _, h, _ => nosome h
  | x :: xs, y :: ys, ρ, ρ', h, q => by
    have h : (match stR ρ x y with
      | some ρ' => stA ρ' xs ys
      | none => none) = some ρ' := h
    cases e : stR ρ x y with
    | none => rw [e] at h; exact nosome h
    | some ρ1 =>
      rw [e] at h
      obtain ⟨h1, h2⟩ := stA.sound ok h q
      exact ⟨.mk .hd (stR_set e) h1, congrArg (· + 1) h2⟩
theorem kUnp.sound {xs : List Str} {Q : QF} {x : V} (ok : CxOk C F) (h : kUnp xs Q x ρ F H) : ∃ ys, x = .tup ys ∧ xs.length = ys.length ∧ Stores C.env xs ys F (fm C ρ H) (Un C Q .next) := by
  cases x with
  | tup ys => exact optW.go h fun ρ' e q => ⟨ys, rfl, (stA.sound ok e q).2, (stA.sound ok e q).1⟩
  | _ => exact h.elim
theorem Sd.s (hw : Sd C w) {ss : List Stmt} {Q : QF} (ok : CxOk C F) (h : w (.s ss ρ F H Q)) : Ex C.G C.fr C.A F (fm C ρ H) (execs ss C.env) (Un C Q) C.E := hw (.s ss ρ F H Q) ok h
theorem asW.sound {t : Expr} {y : V} {Q : QF} (ok : CxOk C F) (h : asW C t y ρ F H Q) : As C.G C.fr C.A C.env F (fm C ρ H) t y (Un C Q .next) C.E := by
  cases t with
  | Name => exact As_Sto (stoW.sound ok h)
  | Tuple =>
    exact optW.go h fun xs e h => bifW.go h (fun e1 h => by
      obtain ⟨ys, rfl, hl, hs⟩ := kUnp.sound ok h
      exact As_Tuple (ok.hd (and_l e1)) e (and_r e1) hl hs ok.kind) fun _ h => h.elim
  | _ => exact h.elim
theorem kTurn.sound {Qn : QU} {Q : QF} {x : FV} (ok : CxOk C F) (h : kTurn Qn Q x ρ F H) : Turn (fun F H => ∃ ρ H', H = fm C ρ H' ∧ CxOk C F ∧ Qn ρ F H') (Un C Q) x F (fm C ρ H) := by
  cases x with
  | next => exact ⟨_, _, rfl, ok, h⟩
  | cont => exact ⟨_, _, rfl, ok, h⟩
  | brk => exact ⟨_, _, rfl, ok, h⟩
  | ret x => exact ⟨_, _, rfl, ok, h⟩
theorem Ex.un {ss : Sem Flow} {Q : QF} {P : FV → Fz → Hp → Prop} (h : Ex C.G C.fr C.A F (fm C ρ H) ss (Un C Q) C.E) (k : ∀ x ρ F H, CxOk C F → Q x ρ F H → P x F (fm C ρ H)) : Ex C.G C.fr C.A F (fm C ρ H) ss P C.E :=
  h.mono (fun x F1 H1 q => by obtain ⟨ρ1, H1, e, ok, q⟩ := q; subst e; exact k _ _ _ _ ok q) fun _ _ _ e => e
theorem Turn.mono {I I' : Fz → Hp → Prop} {Q : FV → Fz → Hp → Prop} {x : FV} (h : Turn I Q x F H) (k : I F H → I' F H) : Turn I' Q x F H := by
  cases x with
  | next => exact k h
  | cont => exact k h
  | brk => exact h
  | ret => exact h
inductive ForL (C : Cx) (w : WK → Prop) (tg : Expr) (body : List Stmt) (Q : QF) (x : V) (F : Fz) (H : Hp) : Prop where
  | mk (ρ : Rho) (H1 : Hp) (e : H = fm C ρ H1) (ok : CxOk C F) (l : List V) (it : Iterable C.G C.A x l) (I : Nat → QU) (h0 : I 0 ρ F H1) (hI : ∀ k ρ F H, I k ρ F H → CxOk C F)
      (step : ∀ k y ρ F H, l[k]? = some y → I k ρ F H → ∀ Qn : QU, (∀ ρ F H, I (k + 1) ρ F H → Qn ρ F H) → asW C tg y ρ F H (kBody w body (kTurn Qn Q)))
      (fin : ∀ ρ F H, I l.length ρ F H → Q .next ρ F H)
theorem ForW.ev {tg it : Expr} {body : List Stmt} {Q : QF} (h : Ev C.G C.fr C.A F (fm C ρ H) (eval it C.env) (Un C (kFor C w tg body Q)) C.E) : Ev C.G C.fr C.A F (fm C ρ H) (eval it C.env) (ForL C w tg body Q) C.E := fun K m R s hR =>
  wpAny_mono (h K m R s hR) (fun v s1 hq => by
    obtain ⟨K1, H1, l1, r1, x, hx, F1, m1, ρ1, H2, rfl, ok, q⟩ := hq
    rcases q with ⟨l, it, I, h0, hI, step, fin⟩ | ⟨a, l, H3, rfl, hr, it, I, h0, hI, step, fin⟩
    · exact ⟨K1, _, l1, r1, x, hx, F1, m1, ρ1, H2, rfl, ok, l, it, I, h0, hI, step, fin⟩
    · obtain rfl := hx.i_ref
      obtain ⟨K2, l2, r2, hv⟩ := list_freeze (r1.perm ((Rem.tl hr : Rem (fm C ρ1 H2) a (.list l) (fm C ρ1 H3)).perm.append_right R))
      exact ⟨K2, _, l1.trans l2, r2, _, hv, F1, m1.trans l2, ρ1, H3, rfl, ok, l, it, I, h0, hI, step, fin⟩) fun _ _ q => q
theorem for.sound (hw : Sd C w) {tg it : Expr} {body : List Stmt} {p : Pos} {Q : QF} (ok : CxOk C F) (hs : notSet it = true) (h : w (.e it ρ F H (kFor C w tg body Q))) : SmS C (.For tg it body [] p) ρ F H Q := by
  refine Ex_For ok.nt ((ForW.ev (hw.e ok h)).mono (fun x F H q => ?_) fun _ _ _ e => e) ?_
  · obtain ⟨ρ, H, rfl, ok, l, it, I, h0, hI, step, fin⟩ := q
    refine ⟨l, it, fun k F H => ∃ ρ H', H = fm C ρ H' ∧ I k ρ F H', ⟨_, _, rfl, h0⟩, fun k y F2 H2 hy hi Qn hn => ?_, fun F2 H2 hi => ?_⟩
    · obtain ⟨ρ2, H2, rfl, hi⟩ := hi
      have q := step k y ρ2 F2 H2 hy hi (fun ρ F H => I (k + 1) ρ F H) fun _ _ _ q => q
      refine fun K m v hv R s hR => wpAny_mono (asW.sound (hI _ _ _ _ hi) q K m v hv R s hR) (fun _ s1 hq => ?_) fun _ _ q => q
      obtain ⟨F', H', le, rep, F1, m1, ρ1, H1, e, ok, q⟩ := hq
      subst e
      exact ⟨F', _, le, rep, F1, m1, (hw.s ok q).un fun x ρ F H ok q => (kTurn.sound ok q).mono fun q => by
        obtain ⟨ρ1, H1, e, _, q⟩ := q
        exact hn _ _ ⟨_, _, e, q⟩⟩
    · obtain ⟨ρ2, H2, rfl, hi⟩ := hi
      exact ⟨_, _, rfl, hI _ _ _ _ hi, fin _ _ _ hi⟩
  · intro x
    cases it <;> first | rfl | exact Bool.noConfusion hs
end
section
variable {C : Cx} {w : WK → Prop} {ρ : Rho} {F : Fz} {H : Hp}
theorem liftSetI {x i y : V} {Q : QF} (h : SetI C.G C.fr C.A F H x i y (Nx C ρ Q .next) (kE C ρ)) : SetI C.G C.fr C.A F (fm C ρ H) x i y (Un C Q .next) C.E := fun K m a j v ha hj hv => liftU (α := Unit) (h K m a j v ha hj hv)
theorem liftSetA {a : Str} {x y : V} {Q : QF} (h : SetA C.G C.fr C.A F H a x y (Nx C ρ Q .next) (kE C ρ)) : SetA C.G C.fr C.A F (fm C ρ H) a x y (Un C Q .next) C.E := fun K m o v ho hv => liftU (α := Unit) (h K m o v ho hv)
theorem asgW.sound (hw : Sd C w) {t v : Expr} {p : Pos} {Q : QF} (ok : CxOk C F) (hv : notComp v = true) (h : asgW C w t v p ρ F H Q) : SmS C (.Assign [t] v p) ρ F H Q := by
  cases t with
  | Name => exact Ex_Assign_Sto (hw.k ok h fun y ρ F H ok q => stoW.sound ok q) (swaps_notComp hv)
  | Subscript => exact Ex_Assign_sub (hw.k ok h fun y ρ F H ok q => hw.k ok q fun x ρ F H ok q => hw.k ok q fun i ρ F H ok q => liftSetI q) (swaps_notComp hv)
  | Attribute => exact Ex_Assign_Attr (hw.k ok h fun y ρ F H ok q => hw.k ok q fun x ρ F H ok q => liftSetA q) (swaps_notComp hv)
  | Tuple es k q =>
    have h : (match namesOf? es with
      | some xs => bifW (C.hd0 && (notTup v && xs.all fun x => decide (C.env.kindOf x = some .local))) (w (.e v ρ F H (kUnp xs Q))) (SmS C (.Assign [.Tuple es k q] v p) ρ F H Q)
      | none => SmS C (.Assign [.Tuple es k q] v p) ρ F H Q) := h
    cases e : namesOf? es with
    | none => rw [e] at h; exact h
    | some xs =>
      rw [e] at h
      exact bifW.go h (fun e1 h => Ex_Assign_Tuple (ok.hd (and_l e1)) e (and_r (and_r e1)) (hw.k ok h fun y ρ F H ok q => kUnp.sound ok q) (show swapsWith v (some (.Tuple es k q)) p.line C.env = pure false from swaps_notComp hv) (swapped_notTup (and_l (and_r e1))) ok.kind) fun _ h => h
  | _ => exact h
theorem asgsW.sound (hw : Sd C w) {ts : List Expr} {v : Expr} {p : Pos} {Q : QF} (ok : CxOk C F) (h : asgsW C w ts v p ρ F H Q) : SmS C (.Assign ts v p) ρ F H Q := by
  cases ts with
  | nil => exact h
  | cons t ts =>
    cases ts with
    | nil => exact bifW.go h (fun e h => asgW.sound hw ok e h) fun _ h => h
    | cons => exact h
theorem augW.sound (hw : Sd C w) {t : Expr} {op : Operator} {v : Expr} {p : Pos} {Q : QF} (ok : CxOk C F) (h : augW C w t op v p ρ F H Q) : SmS C (.AugAssign t op v p) ρ F H Q := by
  unfold augW at h
  cases e : nameOf? t with
  | none => rw [e] at h; exact h
  | some n =>
    rw [e] at h
    rw [nameOf_eq e] at h ⊢
    refine bifW.go h (fun e1 h => optW.go h fun y e2 h => ?_) fun _ h => h
    exact Ex_AugAssign has_fm (lkR_lk e2) (hw.k ok h fun z ρ F H ok q => (inpW.sound ok q).mono fun r F H q => by
      obtain ⟨ρ1, H1, e, ok, q⟩ := q
      subst e
      exact kAugS.sound ok q) ok.kind (of_decide_eq_true e1)
theorem drop.sound {x : V} {Q : QF} (ok : CxOk C F) (h : kDrop Q x ρ F H) : x = .none ∧ Un C Q .next F (fm C ρ H) :=
  noneW.go h (fun e q => ⟨e, _, _, rfl, ok, q⟩) fun h => h.elim
theorem if.sound (hw : Sd C w) {a b : List Stmt} {Q : QF} {t : Bool} (ok : CxOk C F) (q : kIf w a b Q t ρ F H) : if t then Ex C.G C.fr C.A F (fm C ρ H) (execs a C.env) (Un C Q) C.E else Ex C.G C.fr C.A F (fm C ρ H) (execs b C.env) (Un C Q) C.E := by
  cases t with
  | true => exact hw.s ok q
  | false => exact Bif_f (hw.s ok q)
theorem ret.sound (hw : Sd C w) {e : Expr} {p : Pos} {Q : QF} (ok : CxOk C F) (h : RetW w e ρ F H Q) : SmS C (.Return (some e) p) ρ F H Q := by
  induction h with
  | run h => exact Ex_Return (hw.k ok h fun x ρ F H ok q => ⟨_, _, rfl, ok, q⟩)
  | frz x hx hr hs _ ih => exact Ex_freeze x (.tl hr) .hd (lkR_lk hx) (stR_set hs) (ih ok)
theorem stW.sound (hw : Sd C w) {st : Stmt} {Q : QF} (ok : CxOk C F) (h : stW C w st ρ F H Q) : SmS C st ρ F H Q := by
  cases st with
  | Expr => exact bifW.go h (fun e h => Ex_Expr (hw.k ok h fun x ρ F H ok q => drop.sound ok q) (by show (C.env.scope.kind == .module && _) = false; rw [ok.kind]; rfl) (swaps_notComp e)) fun _ h => h
  | Return v p =>
    cases v with
    | none => exact h
    | some e => exact ret.sound hw ok h
  | Assign => exact asgsW.sound hw ok h
  | AugAssign => exact augW.sound hw ok h
  | If =>
    rcases h with h | ⟨T, P, h, k1, k2⟩
    · exact Ex_If (Tp.un (hw (.t _ ρ F H _) ok h) fun t ρ F H ok q => if.sound hw ok q)
    · refine Ex.un (Ex_If (Tp.un (hw (.t _ ρ F H _) ok h) fun t ρ F H ok q => if.sound (Q := P) hw ok (k1 _ _ _ _ ok q))) fun x ρ F H ok q => ⟨_, _, rfl, ok, k2 _ _ _ _ ok q⟩
  | For =>
    refine bifW.go h (fun e h2 => ?_) fun _ h => h
    have e1 := isNil_eq (and_l e)
    subst e1
    exact for.sound hw ok (and_r e) h2
  | Pass => exact Ex_Pass ⟨_, _, rfl, ok, h⟩
  | Break => exact Ex_Break ⟨_, _, rfl, ok, h⟩
  | Continue => exact Ex_Continue ⟨_, _, rfl, ok, h⟩
  | _ => exact h
inductive KVal {α : Type} (f : α → V) (ρ : Rho) (F : Fz) (H : Hp) : QV where
  | mk (a : α) : KVal f ρ F H (f a) ρ F H
theorem IteW.val {α : Type} (f : α → V) {t a b : Expr} {Q : QV} (h : w (.t t ρ F H (kIte w a b (KVal f ρ F H)))) (k : ∀ x, Q (f x) ρ F H) : IteW C w t a b ρ F H Q :=
  .mk _ h fun x ρ1 F1 H1 _ q => by
    cases q with
    | mk a => exact k a
inductive St {α : Type} (R : α → Rho) (F : Fz) (Hh : α → Hp) (P : α → Prop) : QU where
  | mk (a : α) (h : P a) : St R F Hh P (R a) F (Hh a)
theorem IfW.mid (P : QU) {t : Expr} {a b : List Stmt} {Q : QF} (h : w (.t t ρ F H (kIf w a b (kMid P Q)))) (k : ∀ ρ F H, CxOk C F → P ρ F H → Q .next ρ F H) : IfW C w t a b ρ F H Q :=
  .mk _ _ h (fun _ _ _ _ _ q => q) fun fv ρ F H ok q => by
    cases fv with
    | next => exact k _ _ _ ok q
    | _ => exact q
theorem IfW.st {α : Type} (R : α → Rho) (Hh : α → Hp) (P : α → Prop) {t : Expr} {a b : List Stmt} {Q : QF} (h : w (.t t ρ F H (kIf w a b (kMid (St R F Hh P) Q)))) (k : ∀ a, P a → Q .next (R a) F (Hh a)) : IfW C w t a b ρ F H Q :=
  .mid _ h fun ρ F H _ q => by
    cases q with
    | mk a h => exact k a h
theorem ForW.st {α : Type} {tg : Expr} {body : List Stmt} {x : V} {Q : QF} (ok : CxOk C F) {l : List V} (it : Iterable C.G C.A x l) (R : α → Rho) (Hh : α → Hp) (P : Nat → α → Prop) (a0 : α) (h0 : P 0 a0)
    (step : ∀ k y a, l[k]? = some y → P k a → ∀ Qn : QU, (∀ a, P (k + 1) a → Qn (R a) F (Hh a)) → asW C tg y (R a) F (Hh a) (kBody w body (kTurn Qn Q)))
    (fin : ∀ a, P l.length a → Q .next (R a) F (Hh a)) : ForW C w tg body x (R a0) F (Hh a0) Q :=
  .mk l it (fun k => St R F Hh (P k)) (.mk a0 h0) (fun k ρ F H q => by cases q; exact ok) (fun k y ρ F H hy q Qn hn => by
    cases q with
    | mk a h => exact step k y a hy h Qn fun a h => hn _ _ _ (.mk a h)) fun ρ F H q => by
    cases q with
    | mk a h => exact fin a h
theorem ForW.stf {α : Type} {tg : Expr} {body : List Stmt} {b : Addr} {Q : QF} (ok : CxOk C F) {l : List V} (it : Iterable C.G C.A (.lst l) l) (R : α → Rho) (Hh : α → Hp) (P : Nat → α → Prop) (a0 : α) (hr : Rem H b (.list l) (Hh a0)) (h0 : P 0 a0)
    (step : ∀ k y a, l[k]? = some y → P k a → ∀ Qn : QU, (∀ a, P (k + 1) a → Qn (R a) F (Hh a)) → asW C tg y (R a) F (Hh a) (kBody w body (kTurn Qn Q)))
    (fin : ∀ a, P l.length a → Q .next (R a) F (Hh a)) : ForW C w tg body (.ref b) (R a0) F H Q :=
  .frz b l _ rfl hr it (fun k => St R F Hh (P k)) (.mk a0 h0) (fun k ρ F H q => by cases q; exact ok) (fun k y ρ F H hy q Qn hn => by
    cases q with
    | mk a h => exact step k y a hy h Qn fun a h => hn _ _ _ (.mk a h)) fun ρ F H q => by
    cases q with
    | mk a h => exact fin a h
theorem seq.sound (hw : Sd C w) {r : List Stmt} {Q : QF} {x : FV} (ok : CxOk C F) (h : kSeq w r Q x ρ F H) : Then C.G C.fr C.A C.env r (Un C Q) C.E x F (fm C ρ H) := by
  cases x with
  | next => exact hw.s ok h
  | _ => exact ⟨_, _, rfl, ok, h⟩
theorem sW.sound (hw : Sd C w) {ss : List Stmt} {Q : QF} (ok : CxOk C F) (h : sW C w ss ρ F H Q) : Sm C (.s ss ρ F H Q) := by
  cases ss with
  | nil => exact Ex_nil ⟨_, _, rfl, ok, h⟩
  | cons st r => exact Ex_cons ((stW.sound hw ok h).un fun x ρ F H ok q => seq.sound hw ok q)
theorem W.sound : ∀ n, Sd C (W C n)
  | 0 => fun k _ h => h
  | n + 1 => fun k ok h => by
    have hw := W.sound n
    cases k with
    | e => exact eW.sound hw ok h
    | t => exact tW.sound hw ok h
    | b => exact bW.sound hw ok h
    | a => exact aW.sound hw ok h
    | s => exact sW.sound hw ok h
    | d => exact dW.sound hw ok h
noncomputable def kWh (w : WK → Prop) (body : List Stmt) (Qt Q : QF) : QB := fun t ρ F H => bifW t (w (.s body ρ F H Qt)) (Q .next ρ F H)
theorem W_While {test : Expr} {body : List Stmt} {p : Pos} {Q : QF} (k : Nat) (I : Nat → QU) (n : Nat) (h0 : I n ρ F H) (nt : Noted C.G C.fr C.A C.env C.E) (hI : ∀ k ρ F H, I k ρ F H → CxOk C F)
    (step : ∀ n ρ F H, I n ρ F H → ∀ Qn : QU, (∀ m ρ F H, m < n → I m ρ F H → Qn ρ F H) → W C k (.t test ρ F H (kWh (W C k) body (kTurn Qn Q) Q))) : SmS C (.While test body [] p) ρ F H Q := by
  refine Ex_While (fun k F H => ∃ ρ H', H = fm C ρ H' ∧ I k ρ F H') n ⟨_, _, rfl, h0⟩ (fun n F1 H1 hi Qn hn => ?_) nt
  obtain ⟨ρ1, H1, rfl, hi⟩ := hi
  refine Tp.un (W.sound k (.t test ρ1 F1 H1 _) (hI _ _ _ _ hi) (step n ρ1 F1 H1 hi (fun ρ F H => ∃ m, m < n ∧ I m ρ F H) fun m ρ F H hm q => ⟨m, hm, q⟩)) fun t ρ F H ok q => ?_
  cases t with
  | true =>
    refine ((W.sound k).s ok q).un fun x ρ F H ok q => (kTurn.sound ok q).mono fun q => ?_
    obtain ⟨ρ1, H1, e, _, m, hm, q⟩ := q
    exact hn m _ _ hm ⟨_, _, e, q⟩
  | false => exact Bif_f ⟨_, _, rfl, ok, q⟩
inductive StW {α : Type} (R : α → Rho) (F : Fz) (Hh : α → Hp) (μ : α → Nat) (P : α → Prop) : Nat → QU where
  | mk (a : α) (h : P a) : StW R F Hh μ P (μ a) (R a) F (Hh a)
theorem WhileW.st {α : Type} {test : Expr} {body : List Stmt} {p : Pos} {Q : QF} (ok : CxOk C F) (k : Nat) (R : α → Rho) (Hh : α → Hp) (μ : α → Nat) (P : α → Prop) (a0 : α) (h0 : P a0)
    (step : ∀ a, P a → ∀ Qn : QU, (∀ a', μ a' < μ a → P a' → Qn (R a') F (Hh a')) → W C k (.t test (R a) F (Hh a) (kWh (W C k) body (kTurn Qn Q) Q))) : SmS C (.While test body [] p) (R a0) F (Hh a0) Q :=
  W_While k (StW R F Hh μ P) (μ a0) (.mk a0 h0) ok.nt (fun k ρ F H q => by cases q; exact ok) fun n ρ1 F1 H1 q Qn hn => by
    cases q with
    | mk a h => exact step a h Qn fun a' hm h => hn _ _ _ _ hm (.mk a' h)
noncomputable def retV : FV → V
  | .ret x => x
  | _ => .none
noncomputable def kRt (Q : V → Fz → Hp → Prop) : QF := fun fv ρ F H => Q (retV fv) F H
theorem W.ex {Q : V → Fz → Hp → Prop} (n : Nat) {ss : List Stmt} (ok : CxOk C F) (h : W C n (.s ss ρ F H (kRt Q))) : Ex C.G C.fr C.A F ((C.env.locals, .ns ρ) :: H) (execs ss C.env) (Ret C.env.locals Q) C.E :=
  ((W.sound n).s ok h).un fun x ρ F H ok q => ⟨ρ, H, .hd, by cases x <;> exact q⟩
end
section
variable {C : Cx} {w : WK → Prop} {ρ : Rho} {F : Fz} {H : Hp}
theorem ForW.s2 {α β : Type} {tg : Expr} {body : List Stmt} {x : V} {Q : QF} (ok : CxOk C F) {l : List V} (it : Iterable C.G C.A x l) (R : α → β → Rho) (Hh : α → β → Hp) (P : Nat → α → β → Prop) (z1 : α) (z2 : β) (h0 : P 0 z1 z2)
    (step : ∀ k y a1 a2, l[k]? = some y → P k a1 a2 → ∀ Qn : QU, (∀ a1 a2, P (k + 1) a1 a2 → Qn (R a1 a2) F (Hh a1 a2)) → asW C tg y (R a1 a2) F (Hh a1 a2) (kBody w body (kTurn Qn Q)))
    (fin : ∀ a1 a2, P l.length a1 a2 → Q .next (R a1 a2) F (Hh a1 a2)) : ForW C w tg body x (R z1 z2) F (Hh z1 z2) Q :=
  .st ok it (fun p : α × β => R p.1 p.2) (fun p => Hh p.1 p.2) (fun k p => P k p.1 p.2) (z1, z2) h0 (fun k y p hy h Qn hn => step k y (p.1) (p.2) hy h Qn fun a1 a2 h => hn (a1, a2) h) fun p h => fin (p.1) (p.2) h
theorem WhileW.s2 {α β : Type} {test : Expr} {body : List Stmt} {p : Pos} {Q : QF} (ok : CxOk C F) (k : Nat) (R : α → β → Rho) (Hh : α → β → Hp) (μ : α → β → Nat) (P : α → β → Prop) (z1 : α) (z2 : β) (h0 : P z1 z2)
    (step : ∀ a1 a2, P a1 a2 → ∀ Qn : QU, (∀ b1 b2, μ b1 b2 < μ a1 a2 → P b1 b2 → Qn (R b1 b2) F (Hh b1 b2)) → W C k (.t test (R a1 a2) F (Hh a1 a2) (kWh (W C k) body (kTurn Qn Q) Q))) : SmS C (.While test body [] p) (R z1 z2) F (Hh z1 z2) Q :=
  WhileW.st ok k (fun p : α × β => R p.1 p.2) (fun p => Hh p.1 p.2) (fun p => μ p.1 p.2) (fun p => P p.1 p.2) (z1, z2) h0 fun p h Qn hn => step (p.1) (p.2) h Qn fun a1 a2 hm h => hn (a1, a2) hm h
theorem IfW.s3 {α β γ : Type} (R : α → β → γ → Rho) (Hh : α → β → γ → Hp) (P : α → β → γ → Prop) {t : Expr} {a b : List Stmt} {Q : QF} (h : w (.t t ρ F H (kIf w a b (kMid (St (fun p : α × β × γ => R p.1 p.2.1 p.2.2) F (fun p => Hh p.1 p.2.1 p.2.2) (fun p => P p.1 p.2.1 p.2.2)) Q)))) (k : ∀ a1 a2 a3, P a1 a2 a3 → Q .next (R a1 a2 a3) F (Hh a1 a2 a3)) : IfW C w t a b ρ F H Q :=
  .st _ _ _ h fun p h => k (p.1) (p.2.1) (p.2.2) h
theorem ForW.s3 {α β γ : Type} {tg : Expr} {body : List Stmt} {x : V} {Q : QF} (ok : CxOk C F) {l : List V} (it : Iterable C.G C.A x l) (R : α → β → γ → Rho) (Hh : α → β → γ → Hp) (P : Nat → α → β → γ → Prop) (z1 : α) (z2 : β) (z3 : γ) (h0 : P 0 z1 z2 z3)
    (step : ∀ k y a1 a2 a3, l[k]? = some y → P k a1 a2 a3 → ∀ Qn : QU, (∀ a1 a2 a3, P (k + 1) a1 a2 a3 → Qn (R a1 a2 a3) F (Hh a1 a2 a3)) → asW C tg y (R a1 a2 a3) F (Hh a1 a2 a3) (kBody w body (kTurn Qn Q)))
    (fin : ∀ a1 a2 a3, P l.length a1 a2 a3 → Q .next (R a1 a2 a3) F (Hh a1 a2 a3)) : ForW C w tg body x (R z1 z2 z3) F (Hh z1 z2 z3) Q :=
  .st ok it (fun p : α × β × γ => R p.1 p.2.1 p.2.2) (fun p => Hh p.1 p.2.1 p.2.2) (fun k p => P k p.1 p.2.1 p.2.2) (z1, z2, z3) h0 (fun k y p hy h Qn hn => step k y (p.1) (p.2.1) (p.2.2) hy h Qn fun a1 a2 a3 h => hn (a1, a2, a3) h) fun p h => fin (p.1) (p.2.1) (p.2.2) h
theorem WhileW.s3 {α β γ : Type} {test : Expr} {body : List Stmt} {p : Pos} {Q : QF} (ok : CxOk C F) (k : Nat) (R : α → β → γ → Rho) (Hh : α → β → γ → Hp) (μ : α → β → γ → Nat) (P : α → β → γ → Prop) (z1 : α) (z2 : β) (z3 : γ) (h0 : P z1 z2 z3)
    (step : ∀ a1 a2 a3, P a1 a2 a3 → ∀ Qn : QU, (∀ b1 b2 b3, μ b1 b2 b3 < μ a1 a2 a3 → P b1 b2 b3 → Qn (R b1 b2 b3) F (Hh b1 b2 b3)) → W C k (.t test (R a1 a2 a3) F (Hh a1 a2 a3) (kWh (W C k) body (kTurn Qn Q) Q))) : SmS C (.While test body [] p) (R z1 z2 z3) F (Hh z1 z2 z3) Q :=
  WhileW.st ok k (fun p : α × β × γ => R p.1 p.2.1 p.2.2) (fun p => Hh p.1 p.2.1 p.2.2) (fun p => μ p.1 p.2.1 p.2.2) (fun p => P p.1 p.2.1 p.2.2) (z1, z2, z3) h0 fun p h Qn hn => step (p.1) (p.2.1) (p.2.2) h Qn fun a1 a2 a3 hm h => hn (a1, a2, a3) hm h
theorem IfW.s4 {α β γ δ : Type} (R : α → β → γ → δ → Rho) (Hh : α → β → γ → δ → Hp) (P : α → β → γ → δ → Prop) {t : Expr} {a b : List Stmt} {Q : QF} (h : w (.t t ρ F H (kIf w a b (kMid (St (fun p : α × β × γ × δ => R p.1 p.2.1 p.2.2.1 p.2.2.2) F (fun p => Hh p.1 p.2.1 p.2.2.1 p.2.2.2) (fun p => P p.1 p.2.1 p.2.2.1 p.2.2.2)) Q)))) (k : ∀ a1 a2 a3 a4, P a1 a2 a3 a4 → Q .next (R a1 a2 a3 a4) F (Hh a1 a2 a3 a4)) : IfW C w t a b ρ F H Q :=
  .st _ _ _ h fun p h => k (p.1) (p.2.1) (p.2.2.1) (p.2.2.2) h
theorem ForW.s4 {α β γ δ : Type} {tg : Expr} {body : List Stmt} {x : V} {Q : QF} (ok : CxOk C F) {l : List V} (it : Iterable C.G C.A x l) (R : α → β → γ → δ → Rho) (Hh : α → β → γ → δ → Hp) (P : Nat → α → β → γ → δ → Prop) (z1 : α) (z2 : β) (z3 : γ) (z4 : δ) (h0 : P 0 z1 z2 z3 z4)
    (step : ∀ k y a1 a2 a3 a4, l[k]? = some y → P k a1 a2 a3 a4 → ∀ Qn : QU, (∀ a1 a2 a3 a4, P (k + 1) a1 a2 a3 a4 → Qn (R a1 a2 a3 a4) F (Hh a1 a2 a3 a4)) → asW C tg y (R a1 a2 a3 a4) F (Hh a1 a2 a3 a4) (kBody w body (kTurn Qn Q)))
    (fin : ∀ a1 a2 a3 a4, P l.length a1 a2 a3 a4 → Q .next (R a1 a2 a3 a4) F (Hh a1 a2 a3 a4)) : ForW C w tg body x (R z1 z2 z3 z4) F (Hh z1 z2 z3 z4) Q :=
  .st ok it (fun p : α × β × γ × δ => R p.1 p.2.1 p.2.2.1 p.2.2.2) (fun p => Hh p.1 p.2.1 p.2.2.1 p.2.2.2) (fun k p => P k p.1 p.2.1 p.2.2.1 p.2.2.2) (z1, z2, z3, z4) h0 (fun k y p hy h Qn hn => step k y (p.1) (p.2.1) (p.2.2.1) (p.2.2.2) hy h Qn fun a1 a2 a3 a4 h => hn (a1, a2, a3, a4) h) fun p h => fin (p.1) (p.2.1) (p.2.2.1) (p.2.2.2) h
theorem WhileW.s4 {α β γ δ : Type} {test : Expr} {body : List Stmt} {p : Pos} {Q : QF} (ok : CxOk C F) (k : Nat) (R : α → β → γ → δ → Rho) (Hh : α → β → γ → δ → Hp) (μ : α → β → γ → δ → Nat) (P : α → β → γ → δ → Prop) (z1 : α) (z2 : β) (z3 : γ) (z4 : δ) (h0 : P z1 z2 z3 z4)
    (step : ∀ a1 a2 a3 a4, P a1 a2 a3 a4 → ∀ Qn : QU, (∀ b1 b2 b3 b4, μ b1 b2 b3 b4 < μ a1 a2 a3 a4 → P b1 b2 b3 b4 → Qn (R b1 b2 b3 b4) F (Hh b1 b2 b3 b4)) → W C k (.t test (R a1 a2 a3 a4) F (Hh a1 a2 a3 a4) (kWh (W C k) body (kTurn Qn Q) Q))) : SmS C (.While test body [] p) (R z1 z2 z3 z4) F (Hh z1 z2 z3 z4) Q :=
  WhileW.st ok k (fun p : α × β × γ × δ => R p.1 p.2.1 p.2.2.1 p.2.2.2) (fun p => Hh p.1 p.2.1 p.2.2.1 p.2.2.2) (fun p => μ p.1 p.2.1 p.2.2.1 p.2.2.2) (fun p => P p.1 p.2.1 p.2.2.1 p.2.2.2) (z1, z2, z3, z4) h0 fun p h Qn hn => step (p.1) (p.2.1) (p.2.2.1) (p.2.2.2) h Qn fun a1 a2 a3 a4 hm h => hn (a1, a2, a3, a4) hm h
theorem WhileW.s6 {α β γ δ ε ζ : Type} {test : Expr} {body : List Stmt} {p : Pos} {Q : QF} (ok : CxOk C F) (k : Nat) (R : α → β → γ → δ → ε → ζ → Rho) (Hh : α → β → γ → δ → ε → ζ → Hp) (μ : α → β → γ → δ → ε → ζ → Nat) (P : α → β → γ → δ → ε → ζ → Prop) (z1 : α) (z2 : β) (z3 : γ) (z4 : δ) (z5 : ε) (z6 : ζ) (h0 : P z1 z2 z3 z4 z5 z6)
    (step : ∀ a1 a2 a3 a4 a5 a6, P a1 a2 a3 a4 a5 a6 → ∀ Qn : QU, (∀ b1 b2 b3 b4 b5 b6, μ b1 b2 b3 b4 b5 b6 < μ a1 a2 a3 a4 a5 a6 → P b1 b2 b3 b4 b5 b6 → Qn (R b1 b2 b3 b4 b5 b6) F (Hh b1 b2 b3 b4 b5 b6)) → W C k (.t test (R a1 a2 a3 a4 a5 a6) F (Hh a1 a2 a3 a4 a5 a6) (kWh (W C k) body (kTurn Qn Q) Q))) : SmS C (.While test body [] p) (R z1 z2 z3 z4 z5 z6) F (Hh z1 z2 z3 z4 z5 z6) Q :=
  WhileW.st ok k (fun p : α × β × γ × δ × ε × ζ => R p.1 p.2.1 p.2.2.1 p.2.2.2.1 p.2.2.2.2.1 p.2.2.2.2.2) (fun p => Hh p.1 p.2.1 p.2.2.1 p.2.2.2.1 p.2.2.2.2.1 p.2.2.2.2.2) (fun p => μ p.1 p.2.1 p.2.2.1 p.2.2.2.1 p.2.2.2.2.1 p.2.2.2.2.2) (fun p => P p.1 p.2.1 p.2.2.1 p.2.2.2.1 p.2.2.2.2.1 p.2.2.2.2.2) (z1, z2, z3, z4, z5, z6) h0 fun p h Qn hn => step (p.1) (p.2.1) (p.2.2.1) (p.2.2.2.1) (p.2.2.2.2.1) (p.2.2.2.2.2) h Qn fun a1 a2 a3 a4 a5 a6 hm h => hn (a1, a2, a3, a4, a5, a6) hm h
theorem ForW.s7 {α β γ δ ε ζ η : Type} {tg : Expr} {body : List Stmt} {x : V} {Q : QF} (ok : CxOk C F) {l : List V} (it : Iterable C.G C.A x l) (R : α → β → γ → δ → ε → ζ → η → Rho) (Hh : α → β → γ → δ → ε → ζ → η → Hp) (P : Nat → α → β → γ → δ → ε → ζ → η → Prop) (z1 : α) (z2 : β) (z3 : γ) (z4 : δ) (z5 : ε) (z6 : ζ) (z7 : η) (h0 : P 0 z1 z2 z3 z4 z5 z6 z7)
    (step : ∀ k y a1 a2 a3 a4 a5 a6 a7, l[k]? = some y → P k a1 a2 a3 a4 a5 a6 a7 → ∀ Qn : QU, (∀ a1 a2 a3 a4 a5 a6 a7, P (k + 1) a1 a2 a3 a4 a5 a6 a7 → Qn (R a1 a2 a3 a4 a5 a6 a7) F (Hh a1 a2 a3 a4 a5 a6 a7)) → asW C tg y (R a1 a2 a3 a4 a5 a6 a7) F (Hh a1 a2 a3 a4 a5 a6 a7) (kBody w body (kTurn Qn Q)))
    (fin : ∀ a1 a2 a3 a4 a5 a6 a7, P l.length a1 a2 a3 a4 a5 a6 a7 → Q .next (R a1 a2 a3 a4 a5 a6 a7) F (Hh a1 a2 a3 a4 a5 a6 a7)) : ForW C w tg body x (R z1 z2 z3 z4 z5 z6 z7) F (Hh z1 z2 z3 z4 z5 z6 z7) Q :=
  .st ok it (fun p : α × β × γ × δ × ε × ζ × η => R p.1 p.2.1 p.2.2.1 p.2.2.2.1 p.2.2.2.2.1 p.2.2.2.2.2.1 p.2.2.2.2.2.2) (fun p => Hh p.1 p.2.1 p.2.2.1 p.2.2.2.1 p.2.2.2.2.1 p.2.2.2.2.2.1 p.2.2.2.2.2.2) (fun k p => P k p.1 p.2.1 p.2.2.1 p.2.2.2.1 p.2.2.2.2.1 p.2.2.2.2.2.1 p.2.2.2.2.2.2) (z1, z2, z3, z4, z5, z6, z7) h0 (fun k y p hy h Qn hn => step k y (p.1) (p.2.1) (p.2.2.1) (p.2.2.2.1) (p.2.2.2.2.1) (p.2.2.2.2.2.1) (p.2.2.2.2.2.2) hy h Qn fun a1 a2 a3 a4 a5 a6 a7 h => hn (a1, a2, a3, a4, a5, a6, a7) h) fun p h => fin (p.1) (p.2.1) (p.2.2.1) (p.2.2.2.1) (p.2.2.2.2.1) (p.2.2.2.2.2.1) (p.2.2.2.2.2.2) h
inductive TB (b : Bool) (ρ : Rho) (F : Fz) (H : Hp) : QB where
  | mk {c : Bool} (h : c = b) : TB b ρ F H c ρ F H
theorem bifW.tb {b x : Bool} (h : b = x) : bifW b (TB x ρ F H true ρ F H) (TB x ρ F H false ρ F H) := by
  cases b with
  | true => exact .mk h
  | false => exact .mk h
theorem IfW.t (c : Bool) {t : Expr} {a b : List Stmt} {Q : QF} (h : w (.t t ρ F H (TB c ρ F H))) (k : kIf w a b Q c ρ F H) : IfW C w t a b ρ F H Q :=
  .mk _ _ h (fun c1 ρ1 F1 H1 _ q => by
    cases q with
    | mk h => subst h; exact k) fun _ _ _ _ _ q => q
theorem Cl.permQ {G : Glob} {fr : List Env} {A : Around} {F : Fz} {H : Hp} {f : V} {xs : List V} {Q : V → Fz → Hp → Prop} {E : Value → Fz → Hp → Prop} (h : Cl G fr A F H f xs (fun x F1 H1 => ∃ H2, H1.Perm H2 ∧ Q x F1 H2) E) : Cl G fr A F H f xs Q E := fun K m v vs hv hvs R s hR =>
  wpAny_mono (h K m v vs hv hvs R s hR) (fun _ _ q => by obtain ⟨F1, H1, l, r, x, hx, F2, m2, H2, p, q⟩ := q; exact ⟨F1, H2, l, r.perm (p.append_right R), x, hx, F2, m2, q⟩) fun _ _ q => q
inductive At (ρ : Rho) (F : Fz) (H : Hp) : QU where
  | mk : At ρ F H ρ F H
theorem At.of {ρ ρ' : Rho} {F : Fz} {H : Hp} (e : ρ = ρ') : At ρ' F H ρ F H := by subst e; exact .mk
theorem IfW.at (ρ1 : Rho) (H1 : Hp) {t : Expr} {a b : List Stmt} {Q : QF} (h : w (.t t ρ F H (kIf w a b (kMid (At ρ1 F H1) Q)))) (k : Q .next ρ1 F H1) : IfW C w t a b ρ F H Q :=
  .mid _ h fun ρ F H _ q => by
    cases q with
    | mk => exact k
theorem bifW.no {b : Bool} {P Q : Prop} (e : b = false) (h : Q) : bifW b P Q := by subst e; exact h
theorem bifW.yes {b : Bool} {P Q : Prop} (e : b = true) (h : P) : bifW b P Q := by subst e; exact h
end
noncomputable def okScope (scope : Scope) : Bool := (!scope.isCoroutine && !scope.isGenerator) && (decide (scope.kind = .function) && scope.names.all fun p => !(p.1 == ("__debug__" : Str)) && !(p.1 == ("__classdict__" : Str)))
noncomputable def okDef (ns rest : List Str) (scope : Scope) : Bool := (decide (ns ++ rest).Nodup && (scope.names.all fun x => x.2 != .cell)) && ((ns.all fun x => decide (scope.names.lookup x = some .local)) && okScope scope)
theorem okScope.ok {scope : Scope} {G : Glob} {fr : List Env} {A : Around} {F : Fz} {qual : Str} {L a : Addr} {cd : Value} {cl : List (Str × Addr)} {gl fl : List (Str × V)} {E : Value → Fz → Hp → Prop} (h : okScope scope = true) (hh : A.handled = none) (nt : Noted G (envX qual scope L a cd cl :: fr) A (envX qual scope L a cd cl) E) (hg : ∀ p ∈ gl, GlIs G F p.1 p.2)
    (hf : ∀ p ∈ fl, FrIs (envX qual scope L a cd cl) F p.1 p.2) : CxOk ⟨G, envX qual scope L a cd cl :: fr, A, envX qual scope L a cd cl, gl, fl, E, true⟩ F where
  kind := of_decide_eq_true (and_l (and_r h))
  glob := rfl
  blt := rfl
  dbg := and_r (and_r h)
  nt := nt
  hd := fun _ => hh
  gls := hg
  fls := hf
theorem bnot {b : Bool} (h : (!b) = true) : b = false := by cases b with | false => rfl | true => cases h
section
variable {G : Glob} {fr : List Env} {A : Around} {F : Fz} {H : Hp} {Q : V → Fz → Hp → Prop} {n : Nat}
theorem def_w {gl : List (Str × V)} (hg : ∀ p ∈ gl, GlIs G F p.1 p.2) {a : Addr} {fo : Obj} {name qual : Str} {params : Arguments} {scope : Scope} {dV kV doc pm cdv ct : Value} {an : Option Addr} {body : List Stmt} {xs : List V} (hf : F a = some fo)
    (hd : fo.data = .func (fnX name qual params body scope [] dV kV doc pm an cdv ct)) (hcd : CodeF F cdv qual) (hA : Ok fr A (n + 1))
    (ns rest : List Str) (hn : ns.length = xs.length) (hok : okDef ns rest scope = true) (hbind : ∀ vs : List Value, vs.length = xs.length → bindArgs (fnX name qual params body scope [] dV kV doc pm an cdv ct) ⟨vs, []⟩ = pure (ns.zip vs))
    (h : ∀ L A', Ok (envX qual scope L a cdv [] :: fr) A' n → CxOk ⟨G, envX qual scope L a cdv [] :: fr, A', envX qual scope L a cdv [], gl, [], No, true⟩ F → W ⟨G, envX qual scope L a cdv [] :: fr, A', envX qual scope L a cdv [], gl, [], No, true⟩ 90 (.s body (mkRho ns xs rest) F H (kRt Q))) : Cl G fr A F H (.ref a) xs Q No :=
  call_def (E' := fun _ => No) hf hd hcd ns rest hn (of_decide_eq_true (and_l (and_l hok))) hbind (and_r (and_l hok)) (and_l (and_r hok)) hA.room (fun _ => leaves_no) (fun L A' hD => by
    have ok := okScope.ok (G := G) (fr := fr) (qual := qual) (L := L) (a := a) (cd := cdv) (cl := []) (fl := []) (and_r (and_r hok)) (hA.deep hD).handled noted_no hg (nofun)
    exact W.ex 90 ok (h L A' (hA.deep hD) ok)) (bnot (and_l (and_l (and_r (and_r hok))))) (bnot (and_r (and_l (and_r (and_r hok))))) (of_decide_eq_true (and_l (and_r (and_r (and_r hok)))))
theorem Cl.upd1 {f r : V} {xs : List V} {a : Addr} {x x' : AO} {H' : Hp} {E : Value → Fz → Hp → Prop} (hu : Upd H a x x' H') (h : ∀ Q : V → Fz → Hp → Prop, Q r F [(a, x')] → Cl G fr A F [(a, x)] f xs Q No) (q : Q r F H') : Cl G fr A F H f xs Q E := fun K m v vs hv hvs R s hR => by
  obtain ⟨H0, p1, p2⟩ := hu.split
  refine wpAny_mono (h (fun x F1 H1 => x = r ∧ F1 = F ∧ H1 = [(a, x')]) ⟨rfl, rfl, rfl⟩ K m v vs hv hvs (H0 ++ R) s (hR.perm (p1.append_right R))) (fun v1 s1 hq => ?_) fun e s1 hq => (noPQ (v := e) hq).elim
  obtain ⟨K1, H1, l1, r1, y, hy, F1, m1, rfl, rfl, rfl⟩ := hq
  exact ⟨K1, H', l1, r1.perm (p2.append_right R).symm, _, hy, _, m1, q⟩
theorem def_c {gl : List (Str × V)} (hg : ∀ p ∈ gl, GlIs G F p.1 p.2) {a : Addr} {fo : Obj} {name qual : Str} {params : Arguments} {scope : Scope} {dV kV doc pm cdv ct : Value} {an : Option Addr} {body : List Stmt} {xs : List V} (hf : F a = some fo)
    (hd : fo.data = .func (fnX name qual params body scope [] dV kV doc pm an cdv ct)) (hcd : CodeF F cdv qual) (hA : Ok fr A (n + 1))
    (ks : List Bool) (ns rest cns : List Str) {inits : List (Option V)} (hn : ns.length = xs.length) (hnd : (decide (ns ++ rest).Nodup && (decide (namesB ks ns ++ rest).Nodup && okScope scope)) = true) (hbind : ∀ vs : List Value, vs.length = xs.length → bindArgs (fnX name qual params body scope [] dV kV doc pm an cdv ct) ⟨vs, []⟩ = pure (ns.zip vs))
    (hkind : kindB (fun x => scope.names.lookup x) ks ns = true) (hcm : ((ks.zip ns).all fun p => p.1 || cns.contains p.2) = true) (hcn : ∀ n, (cellsFrom n scope.names []).map (·.1) = cns) (hcnd : cns.Nodup) (hck : (cns.all fun x => decide (scope.names.lookup x = some .cell)) = true) (hin : cns.map (initB ks ns xs) = inits)
    (h : ∀ L cs A', cs.length = cns.length → Ok (envX qual scope L a cdv (cns.zip cs) :: fr) A' n → CxOk ⟨G, envX qual scope L a cdv (cns.zip cs) :: fr, A', envX qual scope L a cdv (cns.zip cs), gl, [], No, true⟩ F →
      W ⟨G, envX qual scope L a cdv (cns.zip cs) :: fr, A', envX qual scope L a cdv (cns.zip cs), gl, [], No, true⟩ 90 (.s body (mkRhoB ks ns xs rest) F (cs.zip (inits.map AO.cell) ++ H) (kRt Q))) : Cl G fr A F H (.ref a) xs Q No :=
  call_cells (E' := fun _ => No) hf hd hcd ks ns rest cns hn (of_decide_eq_true (and_l hnd)) (of_decide_eq_true (and_l (and_r hnd))) hbind hkind hcm hcn hcnd hck hin hA.room (fun _ _ => leaves_no) (fun L cs A' hcs hD => by
    have ok := okScope.ok (G := G) (fr := fr) (qual := qual) (L := L) (a := a) (cd := cdv) (cl := cns.zip cs) (fl := []) (and_r (and_r hnd)) (hA.deep hD).handled noted_no hg (nofun)
    exact W.ex 90 ok (h L cs A' hcs (hA.deep hD) ok)) (bnot (and_l (and_l (and_r (and_r hnd))))) (bnot (and_r (and_l (and_r (and_r hnd))))) (of_decide_eq_true (and_l (and_r (and_r (and_r hnd)))))
theorem def_code {gl : List (Str × V)} (hg : ∀ p ∈ gl, GlIs G F p.1 p.2) {a : Addr} {fo : Obj} {name qual : Str} {params : Arguments} {scope : Scope} {dV kV doc pm cdv ct : Value} {an : Option Addr} {body : List Stmt} {xs : List V} (hf : F a = some fo)
    (hd : fo.data = .func (fnX name qual params body scope [] dV kV doc pm an cdv ct)) (hcd : CodeF F cdv qual) (hA : Ok fr A (n + 1))
    (ks : List Bool) (ns rest cns : List Str) {inits : List (Option V)} (hn : ns.length = xs.length) (hnd : (decide (ns ++ rest).Nodup && (decide (namesB ks ns ++ rest).Nodup && okScope scope)) = true) (hbind : ∀ vs : List Value, vs.length = xs.length → bindArgs (fnX name qual params body scope [] dV kV doc pm an cdv ct) ⟨vs, []⟩ = pure (ns.zip vs))
    (hkind : kindB (fun x => scope.names.lookup x) ks ns = true) (hcm : ((ks.zip ns).all fun p => p.1 || cns.contains p.2) = true) (hcn : ∀ n, (cellsFrom n scope.names []).map (·.1) = cns) (hcnd : cns.Nodup) (hck : (cns.all fun x => decide (scope.names.lookup x = some .cell)) = true) (hin : cns.map (initB ks ns xs) = inits)
    (h : ∀ L cs A', cs.length = cns.length → Ok (envX qual scope L a cdv (cns.zip cs) :: fr) A' n → CxOk ⟨G, envX qual scope L a cdv (cns.zip cs) :: fr, A', envX qual scope L a cdv (cns.zip cs), gl, [], No, true⟩ F →
      W ⟨G, envX qual scope L a cdv (cns.zip cs) :: fr, A', envX qual scope L a cdv (cns.zip cs), gl, [], No, true⟩ 90 (.s body (mkRhoB ks ns xs rest) F (cs.zip (inits.map AO.cell) ++ H) (kRt Q)))
    {vs : List Value} (hvs : RVs F vs xs) {R : Hp} {s : Shared} (hR : Rep G fr F (H ++ R) s) :
    codeAny G.M A (.call (.ref a) ⟨vs, []⟩) (fun r s' => match r with | .ok (.ret v) => PQ G fr F R (VQ Q) v s' | .ok _ => False | .error e => PQ G fr F R (fun e => Dn (No e)) e s') s :=
  code_cells (E' := fun _ => No) hf hd hcd ks ns rest cns hn (of_decide_eq_true (and_l hnd)) (of_decide_eq_true (and_l (and_r hnd))) hbind hkind hcm hcn hcnd hck hin hA.room (fun _ _ => leaves_no) (fun L cs A' hcs hD => by
    have ok := okScope.ok (G := G) (fr := fr) (qual := qual) (L := L) (a := a) (cd := cdv) (cl := cns.zip cs) (fl := []) (and_r (and_r hnd)) (hA.deep hD).handled noted_no hg (nofun)
    exact W.ex 90 ok (h L cs A' hcs (hA.deep hD) ok)) (.refl F) hvs hR (bnot (and_l (and_l (and_r (and_r hnd))))) (bnot (and_r (and_l (and_r (and_r hnd))))) (of_decide_eq_true (and_l (and_r (and_r (and_r hnd)))))
theorem fn_w {gl fl : List (Str × V)} (hg : ∀ p ∈ gl, GlIs G F p.1 p.2) {a : Addr} {name qual : Str} {params : Arguments} {scope : Scope} {cl : List (Str × Addr)} {body : List Stmt} {xs : List V} (hf : FnF F a name qual params body scope cl) (hfl : ∀ p ∈ fl, ∃ c, cl.lookup p.1 = some c ∧ CellF F c p.2) (hA : Ok fr A (n + 1))
    (ns rest : List Str) (hn : ns.length = xs.length) (hok : okDef ns rest scope = true) (hbind : ∀ doc pm c ctv, ∀ vs : List Value, vs.length = xs.length → bindArgs (fnX name qual params body scope cl .none .none doc pm none c ctv) ⟨vs, []⟩ = pure (ns.zip vs))
    (h : ∀ L A' cdv, Ok (envX qual scope L a cdv cl :: fr) A' n → CxOk ⟨G, envX qual scope L a cdv cl :: fr, A', envX qual scope L a cdv cl, gl, fl, No, true⟩ F → W ⟨G, envX qual scope L a cdv cl :: fr, A', envX qual scope L a cdv cl, gl, fl, No, true⟩ 90 (.s body (mkRho ns xs rest) F H (kRt Q))) : Cl G fr A F H (.ref a) xs Q No :=
  call_fn (E' := fun _ => No) hf ns rest hn (of_decide_eq_true (and_l (and_l hok))) hbind (and_r (and_l hok)) (and_l (and_r hok)) hA.room (fun _ _ => leaves_no) (fun L A' cdv hD => by
    have ok := okScope.ok (G := G) (fr := fr) (qual := qual) (L := L) (a := a) (cd := cdv) (cl := cl) (fl := fl) (and_r (and_r hok)) (hA.deep hD).handled noted_no hg (fun p hp => by obtain ⟨c, h1, h2⟩ := hfl p hp; exact ⟨c, h1, h2⟩)
    exact W.ex 90 ok (h L A' cdv (hA.deep hD) ok)) (bnot (and_l (and_l (and_r (and_r hok))))) (bnot (and_r (and_l (and_r (and_r hok))))) (of_decide_eq_true (and_l (and_r (and_r (and_r hok)))))
end
section
variable {C : Cx} {ρ : Rho} {F : Fz} {H H1 : Hp} {Q : QF}
theorem W_def {name : Str} {params : Arguments} {body : List Stmt} {scope : Scope} {pos : Pos} {c P : Addr} {l : List (Nat × Nat × Addr)} {clos : List (Str × Addr)} (ok : CxOk C F)
    (hcode : C.env.code = .ref c) (hC : CodeOk F c P) (hB : BOk C.G P) (hrem : Rem H P (.raw (tabObj (tabOf l))) H1) (hnew : tabFind pos l = none) (hcl : closureFor scope C.env = pure clos)
    (hd0 : params.defaults = []) (hk0 : params.kw_defaults = []) (ha : annTrees params none C.env = [])
    (h : ∀ f c' F', F.le F' → FnF F' f name (qualnameIn C.env name name) params body scope clos → CxOk C F' → stoW C name (.ref f) ρ F' ((P, .raw (tabObj (tabOf (l ++ [(pos.line, pos.col, c')])))) :: H1) Q) :
    SmS C (.FunctionDef name params body [] none [] scope none name pos) ρ F H Q :=
  Ex_FunctionDef hcode hC hB (.tl hrem) hnew hcl (fun f c' F' le hf K m v hv R s hR => by
    have r := stoW.sound (ok.mono le) (h f c' F' le hf (ok.mono le)) K m v hv R s (hR.perm (.swap ..))
    exact r) hd0 hk0 ha ok.glob
theorem W_cellF {st : Stmt} {c : Addr} {y : V} (hr : Rem H c (.cell (some y)) H1) (h : ∀ F', F.le F' → CellF F' c y → SmS C st ρ F' H1 Q) : SmS C st ρ F H Q := fun K m R s hR => by
  obtain ⟨o, ⟨v, hd, hv⟩, le, r⟩ := Rep.freeze (hR.perm ((Rem.tl hr : Rem (fm C ρ H) c (.cell (some y)) (fm C ρ H1)).perm.append_right R)) (fun _ e => nomatch e)
  exact Ex.last (h _ (m.trans le) ⟨o, v, Fz.add_self _ _ _, hd, hv.mono le⟩) (.refl _) r le
end
section
variable {G : Glob} {fr : List Env} {A : Around} {F : Fz} {H : Hp} {Q : V → Fz → Hp → Prop} {P : Addr → String → List V → Bool → Fz → Hp → Prop} {n : Nat}
theorem Cl.no {f : V} {xs : List V} {E : Value → Fz → Hp → Prop} (h : Cl G fr A F H f xs Q No) : Cl G fr A F H f xs Q E := h.mono (fun _ _ _ q => q) fun _ _ _ e => e.elim
theorem Cl.keepE {f : V} {xs : List V} {E : Value → Fz → Hp → Prop} (h : Cl G fr A F H f xs Q E) : Cl G fr A F H f xs (fun x F1 H1 => F.le F1 ∧ Dn (Q x) F1 H1) fun e F1 H1 => F.le F1 ∧ Dn (E e) F1 H1 := fun K m v vs hv hvs R s hR =>
  wpAny_mono (h K m v vs hv hvs R s hR) (fun _ _ q => by obtain ⟨F1, H1, l, r, x, hx, F2, m2, q⟩ := q; exact ⟨F1, H1, l, r, x, hx, F1, .refl _, m.trans l, F2, m2, q⟩) fun _ _ q => by obtain ⟨F1, H1, l, r, F2, m2, q⟩ := q; exact ⟨F1, H1, l, r, F1, .refl _, m.trans l, F2, m2, q⟩
theorem Cl.dnE {f : V} {xs : List V} (h : Cl G fr A F H f xs (fun x => Dn (Q x)) (Thr0 fun x c a b => Dn (P x c a b))) : Cl G fr A F H f xs Q (Thr0 P) := fun K m v vs hv hvs R s hR =>
  wpAny_mono (Cl.dn h K m v vs hv hvs R s hR) (fun _ _ q => q) fun _ _ q => by
    obtain ⟨F1, H1, l, r, F2, m2, x, c, a, tb, b, H2, e1, e2, F3, l3, q⟩ := q
    exact ⟨F1, H1, l, r, F3, l3.trans m2, x, c, a, tb, b, H2, e1, e2, q⟩
theorem fn_e {gl fl : List (Str × V)} (hg : ∀ p ∈ gl, GlIs G F p.1 p.2) {a : Addr} {name qual : Str} {params : Arguments} {scope : Scope} {cl : List (Str × Addr)} {body : List Stmt} {xs : List V} (hf : FnF F a name qual params body scope cl) (hfl : ∀ p ∈ fl, ∃ c, cl.lookup p.1 = some c ∧ CellF F c p.2) (hA : Ok fr A (n + 1))
    (ns rest : List Str) (hn : ns.length = xs.length) (hok : okDef ns rest scope = true) (hbind : ∀ doc pm c ctv, ∀ vs : List Value, vs.length = xs.length → bindArgs (fnX name qual params body scope cl .none .none doc pm none c ctv) ⟨vs, []⟩ = pure (ns.zip vs))
    (h : ∀ L A' cdv, Deep A A' (envX qual scope L a cdv cl) → Ok (envX qual scope L a cdv cl :: fr) A' n → CxOk ⟨G, envX qual scope L a cdv cl :: fr, A', envX qual scope L a cdv cl, gl, fl, Thr0 (LvD L P), true⟩ F → W ⟨G, envX qual scope L a cdv cl :: fr, A', envX qual scope L a cdv cl, gl, fl, Thr0 (LvD L P), true⟩ 90 (.s body (mkRho ns xs rest) F H (kRt Q))) : Cl G fr A F H (.ref a) xs Q (Thr0 P) :=
  call_fn (E' := fun L => Thr0 (LvD L P)) hf ns rest hn (of_decide_eq_true (and_l (and_l hok))) hbind (and_r (and_l hok)) (and_l (and_r hok)) hA.room (fun L c => leaves_thrD (L := L) hA.frames rfl) (fun L A' cdv hD => by
    have ok := okScope.ok (G := G) (fr := fr) (qual := qual) (L := L) (a := a) (cd := cdv) (cl := cl) (fl := fl) (and_r (and_r hok)) (hA.deep hD).handled (noted_thr (P := LvD L P) (hA.deep hD).frames) hg (fun p hp => by obtain ⟨c, h1, h2⟩ := hfl p hp; exact ⟨c, h1, h2⟩)
    exact W.ex 90 ok (h L A' cdv hD (hA.deep hD) ok)) (bnot (and_l (and_l (and_r (and_r hok))))) (bnot (and_r (and_l (and_r (and_r hok))))) (of_decide_eq_true (and_l (and_r (and_r (and_r hok)))))
end
section
variable {C : Cx} {ρ : Rho} {F : Fz} {H : Hp}
theorem kE.thr {P : Addr → String → List V → Bool → Fz → Hp → Prop} {e : Value} (he : C.E = Thr0 (LvD C.env.locals P)) (h : Thr0 P e F H) : kE C ρ e F H := by
  show C.E e F (fm C ρ H)
  rw [he]
  exact Thr0.up (h.mono fun x c a b F1 H1 p => ⟨ρ, H1, H1, .hd, .nil, p⟩)
theorem kE.thrB {P : Addr → String → List V → Bool → Fz → Hp → Prop} {e : Value} (he : C.E = Thr0 P) (h : Thr0 (fun x c a b F H => P x c a b F (fm C ρ H)) e F H) : kE C ρ e F H := by
  show C.E e F (fm C ρ H)
  rw [he]
  exact Thr0.up h
theorem W_try (n : Nat) {outer : List Env} {body : List Stmt} {h₀ : ExceptHandler} {hs : List ExceptHandler} {pos : Pos} {Q : QF} (PB : Addr → String → List V → Bool → Fz → Hp → Prop) (ok : CxOk C F) (hfr : C.A.frames = some (C.env :: outer)) (hf : C.fr = C.env :: outer)
    (h : CxOk { C with E := Thr0 PB } F → W { C with E := Thr0 PB } n (.s body ρ F H fun fv ρ F H => CxOk C F ∧ Q fv ρ F H))
    (hd : ∀ x c args t cx F1 H1, PB x c args cx F1 H1 → Hd C.G (C.env :: outer) C.A C.env F1 ((x, .exc c args (some t) none cx) :: (t, .tb) :: H1) x (h₀ :: hs) (Un C Q) C.E) : SmS C (.Try body (h₀ :: hs) [] [] pos) ρ F H Q := by
  have ok2 : CxOk { C with E := Thr0 PB } F := ⟨ok.kind, ok.glob, ok.blt, ok.dbg, by show Noted C.G C.fr C.A C.env (Thr0 PB); rw [hf]; exact noted_thr hfr, ok.hd, ok.gls, ok.fls⟩
  have h1 := (W.sound n).s ok2 (h ok2)
  show Ex C.G C.fr C.A F (fm C ρ H) _ (Un C Q) C.E
  have h2 : Ex C.G C.fr C.A F (fm C ρ H) (execs body C.env) (Un C Q) (Thr0 PB) := h1.mono (fun x F1 H1 q => by obtain ⟨ρ1, H2, e, _, ok, q⟩ := q; exact ⟨ρ1, H2, e, ok, q⟩) fun _ _ _ e => e
  rw [hf] at h2 ⊢
  exact Ex_Try (outer := outer) hfr h2 hd
theorem W_finally (n : Nat) {outer : List Env} {body : List Stmt} {f₀ : Stmt} {fs : List Stmt} {pos : Pos} {Q : QF} {P : Addr → String → List V → Bool → Fz → Hp → Prop} (PB : Addr → String → List V → Bool → Fz → Hp → Prop) (he : C.E = Thr0 P) (ok : CxOk C F) (hfr : C.A.frames = some (C.env :: outer)) (hf : C.fr = C.env :: outer)
    (h : CxOk { C with E := Thr0 PB } F → W { C with E := Thr0 PB } n (.s body ρ F H fun fv ρ F H => CxOk { C with E := No } F ∧ W { C with E := No } n (.s (f₀ :: fs) ρ F H fun g ρ F H => g = .next ∧ CxOk C F ∧ Q fv ρ F H)))
    (hx : ∀ x c args t cx F1 H1, PB x c args cx F1 H1 → Ex C.G (C.env :: outer) (C.A.mark (some (.ref x))) F1 ((x, .exc c args (some t) none cx) :: (t, .tb) :: H1) (execs (f₀ :: fs) C.env) (fun g F2 H2 => g = .next ∧ ∃ H3, H2 = (x, .exc c args (some t) none cx) :: (t, .tb) :: H3 ∧ P x c args cx F2 H3) No) : SmS C (.Try body [] [] (f₀ :: fs) pos) ρ F H Q := by
  have ok2 : CxOk { C with E := Thr0 PB } F := ⟨ok.kind, ok.glob, ok.blt, ok.dbg, by show Noted C.G C.fr C.A C.env (Thr0 PB); rw [hf]; exact noted_thr hfr, ok.hd, ok.gls, ok.fls⟩
  have h1 := (W.sound n).s ok2 (h ok2)
  show Ex C.G C.fr C.A F (fm C ρ H) _ (Un C Q) C.E
  have h2 : Ex C.G C.fr C.A F (fm C ρ H) (execs body C.env) (fun fv F1 H1 => Ex C.G C.fr C.A F1 H1 (execs (f₀ :: fs) C.env) (fun g F2 H2 => g = .next ∧ Un C Q fv F2 H2) No) (Thr0 PB) := h1.mono (fun x F1 H1 q => by
    obtain ⟨ρ1, H2, e, _, ok3, q⟩ := q
    subst e
    exact ((W.sound n).s (C := { C with E := No }) ok3 q).mono (fun g F3 H3 q => by obtain ⟨ρ1, H2, e, _, q1, q2, q3⟩ := q; exact ⟨q1, ρ1, H2, e, q2, q3⟩) fun _ _ _ e => e) fun _ _ _ e => e
  rw [he]
  rw [hf] at h2 ⊢
  exact Ex_Finally (outer := outer) hfr h2 hx
inductive Rz (C : Cx) (ρ : Rho) (x : V) (F : Fz) (H : Hp) : Prop where
  | mk (a : Addr) (c : String) (args : List V) (cx : Bool) (e : x = .ref a) (hm : Has H a (.exc c args none none cx)) (hf : ExcRaiseFacts c) (h : kE C ρ (.ref a) F H)
theorem W_raise (n : Nat) {e : Expr} {pos : Pos} {Q : QF} (ok : CxOk C F) (hh : C.A.handled = none) (h : W C n (.e e ρ F H fun x ρ F H => Rz C ρ x F H)) : SmS C (.Raise (some e) none pos) ρ F H Q :=
  Ex_Raise hh ((W.sound n).k ok h fun x ρ F H ok q => by
    obtain ⟨a, c, args, cx, e, hm, hf, h⟩ := q
    exact ⟨a, c, args, cx, e, .tl hm, hf, h⟩)
end
noncomputable def stm (n : Nat) : Option Stmt := PySem.Challenge.pw_dm0199_02.main.body[n]?
noncomputable def sub (s : Option Stmt) (n : Nat) : Option Stmt := match s with
  | some (.FunctionDef _ _ body _ _ _ _ _ _ _) => body[n]?
  | _ => none
inductive FnS (F : Fz) (f : Addr) (st : Option Stmt) (qual : Str) (clos : List (Str × Addr)) : Prop where
  | intro (name : Str) (params : Arguments) (body : List Stmt) (scope : Scope) (pos : Pos) (h1 : st = some (.FunctionDef name params body [] none [] scope none name pos)) (h2 : FnF F f name qual params body scope clos)
theorem FnS.mono {F F' : Fz} {f : Addr} {st : Option Stmt} {qual : Str} {clos : List (Str × Addr)} (le : F.le F') (h : FnS F f st qual clos) : FnS F' f st qual clos := by obtain ⟨a, b, c, d, e, g, k⟩ := h; exact ⟨a, b, c, d, e, g, k.mono le⟩
theorem FnS.ok {F : Fz} {f : Addr} {st : Option Stmt} {qual : Str} {clos : List (Str × Addr)} (h : FnS F f st qual clos) : KOk F (.ref f) := by obtain ⟨_, _, _, _, _, _, k⟩ := h; exact k.ok
inductive Cap (F : Fz) (clos : List (Str × Addr)) (x : Str) (y : V) : Prop where
  | intro (c : Addr) (h1 : clos.lookup x = some c) (h2 : CellF F c y)
theorem Cap.out {F : Fz} {clos : List (Str × Addr)} {x : Str} {y : V} (h : Cap F clos x y) : ∃ c, clos.lookup x = some c ∧ CellF F c y := by obtain ⟨c, h1, h2⟩ := h; exact ⟨c, h1, h2⟩
structure Parts where
  po : V
  pa : V
  ps : V
  mb : Addr
  st : V
  pf : V
  pi : V
  pc : V
  oh : V
  oph : V
  mm : V
inductive ScanF (F : Fz) (f : Addr) (p : Parts) : Prop where
  | intro (qual : Str) (clos : List (Str × Addr)) (pat : Addr) (h0 : FnS F f (sub (stm 3) 11) qual clos) (h1 : Cap F clos "parse_object" p.po) (h2 : Cap F clos "parse_array" p.pa) (h3 : Cap F clos "parse_string" p.ps) (h4 : Cap F clos "match_number" (.ref p.mb)) (h5 : Cap F clos "strict" p.st) (h6 : Cap F clos "parse_float" p.pf) (h7 : Cap F clos "parse_int" p.pi) (h8 : Cap F clos "parse_constant" p.pc)
    (h9 : Cap F clos "object_hook" p.oh) (h10 : Cap F clos "object_pairs_hook" p.oph) (h11 : Cap F clos "memo" p.mm) (h12 : Cap F clos "_scan_once" (.ref f)) (hb : BoundF F p.mb pat) (o1 : KOk F p.po) (o2 : KOk F p.pa) (o3 : KOk F p.ps) (o4 : KOk F p.pf) (o5 : KOk F p.pi) (o6 : KOk F p.pc)
noncomputable def gtx (T : Str) : Option (Nat × Nat) → Str
  | none => ""
  | some (x, y) => ⟨T.cps.extract x y⟩
noncomputable def gok (T : Str) : Option (Nat × Nat) → Prop
  | none => True
  | some (x, y) => x < y ∧ y ≤ T.cps.size
theorem gtx_len {T : Str} {o : Option (Nat × Nat)} : (gtx T o).length ≤ T.cps.size := by
  cases o with
  | none => exact Nat.zero_le _
  | some p => exact len_le
section
variable {G : Glob} {fr : List Env} {A : Around} {env : Env} {F : Fz} {H : Hp} {E : Value → Fz → Hp → Prop} {T : Str}
theorem tr_grp {o : Option (Nat × Nat)} {Q : Bool → Fz → Hp → Prop} (hT : T.cps.size ≤ 1000000) (ho : gok T o) (h : Q o.isSome F H) : Tr G fr A F H (grp? T o) Q E := by
  cases o with
  | none => exact tr_none h
  | some p =>
    obtain ⟨x, y⟩ := p
    have hl : (T.cps.extract x y).size = y - x := by rw [Array.size_extract, Nat.min_eq_left ho.2]
    refine tr_str (x := ⟨T.cps.extract x y⟩) ?_ ?_
    · show ((T.cps.extract x y).size : Int) < _
      rw [hl]; exact Int.lt_of_le_of_lt (Int.ofNat_le.mpr (Nat.le_trans (Nat.sub_le _ _) (Nat.le_trans ho.2 hT))) (by decide)
    · have : (((⟨T.cps.extract x y⟩ : Str).length : Int) != 0) = true := by
        show (((T.cps.extract x y).size : Int) != 0) = true
        rw [hl]; have := ho.1; simp; lia
      rw [this]; exact h
end
noncomputable def fnData (st : Stmt) (pm cd : Value) : FuncData := match st with
  | .FunctionDef name args body _ _ _ scope _ _ _ => { name, qualname := name, params := args, body := .stmts body, scope, globals := mainGlobals, closure := [], defaults := .none, kwdefaults := .none, pyModule := pm, code := cd, builtins := builtinsNs }
  | _ => default
inductive IsDefC (F : Fz) (st : Option Stmt) (a c : Addr) : Prop where
  | intro (s : Stmt) (o : Obj) (pm : Value) (h1 : st = some s) (h2 : F a = some o) (h3 : o.data = .func (fnData s pm (.ref c))) (h4 : CodeF F (.ref c) (fnData s pm (.ref c)).qualname)
noncomputable def IsDef (F : Fz) (st : Option Stmt) (a : Addr) : Prop := ∃ c, IsDefC F st a c
theorem IsDefC.mono {F F' : Fz} {st : Option Stmt} {a c : Addr} (le : F.le F') (h : IsDefC F st a c) : IsDefC F' st a c := by obtain ⟨s, o, pm, h1, h2, h3, h4⟩ := h; exact ⟨s, o, pm, h1, le _ _ h2, h3, h4.mono le⟩
theorem IsDef.mono {F F' : Fz} {st : Option Stmt} {a : Addr} (le : F.le F') (h : IsDef F st a) : IsDef F' st a := by obtain ⟨c, h⟩ := h; exact ⟨c, h.mono le⟩
theorem IsDefC.ok {F : Fz} {st : Option Stmt} {a c : Addr} (h : IsDefC F st a c) : KOk F (.ref a) := by obtain ⟨_, _, _, _, h2, h3, _⟩ := h; exact .fn h2 h3
theorem IsDef.ok {F : Fz} {st : Option Stmt} {a : Addr} (h : IsDef F st a) : KOk F (.ref a) := by obtain ⟨_, h⟩ := h; exact h.ok
theorem Ex_cellF {G : Glob} {fr : List Env} {A : Around} {F : Fz} {H H1 : Hp} {t : Sem Flow} {Q : FV → Fz → Hp → Prop} {E : Value → Fz → Hp → Prop} {c : Addr} {y : V} (hr : Rem H c (.cell (some y)) H1) (h : ∀ F', F.le F' → CellF F' c y → Ex G fr A F' H1 t Q E) : Ex G fr A F H t Q E := fun K m R s hR => by
  obtain ⟨o, ⟨v, hd, hv⟩, le, r⟩ := Rep.freeze (hR.perm (hr.perm.append_right R)) (fun _ e => nomatch e)
  exact (h _ (m.trans le) ⟨o, v, Fz.add_self _ _ _, hd, hv.mono le⟩).last (.refl _) r le
inductive Cells (F : Fz) : List Addr → List V → Prop where
  | nil : Cells F [] []
  | cons {c : Addr} {y : V} {cs : List Addr} {ys : List V} (h : CellF F c y) (t : Cells F cs ys) : Cells F (c :: cs) (y :: ys)
theorem Cells.mono {F F' : Fz} {cs : List Addr} {ys : List V} (le : F.le F') (h : Cells F cs ys) : Cells F' cs ys := by
  induction h with
  | nil => exact .nil
  | cons h _ ih => exact .cons (h.mono le) ih
inductive RemC : Hp → List Addr → List V → Hp → Prop where
  | nil {H : Hp} : RemC H [] [] H
  | cons {H H1 H2 : Hp} {c : Addr} {y : V} {cs : List Addr} {ys : List V} (hr : Rem H c (.cell (some y)) H1) (t : RemC H1 cs ys H2) : RemC H (c :: cs) (y :: ys) H2
theorem RemC.freeze {G : Glob} {fr : List Env} {R : Hp} {s : Shared} {H H1 : Hp} {cs : List Addr} {ys : List V} (hr : RemC H cs ys H1) : ∀ {K : Fz}, Rep G fr K (H ++ R) s → ∃ K', K.le K' ∧ Rep G fr K' (H1 ++ R) s ∧ Cells K' cs ys := by
  induction hr with
  | nil => exact fun r => ⟨_, .refl _, r, .nil⟩
  | cons hr _ ih =>
    intro K r
    obtain ⟨o, ⟨v, hd, hv⟩, le, r1⟩ := Rep.freeze (r.perm (hr.perm.append_right R)) (fun _ e => nomatch e)
    obtain ⟨K2, l2, r2, h2⟩ := ih r1
    exact ⟨K2, le.trans l2, r2, .cons (CellF.mono l2 ⟨o, v, Fz.add_self _ _ _, hd, hv.mono le⟩) h2⟩
theorem Cells.get {F : Fz} {cs : List Addr} {ys : List V} (h : Cells F cs ys) : ∀ (i : Nat) {c : Addr} {y : V}, cs[i]? = some c → ys[i]? = some y → CellF F c y := by
  induction h with
  | nil => intro i c y e; simp at e
  | cons h _ ih =>
    intro i c y e1 e2
    cases i with
    | zero => simp at e1 e2; subst e1 e2; exact h
    | succ i => simp at e1 e2; exact ih i e1 e2
theorem Has.of_upd {H H' : Hp} {a : Addr} {x x' : AO} (h : Upd H a x x' H') : Has H a x := by
  induction h with
  | hd => exact .hd
  | tl _ ih => exact .tl ih
inductive OuterF (F : Fz) (g f m : Addr) : Prop where
  | intro (qual : Str) (clos : List (Str × Addr)) (h1 : FnS F g (sub (stm 3) 12) qual clos) (h2 : Cap F clos "_scan_once" (.ref f)) (h3 : Cap F clos "memo" (.ref m))
theorem OuterF.ok {F : Fz} {g f m : Addr} (h : OuterF F g f m) : KOk F (.ref g) := by obtain ⟨a, b, h1, h2, h3⟩ := h; exact h1.ok
theorem ScanF.ok {F : Fz} {f : Addr} {p : Parts} (h : ScanF F f p) : KOk F (.ref f) := by obtain ⟨_, _, _, h0, _⟩ := h; exact h0.ok
inductive Emp (m : Addr) (Q : Fz → Hp → Prop) (F : Fz) (H : Hp) : Prop where
  | intro (l : List (V × V)) (H2 : Hp) (hu : Upd H m (.dict l) (.dict []) H2) (hl : l.length ≤ sizeLine) (h : Q F H2)
inductive Hd1 (p : Addr × AO) (P : Fz → Hp → Prop) (F : Fz) (H : Hp) : Prop where
  | intro (H3 : Hp) (e : H = p :: H3) (h : P F H3)
structure CtxA (ρ : List (Str × V)) (p : Parts) : Prop where
  po : ρ.lookup (Str.ofString "parse_object") = some p.po
  pa : ρ.lookup (Str.ofString "parse_array") = some p.pa
  ps : ρ.lookup (Str.ofString "parse_string") = some p.ps
  st : ρ.lookup (Str.ofString "strict") = some p.st
  pf : ρ.lookup (Str.ofString "parse_float") = some p.pf
  pi : ρ.lookup (Str.ofString "parse_int") = some p.pi
  pc : ρ.lookup (Str.ofString "parse_constant") = some p.pc
  oh : ρ.lookup (Str.ofString "object_hook") = some p.oh
  oph : ρ.lookup (Str.ofString "object_pairs_hook") = some p.oph
  mm : ρ.lookup (Str.ofString "memo") = some p.mm
theorem nl1 : typeLookup (.type "Exception") "parse_object" = pure none := by rw [typeLookup_type, builtinLookup_eq_fast]; kernel_rfl
theorem nl2 : typeLookup (.type "Exception") "parse_array" = pure none := by rw [typeLookup_type, builtinLookup_eq_fast]; kernel_rfl
theorem nl3 : typeLookup (.type "Exception") "parse_string" = pure none := by rw [typeLookup_type, builtinLookup_eq_fast]; kernel_rfl
theorem nl4 : typeLookup (.type "Exception") "strict" = pure none := by rw [typeLookup_type, builtinLookup_eq_fast]; kernel_rfl
theorem nl5 : typeLookup (.type "Exception") "parse_float" = pure none := by rw [typeLookup_type, builtinLookup_eq_fast]; kernel_rfl
theorem nl6 : typeLookup (.type "Exception") "parse_int" = pure none := by rw [typeLookup_type, builtinLookup_eq_fast]; kernel_rfl
theorem nl7 : typeLookup (.type "Exception") "parse_constant" = pure none := by rw [typeLookup_type, builtinLookup_eq_fast]; kernel_rfl
theorem nl8 : typeLookup (.type "Exception") "object_hook" = pure none := by rw [typeLookup_type, builtinLookup_eq_fast]; kernel_rfl
theorem nl9 : typeLookup (.type "Exception") "object_pairs_hook" = pure none := by rw [typeLookup_type, builtinLookup_eq_fast]; kernel_rfl
theorem nl10 : typeLookup (.type "Exception") "memo" = pure none := by rw [typeLookup_type, builtinLookup_eq_fast]; kernel_rfl
noncomputable def ScQ (G : Glob) (fr : List Env) (A : Around) (F : Fz) (H : Hp) (f : Addr) (p : Parts) (T : Str) (i : Nat) (Q : V → Fz → Hp → Prop) (P : Addr → String → List V → Bool → Fz → Hp → Prop) : Lx → Prop
  | .str => ClD G fr A F H p.ps [.str T, .int ((i : Int) + 1), p.st] Q (Thr0 P)
  | .obj => ClD G fr A F H p.po [.tup [.str T, .int ((i : Int) + 1)], p.st, .ref f, p.oh, p.oph, p.mm] Q (Thr0 P)
  | .arr => ClD G fr A F H p.pa [.tup [.str T, .int ((i : Int) + 1)], .ref f] Q (Thr0 P)
  | .null => Q (.tup [.none, .int ((i : Int) + 4)]) F H
  | .tru => Q (.tup [.bool true, .int ((i : Int) + 4)]) F H
  | .fls => Q (.tup [.bool false, .int ((i : Int) + 5)]) F H
  | .whole n => ClD G fr A F H p.pi [.str ⟨T.cps.extract i (i + n)⟩] (fun x F2 H2 => Q (.tup [x, .int ((i + n : Nat) : Int)]) F2 H2) (Thr0 P)
  | .broken n => ClD G fr A F H p.pf [.str ⟨T.cps.extract i (i + n)⟩] (fun x F2 H2 => Q (.tup [x, .int ((i + n : Nat) : Int)]) F2 H2) (Thr0 P)
  | .con w => ClD G fr A F H p.pc [.str w] (fun x F2 H2 => Q (.tup [x, .int ((i : Int) + (w.length : Nat))]) F2 H2) (Thr0 P)
  | .stop => ∀ x b, P x "StopIteration" [.int i] b F H
structure BtS (G : Glob) : Prop where
  i0 : G.mg (Str.ofString "IndexError") = none
  i1 : G.mb (Str.ofString "IndexError") = some (.type "IndexError")
  s0 : G.mg (Str.ofString "StopIteration") = none
  s1 : G.mb (Str.ofString "StopIteration") = some (.type "StopIteration")
noncomputable def scF (f : Addr) (p : Parts) : List (Str × V) := [("parse_string", p.ps), ("strict", p.st), ("parse_object", p.po), ("_scan_once", .ref f), ("object_hook", p.oh), ("object_pairs_hook", p.oph), ("memo", p.mm), ("parse_array", p.pa), ("match_number", .ref p.mb), ("parse_float", p.pf), ("parse_int", p.pi), ("parse_constant", p.pc)]
theorem kCall.of {C : Cx} {w : WK → Prop} {args : List Expr} {f : V} {ρ : Rho} {F : Fz} {H : Hp} {Q : QV} (k : KOk F f) (h : argW C w f args ρ F H Q) : kCall C w args Q f ρ F H := by
  cases f <;> first | exact h | exact ⟨k, h⟩
theorem Cl.part {C : Cx} {fr : List Env} {A : Around} {ρ : Rho} {F F1 : Fz} {H : Hp} {v : V} {xs : List V} {P : Addr → String → List V → Bool → Fz → Hp → Prop} {Q1 : V → Fz → Hp → Prop} {Q3 : QV} (ok : CxOk C F) (hf : C.fr = C.env :: fr) (hD : Deep A C.A C.env) (he : C.E = Thr0 (LvD C.env.locals P)) (l1 : F.le F1) (h : ClD C.G fr A F H v xs Q1 (Thr0 P)) (k : ∀ x F2 H2, F1.le F2 → CxOk C F2 → Dn (Q1 x) F2 H2 → Q3 x ρ F2 H2) :
    Cl C.G C.fr C.A F1 H v xs (Nx C ρ Q3) (kE C ρ) := by
  rw [hf]
  exact ((h _ _ hD).up l1).keep.mono (fun x F2 H2 q => ⟨ok.mono (l1.trans q.1), k x F2 H2 q.1 (ok.mono (l1.trans q.1)) q.2⟩) fun e F2 H2 q => kE.thr he q
structure NumP (T : Str) (i n q e2 : Nat) (o1 o2 : Option (Nat × Nat)) : Prop where
  g1 : gok T o1
  g2 : gok T o2
  e : e2 = i + n
  z : (o1.isSome || o2.isSome) = false → q = i + n
  t : (⟨T.cps.extract i q⟩ : Str) ++ gtx T o1 ++ gtx T o2 = ⟨T.cps.extract i (i + n)⟩
theorem num_parts {T : Str} {i n q : Nat} (hi : i ≤ q) (hn : expEnd T.cps T.cps.size (fracEnd T.cps T.cps.size q) = i + n) : NumP T i n q (expEnd T.cps T.cps.size (fracEnd T.cps T.cps.size q)) ((fracAt T.cps T.cps.size q).map fun e => (q, e)) ((expAt T.cps T.cps.size (fracEnd T.cps T.cps.size q)).map fun e => (fracEnd T.cps T.cps.size q, e)) := by
  have ex0 : ∀ {k : Nat}, (⟨T.cps.extract k k⟩ : Str) = "" := fun {k} => by
    show (⟨T.cps.extract k k⟩ : Str) = ⟨#[]⟩
    exact congrArg Str.mk (by simp; lia)
  have key : ∀ {k : Nat} {o : Option Nat}, (∀ e, o = some e → k < e ∧ e ≤ T.cps.size) → gok T (o.map fun e => (k, e)) ∧ gtx T (o.map fun e => (k, e)) = ⟨T.cps.extract k (o.getD k)⟩ ∧ k ≤ o.getD k ∧ (o.isSome = false → o.getD k = k) ∧ (o.map fun e => (k, e)).isSome = o.isSome := by
    intro k o h
    cases o with
    | none => exact ⟨trivial, ex0.symm, Nat.le_refl _, fun _ => rfl, rfl⟩
    | some e => exact ⟨h e rfl, rfl, Nat.le_of_lt (h e rfl).1, nofun, rfl⟩
  obtain ⟨a1, a2, a3, a4, a5⟩ := key (k := q) (o := fracAt T.cps T.cps.size q) fun e h => fracAt_lt h
  obtain ⟨b1, b2, b3, b4, b5⟩ := key (k := fracEnd T.cps T.cps.size q) (o := expAt T.cps T.cps.size (fracEnd T.cps T.cps.size q)) fun e h => expAt_lt h
  have a3 : q ≤ fracEnd T.cps T.cps.size q := a3
  have b3 : fracEnd T.cps T.cps.size q ≤ expEnd T.cps T.cps.size (fracEnd T.cps T.cps.size q) := b3
  have a4 : (fracAt T.cps T.cps.size q).isSome = false → fracEnd T.cps T.cps.size q = q := a4
  have b4 : (expAt T.cps T.cps.size (fracEnd T.cps T.cps.size q)).isSome = false → expEnd T.cps T.cps.size (fracEnd T.cps T.cps.size q) = fracEnd T.cps T.cps.size q := b4
  refine ⟨a1, b1, hn, fun h => ?_, ?_⟩
  · rw [a5, b5, Bool.or_eq_false_iff] at h
    rw [← hn, b4 h.2, a4 h.1]
  · rw [a2, b2, ← hn]
    show ((⟨T.cps.extract i q⟩ : Str) ++ ⟨T.cps.extract q (fracEnd T.cps T.cps.size q)⟩) ++ ⟨T.cps.extract (fracEnd T.cps T.cps.size q) (expEnd T.cps T.cps.size (fracEnd T.cps T.cps.size q))⟩ = _
    rw [ext_app hi a3, ext_app (Nat.le_trans hi a3) b3]
section
variable {C : Cx} {ρ : Rho} {F : Fz} {H : Hp} {T : Str} {o : Option (Nat × Nat)}
theorem trW_grp {Q : QB} (ok : CxOk C F) (hT : T.cps.size ≤ 1000000) (ho : gok T o) (h : Q o.isSome ρ F H) : trW C (grp? T o) ρ F H Q := by
  cases o with
  | none => exact h
  | some p => exact tr_grp (o := some p) hT ho ⟨ok, h⟩
theorem or_grpW {n k : Nat} {p : Pos} {Q : QV} (ok : CxOk C F) (hT : T.cps.size ≤ 1000000) (ho : gok T o) (h : Q (.str (gtx T o)) ρ F H) : trW C (grp? T o) ρ F H (kOr2 (W C (n + 1)) (.Constant (.str (Str.ofString "")) k p) (grp? T o) Q) := by
  refine trW_grp ok hT ho ?_
  cases o with
  | none => exact h
  | some p => exact h
end
theorem BtS.gl {G : Glob} {F : Fz} (bt : BtS G) : ∀ p ∈ ([("IndexError", .typ "IndexError"), ("StopIteration", .typ "StopIteration")] : List (Str × V)), GlIs G F p.1 p.2 := by
  simp only [List.forall_mem_cons]
  exact ⟨.b _ bt.i0 bt.i1 .typ, .b _ bt.s0 bt.s1 .typ, nofun⟩
theorem scan {G : Glob} {fr : List Env} {A : Around} {F : Fz} {H : Hp} {f : Addr} {p : Parts} {P : Addr → String → List V → Bool → Fz → Hp → Prop} {Q : V → Fz → Hp → Prop} {T : Str} {i : Nat} (hS : ScanF F f p) (hA : Ok fr A 1) (hT : T.cps.size ≤ 1000000) (bt : BtS G) {c : Nat} (hc : T.cps[i]? = some c)
    (h : ScQ G fr A F H f p T i Q P (lexL (T.cps.toList.drop i))) : Cl G fr A F H (.ref f) [.str T, .int i] Q (Thr0 P) := by
  obtain ⟨qual, clos, pat, hf, h1, h2, h3, h4, h5, h6, h7, h8, h9, h10, h11, h12, hb, o1, o2, o3, o4, o5, o6⟩ := hS
  obtain ⟨name, params, body, scope, pos, hst, hf⟩ := hf
  cases Option.some.inj hst.symm
  have hTs : T.length ≤ sizeLine := Nat.le_trans (show T.cps.size ≤ 1000000 from hT) (by decide)
  have hfl : ∀ q ∈ scF f p, ∃ c, clos.lookup q.1 = some c ∧ CellF F c q.2 := by
    simp only [scF, List.forall_mem_cons]
    exact ⟨h3.out, h5.out, h1.out, h12.out, h9.out, h10.out, h11.out, h2.out, h4.out, h6.out, h7.out, h8.out, nofun⟩
  refine Cl.dn ?_
  clear h1 h2 h3 h4 h5 h6 h7 h8 h9 h10 h11 h12
  refine fn_e bt.gl hf hfl hA ["string", "idx"] ["nextchar", "m", "integer", "frac", "exp", "res"] rfl (by decide +kernel) (fun doc pm c ctv vs hv => by obtain ⟨a, b, rfl⟩ := len2 hv; rfl) fun L A' cdv hD hA ok => ?_
  refine W_try 40 (outer := fr) (fun _ _ _ _ _ _ => False) ok hA.frames rfl (fun _ => sub_str (by lia) (by have := (Array.getElem?_eq_some_iff.mp hc).1; lia) (c := c) (by rw [Int.toNat_natCast]; exact hc) ⟨by assumption, ok, ?_⟩) fun _ _ _ _ _ _ _ hq => hq.elim
  refine .run (bifW.sp (fun hb1 => ?_) fun hb1 => ?_)
  · rw [lex_str hc hb1] at h
    exact .run (kCall.of o3 (Cl.part ok rfl hD rfl (.refl F) h fun x F2 H2 _ _ q => q))
  refine .run (bifW.sp (fun hb2 => ?_) fun hb2 => ?_)
  · rw [lex_obj hc hb2] at h
    exact .run (kCall.of o1 (Cl.part ok rfl hD rfl (.refl F) h fun x F2 H2 _ _ q => q))
  refine .run (bifW.sp (fun hb3 => ?_) fun hb3 => ?_)
  · rw [lex_arr hc hb3] at h
    exact .run (kCall.of o2 (Cl.part ok rfl hD rfl (.refl F) h fun x F2 H2 _ _ q => q))
  refine .t (chr c "n" && word T i "null") (bifW.sp (fun e => .str T rfl hTs rfl (bifW.tb (by rw [show chr c "n" = true from e]; rfl))) fun e => .mk (by rw [show chr c "n" = false from e]; rfl)) (bifW.sp (fun hw => ?_) fun hw0 => ?_)
  · rw [lex_null hc hw] at h
    exact .run (Dn.in h)
  refine .t (chr c "t" && word T i "true") (bifW.sp (fun e => .str T rfl hTs rfl (bifW.tb (by rw [show chr c "t" = true from e]; rfl))) fun e => .mk (by rw [show chr c "t" = false from e]; rfl)) (bifW.sp (fun hw => ?_) fun hw1 => ?_)
  · rw [lex_tru hc hw] at h
    exact .run (Dn.in h)
  refine .t (chr c "f" && word T i "false") (bifW.sp (fun e => .str T rfl hTs rfl (bifW.tb (by rw [show chr c "f" = true from e]; rfl))) fun e => .mk (by rw [show chr c "f" = false from e]; rfl)) (bifW.sp (fun hw => ?_) fun hw2 => ?_)
  · rw [lex_fls hc hw] at h
    exact .run (Dn.in h)
  have hi := (Array.getElem?_eq_some_iff.mp hc).1
  refine ⟨hb.ok, match_num hb hi (Nat.le_trans hT (by decide)) (fun hno => ⟨ok, ?_⟩) fun q hq m F1 l1 hm => ⟨ok.mono l1, ?_⟩⟩
  · refine .run ?_
    refine .t (chr c "N" && word T i "NaN") (bifW.sp (fun e => .str T rfl hTs rfl (bifW.tb (by rw [show chr c "N" = true from e]; rfl))) fun e => .mk (by rw [show chr c "N" = false from e]; rfl)) (bifW.sp (fun hw => ?_) fun hw3 => ?_)
    · rw [lex_con rfl rfl hc hno hw (.inl ⟨rfl, rfl⟩)] at h
      exact .run (kCall.of o6 (Cl.part ok rfl hD rfl (.refl F) h fun x F2 H2 _ _ q => q))
    refine .t (chr c "I" && word T i "Infinity") (bifW.sp (fun e => .str T rfl hTs rfl (bifW.tb (by rw [show chr c "I" = true from e]; rfl))) fun e => .mk (by rw [show chr c "I" = false from e]; rfl)) (bifW.sp (fun hw => ?_) fun hw4 => ?_)
    · rw [lex_con rfl rfl hc hno hw (.inr (.inl ⟨rfl, rfl⟩))] at h
      exact .run (kCall.of o6 (Cl.part ok rfl hD rfl (.refl F) h fun x F2 H2 _ _ q => q))
    refine .t (chr c "-" && word T i "-Infinity") (bifW.sp (fun e => .str T rfl hTs rfl (bifW.tb (by rw [show chr c "-" = true from e]; rfl))) fun e => .mk (by rw [show chr c "-" = false from e]; rfl)) (bifW.sp (fun hw => ?_) fun hw5 => ?_)
    · rw [lex_con rfl rfl hc hno hw (.inr (.inr ⟨rfl, rfl⟩))] at h
      exact .run (kCall.of o6 (Cl.part ok rfl hD rfl (.refl F) h fun x F2 H2 _ _ q => q))
    rw [lex_stop hc ⟨hb1, hb2, hb3, hw0, hw1, hw2, hno, hw3, hw4, hw5⟩] at h
    refine W_raise 40 ok hA.handled (stop_new1 fun x2 => ⟨ok, x2, _, _, _, rfl, .hd, owsi_raise, kE.thr rfl (Thr0.mk .hd (h x2 true))⟩)
  · obtain ⟨n, hn, hlx⟩ := lex_num hc hq
    rw [hlx] at h
    have ok1 := ok.mono l1
    have hq2 := intAt_lt hq
    have hs2 := signAt_le (T := T.cps) (lim := T.cps.size) (p := i)
    have N := num_parts (by lia) hn
    have i1 : (fracAt T.cps T.cps.size q).isSome = ((fracAt T.cps T.cps.size q).map fun e => (q, e)).isSome := by cases fracAt T.cps T.cps.size q <;> rfl
    have i2 : (expAt T.cps T.cps.size (fracEnd T.cps T.cps.size q)).isSome = ((expAt T.cps T.cps.size (fracEnd T.cps T.cps.size q)).map fun e => (fracEnd T.cps T.cps.size q, e)).isSome := by cases expAt T.cps T.cps.size (fracEnd T.cps T.cps.size q) <;> rfl
    rw [i1, i2] at h
    clear hlx hn hq2 hs2 i1 i2 hq
    generalize (fracAt T.cps T.cps.size q).map (fun e => (q, e)) = o1' at *
    generalize (expAt T.cps T.cps.size (fracEnd T.cps T.cps.size q)).map (fun e => (fracEnd T.cps T.cps.size q, e)) = o2' at *
    generalize expEnd T.cps T.cps.size (fracEnd T.cps T.cps.size q) = e2 at *
    obtain ⟨g1, g2, rfl, hz, ht⟩ := N
    have s1 := len_le (T := T) (x := i) (y := q)
    have s2 := gtx_len (T := T) (o := o1')
    have s3 := gtx_len (T := T) (o := o2')
    refine .run ⟨"re.Match", _, ⟨plainAttrs_Match, slot_groups, type_groups⟩, hm.ty, groups hm hTs ⟨ok1, ?_⟩⟩
    refine .t (o1'.isSome || o2'.isSome) (trW_grp ok1 hT g1 (bifW.sp (fun e => .mk (by rw [e]; rfl)) fun e => trW_grp ok1 hT g2 (bifW.sp (fun e2 => .mk (by rw [e, e2]; rfl)) fun e2 => .mk (by rw [e, e2]; rfl)))) (bifW.sp (fun hx => ?_) fun hx => ?_)
    · rw [if_pos hx] at h
      refine kCall.of (o4.mono l1) (or_grpW ok1 hT g1 (add_ss (Nat.le_trans (Nat.add_le_add (Nat.le_trans s1 hT) (Nat.le_trans s2 hT)) (by decide)) ⟨ok1, or_grpW ok1 hT g2 (add_ss (by rw [strLen_append]; exact Nat.le_trans (Nat.add_le_add (Nat.add_le_add (Nat.le_trans s1 hT) (Nat.le_trans s2 hT)) (Nat.le_trans s3 hT)) (by decide)) ⟨ok1, ?_⟩)⟩))
      rw [ht]
      refine Cl.part ok rfl hD rfl l1 h fun x F2 H2 l2 ok q => ?_
      exact .run ⟨"re.Match", _, ⟨plainAttrs_Match, slot_end, type_end⟩, (hm.mono l2).ty, mend (hm.mono l2) ⟨ok, q⟩⟩
    · rw [if_neg (by rw [hx]; exact Bool.false_ne_true)] at h
      rw [hz hx] at *
      refine kCall.of (o5.mono l1) (Cl.part ok rfl hD rfl l1 h fun x F2 H2 l2 ok q => ?_)
      exact .run ⟨"re.Match", _, ⟨plainAttrs_Match, slot_end, type_end⟩, (hm.mono l2).ty, mend (hm.mono l2) ⟨ok, q⟩⟩
theorem scan_outer {G : Glob} {fr : List Env} {A : Around} {F : Fz} {H : Hp} {g f m : Addr} {P : Addr → String → List V → Bool → Fz → Hp → Prop} {Q : V → Fz → Hp → Prop} {T i : V} (hO : OuterF F g f m) (hk : KOk F (.ref f)) (hA : Ok fr A 1)
    (h : ClD G fr A F H (.ref f) [T, i] (fun x => Emp m (Q x)) (Thr0 fun x c a b => Emp m (P x c a b))) : Cl G fr A F H (.ref g) [T, i] Q (Thr0 P) := by
  obtain ⟨qual, clos, hf, h1, h2⟩ := hO
  obtain ⟨name, params, body, scope, pos, hst, hf⟩ := hf
  cases Option.some.inj hst.symm
  have hfl : ∀ q ∈ ([("_scan_once", .ref f), ("memo", .ref m)] : List (Str × V)), ∃ c, clos.lookup q.1 = some c ∧ CellF F c q.2 := by
    simp only [List.forall_mem_cons]
    exact ⟨h1.out, h2.out, nofun⟩
  refine Cl.dnE (fn_e (gl := []) nofun hf hfl hA ["string", "idx"] [] rfl (by decide +kernel) (fun doc pm c ctv vs hv => by obtain ⟨a, b, rfl⟩ := len2 hv; rfl) fun L A' cdv hD hA ok => ?_)
  refine W_finally 40 (outer := fr) (fun x c a b F1 H1 => F.le F1 ∧ Hd1 (L, .ns (mkRho ["string", "idx"] [T, i] [])) (Dn (Emp m (P x c a b))) F1 H1) rfl ok hA.frames rfl (fun ok1 => ?_) ?_
  · refine .run ⟨hk, (h _ _ hD).keepE.mono (fun x F2 H2 q => ?_) fun e F2 H2 q => ?_⟩
    · obtain ⟨le, F3, l3, l, H4, hu, hl, q⟩ := q
      have ok2 := ok.mono le
      have ok3 := ok1.mono le
      refine ⟨ok3, ⟨ok2.kind, ok2.glob, ok2.blt, ok2.dbg, noted_no, ok2.hd, ok2.gls, ok2.fls⟩, ?_⟩
      exact ⟨"dict", _, ⟨PySem.F.plainAttrs_dict, PySem.F.slot_dict_clear, PySem.F.type_dict_clear⟩, .dict (Has.of_upd hu), clear hu hl ⟨⟨ok2.kind, ok2.glob, ok2.blt, ok2.dbg, noted_no, ok2.hd, ok2.gls, ok2.fls⟩, rfl, ok2, F3, l3, q⟩⟩
    · obtain ⟨le, F3, l3, x, c, a, tb, b, H3, e1, e2, q⟩ := q
      refine kE.thrB rfl ⟨x, c, a, tb, b, H3, e1, e2, le, H3, rfl, F3, l3, q⟩
  · rintro x c a t b F1 H1 ⟨le, H2, rfl, F2, m2, l, H4, hu, hl, q⟩
    obtain ⟨c2, k2, h2⟩ := h2.out
    refine Ex_cons (Ex_Expr (Ev_method' (Ev_freeF k2 (h2.mono le) .mk) ⟨"dict", _, PySem.F.plainAttrs_dict, PySem.F.slot_dict_clear, PySem.F.type_dict_clear, .dict (.tl (.tl (.tl (Has.of_upd hu)))), .mk Evs_nil' (clear (.tl (.tl (.tl hu))) hl ⟨rfl, ?_⟩)⟩))
    exact Ex_nil ⟨rfl, _, rfl, _, _, _, .hd, .nil, F2, m2, q⟩
theorem W_cells {C : Cx} {ρ : Rho} {F : Fz} {H H1 : Hp} {st : Stmt} {cs : List Addr} {ys : List V} {Q : QF} (hr : RemC H cs ys H1) (ok : CxOk C F) (h : ∀ F', F.le F' → Cells F' cs ys → CxOk C F' → SmS C st ρ F' H1 Q) : SmS C st ρ F H Q := fun K m R s hR => by
  obtain ⟨K', le, r, hc⟩ := RemC.freeze (R := (C.env.locals, .ns ρ) :: R) hr (hR.perm List.perm_middle.symm)
  exact Ex.last (h _ (m.trans le) hc (ok.mono (m.trans le))) (.refl _) (r.perm List.perm_middle) le
theorem make {G : Glob} {fr : List Env} {A : Around} {F : Fz} {H1 : Hp} {a c P x D pat m : Addr} {args : List V} {cx : Bool} {ρ : List (Str × V)} {p : Parts} {E : Value → Fz → Hp → Prop} {Q : V → Fz → Hp → Prop} {l0 : List (Nat × Nat × Addr)}
    (hf : IsDefC F (stm 3) a c) (hC : CodeOk F c P) (hB : BOk G P) (hA : Ok fr A 1) (hN : G.mg (Str.ofString "NUMBER_RE") = some (.ref pat)) (hpat : PatF F pat)
    (hρ : CtxA ρ p) (hmm : p.mm = .ref m) (nb : noBlt p.po ∧ noBlt p.pa ∧ noBlt p.ps ∧ noBlt p.st ∧ noBlt p.pf ∧ noBlt p.pi ∧ noBlt p.pc ∧ noBlt p.oh ∧ noBlt p.oph)
    (ok : KOk F p.po ∧ KOk F p.pa ∧ KOk F p.ps ∧ KOk F p.pf ∧ KOk F p.pi ∧ KOk F p.pc) (hl0 : l0 = [])
    (h : ∀ F' g f mb l, F.le F' → OuterF F' g f m → ScanF F' f { p with mb } → Q (.ref g) F' ((P, .raw (tabObj (tabOf l))) :: (x, .exc "Exception" args none (some D) cx) :: (D, .attrs ρ) :: H1)) :
    Cl G fr A F ((P, .raw (tabObj (tabOf l0))) :: (x, .exc "Exception" args none (some D) cx) :: (D, .attrs ρ) :: H1) (.ref a) [.ref x] Q E := by
  subst hl0
  obtain ⟨n1, n2, n3, n4, n5, n6, n7, n8, n9⟩ := nb
  obtain ⟨o1, o2, o3, o5, o6, o7⟩ := ok
  obtain ⟨s, o, pm, hs, hf, hd, hc⟩ := hf
  obtain rfl := Option.some.inj hs.symm
  refine Cl.no (def_c (gl := [("NUMBER_RE", .ref pat)]) (by simp only [List.forall_mem_cons]; exact ⟨.g _ hN .ref, nofun⟩) hf hd hc hA [true] ["context"] ["scan_once"] ["strict", "parse_string", "parse_object", "parse_int", "parse_float", "parse_constant", "parse_array", "object_pairs_hook", "object_hook", "memo", "match_number", "_scan_once"] rfl (by decide +kernel) (fun vs hv => by obtain ⟨a, rfl⟩ := len1 hv; rfl) (by rfl) (by rfl) (fun n => rfl) (by decide) (by rfl) rfl fun L cs A' hcs hA ok => ?_)
  obtain ⟨c12, t0, rfl, h0⟩ := lenC hcs
  obtain ⟨c11, t1, rfl, h1⟩ := lenC h0
  obtain ⟨c10, t2, rfl, h2⟩ := lenC h1
  obtain ⟨c9, t3, rfl, h3⟩ := lenC h2
  obtain ⟨c8, t4, rfl, h4⟩ := lenC h3
  obtain ⟨c7, t5, rfl, h5⟩ := lenC h4
  obtain ⟨c6, t6, rfl, h6⟩ := lenC h5
  obtain ⟨c5, t7, rfl, h7⟩ := lenC h6
  obtain ⟨c4, t8, rfl, h8⟩ := lenC h7
  obtain ⟨c3, t9, rfl, h9⟩ := lenC h8
  obtain ⟨c2, t10, rfl, h10⟩ := lenC h9
  obtain ⟨c1, t11, rfl, h11⟩ := lenC h10
  obtain rfl := len0 h11
  refine get_exc (c := "") (.tl (.tl (.tl (.tl (.tl (.tl (.tl (.tl (.tl (.tl (.tl (.tl (.tl .hd))))))))))))) (.tl (.tl (.tl (.tl (.tl (.tl (.tl (.tl (.tl (.tl (.tl (.tl (.tl (.tl .hd)))))))))))))) hρ.po n1 nl1 ⟨ok, c10, none, _, rfl, .tl (.tl .hd), ok, ?_⟩
  refine get_exc (c := "") (.tl (.tl (.tl (.tl (.tl (.tl (.tl (.tl (.tl (.tl (.tl (.tl (.tl .hd))))))))))))) (.tl (.tl (.tl (.tl (.tl (.tl (.tl (.tl (.tl (.tl (.tl (.tl (.tl (.tl .hd)))))))))))))) hρ.pa n2 nl2 ⟨ok, c6, none, _, rfl, .tl (.tl (.tl (.tl (.tl (.tl .hd))))), ok, ?_⟩
  refine get_exc (c := "") (.tl (.tl (.tl (.tl (.tl (.tl (.tl (.tl (.tl (.tl (.tl (.tl (.tl .hd))))))))))))) (.tl (.tl (.tl (.tl (.tl (.tl (.tl (.tl (.tl (.tl (.tl (.tl (.tl (.tl .hd)))))))))))))) hρ.ps n3 nl3 ⟨ok, c11, none, _, rfl, .tl .hd, ok, ?_⟩
  refine get_match hpat fun mb F1 l1 hbd => ⟨ok.mono l1, c2, none, _, rfl, .tl (.tl (.tl (.tl (.tl (.tl (.tl (.tl (.tl (.tl .hd))))))))), ok.mono l1, ?_⟩
  have ok := ok.mono l1
  have hC := hC.mono l1
  refine get_exc (c := "") (.tl (.tl (.tl (.tl (.tl (.tl (.tl (.tl (.tl (.tl (.tl (.tl (.tl .hd))))))))))))) (.tl (.tl (.tl (.tl (.tl (.tl (.tl (.tl (.tl (.tl (.tl (.tl (.tl (.tl .hd)))))))))))))) hρ.st n4 nl4 ⟨ok, c12, none, _, rfl, .hd, ok, ?_⟩
  refine get_exc (c := "") (.tl (.tl (.tl (.tl (.tl (.tl (.tl (.tl (.tl (.tl (.tl (.tl (.tl .hd))))))))))))) (.tl (.tl (.tl (.tl (.tl (.tl (.tl (.tl (.tl (.tl (.tl (.tl (.tl (.tl .hd)))))))))))))) hρ.pf n5 nl5 ⟨ok, c8, none, _, rfl, .tl (.tl (.tl (.tl .hd))), ok, ?_⟩
  refine get_exc (c := "") (.tl (.tl (.tl (.tl (.tl (.tl (.tl (.tl (.tl (.tl (.tl (.tl (.tl .hd))))))))))))) (.tl (.tl (.tl (.tl (.tl (.tl (.tl (.tl (.tl (.tl (.tl (.tl (.tl (.tl .hd)))))))))))))) hρ.pi n6 nl6 ⟨ok, c9, none, _, rfl, .tl (.tl (.tl .hd)), ok, ?_⟩
  refine get_exc (c := "") (.tl (.tl (.tl (.tl (.tl (.tl (.tl (.tl (.tl (.tl (.tl (.tl (.tl .hd))))))))))))) (.tl (.tl (.tl (.tl (.tl (.tl (.tl (.tl (.tl (.tl (.tl (.tl (.tl (.tl .hd)))))))))))))) hρ.pc n7 nl7 ⟨ok, c7, none, _, rfl, .tl (.tl (.tl (.tl (.tl .hd)))), ok, ?_⟩
  refine get_exc (c := "") (.tl (.tl (.tl (.tl (.tl (.tl (.tl (.tl (.tl (.tl (.tl (.tl (.tl .hd))))))))))))) (.tl (.tl (.tl (.tl (.tl (.tl (.tl (.tl (.tl (.tl (.tl (.tl (.tl (.tl .hd)))))))))))))) hρ.oh n8 nl8 ⟨ok, c4, none, _, rfl, .tl (.tl (.tl (.tl (.tl (.tl (.tl (.tl .hd))))))), ok, ?_⟩
  refine get_exc (c := "") (.tl (.tl (.tl (.tl (.tl (.tl (.tl (.tl (.tl (.tl (.tl (.tl (.tl .hd))))))))))))) (.tl (.tl (.tl (.tl (.tl (.tl (.tl (.tl (.tl (.tl (.tl (.tl (.tl (.tl .hd)))))))))))))) hρ.oph n9 nl9 ⟨ok, c5, none, _, rfl, .tl (.tl (.tl (.tl (.tl (.tl (.tl .hd)))))), ok, ?_⟩
  refine get_exc (c := "") (.tl (.tl (.tl (.tl (.tl (.tl (.tl (.tl (.tl (.tl (.tl (.tl (.tl .hd))))))))))))) (.tl (.tl (.tl (.tl (.tl (.tl (.tl (.tl (.tl (.tl (.tl (.tl (.tl (.tl .hd)))))))))))))) hρ.mm (by rw [hmm]; trivial) nl10 ⟨ok, c3, none, _, rfl, .tl (.tl (.tl (.tl (.tl (.tl (.tl (.tl (.tl .hd)))))))), ok, ?_⟩
  refine W_def ok rfl hC hB (.tl (.tl (.tl (.tl (.tl (.tl (.tl (.tl (.tl (.tl (.tl (.tl .hd)))))))))))) rfl rfl rfl rfl rfl fun f cf F2 l2 hf2 ok => ?_
  refine ⟨c1, none, _, rfl, .tl (.tl (.tl (.tl (.tl (.tl (.tl (.tl (.tl (.tl (.tl (.tl .hd))))))))))), ok, ?_⟩
  refine W_cells (cs := [c12, c11, c10, c9, c8, c7, c6, c5, c4, c3, c2, c1]) (.cons (.tl .hd) (.cons (.tl .hd) (.cons (.tl .hd) (.cons (.tl .hd) (.cons (.tl .hd) (.cons (.tl .hd) (.cons (.tl .hd) (.cons (.tl .hd) (.cons (.tl .hd) (.cons (.tl .hd) (.cons (.tl .hd) (.cons (.tl .hd) .nil)))))))))))) ok fun F3 l3 ec ok => ?_
  refine W_def ok rfl ((hC.mono l2).mono l3) hB .hd rfl rfl rfl rfl rfl fun g cg F4 l4 hf3 ok => ?_
  have m3 := l3.trans l4
  have m2 := l2.trans m3
  have m1 := l1.trans m2
  exact .run (h F4 g f mb _ m1 ⟨_, _, ⟨_, _, _, _, _, rfl, hf3⟩, ⟨c1, rfl, (ec.mono l4).get 11 rfl rfl⟩, ⟨c3, rfl, hmm ▸ (ec.mono l4).get 9 rfl rfl⟩⟩
        ⟨_, _, pat, ⟨_, _, _, _, _, rfl, hf2.mono m3⟩, ⟨c10, rfl, (ec.mono l4).get 2 rfl rfl⟩, ⟨c6, rfl, (ec.mono l4).get 6 rfl rfl⟩, ⟨c11, rfl, (ec.mono l4).get 1 rfl rfl⟩, ⟨c2, rfl, (ec.mono l4).get 10 rfl rfl⟩, ⟨c12, rfl, (ec.mono l4).get 0 rfl rfl⟩, ⟨c8, rfl, (ec.mono l4).get 4 rfl rfl⟩, ⟨c9, rfl, (ec.mono l4).get 3 rfl rfl⟩, ⟨c7, rfl, (ec.mono l4).get 5 rfl rfl⟩, ⟨c4, rfl, (ec.mono l4).get 8 rfl rfl⟩, ⟨c5, rfl, (ec.mono l4).get 7 rfl rfl⟩, ⟨c3, rfl, (ec.mono l4).get 9 rfl rfl⟩, ⟨c1, rfl, (ec.mono l4).get 11 rfl rfl⟩, hbd.mono m2, o1.mono m1, o2.mono m1, o3.mono m1, o5.mono m1, o6.mono m1, o7.mono m1⟩)
section
variable {p : Program} {loose : List Str} {mean : ExcName → Option Value} {mg mb : Str → Option Value} {s₁ : Shared} {tabs : List (Addr × Addr)} {prog : Program} {w : World} {K : Frag}
theorem gok_of (T : Top p loose mean mg mb s₁.heap) (hT : TabsAt tabs s₁.heap) : GOk (topG prog w s₁ tabs mg mb) := fun h k =>
  ⟨(ghost_ns hT T.g).keeps k, (ghost_ns hT T.b).keeps k, by obtain ⟨mc, h1, h2⟩ := T.nolimit; exact ⟨mc, (ghost_ns hT h1).keeps k, h2⟩⟩
theorem fz_of (X : K.In s₁.heap) {a : Addr} {o : Obj} (e : K.lookup a = some o) (ha : a ∉ tabs.map (·.2)) : (ghostOf s₁.heap tabs).get? a = some o := ghost_ne (X a o e) ha
theorem bok_of {P : Addr} (X : K.In s₁.heap) (T : Top p loose mean mg mb s₁.heap) (hT : TabsAt tabs s₁.heap) (hP : mainGlobals ≠ P) (hb : ∃ q ∈ tabs, q.2 = P) : BOk (topG prog w s₁ tabs mg mb) P := by
  refine ⟨hP, fun h k => ?_⟩
  obtain ⟨bm, ob, h1, h2, h3, h4, h5, h6⟩ := T.bmain
  have n1 : bm ≠ mainGlobals := fun e => by
    subst e
    obtain ⟨o, es, ep, ho, hd, _⟩ := T.g
    rw [ho] at h3
    cases h3
    rw [hd] at h6
    cases h6
  have n2 : bm ∉ tabs.map (·.2) := fun hm => by
    obtain ⟨q, hq, rfl⟩ := List.mem_map.mp hm
    rw [(hT q hq).2] at h3
    cases h3
    cases h4
  obtain ⟨q, hq, rfl⟩ := hb
  exact ⟨bm, ob, h1, h2, n1, fun e => n2 (List.mem_map.mpr ⟨q, hq, e.symm⟩), k _ _ (ghost_ne h3 n2), h4, h5, h6⟩
theorem code_of {c P : Addr} (X : K.In s₁.heap) (hT : TabsAt tabs s₁.heap) (e : codeHdIn K c P = true) (hc : c ∉ tabs.map (·.2)) : CodeOk (ghostOf s₁.heap tabs).get? c P := fun h k => by
  obtain ⟨o, vs, file, tf, flags, tg, inF, text, tt, h1, r⟩ := codeHd_of_K X e
  exact ⟨o, vs, file, tf, flags, tg, inF, text, tt, k _ _ (ghost_ne h1 hc), r⟩
theorem isdef_of {a c : Addr} {st : Option Stmt} {s : Stmt} {fo co : Obj} {pm : Value} {vs : Array Value} {t : Tok} (X : K.In s₁.heap) (hs : st = some s) (e1 : K.lookup a = some fo) (e2 : K.lookup c = some co) (hd : fo.data = .func (fnData s pm (.ref c))) (hv : co.data = .fields vs) (hq : vs[1]? = some (.str (fnData s pm (.ref c)).qualname t))
    (ha : a ∉ tabs.map (·.2)) (hc : c ∉ tabs.map (·.2)) : IsDefC (ghostOf s₁.heap tabs).get? st a c :=
  ⟨s, fo, pm, hs, fz_of X e1 ha, hd, c, co, vs, t, rfl, fz_of X e2 hc, hv, hq⟩
end
noncomputable def numC : Array Nat := #[14, 4, 0, 1, 4294967295, 17, 0, 24, 6, 0, 1, 16, 45, 1, 7, 5, 16, 48, 15, 22, 20, 13, 5, 22, 49, 57, 0, 24, 10, 0, 4294967295, 13, 5, 22, 48, 57, 0, 1, 15, 2, 0, 17, 1, 23, 20, 0, 1, 17, 2, 16, 46, 24, 10, 1, 4294967295, 13, 5, 22, 48, 57, 0, 1, 17, 3, 18, 23, 37, 0, 1, 17, 4, 13, 6, 16, 101, 16, 69, 0, 24, 11, 0, 1, 13, 6, 16, 45, 16, 43, 0, 1, 24, 10, 1, 4294967295, 13, 5, 22, 48, 57, 0, 1, 17, 5, 18, 1]
theorem code_numC : Code numC := by
  constructor
  case o11 => exact one_lit (C := numC) (pc := 11) (a := 45) rfl rfl
  case o16 => exact one_lit (C := numC) (pc := 16) (a := 48) rfl rfl
  case o21 => exact one_range (C := numC) (pc := 21) (a := 49) (b := 57) (n := 102) rfl rfl rfl rfl rfl rfl rfl
  case o31 => exact one_range (C := numC) (pc := 31) (a := 48) (b := 57) (n := 102) rfl rfl rfl rfl rfl rfl rfl
  case o49 => exact one_lit (C := numC) (pc := 49) (a := 46) rfl rfl
  case o55 => exact one_range (C := numC) (pc := 55) (a := 48) (b := 57) (n := 102) rfl rfl rfl rfl rfl rfl rfl
  case o71 => exact one_two (C := numC) (pc := 71) (a := 101) (b := 69) (n := 102) rfl rfl rfl rfl rfl rfl rfl rfl
  case o82 => exact one_two (C := numC) (pc := 82) (a := 45) (b := 43) (n := 102) rfl rfl rfl rfl rfl rfl rfl rfl
  case o94 => exact one_range (C := numC) (pc := 94) (a := 48) (b := 57) (n := 102) rfl rfl rfl rfl rfl rfl rfl
  all_goals first | rfl | decide
section
variable {G : Glob} {fr : List Env} {A : Around} {F : Fz} {H H' : Hp} {E : Value → Fz → Hp → Prop} {Q : V → Fz → Hp → Prop}
noncomputable def intIs (i : Int) : Value → Bool
  | .int a _ => a == i
  | _ => false
theorem RVs.all_int {F : Fz} {vs : List Value} {zs : List Int} (h : RVs F vs (zs.map .int)) {P : Value → Prop} (k : ∀ z ∈ zs, ∀ t, P (.int z t)) : ∀ v ∈ vs, P v := by
  intro v hv
  induction vs generalizing zs with
  | nil => cases hv
  | cons w vs ih =>
    cases zs with
    | nil => cases h
    | cons z zs =>
      cases h with
      | cons h t =>
        rcases List.mem_cons.mp hv with rfl | hv
        · exact h.e_int (P := P) fun t => k z (.head _) t
        · exact ih t (fun z hz => k z (.tail _ hz)) hv
theorem RVs.any_int {F : Fz} {i : Int} {vs : List Value} {zs : List Int} (h : RVs F vs (zs.map .int)) : vs.any (intIs i) = zs.contains i := by
  induction vs generalizing zs with
  | nil =>
    cases zs with
    | nil => rfl
    | cons => cases h
  | cons v vs ih =>
    cases zs with
    | nil => cases h
    | cons z zs =>
      cases h with
      | cons h t =>
        have e : intIs i v = (z == i) := h.e_int (P := fun v => intIs i v = (z == i)) fun t => rfl
        have e2 : (i == z) = (z == i) := Bool.beq_comm
        rw [List.any_cons, List.contains_cons, ih t, e, e2]
theorem in_ints {x : V} {zs : List Int} {i : Int} (hx : LstIs H x (zs.map .int)) (h : Q (.bool (zs.contains i)) F H) : Op2 G fr A F H (compareOp .In) (.int i) x Q E := fun K m a b ha hb R s hR => by
  obtain ⟨c, vs, rfl, hL, hr⟩ := hx.is hR hb
  refine ha.e_int (P := fun a => wpAny _ _ (compareOp .In a _) _ _ _) fun t => ?_
  refine PySem.SeqAt.in_listAt (intIs i) hL (fun y hy => hr.all_int (P := fun y => PySem.SeqAt.EqAt A.in1 s y (.int i t) (intIs i y)) (fun z _ u => (PySem.MeetsSeq.EqGives.int z i u t).at _ _) y (by simpa using hy)) ?_
  rw [← Array.any_toList, hr.any_int]
  exact vret hR .bool m h
theorem isi_ss {x : Str} (h : Q (.bool true) F H) : Cl G fr A F H (.blt "isinstance") [.str x, .typ "str"] Q E := cl_b2 fun K m v w hv hw =>
  hv.e_str (P := fun v => EvAt _ _ _ _ _ (call _ [v, w]) _ _) fun t => hw.e_typ (P := fun w => EvAt _ _ _ _ _ (call _ [_, w]) _ _) fun R s hR => PySem.IsiPair.str_str (vret hR .bool m h)
theorem isi_ts {l : List V} (h : Q (.bool false) F H) : Cl G fr A F H (.blt "isinstance") [.tup l, .typ "str"] Q E := cl_b2 fun K m v w hv hw =>
  hv.e_tup (P := fun v => EvAt _ _ _ _ _ (call _ [v, w]) _ _) fun a vs n ha _ _ => hw.e_typ (P := fun w => EvAt _ _ _ _ _ (call _ [_, w]) _ _) fun R s hR => PySem.IsiPair.tuple_str (hR.fz _ _ ha) rfl (vret (hR.toks _) .bool m h)
theorem in_c {x : Str} {c : Nat} (h : Q (.bool (decide (c ∈ x.cps.toList))) F H) : Op2 G fr A F H (compareOp .In) (.str ⟨#[c]⟩) (.str x) Q E := in_ss (by rw [in_1]; exact h)
theorem join_l {x : Str} {xs : List Str} {y : V} (hy : LstIs H y (xs.map .str)) (hok : JoinOk x xs = true) (h : Q (.str (Txt.join x xs)) F H) : Cl G fr A F H (.blt "str.join") [.str x, y] Q E := cl_b2 fun K m v w hv hw =>
  hv.e_str (P := fun v => EvAt _ _ _ _ _ (call _ [v, w]) _ _) fun t R s hR => by
    obtain ⟨a, vs, rfl, hL, hr⟩ := hy.is hR hw
    obtain ⟨l, e, hl⟩ := strs_of hr
    have e2 : vs = (strValues l).toArray := by rw [← e]
    subst e2
    exact PySem.SC.join hL hl hok fun t' k => vret (hR.toks _) .str m h
end
section
variable {G : Glob} {fr : List Env} {A : Around} {F : Fz} {H H' : Hp} {E : Value → Fz → Hp → Prop} {Q : V → Fz → Hp → Prop}
theorem RVs.ints {F : Fz} {vs : Array Value} {zs : List Int} (h : RVs F vs.toList (zs.map .int)) : ∃ xs : Array (Int × Tok), vs = intItems xs ∧ xs.toList.map (·.1) = zs := by
  have key : ∀ {vs : List Value} {zs : List Int}, RVs F vs (zs.map .int) → ∃ xs : List (Int × Tok), vs = xs.map (fun p => .int p.1 p.2) ∧ xs.map (·.1) = zs := by
    intro vs
    induction vs with
    | nil =>
      intro zs h
      cases zs with
      | nil => exact ⟨[], rfl, rfl⟩
      | cons => cases h
    | cons v vs ih =>
      intro zs h
      cases zs with
      | nil => cases h
      | cons z zs =>
        cases h with
        | cons h t =>
          obtain ⟨xs, e1, e2⟩ := ih t
          obtain ⟨t, rfl⟩ := h.inv
          exact ⟨(z, t) :: xs, by rw [e1]; rfl, by rw [← e2]; rfl⟩
  obtain ⟨xs, e1, e2⟩ := key h
  refine ⟨xs.toArray, ?_, by simpa using e2⟩
  apply Array.ext'
  rw [e1]
  simp [intItems]
noncomputable def nth (s : List Int) (i : Nat) : Int := s.getD i 0
noncomputable def maxI (s : List Int) : Int := nth s (argBest (fun i j => decide (nth s i > nth s j)) (s.length - 1))
noncomputable def minI (s : List Int) : Int := nth s (argBest (fun i j => decide (nth s i < nth s j)) (s.length - 1))
theorem numAt_nth {xs : Array (Int × Tok)} {zs : List Int} (h : xs.toList.map (·.1) = zs) : numAt xs = nth zs := by
  funext i
  rw [← h]
  unfold numAt nth
  rw [List.getD_eq_getElem?_getD, List.getElem?_map, Array.getElem?_toList]
theorem max_lst {zs : List Int} {x : V} (hx : LstIs H x (zs.map .int)) (hh : A.handled = none) (hz : zs ≠ []) (h : Q (.int (maxI zs)) F H) : Cl G fr A F H (.blt "max") [x] Q E := cl_b1 fun K m v hv R s hR => by
  obtain ⟨a, vs, rfl, hL, hr⟩ := hx.is hR hv
  obtain ⟨xs, rfl, e⟩ := hr.ints
  have hl : xs.size = zs.length := by rw [← e]; simp
  refine max_intList hh hL (by rw [hl]; exact List.length_pos_iff.mpr hz) fun v h' tk hv hk => ?_
  obtain ⟨t, rfl⟩ := intItems_at hv
  have e2 : numAt xs (argBest (fun i j => decide (numAt xs i > numAt xs j)) (xs.size - 1)) = maxI zs := by rw [numAt_nth e, hl]; rfl
  rw [e2]
  exact vret (hR.keeps (tk := tk) (dr := s.drawn) hk) .int m h
theorem min_lst {zs : List Int} {x : V} (hx : LstIs H x (zs.map .int)) (hh : A.handled = none) (hz : zs ≠ []) (h : Q (.int (minI zs)) F H) : Cl G fr A F H (.blt "min") [x] Q E := cl_b1 fun K m v hv R s hR => by
  obtain ⟨a, vs, rfl, hL, hr⟩ := hx.is hR hv
  obtain ⟨xs, rfl, e⟩ := hr.ints
  have hl : xs.size = zs.length := by rw [← e]; simp
  refine min_intList hh hL (by rw [hl]; exact List.length_pos_iff.mpr hz) fun v h' tk hv hk => ?_
  obtain ⟨t, rfl⟩ := intItems_at hv
  have e2 : numAt xs (argBest (fun i j => decide (numAt xs i < numAt xs j)) (xs.size - 1)) = minI zs := by rw [numAt_nth e, hl]; rfl
  rw [e2]
  exact vret (hR.keeps (tk := tk) (dr := s.drawn) hk) .int m h
theorem add_lst {x y : V} {l1 l2 : List V} (h1 : LstIs H x l1) (h2 : LstIs H y l2) (hl : l1.length + l2.length ≤ sizeLine) (h : Q (.lst (l1 ++ l2)) F H) : Op2 G fr A F H (binaryOp .Add) x y Q E := fun K m v w hv hw R s hR => by
  obtain ⟨a, i1, rfl, ⟨o1, ho1, c1, n1, d1⟩, q1⟩ := h1.is hR hv
  obtain ⟨b, i2, rfl, ⟨o2, ho2, c2, n2, d2⟩, q2⟩ := h2.is hR hw
  have e1 := q1.toArr
  have e2 := q2.toArr
  obtain ⟨oc, od, odt, osl⟩ := o1
  obtain ⟨pc, pd, pdt, psl⟩ := o2
  subst c1 d1 c2 d2
  refine concat_meets ⟨_, ho1, rfl⟩ ⟨_, ho2, rfl⟩ noFill_list_add seq_list_add PySem.F.slot_list_add PySem.F.entry_list_add (PySem.F.args_list_add_2 _ _) (list_addW a b i1 i2 n1 n2 od pd osl psl (by rw [e1, e2]; exact hl)) ⟨ho1, ho2, ?_⟩
  obtain ⟨le, r⟩ := hR.newF (tk := s.toks) (dr := s.drawn) (fun b o e => Heap.get?_push_of_some { cls := .type "list", data := .seq (i1 ++ i2) } e) (none_at_size s.heap) (Heap.get?_push_size s.heap (o := { cls := .type "list", data := .seq (i1 ++ i2) }) rfl)
  have hq : RVs K (i1 ++ i2).toList (l1 ++ l2) := by rw [Array.toList_append]; exact q1.append q2
  exact ⟨_, H, le, r, _, .lst (vs := (i1 ++ i2).toList) (Fz.add_self _ _ _) rfl rfl hq.length (hq.mono le).get, F, m.trans le, h⟩
theorem add_tup {l1 l2 : List V} (h1 : l1 ≠ []) (h2 : l2 ≠ []) (hl : l1.length + l2.length ≤ sizeLine) (h : Q (.tup (l1 ++ l2)) F H) : Op2 G fr A F H (binaryOp .Add) (.tup l1) (.tup l2) Q E := fun K m v w hv hw R s hR => by
  obtain ⟨a, vs, n1, ⟨f1, e1, q1⟩, rfl⟩ := hv.inv
  obtain ⟨b, ws, n2, ⟨f2, e2, q2⟩, rfl⟩ := hw.inv
  have v0 : vs ≠ [] := fun e => h1 (List.length_eq_zero_iff.mp (by rw [← e1, e]; rfl))
  have w0 : ws ≠ [] := fun e => h2 (List.length_eq_zero_iff.mp (by rw [← e2, e]; rfl))
  refine concat_meets ⟨_, hR.fz _ _ f1, rfl⟩ ⟨_, hR.fz _ _ f2, rfl⟩ noFill_tuple_add seq_tuple_add PySem.F.slot_tuple_add PySem.F.entry_tuple_add (PySem.F.args_tuple_add_2 _ _) (tuple_addW2 a b vs.toArray ws.toArray n1 n2 none none #[] #[] (by simpa using v0) (by simpa using w0) (by simp; lia)) ⟨hR.fz _ _ f1, hR.fz _ _ f2, ?_⟩
  obtain ⟨le, r⟩ := hR.newF (tk := s.toks) (dr := s.drawn) (fun b o e => Heap.get?_push_of_some { cls := .type "tuple", data := .seq (vs.toArray ++ ws.toArray) } e) (none_at_size s.heap) (Heap.get?_push_size s.heap (o := { cls := .type "tuple", data := .seq (vs.toArray ++ ws.toArray) }) rfl)
  have e : vs.toArray ++ ws.toArray = (vs ++ ws).toArray := by simp
  have hq : RVs K (vs ++ ws) (l1 ++ l2) := (RVs.of e1 q1).append (RVs.of e2 q2)
  refine ⟨_, H, le, r, _, .tup (vs := vs ++ ws) (n := 0) ?_ hq.length (hq.mono le).get, F, m.trans le, h⟩
  rw [Fz.add_self, e]
theorem Cl.arg2 {f x : V} {a : Addr} {l : List V} {H1 : Hp} (hr : Rem H a (.list l) H1) (h : Cl G fr A F H1 f [x, .lst l] Q E) : Cl G fr A F H f [x, .ref a] Q E := fun K m v vs hv hvs R s hR => by
  obtain ⟨K', le, r, hv2⟩ := list_freeze (hR.perm (hr.perm.append_right R))
  obtain ⟨u, w, rfl, hu, hw⟩ : ∃ u w, vs = [u, w] ∧ RV K u x ∧ RV K w (.ref a) := hvs.e2 (P := fun vs => ∃ u w, vs = [u, w] ∧ RV K u x ∧ RV K w (.ref a)) fun u w hu hw => ⟨u, w, rfl, hu, hw⟩
  obtain rfl := hw.i_ref
  refine wpAny_mono (h K' (m.trans le) v [u, .ref a] (hv.mono le) (.cons (hu.mono le) (.cons hv2 .nil)) R s r) (fun _ _ q => upPQ le q) fun _ _ q => upPQ le q
theorem list_copy {x : V} {l : List V} (hx : LstIs H x l) (hl : l.length ≤ sizeLine) (h : Q (.lst l) F H) : Cl G fr A F H (.typ "list") [x] Q E := cl_t1 fun K m v hv R s hR => by
  obtain ⟨a, vs, rfl, ⟨o, ho, c1, n, d1⟩, q1⟩ := hx.is hR hv
  refine call_list_seq a (.inl rfl) ho c1 d1 (fun h' c' hk hg => ?_) (by rw [q1.toArr]; exact hl)
  obtain ⟨le, r⟩ := hR.newF (tk := s.toks) (dr := s.drawn) hk (none_at_size s.heap) hg
  exact ⟨_, H, le, r, _, .lst (vs := vs.toList) (n := c') (Fz.add_self _ _ _) rfl rfl q1.length (q1.mono le).get, F, m.trans le, h⟩
end
theorem slV_step {l : List V} {lo hi : Option Int} {a b : Nat} (h : sliceBounds lo hi none l.length = ((a : Int), (b : Int), 1)) (hb : b ≤ l.length) : slV l lo hi none = (l.drop a).take (b - a) := by
  unfold slV slIdx
  rw [h]
  have e : sliceRange (a : Int) (b : Int) 1 = (List.range (b - a)).map (a + ·) := by
    show (List.range (if (1 : Int) > 0 then (if (a : Int) < b then ((b : Int) - a + 1 - 1) / 1 else 0) else (if (a : Int) > b then ((a : Int) - b - 1 - 1) / (-1) else 0)).toNat).map (fun (k : Nat) => ((a : Int) + 1 * (k : Int)).toNat) = _
    have : (if (1 : Int) > 0 then (if (a : Int) < b then ((b : Int) - a + 1 - 1) / 1 else 0) else (if (a : Int) > b then ((a : Int) - b - 1 - 1) / (-1) else 0)).toNat = b - a := by
      rw [if_pos (by decide), Int.ediv_one]
      exact step1 a b
    rw [this]
    apply List.map_congr_left
    intro k hk
    show ((a : Int) + 1 * (k : Int)).toNat = a + k
    rw [Int.one_mul]; rfl
  show (sliceRange (a : Int) (b : Int) 1).filterMap (l[·]?) = _
  rw [e, List.filterMap_map]
  have key : ∀ n, a + n ≤ l.length → (List.range n).filterMap (fun k => l[a + k]?) = (l.drop a).take n := by
    intro n
    induction n with
    | zero => intro _; rfl
    | succ n ih =>
      intro hn
      rw [List.range_succ, List.filterMap_append, ih (by lia), List.take_add_one, List.getElem?_drop]
      congr 1
  rcases Nat.le_total a b with q | q
  · exact key _ (by lia)
  · rw [show b - a = 0 from Nat.sub_eq_zero_of_le q]; rfl
theorem slV_last {l : List V} {k : Nat} (hk : 0 < k) : slV l (some (-(k : Int))) none none = l.drop (l.length - k) := by
  rw [slV_step (a := l.length - k) (b := l.length) ?_ (Nat.le_refl _), List.take_of_length_le (by rw [List.length_drop]; exact Nat.le_refl _)]
  unfold sliceBounds
  simp
  rw [if_pos (by lia)]
  exact clamp k l.length
theorem slV_init {l : List V} {k : Nat} (hk : 0 < k) : slV l none (some (-(k : Int))) none = l.take (l.length - k) := by
  rw [slV_step (a := 0) (b := l.length - k) ?_ (Nat.sub_le _ _)]
  · rfl
  unfold sliceBounds
  simp
  rw [if_pos (by lia)]
  exact clamp k l.length
theorem slV_first {l : List V} {k : Nat} (hk : k ≤ l.length) : slV l none (some (k : Int)) none = l.take k := by
  rw [slV_step (a := 0) (b := k) ?_ hk]
  · rfl
  unfold sliceBounds
  simp
  rw [if_neg (Int.not_lt.mpr (Int.natCast_nonneg _)), Int.min_eq_left (Int.ofNat_le.mpr hk)]; exact Int.max_eq_right (Int.natCast_nonneg _)
section
variable {G : Glob} {fr : List Env} {A : Around} {F : Fz} {H H' : Hp} {E : Value → Fz → Hp → Prop} {Q : V → Fz → Hp → Prop}
noncomputable def las (k : Nat) (s : List Int) : List Int := s.drop (s.length - k)
noncomputable def ini (k : Nat) (s : List Int) : List Int := s.take (s.length - k)
theorem sl_las {x : V} {s : List Int} (hx : LstIs H x (s.map .int)) (hz : s.length ≤ sizeLine) (h : Q (.lst ((las 1 s).map .int)) F H) : SlL x (some (-1)) none none Q F H :=
  .lst _ hx (by rw [List.length_map]; exact hz) nofun (by
    rw [show (-1 : Int) = -((1 : Nat) : Int) from rfl, slV_last (by decide), List.length_map, ← List.map_drop]
    exact h)
theorem sl_las2 {x : V} {s : List Int} (hx : LstIs H x (s.map .int)) (hz : s.length ≤ sizeLine) (h : Q (.lst ((las 2 s).map .int)) F H) : SlL x (some (-2)) none none Q F H :=
  .lst _ hx (by rw [List.length_map]; exact hz) nofun (by
    rw [show (-2 : Int) = -((2 : Nat) : Int) from rfl, slV_last (by decide), List.length_map, ← List.map_drop]
    exact h)
theorem sl_ini {x : V} {s : List Int} (hx : LstIs H x (s.map .int)) (hz : s.length ≤ sizeLine) (h : Q (.lst ((ini 1 s).map .int)) F H) : SlL x none (some (-1)) none Q F H :=
  .lst _ hx (by rw [List.length_map]; exact hz) nofun (by
    rw [show (-1 : Int) = -((1 : Nat) : Int) from rfl, slV_init (by decide), List.length_map, ← List.map_take]
    exact h)
theorem sl_ini2 {x : V} {s : List Int} (hx : LstIs H x (s.map .int)) (hz : s.length ≤ sizeLine) (h : Q (.lst ((ini 2 s).map .int)) F H) : SlL x none (some (-2)) none Q F H :=
  .lst _ hx (by rw [List.length_map]; exact hz) nofun (by
    rw [show (-2 : Int) = -((2 : Nat) : Int) from rfl, slV_init (by decide), List.length_map, ← List.map_take]
    exact h)
theorem sl_rev {x : V} {s : List Int} (hx : LstIs H x (s.map .int)) (hz : s.length ≤ sizeLine) (h : Q (.lst (s.reverse.map .int)) F H) : SlL x none none (some (-1)) Q F H :=
  .lst _ hx (by rw [List.length_map]; exact hz) (by decide) (by rw [slV_rev, ← List.map_reverse]; exact h)
theorem add_ints {x y : V} {s u : List Int} (h1 : LstIs H x (s.map .int)) (h2 : LstIs H y (u.map .int)) (hl : s.length + u.length ≤ sizeLine) (h : Q (.lst ((s ++ u).map .int)) F H) : Op2 G fr A F H (binaryOp .Add) x y Q E :=
  add_lst h1 h2 (by rw [List.length_map, List.length_map]; exact hl) (by rw [← List.map_append]; exact h)
theorem len_ints {x : V} {s : List Int} (hx : LstIs H x (s.map .int)) (hl : s.length ≤ sizeLine) (h : Q (.int s.length) F H) : Cl G fr A F H (.blt "len") [x] Q E :=
  len_lst hx (by rw [List.length_map]; exact Nat.lt_of_le_of_lt hl (by decide)) (by rw [List.length_map]; exact h)
theorem append_int {a : Addr} {s : List Int} {z : Int} (hu : Upd H a (.list (s.map .int)) (.list ((s ++ [z]).map .int)) H') (hl : s.length ≤ sizeLine) (h : Q .none F H') : Cl G fr A F H (.blt "list.append") [.ref a, .int z] Q E :=
  append (l := s.map .int) (by rw [List.map_append] at hu; exact hu) (by rw [List.length_map]; exact hl) h
theorem sub_top {value slice : Expr} {x : V} {s : List Int} (hx : LstIs H x (s.map .int)) (h0 : s ≠ []) (h : Q (.int (s.getD (s.length - 1) 0)) F H) (hs : autoParam (notSlice slice = true) tac0) : Op2 G fr A F H (subscriptTail value slice) x (.int (-1)) Q E := by
  have hl := List.length_pos_iff.mpr h0
  refine sub_lst_neg hx (by decide) (by rw [List.length_map]; lia) (by decide) (y := .int (s.getD (s.length - 1) 0)) ?_ h hs
  rw [List.length_map, show ((-1 : Int) + (s.length : Nat)).toNat = s.length - 1 from m1 hl, List.getElem?_map, List.getD_eq_getElem?_getD, List.getElem?_eq_getElem (show s.length - 1 < s.length from Nat.sub_one_lt_of_lt hl)]
  rfl
end
theorem m_extend : Mth "list" "extend" "list.extend" := ⟨PySem.F.plainAttrs_list, PySem.F.slot_list_extend, PySem.F.type_list_extend⟩
theorem m_lower : Mth "str" "lower" "str.lower" := ⟨PySem.F.plainAttrs_str, PySem.F.slot_str_lower, PySem.F.type_str_lower⟩
theorem m_split : Mth "str" "split" "str.split" := ⟨PySem.F.plainAttrs_str, PySem.F.slot_str_split, PySem.F.type_str_split⟩
theorem m_values : Mth "dict" "values" "dict.values" := ⟨PySem.F.plainAttrs_dict, PySem.F.slot_dict_values, PySem.F.type_dict_values⟩
section
variable {G : Glob} {fr : List Env} {A : Around} {F : Fz} {H H' : Hp} {E : Value → Fz → Hp → Prop} {Q : V → Fz → Hp → Prop}
theorem not_long {l : Array Value} {n : Nat} (h : n ≤ sizeLine) : ¬((!l.isEmpty && Builtin.List.listTooLong n) = true) := by
  have e : Builtin.List.listTooLong n = false := by
    unfold Builtin.List.listTooLong sizeLine
    rw [sizeLine_eq] at h
    exact decide_eq_false (by lia)
  rw [e, Bool.and_false]
  exact Bool.false_ne_true
theorem more_with {a b : Addr} {l l2 : List V} {items ws : Array Value} {n n2 : Nat} {K : Fz} {R : Hp} {s : Shared} {res : Value} {o2 : Obj} (hu : Upd H a (.list l) (.list (l ++ l2)) H') (hR : Rep G fr K (H ++ R) s) (ho : s.heap.get? a = some { cls := .type "list", dict := none, data := .seq items n, slots := #[] }) (hr : RVs K items.toList l)
    (ho2 : s.heap.get? b = some o2) (c2 : o2.cls = .type "list") (d2 : o2.data = .seq ws n2) (hr2 : RVs K ws.toList l2) (hl : l.length + l2.length ≤ sizeLine) {P : Fin → Shared → Prop} {E2 : Value → Shared → Prop}
    (k : ∀ s', Rep G fr K (H' ++ R) s' → P (.done (.ret res)) s') : wpAny G.M A (Builtin.List.listExtendWith (.ref a) (.ref b) res) P E2 s := by
  have e1 := hr.toArr
  have e2 := hr2.toArr
  unfold Builtin.List.listExtendWith
  refine wpAny_bind (wpAny_typeOf (T := "list") ⟨_, ho2, c2⟩ ?_)
  refine wpAny_ite_split (fun _ => ?_) fun h => absurd (by simp) h
  refine wpAny_bind ?_
  unfold Builtin.List.listItems
  refine wpAny_bind (wpAny_seqItems ho2 d2 (wpAny_pure ?_))
  refine wpAny_bind (wpAny_bind (wpAny_seqItems ho rfl (wpAny_pure ?_)))
  rw [if_neg (not_long (by rw [e1, e2]; exact hl))]
  refine wpAny_bind ?_
  show wpAny _ _ (updateSeq a fun x => x ++ ws) _ _ _
  refine wpAny_updateSeq (hz := by rw [e1]; exact Nat.le_trans (Nat.le_add_right _ _) hl) (_hz' := by rw [Array.size_append, e1, e2]; exact Nat.le_succ_of_le hl) ho rfl ?_
  have g := Heap.get?_update_self (Obj.mapSeq fun x => x ++ ws) ho rfl
  have r := hR.upd' (tk := s.toks) (dr := s.drawn) hu (Heap.SameBut.update ..).extBut g ⟨_, _, rfl, by simpa using hr.append hr2⟩ notNs_list
  exact wpAny_pure (k _ r)
theorem extend {a : Addr} {l l2 : List V} {x : V} (hu : Upd H a (.list l) (.list (l ++ l2)) H') (hx : LstIs H x l2) (hl : l.length + l2.length ≤ sizeLine) (h : Q .none F H') : Cl G fr A F H (.blt "list.extend") [.ref a, x] Q E := cl_b2 fun K m w v hw h2 => by
  refine hw.e_ref (P := fun w => EvAt _ _ _ _ _ (call _ [w, v]) _ _) fun R s hR => ?_
  obtain ⟨o, ho, items, n, rfl, hr⟩ := hR.get hu.mem
  obtain ⟨b, ws, rfl, ⟨o2, ho2, c2, n2, d2⟩, q2⟩ := hx.is hR h2
  refine wpAny_call_entry PySem.F.slot_list_extend ⟨_, ho, rfl⟩ PySem.F.entry_list_extend ?_ (PySem.F.args_list_extend_2 _ _)
  show wpAny _ _ (Builtin.List.listExtendWith (.ref a) (.ref b) .none) _ _ s
  exact more_with hu hR ho hr ho2 c2 d2 q2 hl fun s' r => ⟨_, rfl, K, H', .refl K, r, _, .none, F, m, h⟩
theorem iadd_lst {a : Addr} {l l2 : List V} {x : V} (hu : Upd H a (.list l) (.list (l ++ l2)) H') (hx : LstIs H x l2) (hl : l.length + l2.length ≤ sizeLine) (h : Q (.ref a) F H') : Op2 G fr A F H (inplaceOp .Add) (.ref a) x Q E := fun K m w v hw h2 => by
  refine hw.e_ref (P := fun w => EvAt _ _ _ _ _ (inplaceOp _ w v) _ _) fun R s hR => ?_
  obtain ⟨o, ho, items, n, rfl, hr⟩ := hR.get hu.mem
  obtain ⟨b, ws, rfl, ⟨o2, ho2, c2, n2, d2⟩, q2⟩ := hx.is hR h2
  have hT : s.TypeIs (.ref a) "list" := ⟨_, ho, rfl⟩
  have hseq : seqSlot? (.type "list") (dunderI "add") = pure (some (.builtin "list.__iadd__")) := PySem.seqSlot_of PySem.F.slot_list_iadd.lookup (by decide +kernel)
  have hfi : fillsInplaceSlot (.type "list") "add" true = pure false := by
    unfold fillsInplaceSlot
    show (typeLookup (.type "list") (dunderI "add") >>= fun fi => pure (fi.isSome && !isSeqSlot fi)) = pure false
    rw [PySem.F.slot_list_iadd.lookup]
    rfl
  unfold inplaceOp
  refine wpAny_holding ?_
  refine wpAny_bind (wpAny_typeOf hT (wpAny_bind (wpAny_of_eq hfi ?_)))
  show wpAny _ _ (if false = true then _ else _) _ _ _
  rw [if_neg Bool.false_ne_true]
  refine wpAny_bind (wpAny_binaryOp1_none (nm := "add") hT ⟨_, ho2, c2⟩ noFill_list_add ?_)
  refine wpAny_bind (wpAny_of_eq hseq ?_)
  refine wpAny_bind (wpAny_rule ?_)
  refine wpAny_call_entry PySem.F.slot_list_iadd hT PySem.F.entry_list_iadd ?_ (PySem.F.args_list_iadd_2 _ _)
  show wpAny _ _ (Builtin.List.listExtendWith (.ref a) (.ref b) (.ref a)) _ _ s
  exact more_with hu hR ho hr ho2 c2 d2 q2 hl fun s' r => ⟨_, rfl, K, H', .refl K, r, _, .ref, F, m, h⟩
theorem lower_s {x y : Str} (e : Txt.lower x = y) (hl : y.length ≤ 1000) (h : Q (.str y) F H) : Cl G fr A F H (.blt "str.lower") [.str x] Q E := cl_b1 fun K m v hv => hv.e_str (P := fun v => EvAt _ _ _ _ _ (call _ [v]) _ _) fun t R s hR => by
  refine PySem.SC.lower ?_ ?_
  · rw [e]; simp [Builtin.Str.tooLong, sizeLine]; lia
  · rw [e]; exact vret (hR.toks _) .str m h
theorem strs_rv {K : Fz} : ∀ xs : List (Str × Tok), RVs K (strValues xs) ((xs.map (·.1)).map .str)
  | [] => .nil
  | _ :: xs => .cons .str (strs_rv xs)
theorem split_s {x y : Str} {l : List Str} (e : Txt.split x y = l) (hy : (y.length == 0) = false) (hx : x.length ≤ 1000) (hp : (Builtin.Str.partsBetween x (Builtin.Str.occurrences x y 0 x.length (x.length + 1)) y.length).length ≤ 1000) (h : Q (.lst (l.map .str)) F H) : Cl G fr A F H (.blt "str.split") [.str x, .str y] Q E := cl_b2 fun K m v w hv hw =>
  hv.e_str (P := fun v => EvAt _ _ _ _ _ (call _ [v, w]) _ _) fun t => hw.e_str (P := fun w => EvAt _ _ _ _ _ (call _ [_, w]) _ _) fun u R s hR => by
    have fin : ∀ (xs : List (Str × Tok)) (tk : Nat), xs.map (·.1) = Txt.split x y → PQ G fr K R (VQ Q) (.ref s.heap.objs.size) { s with toks := tk, heap := s.heap.push { cls := .type "list", data := .seq (strValues xs).toArray } } := fun xs tk hxs => by
      obtain ⟨le, r⟩ := hR.newF (tk := tk) (dr := s.drawn) (fun b o e => Heap.get?_push_of_some { cls := .type "list", data := .seq (strValues xs).toArray } e) (none_at_size s.heap) (Heap.get?_push_size s.heap (o := { cls := .type "list", data := .seq (strValues xs).toArray }) rfl)
      have hq := strs_rv (K := K) xs
      rw [hxs, e] at hq
      exact ⟨_, H, le, r, _, .lst (vs := strValues xs) (Fz.add_self _ _ _) rfl rfl hq.length (hq.mono le).get, F, m.trans le, h⟩
    cases h1 : (decide (x.length < y.length) || decide (Builtin.Str.strKind x < Builtin.Str.strKind y)) with
    | true => exact call_meets PySem.F.slot_str_split (typeIs_str _ _ _) PySem.F.entry_str_split (PySem.F.args_str_split_2 _ _) (meets_str_split_cannot_occur x y t u h1) (fin [(x, t)] _ (if_pos h1).symm)
    | false =>
      cases hf : (Builtin.Str.occurrences x y 0 x.length (x.length + 1)).isEmpty with
      | true => exact call_meets PySem.F.slot_str_split (typeIs_str _ _ _) PySem.F.entry_str_split (PySem.F.args_str_split_2 _ _) (meets_str_split_not_found x y t u h1 hy hf) (fin [(x, t)] _ ((if_neg (ne_true_of_eq_false h1)).trans (if_pos hf)).symm)
      | false =>
        refine call_meets PySem.F.slot_str_split (typeIs_str _ _ _) PySem.F.entry_str_split (PySem.F.args_str_split_2 _ _) (meets_str_split_sep x y t u h1 hy hf (Nat.le_trans hx (by decide)) (Nat.le_trans hp (by decide))) ?_
        have := fin (numbered s.toks (Builtin.Str.partsBetween x (Builtin.Str.occurrences x y 0 x.length (x.length + 1)) y.length)) (s.toks + (Builtin.Str.partsBetween x (Builtin.Str.occurrences x y 0 x.length (x.length + 1)) y.length).length) ((numbered_texts _ _).trans ((if_neg (ne_true_of_eq_false h1)).trans (if_neg (ne_true_of_eq_false hf))).symm)
        rw [← strsFrom_eq] at this
        exact this
noncomputable abbrev viewO (a : Addr) : Obj := { cls := .type "dict_values", data := .fields #[.ref a] }
theorem dict_values {K0 : Type} [DecidableEq K0] (kd : Kd G K0) {a : Addr} {l : List (K0 × V)} (hd : DctIs G F H a (kvL kd.emb l)) (hnd : (l.map (·.1)).Nodup)
    (h : ∀ v, Q (.ref v) F ((v, .raw (viewO a)) :: H)) : Cl G fr A F H (.blt "dict.values") [.ref a] Q E := cl_b1 fun K m v hv R s hR => by
  obtain rfl := hv.i_ref
  obtain ⟨ha, es, n, ho, hr⟩ := hd.obj m hR
  obtain ⟨kvs, hm, h1, h2⟩ := dictOf (kd := kd) hnd ho hr
  refine call_meetsIn PySem.F.slot_dict_values ⟨_, ho, rfl⟩ PySem.F.entry_dict_values (PySem.F.args_dict_values_1 _) (meets_dict_values kd.knd a ha) ⟨⟨kvs, hm⟩, ?_⟩
  exact ⟨K, _, .refl K, hR.new (x := .raw (viewO a)) (tk := s.toks) (dr := s.drawn) (fun b o e => Heap.get?_push_of_some _ e) (none_at_size _) (Heap.get?_push_size _ rfl) rfl, _, .ref, F, m, h _⟩
theorem list_values {K0 : Type} [DecidableEq K0] (kd : Kd G K0) {v a : Addr} {l : List (K0 × V)} {H1 : Hp} (hh : A.handled = none) (hv : Rem H v (.raw (viewO a)) H1) (hd : DctIs G F H1 a (kvL kd.emb l)) (hnd : (l.map (·.1)).Nodup) (hl : l.length ≤ sizeLine)
    (h : Q (.lst (l.map (·.2))) F H1) : Cl G fr A F H (.typ "list") [.ref v] Q E := cl_t1 fun K m v hv' R s hR => by
  obtain rfl := hv'.i_ref
  have r0 := hR.perm (hv.perm.append_right R)
  have r1 := r0.dropNot (fun _ e => nomatch e)
  obtain ⟨ha, es, n, ho, hr⟩ := hd.obj m r1
  obtain ⟨kvs, hm, h1, h2⟩ := dictOf (kd := kd) hnd ho hr
  obtain ⟨ep, hm⟩ := hm.dictAt
  obtain ⟨_, o, hov, rfl⟩ := r0.own _ (.head _)
  have hlen : kvs.length = l.length := by rw [← List.length_map (f := fun p : K0 × Value => p.1), h1, List.length_map]
  refine PySem.W.kdl_call (PySem.W.kdl_values (ep := ep)) hh ⟨⟨_, hov, rfl, rfl⟩, hm⟩ (by rw [hlen]; exact hl) fun h' tk acc c hk hD hacc => ?_
  have e := PySem.W.kdl_vals_eq acc.toList (by rw [Array.length_toList]; exact hacc.1) fun j v e => hacc.2 j v (by rw [← Array.getElem?_toList]; exact e)
  obtain ⟨le, r⟩ := r1.newF (tk := tk) (dr := s.drawn) hk (none_at_size s.heap) hD
  refine ⟨_, H1, le, r, _, .lst (vs := acc.toList) (n := c) (Fz.add_self _ _ _) rfl rfl ?_ ?_, F, m.trans le, h⟩
  · rw [e]; exact h2.length
  · rw [e]; exact (h2.mono le).get
theorem ne_dict0 {a b : Addr} {H1 : Hp} (ha : (a == sysModules) = false) (hb : (b == sysModules) = false) (hu : A.units < cLine) (h1 : Has H1 a (.dict [])) (hr : Rem H b (.dict []) H1) (h : Q (.bool false) F H1) : Op2 G fr A F H (compareOp .NotEq) (.ref a) (.ref b) Q E := fun K m v w hv hw R s hR => by
  obtain rfl := hv.i_ref
  obtain rfl := hw.i_ref
  have r0 := hR.perm (hr.perm.append_right R)
  have r1 := r0.dropNot (fun _ e => nomatch e)
  obtain ⟨_, o, ho, es, n, rfl, hes⟩ := r0.own _ (.head _)
  obtain ⟨o2, ho2, es2, n2, rfl, hes2⟩ := r1.has h1
  have d0 : ∀ {c : Addr} {es : Array DictEntry} {n : Nat}, s.heap.get? c = some { cls := .type "dict", dict := none, data := .dict es n, slots := #[] } → RD G.w K es.toList [] → s.heap.DictOf (kStr G).knd c [] := fun ho hr => by
    obtain ⟨kvs', hD, e1, e2⟩ := dictOf (kd := kStr G) (l := []) .nil ho hr
    cases kvs' with
    | nil => exact hD
    | cons _ _ => simp at e1
  exact PySem.W.keq_ne ha hb (d0 ho2 hes2) (d0 ho hes) hu (fun _ => .nil) (vret r1 .bool m h)
theorem EqInt {s : Shared} {A : Around} {i j : Int} {t u : Tok} : PySem.SeqAt.EqAt A s (.int i t) (.int j u) (i == j) := (PySem.MeetsSeq.EqGives.int i j t u).at _ _
theorem eq_ints {x y : V} {zs : List Int} (hx : LstIs H x (zs.map .int)) (hy : LstIs H y (zs.map .int)) (hu : A.units < cLine) (h : Q (.bool true) F H) : Op2 G fr A F H (compareOp .Eq) x y Q E := fun K m v w hv hw R s hR => by
  obtain ⟨a, vs, rfl, hL, hr⟩ := hx.is hR hv
  obtain ⟨b, ws, rfl, hL2, hr2⟩ := hy.is hR hw
  have e1 := hr.toArr
  have e2 := hr2.toArr
  refine PySem.SeqAt.eq_listAt (e := fun _ => true) hL hL2 (e1.trans e2.symm) hu (fun j h1 h2 => ?_) ?_
  · have hj : j < zs.length := by rw [e1, List.length_map] at h1; exact h1
    have g1 := hr.get j vs[j] (.int zs[j]) (by simp) (by simp [List.getElem?_eq_getElem hj])
    have g2 := hr2.get j ws[j] (.int zs[j]) (by simp) (by simp [List.getElem?_eq_getElem hj])
    obtain ⟨t, e3⟩ := g1.inv
    obtain ⟨u, e4⟩ := g2.inv
    rw [e3, e4]
    have := EqInt (s := s) (A := A.in1) (i := zs[j]) (j := zs[j]) (t := t) (u := u)
    rw [beq_self_eq_true] at this
    exact this
  · rw [show (List.range vs.size).all (fun _ => true) = true by simp]
    exact vret hR .bool m h
theorem rmul_any (z : Int) (t : Tok) (l : Addr) (items : Array Value) (n : Nat) (dd : Option Addr) (sl : Array (Option Value)) :
    Meets (Builtin.«int.__rmul__» ⟨[.int z t, .ref l], []⟩) (fun _ R s => s.heap.get? l = some { cls := .type "list", dict := dd, data := .seq items n, slots := sl } ∧ R (.ok (.ret Value.notImplemented)) s) :=
  .of_wp fun prog w A R s h => by
    obtain ⟨hp, g, d, tk, os⟩ := s
    obtain ⟨hl, h⟩ := h
    wp_walk
    exact ⟨_, rfl, h⟩
theorem mul_any (l : Addr) (items : Array Value) (n : Nat) (x : Int) (u : Tok) (dd : Option Addr) (sl : Array (Option Value)) (h0 : ¬(!Builtin.List.listFitsIndex x) = true) (h1 : ¬items.size * x.toNat > (2 ^ 63 - 1) / 8) (h2 : ¬Builtin.List.listTooLong (items.size * x.toNat) = true) :
    Meets (Builtin.«list.__mul__» ⟨[.ref l, .int x u], []⟩) (fun _ R s => s.heap.get? l = some { cls := .type "list", dict := dd, data := .seq items n, slots := sl } ∧ R (.ok (.ret (.ref s.heap.objs.size))) { s with heap := s.heap.push { cls := .type "list", data := .seq (List.foldl (fun x1 x2 => x1 ++ x2) #[] (List.replicate (if items.isEmpty = true then 0 else x.toNat) items)) } }) :=
  .of_wp fun prog w A R s h => by
    obtain ⟨hp, g, d, tk, os⟩ := s
    obtain ⟨hl, h⟩ := h
    have hsz := AutoListH.joined_fits h2
    wp_walk
    refine wpAny_ite_false (decide_eq_false (Nat.not_lt.mpr hsz)) ?_
    wp_walk
    exact ⟨_, rfl, h⟩
theorem mul_lst {x : V} {l : List V} {n : Nat} {z : Int} (hz : z = n) (hm : LstIs H x l) (hs : l.length * n ≤ 1000) (hn : n ≤ 1000) (h : Q (.lst (List.replicate n l).flatten) F H) : Op2 G fr A F H (binaryOp .Mult) x (.int z) Q E := fun K m v w hv hw R s hR => by
  refine hw.e_int (P := fun w => wpAny _ _ (binaryOp _ _ w) _ _ _) fun tk => ?_
  obtain ⟨a, items, rfl, ⟨o, ho, c, k, dt⟩, hr⟩ := hm.is hR hv
  obtain ⟨oc, od, odt, osl⟩ := o
  subst c dt
  have e := hr.toArr
  have ez : z.toNat = n := by lia
  have hrep : List.foldl (fun x1 x2 : Array Value => x1 ++ x2) #[] (List.replicate (if items.isEmpty = true then 0 else z.toNat) items) = (List.replicate n items.toList).flatten.toArray := by
    rw [ez]
    cases he : items.isEmpty with
    | true =>
      have : items = #[] := by simpa using he
      subst this
      simp
    | false => rw [listMul_foldl]; simp
  have q : items.size * z.toNat ≤ 1000 := by rw [ez, e]; exact hs
  refine wpAny_binaryOp_repeat_ref (T := "list") (U := "int") (by decide) ⟨_, ho, rfl⟩ (fun s' => typeIs_int s' z tk) noFill_list_mul PySem.F.fills_int_mul PySem.F.slot_int_rmul repeat_list PySem.F.slot_int_index.lookup
    (call_meets PySem.F.slot_int_rmul (typeIs_int s z tk) PySem.F.entry_int_rmul (PySem.F.args_int_rmul_2 _ _) (rmul_any z tk a items k od osl)
      ⟨ho, rfl, ⟨_, ho, rfl⟩, call_meets PySem.F.slot_list_mul ⟨_, ho, rfl⟩ PySem.F.entry_list_mul (PySem.F.args_list_mul_2 _ _)
        (mul_any a items k z tk od osl (by simp [Builtin.List.listFitsIndex]; lia) (by lia) (by simp [Builtin.List.listTooLong, sizeLine]; lia))
        ⟨ho, ?_⟩⟩)
  rw [hrep]
  obtain ⟨le, r⟩ := hR.newF (tk := s.toks) (dr := s.drawn) (fun b o e => Heap.get?_push_of_some { cls := .type "list", data := .seq (List.replicate n items.toList).flatten.toArray } e) (none_at_size s.heap) (Heap.get?_push_size s.heap (o := { cls := .type "list", data := .seq (List.replicate n items.toList).flatten.toArray }) rfl)
  have hq : ∀ n, RVs K (List.replicate n items.toList).flatten (List.replicate n l).flatten := by
    intro n
    induction n with
    | zero => exact .nil
    | succ n ih => rw [List.replicate_succ, List.replicate_succ, List.flatten_cons, List.flatten_cons]; exact hr.append ih
  exact ⟨_, H, le, r, _, .lst (vs := (List.replicate n items.toList).flatten) (Fz.add_self _ _ _) rfl rfl (hq n).length ((hq n).mono le).get, F, m.trans le, h⟩
end
noncomputable def selB (start stop step : Int) (i : Nat) : Bool :=
  if step > 0 then start ≤ i && i < stop && (i - start) % step == 0
  else stop < i && i ≤ start && (start - i) % (-step) == 0
noncomputable def cutB (start stop step : Int) (xs : Array Value) : Array Value := (xs.toList.zipIdx.filterMap fun (x, k) => if selB start stop step k then none else some x).toArray
theorem cut_last {α : Type} (l : List α) (n : Nat) : ∀ k : Nat, k + l.length = n → (l.zipIdx k).filterMap (fun (p : α × Nat) => if selB (((n - 1 : Nat) : Int)) n 1 p.2 then none else some p.1) = l.take (n - 1 - k) := by
  induction l with
  | nil => intro k _; simp
  | cons x l ih =>
    intro k hk
    rw [List.zipIdx_cons, List.length_cons] at *
    rw [List.filterMap_cons]
    have e : selB (((n - 1 : Nat) : Int)) n 1 k = decide (n - 1 ≤ k) := by
      unfold selB
      rw [if_pos (by decide), Int.emod_one]
      have : ((k : Int) < n) := Int.ofNat_lt.mpr (by rw [← hk]; exact Nat.lt_add_of_pos_right (Nat.succ_pos _))
      simp only [this, decide_true, Bool.and_true, beq_self_eq_true]
      rw [decide_eq_decide]
      exact Int.ofNat_le
    rw [ih (k + 1) (by rw [← hk, Nat.add_right_comm]; rfl)]
    by_cases h : n - 1 ≤ k
    · rw [e, decide_eq_true h]
      have : l = [] := List.length_eq_zero_iff.mp (cut1 hk h)
      subst this
      rw [show n - 1 - k = 0 from Nat.sub_eq_zero_of_le h]
      simp
    · rw [e, decide_eq_false h, show n - 1 - k = (n - 1 - (k + 1)) + 1 from (Nat.sub_add_cancel (Nat.sub_pos_of_lt (Nat.not_le.mp h))).symm, List.take_succ_cons]
      rfl
theorem bounds_last (n : Nat) : sliceBounds (some (-1)) none none n = (((n - 1 : Nat) : Int), (n : Int), 1) := by
  unfold sliceBounds
  simp
  exact clamp 1 n
section
variable {G : Glob} {fr : List Env} {A : Around} {F : Fz} {H H' : Hp} {E : Value → Shared → Prop} {s : Shared}
theorem del_last {l sl : Addr} {items : Array Value} {n : Nat} {t : Tok} {Q : Unit → Shared → Prop} (ho : s.heap.get? l = some { cls := .type "list", dict := none, data := .seq items n, slots := #[] })
    (hs : s.heap.IsSliceOf sl (.int (-1) t) .none .none) (hsz : items.size ≤ sizeLine) (h : Q () { s with heap := s.heap.update l (Obj.mapSeq fun xs => cutB ((items.size - 1 : Nat) : Int) items.size 1 xs) }) : wpAny G.M A (delItem (.ref l) (.ref sl)) Q E s := by
  obtain ⟨os, hos, hcs, hds⟩ := hs
  have hTs : s.TypeIs (.ref sl) "slice" := ⟨os, hos, hcs⟩
  have hT : s.TypeIs (.ref l) "list" := ⟨_, ho, rfl⟩
  refine wpAny_delItem_slot hT (by decide) PySem.F.slot_list_delitem (wpAny_call_entry PySem.F.slot_list_delitem hT PySem.F.entry_list_delitem ?_ (PySem.F.args_list_delitem_2 _ _))
  show wpAny _ _ (Builtin.List.listSubscript? (.ref sl) >>= _) _ _ s
  refine wpAny_bind ?_
  unfold Builtin.List.listSubscript?
  refine wpAny_bind (wpAny_specialOf hTs slice_no_index ?_)
  simp only [Option.isNone_none, if_true]
  refine wpAny_pure ?_
  show wpAny _ _ (typeOf (.ref sl) >>= _) _ _ s
  refine wpAny_bind (wpAny_typeOf hTs ?_)
  rw [if_neg (by decide), listSliceParts_eq]
  refine wpAny_bind (wpAny_bind (wpAny_field hos hds (x := .none) rfl (wpAny_bind (wpAny_listPart .none ?_))))
  rw [if_neg (show ¬ ((rawPart none == rawInt 0) = true) from Bool.false_ne_true)]
  refine wpAny_bind (wpAny_field hos hds (x := .int (-1) t) rfl (wpAny_bind (wpAny_listPart (.int _ _) ?_)))
  refine wpAny_bind (wpAny_field hos hds (x := .none) rfl (wpAny_bind (wpAny_listPart .none (wpAny_pure ?_))))
  refine wpAny_bind (m := Builtin.List.listItems (.ref l)) ?_
  unfold Builtin.List.listItems
  refine wpAny_bind (wpAny_seqItems ho rfl (wpAny_pure ?_))
  refine wpAny_bind (wpAny_of_eq (sliceIndices_raw (some (-1)) none none items.size nofun) ?_)
  rw [bounds_last]
  refine wpAny_bind (wpAny_rule ?_)
  show wpAny _ _ (updateSeq l (fun xs => cutB ((items.size - 1 : Nat) : Int) items.size 1 xs) >>= _) _ _ _
  refine wpAny_bind ?_
  have hz2 : (cutB ((items.size - 1 : Nat) : Int) items.size 1 items).size ≤ sizeLine + 1 := by
    unfold cutB
    rw [List.size_toArray]
    refine Nat.le_trans (List.length_filterMap_le _ _) ?_
    rw [List.length_zipIdx, Array.length_toList]
    exact Nat.le_succ_of_le hsz
  refine wpAny_updateSeq (hz := hsz) (_hz' := hz2) ho rfl ?_
  refine wpAny_bind (wpAny_letGo ?_)
  exact wpAny_pure ⟨_, rfl, h⟩
end
inductive DelL (o i : V) (Q : Fz → Hp → Prop) (F : Fz) (H : Hp) : Prop where
  | mk (a : Addr) (l : List V) (H' : Hp) (e1 : o = .ref a) (e2 : i = .int (-1)) (hu : Upd H a (.list l) (.list (l.take (l.length - 1))) H') (hl : l.length ≤ sizeLine) (h : Q F H')
theorem Ex_DelLast {G : Glob} {fr : List Env} {A : Around} {env : Env} {F : Fz} {H : Hp} {E : Value → Fz → Hp → Prop} {Q : FV → Fz → Hp → Prop} {value e : Expr} {p q pos} (h : Ev G fr A F H (eval value env) (fun o F1 H1 => Ev G fr A F1 H1 (eval e env) (fun i F2 H2 => DelL o i (Q .next) F2 H2) E) E) :
    Ex G fr A F H (exec (.Delete [.Subscript value (.Slice (some e) none none p) q] pos) env) Q E := fun K m R s hR => by
  refine wpAny_Delete ?_
  rw [arm_deleteEach_cons, arm_deleteEach_nil]
  refine wpAny_bind (wpAny_delete_Subscript (h.go m hR (.refl K) fun v o F1 K1 H1 s1 l1 m1 r1 hx h1 => wpAny_Slice ?_))
  rw [evalPart_some, evalPart_none]
  refine h1.go m1 r1 l1 fun iv i F2 K2 H2 s2 l2 m2 r2 hi hq => wpAny_pure (wpAny_pure ?_)
  obtain ⟨a, l, H3, rfl, rfl, hu, hl, hq⟩ := hq
  obtain rfl := hx.i_ref
  refine hi.e_int (P := fun iv => wpAny _ _ (delItem _ _) _ _ { s2 with heap := s2.heap.push { cls := .type "slice", data := .fields #[iv, .none, .none] } }) fun t => ?_
  have r3 := r2.keeps (h' := s2.heap.push { cls := .type "slice", data := .fields #[.int (-1) t, .none, .none] }) (tk := s2.toks) (dr := s2.drawn) fun b o e => Heap.get?_push_of_some _ e
  obtain ⟨o, ho, items, n, rfl, hr⟩ := r3.get hu.mem
  have e := hr.toArr
  refine del_last ho ⟨_, Heap.get?_push_size _ rfl, rfl, rfl⟩ (by rw [e]; exact hl) ?_
  have g := Heap.get?_update_self (Obj.mapSeq fun xs => cutB ((items.size - 1 : Nat) : Int) items.size 1 xs) ho rfl
  have e2 : (cutB ((items.size - 1 : Nat) : Int) items.size 1 items).toList = items.toList.take (items.size - 1) := by
    have := cut_last items.toList items.size 0 (by simp)
    unfold cutB
    simpa using this
  have r4 := r3.upd' (tk := s2.toks) (dr := s2.drawn) hu (Heap.SameBut.update ..).extBut g ⟨_, _, rfl, by
    rw [e2, e]
    exact hr.take _⟩ notNs_list
  exact wpAny_pure ⟨K2, H3, l1.trans l2, r4, _, .next, F2, m2, hq⟩
theorem sub_str_last {G : Glob} {fr : List Env} {A : Around} {F : Fz} {H : Hp} {E : Value → Fz → Hp → Prop} {Q : V → Fz → Hp → Prop} {value slice : Expr} {x : Str} {c : Nat} (h0 : 0 < x.length) (he : x.cps[x.length - 1]? = some c) (h : Q (.str ⟨#[c]⟩) F H) (hs : autoParam (notSlice slice = true) tac0) :
    Op2 G fr A F H (subscriptTail value slice) (.str x) (.int (-1)) Q E := fun K m vo vi ho hi' R s hR => by
  refine ho.e_str (P := fun vo => wpAny _ _ (subscriptTail value slice vo vi) _ _ _) fun t => hi'.e_int (P := fun vi => wpAny _ _ (subscriptTail value slice _ vi) _ _ _) fun u => ?_
  refine tail_any (typeIs_str _ _ _) PySem.F.slot_str_getitem.lookup (PySem.P.getItem_str (c := c) (by decide) ?_ (vret (hR.toks _) .str m h)) (sub_of hs)
  have : seqIndex? (-1) x.length = some (x.length - 1) := by
    unfold seqIndex?
    simp only [if_pos (show (-1 : Int) < 0 by decide)]
    rw [if_pos (by simp only [Bool.and_eq_true, decide_eq_true_eq]; exact m1b h0)]
    congr 1
    exact m1 h0
  rw [this]
  exact he
section
variable {C : Cx} {ρ : Rho} {F : Fz} {H : Hp} {Q : QF}
theorem W_del (n : Nat) {v e : Expr} {p q pos : Pos} (ok : CxOk C F) (h : W C n (.e v ρ F H fun o ρ F H => W C n (.e e ρ F H fun i ρ F H => DelL o i (fun F H => Q .next ρ F H) F H))) : SmS C (.Delete [.Subscript v (.Slice (some e) none none p) q] pos) ρ F H Q :=
  Ex_DelLast ((W.sound n).k ok h fun o ρ F H ok h => (W.sound n).k ok h fun i ρ F H ok h => by
    obtain ⟨a, l, H', e1, e2, hu, hl, h⟩ := h
    exact ⟨a, l, _, e1, e2, .tl hu, hl, _, _, rfl, ok.mono (.refl _), h⟩)
theorem W_cell {x : Str} {p : Pos} {c : Addr} {y : V} {Q : QV} (ok : CxOk C F) (hk : C.env.kindOf x = some .cell) (hc : C.env.cells.lookup x = some c) (hm : Has H c (.cell (some y))) (h : Q y ρ F H) : SmE C (.Name x p) ρ F H Q :=
  Ev_cell hc (.tl hm) ⟨_, _, rfl, ok, h⟩ ok.kind hk (ok.nodbg hk).1
noncomputable abbrev cpC (C : Cx) (scope : Scope) (cl : List (Str × Addr)) (a : Addr) : Cx := { C with env := compEnvC scope cl a C.env, fl := [], E := No }
theorem W_turn (n : Nat) {scope : Scope} {cl : List (Str × Addr)} {nms : List Str} {x : Str} {px : Pos} {elt : Expr} {l : List V} {f : Nat → V} (ok : CxOk C F) (hk : okScope (relabel scope C.env) = true)
    (h : ∀ k y a ρ, l[k]? = some y → ρ.map (·.1) = nms → CxOk (cpC C scope cl a) F → asW (cpC C scope cl a) (.Name x px) y ρ F H fun _ ρ F' H' => W (cpC C scope cl a) n (.e elt ρ F' H' fun z ρ F5 H5 => z = f k ∧ F5 = F ∧ H5 = H ∧ ρ.map (·.1) = nms)) :
    MapTurn C.G C.fr C.A (fun a => compEnvC scope cl a C.env) nms (.Name x px) elt l F H f := fun k y a ρ hy hρ => by
  have ok2 : CxOk (cpC C scope cl a) F := ⟨of_decide_eq_true (and_l (and_r hk)), ok.glob, ok.blt, and_r (and_r hk), noted_no, ok.hd, ok.gls, nofun⟩
  refine fun K m v hv R s hR => wpAny_mono (asW.sound ok2 (h k y a ρ hy hρ ok2) K m v hv R s hR) (fun _ s1 hq => ?_) fun _ _ q => q
  obtain ⟨F', H', le, rep, F1, m1, ρ1, H1, rfl, ok3, q⟩ := hq
  refine ⟨F', _, le, rep, F1, m1, ?_⟩
  exact (W.sound n).k ok3 q fun z ρ F5 H5 ok q => ⟨q.2.1, _, _, .hd, q.2.2.2, q.1, q.2.2.1⟩
theorem W_map (n : Nat) {scope : Scope} {cl : List (Str × Addr)} {x y : Str} {px py pos spos : Pos} {elt iter : Expr} (nms : List Str) (ok : CxOk C F) (hclos : closureFor scope C.env = pure cl)
    (h : W C n (.e iter ρ F H fun z ρ F1 H1 => ∃ l, Iterable C.G C.A z l ∧ l.length ≤ sizeLine ∧ ∃ f : Nat → V, MapTurn C.G C.fr C.A (fun a => compEnvC scope cl a C.env) nms (.Name x px) elt l F1 (fm C ρ H1) f ∧ kAugS y Q (.lst ((List.range l.length).map f)) ρ F1 H1))
    (hnd : nms.Nodup) (hl : C.env.kindOf y = some .local) (hsw : swapsWith (.ListComp elt [⟨.Name x px, iter, [], 0⟩] scope pos) (some (.Name y py)) spos.line C.env = pure true) (hcell : (scope.names.all fun x => x.2 != .cell) = true) (hkind : scope.kind = .function) (hnames : (scope.names.all fun x => (x.2 != .local) || decide (scope.names.lookup x.1 = some .local)) = true)
    (hs : ∀ z, foldedSetIterable iter C.env z = pure z := by intro _; rfl) : SmS C (.Assign [.Name y py] (.ListComp elt [⟨.Name x px, iter, [], 0⟩] scope pos) spos) ρ F H Q :=
  Ex_Assign_map nms hclos ((W.sound n).k ok h fun z ρ F1 H1 ok q => by
    obtain ⟨l, h1, h2, f, h3, h4⟩ := q
    exact ⟨l, h1, h2, f, h3, kAugS.sound ok h4⟩) hnd hsw hcell hkind hnames ok.kind hl hs
theorem W_mapE (n : Nat) {scope : Scope} {cl : List (Str × Addr)} {x : Str} {px pos : Pos} {elt iter : Expr} {Q : QV} (nms : List Str) (ok : CxOk C F) (hclos : closureFor scope C.env = pure cl)
    (h : W C n (.e iter ρ F H fun z ρ F1 H1 => ∃ l, Iterable C.G C.A z l ∧ l.length ≤ sizeLine ∧ ∃ f : Nat → V, MapTurn C.G C.fr C.A (fun a => compEnvC scope cl a C.env) nms (.Name x px) elt l F1 (fm C ρ H1) f ∧ Q (.lst ((List.range l.length).map f)) ρ F1 H1))
    (hnd : nms.Nodup) (hcell : (scope.names.all fun x => x.2 != .cell) = true) (hkind : scope.kind = .function) (hnames : (scope.names.all fun x => (x.2 != .local) || decide (scope.names.lookup x.1 = some .local)) = true)
    (hs : ∀ z, foldedSetIterable iter C.env z = pure z := by intro _; rfl) : SmE C (.ListComp elt [⟨.Name x px, iter, [], 0⟩] scope pos) ρ F H Q :=
  Ev_map nms hclos ((W.sound n).k ok h fun z ρ F1 H1 ok q => by
    obtain ⟨l, h1, h2, f, h3, h4⟩ := q
    exact ⟨l, h1, h2, f, h3, _, _, rfl, ok, h4⟩) hnd hcell hkind hnames hs
theorem W_methC (n : Nat) {o : Expr} {name : Str} {apos pos : Pos} {args : List Expr} {Q : QV} (ok : CxOk C F) (h : W C n (.e o ρ F H (kMeth C (W C n) name args Q))) (hb : ∀ w, attributeBase o name C.env w = w) (h0 : ((apos.endLine == pos.line) && (args.all notStar && Nat.ble args.length 9)) = true) : SmE C (.Call (.Attribute o name apos) args [] pos) ρ F H Q := by
  have h1 := and_l h0
  have h2 := and_l (and_r h0)
  have h3 := Nat.le_of_ble_eq_true (and_r (and_r h0))
  refine Ev_method ((W.sound n).k ok h fun x ρ F H ok q => ?_) (hb _) ?_ h1 ?_ (star_any h2)
  · obtain ⟨T, id, ⟨m1, m2, m3⟩, t, h⟩ := q
    exact ⟨T, id, m1, m2, m3, t.tail, (W.sound n).ak ok h pos fun xs ρ F H ok q => liftCl q⟩
  · rw [star_all h2]
    show (true && true && decide (args.length + 0 + 0 < 30)) = true
    rw [decide_eq_true (show args.length + 0 + 0 < 30 by lia)]
    rfl
  · intro f Q E s hq
    cases args with
    | nil => exact evalArgs_nil' hq
    | cons e r =>
      rw [star_cons (and_l h2)] at hq ⊢
      exact evalArgs_plain hq
end
noncomputable def Rq (x : V) (b dp : Nat) : Prop := ∃ d, VD x d ∧ d.showable = true ∧ d.leavesShort 60 = true ∧ d.bulk ≤ b ∧ d.depth ≤ dp
noncomputable def Rqs (l : List V) (b dp : Nat) : Prop := ∃ ds, VDs l ds ∧ PyData.showableAll ds = true ∧ PyData.leavesShortAll 60 ds = true ∧ PyData.bulkAll ds ≤ b ∧ PyData.depthAll ds ≤ dp
theorem Rqs.nil {b dp : Nat} : Rqs [] b dp := ⟨[], .nil, rfl, rfl, Nat.zero_le _, Nat.zero_le _⟩
theorem Rqs.cons {x : V} {l : List V} {b b1 b2 dp : Nat} (h : Rq x b1 dp) (t : Rqs l b2 dp) (hb : b1 + 1 + b2 ≤ b) : Rqs (x :: l) b dp := by
  obtain ⟨d, h1, h2, h3, h4, h5⟩ := h
  obtain ⟨ds, g1, g2, g3, g4, g5⟩ := t
  exact ⟨d :: ds, .cons h1 g1, by show (_ && _) = true; rw [h2, g2]; rfl, by show (_ && _) = true; rw [h3, g3]; rfl, Nat.le_trans (Nat.add_le_add (Nat.add_le_add_right h4 1) g4) hb, Nat.max_le.mpr ⟨h5, g5⟩⟩
theorem Rq.tup {l : List V} {b dp : Nat} (h : Rqs l b dp) : Rq (.tup l) b (dp + 1) := by
  obtain ⟨ds, g1, g2, g3, g4, g5⟩ := h
  exact ⟨.tuple ds, .tup g1, g2, g3, g4, Nat.succ_le_succ g5⟩
theorem Rq.lst {l : List V} {b dp : Nat} (h : Rqs l b dp) : Rq (.lst l) b (dp + 1) := by
  obtain ⟨ds, g1, g2, g3, g4, g5⟩ := h
  exact ⟨.list ds, .lst g1, g2, g3, g4, Nat.succ_le_succ g5⟩
theorem Rq.none {b dp : Nat} : Rq .none b dp := ⟨.none, .none, rfl, rfl, Nat.zero_le _, Nat.zero_le _⟩
theorem Rq.bool {t : Bool} {b dp : Nat} : Rq (.bool t) b dp := ⟨.bool t, .bool, rfl, rfl, Nat.zero_le _, Nat.zero_le _⟩
theorem Rq.str {x : Str} {b dp : Nat} (h1 : (x.cps.toList.all fun c => decide (c < 16 ^ 8)) = true) (h2 : x.cps.size ≤ b) : Rq (.str x) b dp := ⟨.str x, .str, rfl, h1, h2, Nat.zero_le _⟩
theorem Rq.mono {x : V} {b b' dp dp' : Nat} (h : Rq x b dp) (hb : b ≤ b') (hd : dp ≤ dp') : Rq x b' dp' := by obtain ⟨d, h1, h2, h3, h4, h5⟩ := h; exact ⟨d, h1, h2, h3, Nat.le_trans h4 hb, Nat.le_trans h5 hd⟩
theorem Rqs.mono {x : List V} {b b' dp dp' : Nat} (h : Rqs x b dp) (hb : b ≤ b') (hd : dp ≤ dp') : Rqs x b' dp' := by obtain ⟨d, h1, h2, h3, h4, h5⟩ := h; exact ⟨d, h1, h2, h3, Nat.le_trans h4 hb, Nat.le_trans h5 hd⟩
noncomputable def tenB : Nat := 10 ^ 58
theorem log_small {i : Int} (h : i.natAbs < tenB) : i.natAbs.log2 < 1920 := by
  generalize i.natAbs = n at *
  rcases Nat.eq_zero_or_pos n with q | q
  · subst q; decide
  · have h1 : n < 2 ^ 200 := Nat.lt_of_lt_of_le h (by decide +kernel)
    have := (Nat.log2_lt (n := n) (k := 200) (by lia)).mpr h1
    lia
theorem Rq.num {i : Int} {b dp : Nat} (h : i.natAbs < tenB) : Rq (.int i) b dp := by
  refine ⟨.int i, .int, decide_eq_true (log_small h), decide_eq_true ?_, Nat.zero_le _, Nat.zero_le _⟩
  have h1 := int_text_length_le10 (a := i) (k := 58) (by decide) h
  simp only [PyData.shown]
  rw [PySem.ofString_length]
  exact Nat.le_succ_of_le h1
theorem Rqs.ints {s : List Int} {dp : Nat} (h : ∀ z ∈ s, z.natAbs < tenB) : Rqs (s.map .int) s.length dp := by
  induction s with
  | nil => exact .nil
  | cons z s ih => exact .cons (b1 := 0) (.num (h z (.head _))) (ih fun z hz => h z (.tail _ hz)) (by rw [List.length_cons]; lia)
section
variable {G : Glob} {fr : List Env} {A : Around} {F : Fz} {H : Hp} {E : Value → Fz → Hp → Prop} {Q : V → Fz → Hp → Prop}
theorem repr_rq {l : List V} {b dp : Nat} (hx : Rq (.tup l) b dp) (hb : b ≤ 2 ^ 18) (hg : A.guards = some []) (hu : A.units + (dp + 1) < cLine)
    (h : ∀ t : Str, (∀ d, VD (.tup l) d → d.shown = t) → Q (.str t) F H) : Cl G fr A F H (.blt "repr") [.tup l] Q E := cl_b1 fun K m v hv => by
  obtain ⟨d, h1, h2, h3, h4, h5⟩ := hx
  have hsz : d.shown.length ≤ sizeLine := by
    have := PyData.shown_le_bulk 60 (by decide) d h3
    rw [sizeLine_eq]
    lia
  refine fun R s hR => ?_
  obtain ⟨as, r⟩ := reads_of hR.fz h1 hv
  revert r
  refine hv.e_tup (P := fun v => Reads s.heap v d as → wpAny _ _ (call _ [v]) _ _ _) fun a vs n ha _ _ r => ?_
  exact repr_of_reads' r h2 (PyData.noDict_hsm h1.noDict) hg (by lia) (fun _ _ e => e) (fun h' u tk hk => vret (hR.keeps (tk := tk) (dr := s.drawn) hk) .str m (h _ fun d' hd' => by rw [VD.uniq hd' h1])) hsz
theorem repr_i {i : Int} (hi : i.natAbs < tenB) (h : Q (.str (toString i)) F H) : Cl G fr A F H (.blt "repr") [.int i] Q E := cl_b1 fun K m v hv => hv.e_int (P := fun v => EvAt _ _ _ _ _ (call _ [v]) _ _) fun t R s hR =>
  PySem.P.repr_of_int (log_small hi) (vret (hR.toks _) .str m h)
end
noncomputable def gl02 (ag : Nat → Addr) : List (Str × V) := [("len", .blt "len"), ("int", .typ "int"), ("max", .blt "max"), ("min", .blt "min"), ("_law_walk", .ref (ag 10)), ("_law_close", .ref (ag 8)), ("range", .typ "range"), ("repr", .blt "repr"), ("isinstance", .blt "isinstance"), ("str", .typ "str"), ("list", .typ "list"), ("sum", .blt "sum"), ("divmod", .blt "divmod"), ("_law_write", .ref (ag 7)), ("_law_refused", .ref (ag 11)), ("_law_figures", .ref (ag 5)), ("_law_tree", .ref (ag 6)), ("_law_context", .ref (ag 9)), ("py_make_scanner", .ref (ag 3)), ("Exception", .typ "Exception")]
noncomputable abbrev Gl (G : Glob) (F : Fz) (ag : Nat → Addr) : Prop := ∀ p ∈ gl02 ag, GlIs G F p.1 p.2
theorem Gl.mono {G : Glob} {F F' : Fz} {ag : Nat → Addr} (le : F.le F') (h : Gl G F ag) : Gl G F' ag := fun p hp => (h p hp).mono le
theorem m_append : Mth "list" "append" "list.append" := ⟨PySem.F.plainAttrs_list, slot_list_append, type_list_append⟩
theorem m_pop : Mth "list" "pop" "list.pop" := ⟨PySem.F.plainAttrs_list, PySem.F.slot_list_pop, PySem.F.type_list_pop⟩
theorem m_join : Mth "str" "join" "str.join" := ⟨PySem.F.plainAttrs_str, PySem.F.slot_str_join, PySem.F.type_str_join⟩
noncomputable abbrev nx (l : List (String × Option V)) : Rho := l.map fun p => (Str.ofString p.1, p.2)
theorem line_le {n m : Nat} (h : n ≤ m) (hm : m ≤ 1000000) : n ≤ sizeLine := Nat.le_trans h (Nat.le_trans hm (by decide))
theorem szl {n : Nat} (h : Nat.ble n 1000 = true) : n ≤ sizeLine := Nat.le_trans (Nat.le_of_ble_eq_true h) (by decide)
structure Figs (base most : Int) (fs : List Int) : Prop where
  hl : (fs.length : Int) ≤ most
  hb : ∀ f ∈ fs, 0 ≤ f ∧ f < base
theorem Figs.snoc {base most left : Int} {fs : List Int} (h : Figs base most fs) (hb : 0 < base) (hl : (fs.length : Int) < most) : Figs base most (fs ++ [left.fmod base]) :=
  ⟨by rw [List.length_append, List.length_singleton]; lia, fun f hf => by
    rcases List.mem_append.mp hf with hf | hf
    · exact h.2 f hf
    · rw [List.mem_singleton] at hf
      subst hf
      exact ⟨Int.fmod_nonneg_of_pos _ hb, Int.fmod_lt_of_pos _ hb⟩⟩
theorem Figs.less {most x : Int} {fs : List Int} (hl : (fs.length : Int) < most) : most.toNat - (fs ++ [x]).length < most.toNat - fs.length := by rw [List.length_append, List.length_singleton]; exact Nat.sub_succ_lt_self _ _ (Int.lt_toNat.mpr hl)
noncomputable def figR (zs : List Int) (base most : Int) (lst : Addr) (on ol og : Option V) : Rho := [("script", some (.lst (zs.map .int))), ("base", some (.int base)), ("most", some (.int most)), ("figures", some (.ref lst)), ("number", on), ("left", ol), ("figure", og)]
theorem figs {G : Glob} {fr : List Env} {A : Around} {F : Fz} {H : Hp} {a : Addr} {ag : Nat → Addr} (hg : Gl G F ag)
    (hf : IsDef F (stm 5) a) (hA : Ok fr A 1) (zs : List Int) (base most : Int) (hb : 0 < base) (hb2 : base < 1073741824) (hmost : 0 ≤ most ∧ most < 1000) {Q : V → Fz → Hp → Prop}
    (h : ∀ fs, Figs base most fs → Q (.lst (fs.map .int)) F H) : Cl G fr A F H (.ref a) [.lst (zs.map .int), .int base, .int most] Q No := by
  obtain ⟨c, s, o, pm, hs, hf, hd, hc⟩ := hf
  obtain rfl := Option.some.inj hs.symm
  refine Cl.freeze ?_
  refine def_w hg hf hd hc hA ["script", "base", "most"] ["figures", "number", "left", "figure"] rfl (by decide +kernel) (fun vs hv => by obtain ⟨a, b, c, rfl⟩ := len3 hv; rfl) fun L A' hA ok => ?_
  refine LstW.own (Nat.zero_le _) fun lst => ?_
  refine ForW.s4 ok (iter_lst hA.handled) (fun fs on ol og => figR zs base most lst on ol og) (fun fs on ol og => (lst, .list (fs.map .int)) :: H) (fun _ fs on ol og => Figs base most fs) (z1 := []) (z2 := none) (z3 := none) (z4 := none) ⟨hmost.1, nofun⟩ ?_ ?_
  · intro k y fs on ol og hy hfs Qn hn
    obtain ⟨z, rfl⟩ : ∃ z, y = .int z := by
      obtain ⟨z, _, rfl⟩ := List.mem_map.mp (List.mem_of_getElem? hy)
      exact ⟨z, rfl⟩
    refine .val .int (bifW.sp (fun _ => mul_ii (.of_left (by decide)) ⟨ok, .mk _⟩) fun _ => mul_ii (.of_left (by decide)) ⟨ok, .mk _⟩) fun left => ?_
    refine WhileW.s3 ok 40 (fun fs left og => figR zs base most lst (some (.int z)) (some (.int left)) og) (fun fs _ _ => (lst, .list (fs.map .int)) :: H) (fun fs _ _ => most.toNat - fs.length) (fun fs _ _ => Figs base most fs) (z1 := fs) (z2 := left) (z3 := og) hfs ?_
    clear hfs
    intro fs left og hfs Qw hw
    refine len_list .hd (by have := hfs.1; rw [List.length_map]; lia) ⟨ok, ?_⟩
    refine bifW.sp (fun hlt => ?_) fun hge => ?_
    · rw [List.length_map] at hlt
      refine divmod_ii (by lia) (Int.natAbs_lt_natAbs_of_nonneg_of_lt (Int.le_of_lt hb) hb2) ⟨ok, ?_⟩
      refine ⟨"list", _, m_append, .list .hd, ?_⟩
      refine append .hd (by have := hfs.1; rw [List.length_map]; exact line_le (by lia) (Nat.le_refl _)) ⟨ok, ?_⟩
      have hfs' := hfs.snoc hb (of_decide_eq_true hlt) (left := left)
      rw [show fs.map V.int ++ [V.int (left.fmod base)] = (fs ++ [left.fmod base]).map .int by rw [List.map_append]; rfl]
      exact .run (bifW.sp (fun _ => hn _ _ _ _ hfs') fun _ => hw _ _ _ (Figs.less (of_decide_eq_true hlt)) hfs')
    · exact hn _ _ _ _ hfs
  · intro fs on ol og hfs
    exact .run ⟨_, _, _, rfl, .hd, h fs hfs⟩
inductive Fo where
  | nil
  | leaf (t : Str) (r : Fo)
  | box (b : Bool) (i r : Fo)
noncomputable def txL : List Str := ["0", "1", "2", "3", "4", "-5", "-120", "2.4", "5e2", "\"+\"", "\"d\"", "\"s\"", "Infinity", "-Infinity", "NaN", "null", "true", "false", "3.1E+1", "-10.25e-10"]
noncomputable def nmL : List Str := txL ++ (["-0", "6789", "-90", "7", "8", "0.6789", "9.0", "60e02", "7E98761"] : List Str)
noncomputable def kdS (b : Bool) : Str := ⟨#[if b then 123 else 91]⟩
noncomputable def foV : Fo → List V
  | .nil => []
  | .leaf t r => .str t :: foV r
  | .box b i r => .tup [.str (kdS b), .lst (foV i)] :: foV r
noncomputable def Fo.app : Fo → Fo → Fo
  | .nil, y => y
  | .leaf t r, y => .leaf t (r.app y)
  | .box b i r, y => .box b i (r.app y)
noncomputable def Fo.ok : Nat → Fo → Prop
  | _, .nil => True
  | d, .leaf t r => t ∈ nmL ∧ r.ok d
  | 0, .box _ _ _ => False
  | d + 1, .box _ i r => i.ok d ∧ r.ok (d + 1)
noncomputable def Fo.size : Fo → Nat
  | .nil => 0
  | .leaf _ r => r.size + 1
  | .box _ i r => i.size + r.size + 1
theorem foV_app : ∀ (x y : Fo), foV (x.app y) = foV x ++ foV y
  | .nil, _ => rfl
  | .leaf t r, y => congrArg (V.str t :: ·) (foV_app r y)
  | .box b i r, y => congrArg (V.tup [.str (kdS b), .lst (foV i)] :: ·) (foV_app r y)
theorem Fo.size_app : ∀ (x y : Fo), (x.app y).size = x.size + y.size
  | .nil, y => (Nat.zero_add _).symm
  | .leaf t r, y => by show (r.app y).size + 1 = r.size + 1 + y.size; rw [size_app r y]; lia
  | .box b i r, y => by show i.size + (r.app y).size + 1 = i.size + r.size + 1 + y.size; rw [size_app r y]; lia
theorem Fo.ok_app : ∀ {d : Nat} {x y : Fo}, x.ok d → y.ok d → (x.app y).ok d
  | _, .nil, _, _, h => h
  | 0, .leaf _ r, _, hx, h => ⟨hx.1, Fo.ok_app hx.2 h⟩
  | _ + 1, .leaf _ r, _, hx, h => ⟨hx.1, Fo.ok_app hx.2 h⟩
  | 0, .box .., _, hx, _ => hx.elim
  | _ + 1, .box _ _ r, _, hx, h => ⟨hx.1, Fo.ok_app hx.2 h⟩
theorem foV_len : ∀ x : Fo, (foV x).length ≤ x.size
  | .nil => Nat.le_refl _
  | .leaf t r => Nat.succ_le_succ (foV_len r)
  | .box b i r => Nat.succ_le_succ (Nat.le_trans (foV_len r) (Nat.le_add_left _ _))
noncomputable def rowsV (S : List (Addr × Fo)) : List V := (S.map fun p => .ref p.1).reverse
noncomputable def kindsV (ks : List Bool) : List V := (ks.map fun b => .str (kdS b)).reverse
noncomputable def rowsH (S : List (Addr × Fo)) : Hp := S.map fun p => (p.1, .list (foV p.2))
inductive TrS : List Bool → List (Addr × Fo) → Nat → Prop where
  | base {a : Addr} {fo : Fo} (h : fo.ok 2) : TrS [] [(a, fo)] fo.size
  | push {b : Bool} {ks : List Bool} {a : Addr} {fo : Fo} {S : List (Addr × Fo)} {n : Nat} (t : TrS ks S n) (hk : ks.length < 2) (h : fo.ok (1 - ks.length)) : TrS (b :: ks) ((a, fo) :: S) (n + fo.size + 1)
theorem TrS.len {ks : List Bool} {S : List (Addr × Fo)} {n : Nat} (h : TrS ks S n) : S.length = ks.length + 1 := by
  induction h with
  | base => rfl
  | push _ _ _ ih => exact congrArg (· + 1) ih
theorem TrS.two {ks : List Bool} {S : List (Addr × Fo)} {n : Nat} (h : TrS ks S n) : ks.length ≤ 2 := by
  cases h with
  | base => exact Nat.zero_le _
  | push _ h _ => exact h
inductive TrH (ks : List Bool) (S : List (Addr × Fo)) (n : Nat) : Prop where
  | mk (a : Addr) (fo : Fo) (S' : List (Addr × Fo)) (e : S = (a, fo) :: S') (hs : fo.size ≤ n) (snoc : ∀ y : Fo, y.ok (2 - ks.length) → TrS ks ((a, fo.app y) :: S') (n + y.size))
theorem TrS.head {ks : List Bool} {S : List (Addr × Fo)} {n : Nat} (h : TrS ks S n) : TrH ks S n := by
  cases h with
  | base h =>
    refine ⟨_, _, _, rfl, Nat.le_refl _, fun y hy => ?_⟩
    rw [← Fo.size_app]
    exact .base (Fo.ok_app h hy)
  | @push b ks a fo S n t hk h =>
    refine ⟨_, _, _, rfl, by lia, fun y hy => ?_⟩
    have e : n + fo.size + 1 + y.size = n + (fo.app y).size + 1 := by rw [Fo.size_app]; lia
    rw [e]
    refine .push t hk (Fo.ok_app h ?_)
    have : 1 - ks.length = 2 - (b :: ks).length := by rw [List.length_cons]; lia
    rw [this]; exact hy
noncomputable def treR (zs : List Int) (rw kd : Addr) (of ob : Option V) : Rho := [("figures", some (.lst (zs.map .int))), ("texts", some (.lst (txL.map .str))), ("rows", some (.ref rw)), ("kinds", some (.ref kd)), ("figure", of), ("body", ob)]
noncomputable def treH (rw kd : Addr) (H : Hp) (ks : List Bool) (S : List (Addr × Fo)) : Hp := (rw, .list (rowsV S)) :: (kd, .list (kindsV ks)) :: (rowsH S ++ H)
theorem treH_push {rw kd a : Addr} {H : Hp} {b : Bool} {ks : List Bool} {fo : Fo} {S : List (Addr × Fo)} : treH rw kd H (b :: ks) ((a, fo) :: S) = (rw, .list (rowsV S ++ [.ref a])) :: (kd, .list (kindsV ks ++ [.str (kdS b)])) :: (a, .list (foV fo)) :: (rowsH S ++ H) := by
  unfold treH rowsV kindsV
  rw [List.map_cons, List.map_cons, List.reverse_cons, List.reverse_cons]
  rfl
theorem treH_snoc {rw kd a : Addr} {H : Hp} {ks : List Bool} {fo y : Fo} {S : List (Addr × Fo)} : treH rw kd H ks ((a, fo.app y) :: S) = (rw, .list (rowsV ((a, fo) :: S))) :: (kd, .list (kindsV ks)) :: (a, .list (foV fo ++ foV y)) :: (rowsH S ++ H) := by
  rw [← foV_app]; rfl
theorem rows_last {a : Addr} {fo : Fo} {S : List (Addr × Fo)} : 0 ≤ (-1 : Int) + (rowsV ((a, fo) :: S)).length ∧ (rowsV ((a, fo) :: S))[((-1 : Int) + (rowsV ((a, fo) :: S)).length).toNat]? = some (.ref a) := by
  have e : rowsV ((a, fo) :: S) = rowsV S ++ [.ref a] := by unfold rowsV; rw [List.map_cons, List.reverse_cons]
  rw [e, List.length_append, List.length_singleton]
  refine ⟨by rw [m1a]; exact Int.natCast_nonneg _, ?_⟩
  rw [show ((-1 : Int) + ((rowsV S).length + 1 : Nat)).toNat = (rowsV S).length by rw [m1a]; rfl]
  simp
theorem TrS.close {b : Bool} {ks : List Bool} {a : Addr} {fo : Fo} {S : List (Addr × Fo)} {n : Nat} (h : TrS (b :: ks) ((a, fo) :: S) n) : ∃ a2 fo2 S3, S = (a2, fo2) :: S3 ∧ fo.size ≤ n ∧ fo2.size ≤ n ∧ TrS ks ((a2, fo2.app (.box b fo .nil)) :: S3) n := by
  cases h with
  | @push _ _ _ _ _ n0 t hk h =>
    obtain ⟨a2, fo2, S3, e, hs, snoc⟩ := t.head
    refine ⟨a2, fo2, S3, e, by lia, by lia, ?_⟩
    have := snoc (.box b fo .nil) (by
      rw [show 2 - ks.length = (1 - ks.length) + 1 from Nat.succ_sub (Nat.le_of_lt_succ hk)]
      exact ⟨h, trivial⟩)
    exact this
theorem txL_at {f : Int} (h0 : 0 ≤ f) (h1 : f < 20) : ∃ t, t ∈ txL ∧ (txL.map V.str)[f.toNat]? = some (.str t) := by
  have hf : f.toNat < txL.length := by show _ < 20; exact (Int.toNat_lt h0).mpr h1
  exact ⟨txL[f.toNat], List.getElem_mem hf, by rw [List.getElem?_map, List.getElem?_eq_getElem hf]; rfl⟩
theorem tree {G : Glob} {fr : List Env} {A : Around} {F : Fz} {H : Hp} {a : Addr} {ag : Nat → Addr} (hg : Gl G F ag)
    (hf : IsDef F (stm 6) a) (hA : Ok fr A 1) (zs : List Int) (hz : Figs 20 14 zs) {Q : V → Fz → Hp → Prop}
    (h : ∀ fo : Fo, fo.ok 2 → fo.size ≤ 14 → Q (.lst (foV fo)) F H) : Cl G fr A F H (.ref a) [.lst (zs.map .int)] Q No := by
  obtain ⟨c, s, o, pm, hs, hf, hd, hc⟩ := hf
  obtain rfl := Option.some.inj hs.symm
  refine Cl.drpQ (Cl.freeze ?_)
  refine def_w hg hf hd hc hA ["figures"] ["texts", "rows", "kinds", "figure", "body"] rfl (by decide +kernel) (fun vs hv => by obtain ⟨a, rfl⟩ := len1 hv; rfl) fun L A' hA ok => ?_
  refine .frz (szl rfl) ?_
  refine .own (szl rfl) fun a0 => ?_
  refine .own (szl rfl) fun rw => ?_
  refine .at (fun kd => treH rw kd H [] [(a0, .nil)]) (fun kd => .swap ..) (szl rfl) fun kd => ?_
  refine ForW.s4 ok (iter_lst hA.handled) (fun ks S of ob => treR zs rw kd of ob) (fun ks S of ob => treH rw kd H ks S) (fun k ks S of ob => ∃ n, n ≤ k ∧ TrS ks S n) (z1 := []) (z2 := [(a0, .nil)]) (z3 := none) (z4 := none) ⟨0, Nat.le_refl _, .base trivial⟩ ?_ ?_
  · intro k y ks S of ob hy hS Qn hn
    obtain ⟨n, hnk, hS⟩ := hS
    have hk14 : k < 14 := by
      have := (List.getElem?_eq_some_iff.mp hy).1
      rw [List.length_map] at this
      have := hz.1
      lia
    obtain ⟨z, hzm, rfl⟩ := List.mem_map.mp (List.mem_of_getElem? hy)
    obtain ⟨h0, h20⟩ := hz.2 z hzm
    have hks2 := hS.two
    have hSl := hS.len
    have hkl : (kindsV ks).length = ks.length := by simp [kindsV]
    have hrl : (rowsV S).length = S.length := by simp [rowsV]
    refine .t (([15, 16] : List Int).contains z && decide ((ks.length : Int) < 2)) ?_ ?_
    · refine .frz (szl rfl) (in_ints (zs := [15, 16]) .lst ⟨ok, _, rfl, ?_⟩)
      refine bifW.sp (fun e1 => ?_) fun e1 => .mk (by rw [e1]; rfl)
      refine len_list (.tl .hd) (by rw [hkl]; lia) ⟨ok, ?_⟩
      rw [hkl]
      exact bifW.tb (by rw [e1]; rfl)
    refine bifW.sp (fun e => ?_) fun _ => ?_
    · have hks : ks.length < 2 := by have := of_decide_eq_true (and_r e); lia
      obtain ⟨b, rfl⟩ : ∃ b : Bool, z = if b then 16 else 15 := by
        have := List.contains_iff_mem.mp (and_l e)
        rcases List.mem_cons.mp this with rfl | this
        · exact ⟨false, rfl⟩
        · rw [List.mem_singleton] at this; exact ⟨true, this⟩
      refine ⟨"list", _, m_append, .list (.tl .hd), ?_⟩
      refine sub_str (c := if b then 123 else 91) (by split <;> decide) (by split <;> decide) (by cases b <;> rfl) ⟨ok, ?_⟩
      refine append (.tl .hd) (by rw [hkl]; exact line_le (by lia) (Nat.le_refl _)) ⟨ok, ?_⟩
      refine ⟨"list", _, m_append, .list .hd, ?_⟩
      refine .at (fun a => (rw, .list (rowsV S)) :: (kd, .list (kindsV ks ++ [.str (kdS b)])) :: (a, .list []) :: (rowsH S ++ H)) (fun a => List.perm_middle (l₁ := [_, _]).symm) (szl rfl) fun a => ?_
      refine append .hd (by rw [hrl]; exact line_le (by lia) (Nat.le_refl _)) ⟨ok, ?_⟩
      have q := hn (b :: ks) ((a, .nil) :: S) (some (.int (if b then 16 else 15))) ob ⟨n + 1, by lia, .push hS hks trivial⟩
      rw [treH_push] at q
      exact q
    · refine .t ((z == 17) && !(kindsV ks).isEmpty) ?_ ?_
      · refine bifW.sp (fun e1 => ?_) fun e1 => .mk (by rw [e1]; rfl)
        exact tr_list (.tl .hd) (by rw [hkl]; lia) ⟨ok, bifW.tb (by rw [e1]; rfl)⟩
      refine bifW.sp (fun e => ?_) fun _ => ?_
      · cases ks with
        | nil => exact absurd (and_r e) (by decide)
        | cons b ks =>
          obtain ⟨a, fo, S, rfl, hs, _⟩ := hS.head
          obtain ⟨a2, fo2, S3, rfl, hs2, hs3, hS⟩ := hS.close
          rw [treH_push]
          have hrl2 : (rowsV ((a2, fo2) :: S3)).length ≤ 2 := by rw [rowsV, List.length_reverse, List.length_map]; rw [List.length_cons, List.length_cons] at hSl; rw [List.length_cons] at hks2; exact Nat.le_trans (Nat.le_of_eq (Nat.succ.inj hSl)) hks2
          have hkl2 : (kindsV ks).length ≤ 2 := by rw [kindsV, List.length_reverse, List.length_map]; rw [List.length_cons] at hks2; lia
          refine ⟨"list", _, m_pop, .list .hd, ?_⟩
          refine Cl.freeze (pop_last .hd (line_le (by lia) (Nat.le_refl _)) ⟨_, _, _, rfl, .tl (.tl .hd), ok, ?_⟩)
          refine sub_lst_neg (.own .hd) (by decide) rows_last.1 (by decide) rows_last.2 ⟨ok, ?_⟩
          refine ⟨"list", _, m_append, .list (.tl (.tl .hd)), ?_⟩
          refine ⟨"list", _, m_pop, .list (.tl .hd), ?_⟩
          refine pop_last (.tl .hd) (line_le (by lia) (Nat.le_refl _)) ⟨ok, ?_⟩
          refine append (.tl (.tl .hd)) (line_le (Nat.le_trans (foV_len fo2) (by lia)) (Nat.le_refl _)) ⟨ok, ?_⟩
          have q := hn ks _ (some (.int z)) (some (.lst (foV fo))) ⟨n, by lia, hS⟩
          rw [treH_snoc] at q
          exact q
      · obtain ⟨a, fo, S, rfl, hs, snoc⟩ := hS.head
        obtain ⟨t, ht, hte⟩ := txL_at h0 h20
        refine sub_lst_neg (.own .hd) (by decide) rows_last.1 (by decide) rows_last.2 ⟨ok, ?_⟩
        refine ⟨"list", _, m_append, .list (.tl (.tl .hd)), ?_⟩
        refine sub_lst .lst h0 (by lia) hte ⟨ok, ?_⟩
        refine append (.tl (.tl .hd)) (line_le (Nat.le_trans (foV_len fo) (by lia)) (Nat.le_refl _)) ⟨ok, ?_⟩
        have q := hn ks _ (some (.int z)) ob ⟨_, (by show n + 1 ≤ k + 1; lia), snoc (.leaf t .nil) (by cases 2 - ks.length <;> exact ⟨List.mem_append_left _ ht, trivial⟩)⟩
        rw [treH_snoc] at q
        exact q
  · intro ks S of ob hS
    refine WhileW.s3 ok 40 (fun ks S ob => treR zs rw kd of ob) (fun ks S ob => treH rw kd H ks S) (fun ks _ _ => ks.length) (fun ks S _ => ∃ n, n ≤ 14 ∧ TrS ks S n) (z1 := ks) (z2 := S) (z3 := ob) ?_ ?_
    · obtain ⟨n, h1, h2⟩ := hS
      rw [List.length_map] at h1
      have := hz.1
      exact ⟨n, by lia, h2⟩
    clear hS
    intro ks S ob hS Qn hn
    obtain ⟨n, hn14, hS⟩ := hS
    have hks2 := hS.two
    have hSl := hS.len
    refine tr_list (.tl .hd) (by rw [kindsV, List.length_reverse, List.length_map]; lia) ⟨ok, ?_⟩
    cases ks with
    | nil =>
      obtain ⟨a, fo, S, rfl, hs, _⟩ := hS.head
      cases hS with
      | base hfo =>
        refine .run (sub_lstN (k := 0) (.own .hd) (by decide) rfl ⟨ok, ?_⟩)
        exact ⟨a, _, _, rfl, .tl (.tl .hd), _, .two .hd (fun _ e => nomatch e) .hd (fun _ e => nomatch e), h fo hfo hn14⟩
    | cons b ks =>
      obtain ⟨a, fo, S, rfl, hs, _⟩ := hS.head
      obtain ⟨a2, fo2, S3, rfl, hs2, hs3, hS⟩ := hS.close
      rw [treH_push]
      have hrl2 : (rowsV ((a2, fo2) :: S3)).length ≤ 2 := by rw [rowsV, List.length_reverse, List.length_map]; rw [List.length_cons, List.length_cons] at hSl; rw [List.length_cons] at hks2; exact Nat.le_trans (Nat.le_of_eq (Nat.succ.inj hSl)) hks2
      have hkl2 : (kindsV ks).length ≤ 2 := by rw [kindsV, List.length_reverse, List.length_map]; rw [List.length_cons] at hks2; lia
      have ek : (!(kindsV (b :: ks)).isEmpty) = true := by simp [kindsV]
      rw [ek]
      refine ⟨"list", _, m_pop, .list .hd, ?_⟩
      refine Cl.freeze (pop_last .hd (line_le (by lia) (Nat.le_refl _)) ⟨_, _, _, rfl, .tl (.tl .hd), ok, ?_⟩)
      refine sub_lst_neg (.own .hd) (by decide) rows_last.1 (by decide) rows_last.2 ⟨ok, ?_⟩
      refine ⟨"list", _, m_append, .list (.tl (.tl .hd)), ?_⟩
      refine ⟨"list", _, m_pop, .list (.tl .hd), ?_⟩
      refine pop_last (.tl .hd) (line_le (by lia) (Nat.le_refl _)) ⟨ok, ?_⟩
      refine append (.tl (.tl .hd)) (line_le (Nat.le_trans (foV_len fo2) (by lia)) (Nat.le_refl _)) ⟨ok, ?_⟩
      have q := hn ks _ (some (.lst (foV fo))) (Nat.lt_succ_self _) ⟨n, hn14, hS⟩
      rw [treH_snoc] at q
      exact q
noncomputable def opC (b : Bool) : Nat := if b then 123 else 91
noncomputable def clC (b : Bool) : Nat := if b then 125 else 93
noncomputable def tlF : Fo → List Nat
  | .nil => []
  | .leaf t r => 32 :: (t.cps.toList ++ tlF r)
  | .box b i r => 32 :: opC b :: ((tlF i).tail ++ clC b :: tlF r)
noncomputable def cpF (x : Fo) : List Nat := (tlF x).tail
noncomputable def txF (x : Fo) : Str := ⟨(cpF x).toArray⟩
noncomputable def ndT : Fo → List Str
  | .nil => []
  | .leaf t r => t :: ndT r
  | .box b i r => (⟨#[opC b]⟩ ++ txF i ++ ⟨#[clC b]⟩) :: ndT r
theorem ndT_len : ∀ x : Fo, (ndT x).length = (foV x).length
  | .nil => rfl
  | .leaf t r => congrArg (· + 1) (ndT_len r)
  | .box b i r => congrArg (· + 1) (ndT_len r)
theorem str_ext {x y : Str} (h : x.cps.toList = y.cps.toList) : x = y := by
  cases x; cases y
  exact congrArg Str.mk (Array.toList_inj.mp h)
theorem cps_app (x y : Str) : (x ++ y).cps.toList = x.cps.toList ++ y.cps.toList := by
  show (x.cps ++ y.cps).toList = _
  rw [Array.toList_append]
theorem join_cons (x : Str) {y : Fo} : (Str.join " " (x :: ndT y)).cps.toList = x.cps.toList ++ (match ndT y with | [] => [] | l => 32 :: (Str.join " " l).cps.toList) := by
  cases ndT y with
  | nil => exact (List.append_nil _).symm
  | cons z l =>
    show (x ++ " " ++ Str.join " " (z :: l)).cps.toList = _
    rw [cps_app, cps_app, List.append_assoc]
    rfl
theorem nd_tail : ∀ x : Fo, (match ndT x with | [] => [] | l => 32 :: (Str.join " " l).cps.toList) = tlF x
  | .nil => rfl
  | .leaf t r => by
    show 32 :: (Str.join " " (t :: ndT r)).cps.toList = 32 :: (t.cps.toList ++ tlF r)
    rw [join_cons, nd_tail r]
  | .box b i r => by
    show 32 :: (Str.join " " ((⟨#[opC b]⟩ ++ txF i ++ ⟨#[clC b]⟩) :: ndT r)).cps.toList = 32 :: opC b :: ((tlF i).tail ++ clC b :: tlF r)
    rw [join_cons, nd_tail r, cps_app, cps_app, List.append_assoc, List.append_assoc]
    rfl
theorem nd_join (x : Fo) : (Str.join " " (ndT x)).cps.toList = cpF x := by
  have := nd_tail x
  unfold cpF
  rw [← this]
  cases ndT x with
  | nil => rfl
  | cons => rfl
theorem join_txF (x : Fo) : Txt.join " " (ndT x) = txF x := by
  show Builtin.Str.glued " " (ndT x) = _
  rw [StrLaws.glued_eq_join]
  exact str_ext (nd_join x)
theorem nmL_len {t : Str} (h : t ∈ nmL) : t.cps.toList.length ≤ 10 := by
  have : ∀ t ∈ nmL, t.cps.toList.length ≤ 10 := by decide +kernel
  exact this t h
theorem tl1 {a b s : Nat} (h1 : a ≤ 10) (h2 : b ≤ 12 * s) : a + b + 1 ≤ 12 * (s + 1) := Nat.le_trans (Nat.add_le_add_right (Nat.add_le_add h1 h2) 1) (by rw [Nat.mul_succ, Nat.add_comm 10]; exact Nat.le_succ _)
theorem tl2 {a b i r : Nat} (h1 : a ≤ 12 * i) (h2 : b ≤ 12 * r) : a - 1 + (b + 1) + 1 + 1 ≤ 12 * (i + r + 1) := by
  rw [Nat.mul_succ, Nat.mul_add]
  exact Nat.le_trans (Nat.add_le_add_right (Nat.add_le_add (Nat.le_trans (Nat.sub_le _ _) h1) h2) 3) (Nat.add_le_add_left (by decide) _)
theorem jo1 {n x b l : Nat} (h : x ≤ b) : n + x + 1 + (b + 1) * l ≤ n + ((b + 1) * l + (b + 1)) := by
  rw [Nat.add_assoc n, Nat.add_assoc n, Nat.add_comm (x + 1)]
  exact Nat.add_le_add_left (Nat.add_le_add_left (Nat.succ_le_succ h) _) _
theorem tlF_len : ∀ {d : Nat} {x : Fo}, x.ok d → (tlF x).length ≤ 12 * x.size
  | _, .nil, _ => Nat.le_refl _
  | d, .leaf t r, h => by
    have h : t ∈ nmL ∧ r.ok d := by cases d <;> exact h
    have h1 := nmL_len h.1
    have h2 := tlF_len h.2
    show (32 :: (t.cps.toList ++ tlF r)).length ≤ 12 * (r.size + 1)
    rw [List.length_cons, List.length_append]
    exact tl1 h1 h2
  | d + 1, .box b i r, h => by
    have h1 := tlF_len h.1
    have h2 := tlF_len h.2
    show (32 :: opC b :: ((tlF i).tail ++ clC b :: tlF r)).length ≤ 12 * (i.size + r.size + 1)
    rw [List.length_cons, List.length_cons, List.length_append, List.length_cons, List.length_tail]
    exact tl2 h1 h2
theorem cpF_len {d : Nat} {x : Fo} (h : x.ok d) : (cpF x).length ≤ 12 * x.size := by
  have := tlF_len h
  unfold cpF
  rw [List.length_tail]
  exact Nat.le_trans (Nat.sub_le _ _) this
inductive NdAt (d : Nat) (x : Fo) (k : Nat) (y : V) : Prop where
  | leaf (t : Str) (e : y = .str t) (h : (ndT x)[k]? = some t) (ht : t ∈ nmL)
  | box (b : Bool) (i : Fo) (e1 : Nat) (e : y = .tup [.str (kdS b), .lst (foV i)]) (h : (ndT x)[k]? = some (⟨#[opC b]⟩ ++ txF i ++ ⟨#[clC b]⟩)) (hd : d = e1 + 1) (hi : i.ok e1) (hs : i.size < x.size)
theorem nd_at {d k : Nat} {y : V} : ∀ {x : Fo} , x.ok d → (foV x)[k]? = some y → NdAt d x k y := by
  intro x
  induction x generalizing k with
  | nil => intro _ h; simp [foV] at h
  | leaf t r ih =>
    intro h hy
    have h : t ∈ nmL ∧ r.ok d := by cases d <;> exact h
    cases k with
    | zero => cases hy; exact .leaf t rfl rfl h.1
    | succ k =>
      rcases ih h.2 hy with ⟨u, e, q, m⟩ | ⟨b, i, e1, e, q, hd, hi, hs⟩
      · exact .leaf u e q m
      · exact .box b i e1 e q hd hi (Nat.lt_succ_of_lt hs)
  | box b i r _ ih =>
    intro h hy
    cases d with
    | zero => exact h.elim
    | succ d =>
      cases k with
      | zero => cases hy; exact .box b i d rfl rfl rfl h.1 (by show _ < i.size + r.size + 1; lia)
      | succ k =>
        rcases ih h.2 hy with ⟨u, e, q, m⟩ | ⟨b', i', e1, e, q, hd, hi, hs⟩
        · exact .leaf u e q m
        · exact .box b' i' e1 e q hd hi (by show _ < i.size + r.size + 1; lia)
theorem take_snoc {α : Type} {l : List α} {k : Nat} {x : α} (h : l[k]? = some x) : l.take k ++ [x] = l.take (k + 1) := by
  rw [List.take_add_one, h]; rfl
theorem join_okS {b : Nat} {xs : List Str} (h : ∀ x ∈ xs, x.length ≤ b) (hn : (b + 1) * xs.length ≤ sizeLine) : JoinOk " " xs = true := by
  have : ∀ (xs : List Str) (n : Nat), (∀ x ∈ xs, x.length ≤ b) → xs.foldl (fun (a : Nat) (x : Str) => a + x.length + (Str.ofString " ").length) n ≤ n + (b + 1) * xs.length := by
    intro xs
    induction xs with
    | nil => exact fun n _ => Nat.le_refl _
    | cons x l ih =>
      intro n h
      have h1 := h x (.head _)
      have h2 := ih (n + x.length + (Str.ofString " ").length) fun y hy => h y (.tail _ hy)
      rw [List.length_cons, Nat.mul_succ]
      rw [List.foldl_cons]
      have h3 : (Str.ofString " ").length = 1 := rfl
      rw [h3] at h2 ⊢; exact Nat.le_trans h2 (jo1 h1)
  have := this xs 0 h
  unfold JoinOk
  rw [List.foldl_toArray]
  have h : Builtin.Str.tooLong (xs.foldl (fun (a : Nat) (x : Str) => a + x.length + (Str.ofString " ").length) 0) = false := by
    simp [Builtin.Str.tooLong]
    lia
  simp [h]
theorem ndT_le {d : Nat} {x : Fo} (h : x.ok d) : ∀ t ∈ ndT x, t.length ≤ 12 * x.size := by
  intro t ht
  obtain ⟨k, hk⟩ := List.mem_iff_getElem?.mp ht
  have hlt : k < (foV x).length := by rw [← ndT_len]; exact (List.getElem?_eq_some_iff.mp hk).1
  rcases nd_at h (List.getElem?_eq_getElem hlt) with ⟨u, _, q, m⟩ | ⟨b, i, e1, _, q, hd, hi, hs⟩
  · rw [hk] at q; cases q
    have := nmL_len m
    have : t.length = t.cps.toList.length := by show t.cps.size = _; simp
    have : 0 < x.size := Nat.lt_of_lt_of_le (Nat.lt_of_le_of_lt (Nat.zero_le k) hlt) (foV_len x)
    lia
  · rw [hk] at q; cases q
    have := cpF_len hi
    rw [strLen_append, strLen_append]
    have e : (txF i).length = (cpF i).length := by show (cpF i).toArray.size = _; simp
    show 1 + (txF i).length + 1 ≤ _
    lia
theorem write {G : Glob} {F : Fz} {ag : Nat → Addr} (hg : Gl G F ag) (hf : IsDef F (stm 7) (ag 7)) : ∀ (d : Nat) (x : Fo) {fr : List Env} {A : Around} {H : Hp} {Q : V → Fz → Hp → Prop}, x.ok d → x.size ≤ 100 → Ok fr A (d + 1) → Q (.str (txF x)) F H → Cl G fr A F H (.ref (ag 7)) [.lst (foV x)] Q No := by
  intro d
  induction d using Nat.strongRecOn with
  | _ d ih =>
    intro x fr A H Q hx hsz hA h
    obtain ⟨c, s, o, pm, hs, hf', hd, hc⟩ := id hf
    obtain rfl := Option.some.inj hs.symm
    refine Cl.drpQ ?_
    refine def_w hg hf' hd hc hA ["tree"] ["texts", "node"] rfl (by decide +kernel) (fun vs hv => by obtain ⟨a, rfl⟩ := len1 hv; rfl) fun L A' hA ok => ?_
    refine .own (szl rfl) fun ts => ?_
    have hl : (foV x).length ≤ 100 := Nat.le_trans (foV_len x) hsz
    refine ForW.s2 ok (iter_lst hA.handled) (fun n on => [("tree", some (.lst (foV x))), ("texts", some (.ref ts)), ("node", on)]) (fun n _ => (ts, .list (((ndT x).take n).map .str)) :: H) (fun k n _ => n = k) (z1 := 0) (z2 := none) rfl ?_ ?_
    · intro k y n on hy hn Qn hq
      subst hn
      have hlt := (List.getElem?_eq_some_iff.mp hy).1
      have hsz2 : (((ndT x).take n).map V.str).length ≤ sizeLine := by rw [List.length_map, List.length_take]; exact line_le (Nat.le_trans (Nat.min_le_left _ _) (Nat.le_trans (Nat.le_of_lt hlt) (Nat.le_trans hl (by decide)))) (Nat.le_refl _)
      have fin : ∀ t, (ndT x)[n]? = some t → ((ndT x).take n).map V.str ++ [.str t] = ((ndT x).take (n + 1)).map .str := fun t h => by rw [← take_snoc h, List.map_append]; rfl
      rcases nd_at hx hy with ⟨t, rfl, q, m⟩ | ⟨b, i, e1, rfl, q, rfl, hi, his⟩
      · refine .run (isi_ss ⟨ok, ?_⟩)
        refine ⟨"list", _, m_append, .list .hd, ?_⟩
        refine append .hd hsz2 ⟨ok, ?_⟩
        have r := hq (n + 1) (some (.str t)) rfl
        rw [← fin t q] at r
        exact r
      · refine .run (isi_ts ⟨ok, ?_⟩)
        have hil := cpF_len hi
        have hil2 : (txF i).length ≤ 1200 := by show (cpF i).toArray.size ≤ _; simp; lia
        refine .run (sub_tup (by decide) (by decide) rfl ⟨ok, ?_⟩)
        refine bifW.sp (fun e => ?_) fun e => ?_
        · have hb : b = false := by cases b with | false => rfl | true => exact absurd e (by decide)
          subst hb
          refine ⟨"list", _, m_append, .list .hd, ?_⟩
          refine ⟨hf.ok, sub_tup (by decide) (by decide) rfl ⟨ok, ?_⟩⟩
          refine ih e1 (Nat.lt_succ_self _) i hi (by lia) hA ⟨ok, ?_⟩
          refine add_ss (line_le (Nat.add_le_add (Nat.le_of_eq (rfl : (Str.ofString "[").length = 1)) hil2) (by decide)) ⟨ok, ?_⟩
          refine add_ss (by rw [strLen_append]; exact line_le (Nat.add_le_add (Nat.add_le_add (Nat.le_of_eq (rfl : (Str.ofString "[").length = 1)) hil2) (Nat.le_of_eq (rfl : (Str.ofString "]").length = 1))) (by decide)) ⟨ok, ?_⟩
          refine append .hd hsz2 ⟨ok, ?_⟩
          have r := hq (n + 1) (some (.tup [.str (kdS false), .lst (foV i)])) rfl
          rw [← fin _ q] at r
          exact r
        · have hb : b = true := by cases b with | true => rfl | false => exact absurd e (by decide)
          subst hb
          refine ⟨"list", _, m_append, .list .hd, ?_⟩
          refine ⟨hf.ok, sub_tup (by decide) (by decide) rfl ⟨ok, ?_⟩⟩
          refine ih e1 (Nat.lt_succ_self _) i hi (by lia) hA ⟨ok, ?_⟩
          refine add_ss (line_le (Nat.add_le_add (Nat.le_of_eq (rfl : (Str.ofString "{").length = 1)) hil2) (by decide)) ⟨ok, ?_⟩
          refine add_ss (by rw [strLen_append]; exact line_le (Nat.add_le_add (Nat.add_le_add (Nat.le_of_eq (rfl : (Str.ofString "{").length = 1)) hil2) (Nat.le_of_eq (rfl : (Str.ofString "}").length = 1))) (by decide)) ⟨ok, ?_⟩
          refine append .hd hsz2 ⟨ok, ?_⟩
          have r := hq (n + 1) (some (.tup [.str (kdS true), .lst (foV i)])) rfl
          rw [← fin _ q] at r
          exact r
    · intro n on hn
      subst hn
      have e : (((ndT x).take (foV x).length).map V.str) = (ndT x).map .str := by rw [← ndT_len, List.take_length]
      refine .run ⟨"str", _, m_join, .str, ?_⟩
      rw [e]
      refine join_l (.own .hd) (join_okS (ndT_le hx) (by rw [ndT_len]; exact line_le (Nat.mul_le_mul (Nat.succ_le_succ (Nat.mul_le_mul_left 12 hsz)) hl) (by decide))) ⟨ok, ?_⟩
      rw [join_txF]
      exact ⟨_, .one .hd (fun _ e => nomatch e), h⟩
noncomputable def closeL : List Nat → Nat → Option Nat
  | [], _ => none
  | c :: r, d => if c = 91 ∨ c = 123 then (closeL r (d + 1)).map (· + 1) else if c = 93 ∨ c = 125 then (if d = 1 then some 0 else (closeL r (d - 1)).map (· + 1)) else (closeL r d).map (· + 1)
theorem drop_some {T : Str} {j d m : Nat} (h : closeL (T.cps.toList.drop j) d = some m) : ∃ c, T.cps[j]? = some c ∧ T.cps.toList.drop j = c :: T.cps.toList.drop (j + 1) ∧ j < T.cps.size := by
  rcases Nat.lt_or_ge j T.cps.size with q | q
  · have hc := Array.getElem?_eq_getElem q
    exact ⟨_, hc, (lex_at hc).2, q⟩
  · rw [List.drop_eq_nil_of_le (by simpa using q)] at h
    cases h
theorem op_mem {c : Nat} : c ∈ (Str.ofString "[{").cps.toList ↔ c = 91 ∨ c = 123 := by
  rw [show (Str.ofString "[{").cps.toList = [91, 123] from by decide +kernel]; simp
theorem cl_mem {c : Nat} : c ∈ (Str.ofString "]}").cps.toList ↔ c = 93 ∨ c = 125 := by
  rw [show (Str.ofString "]}").cps.toList = [93, 125] from by decide +kernel]; simp
theorem map1 {o : Option Nat} {m : Nat} (h : o.map (· + 1) = some m) : ∃ k, o = some k ∧ m = k + 1 := by
  cases o with
  | none => cases h
  | some k => cases h; exact ⟨k, rfl, rfl⟩
noncomputable def ClsP (T : Str) (e j d : Nat) : Prop := ∃ m, closeL (T.cps.toList.drop j) d = some m ∧ j + m = e ∧ 1 ≤ d
theorem close {G : Glob} {F : Fz} {ag : Nat → Addr} (hg : Gl G F ag) (hf : IsDef F (stm 8) (ag 8)) {fr : List Env} {A : Around} {H : Hp} {Q : V → Fz → Hp → Prop} {T : Str} {i n : Nat} (hT : T.cps.size ≤ 1000000) (hA : Ok fr A 1) (hn : closeL (T.cps.toList.drop i) 1 = some n) (h : Q (.int ((i + n : Nat) : Int)) F H) : Cl G fr A F H (.ref (ag 8)) [.str T, .int (i : Int)] Q No := by
  obtain ⟨c, s, o, pm, hs, hf', hd, hc⟩ := id hf
  obtain rfl := Option.some.inj hs.symm
  refine def_w hg hf' hd hc hA ["string", "at"] ["deep"] rfl (by decide +kernel) (fun vs hv => by obtain ⟨a, b, rfl⟩ := len2 hv; rfl) fun L A' hA ok => ?_
  refine WhileW.s2 ok 40 (fun (j d : Nat) => [("string", some (.str T)), ("at", some (.int (j : Int))), ("deep", some (.int (d : Int)))]) (fun _ _ => H) (fun j _ => T.cps.size - j) (fun j d => ClsP T (i + n) j d) (z1 := i) (z2 := 1) ⟨n, hn, rfl, Nat.le_refl _⟩ ?_
  intro j d hj Qn hq
  obtain ⟨m, hm, hjm, hd1⟩ := hj
  obtain ⟨c, hc, hdr, hlt⟩ := drop_some hm
  have hss : T.cps[((j : Int)).toNat]? = some c := by rw [Int.toNat_natCast]; exact hc
  rw [hdr] at hm
  have less : T.cps.size - (j + 1) < T.cps.size - j := Nat.sub_succ_lt_self _ _ hlt
  have nxt : ∀ (d : Nat) (k : Nat), closeL (T.cps.toList.drop (j + 1)) d = some k → m = k + 1 → 1 ≤ d → ClsP T (i + n) (j + 1) d := fun d k h1 h2 h3 => ⟨k, h1, by lia, h3⟩
  refine .run (sub_str (by lia) (by lia) hss ⟨ok, in_c ⟨ok, _, rfl, ?_⟩⟩)
  refine bifW.sp (fun e => ?_) fun e => ?_
  · have e := op_mem.mp (of_decide_eq_true e)
    rw [closeL, if_pos e] at hm
    obtain ⟨k, hk, hmk⟩ := map1 hm
    exact hq (j + 1) (d + 1) less (nxt _ k hk hmk (by lia))
  · have e : ¬ (c = 91 ∨ c = 123) := fun q => of_decide_eq_false e (op_mem.mpr q)
    rw [closeL, if_neg e] at hm
    refine .run (sub_str (by lia) (by lia) hss ⟨ok, in_c ⟨ok, _, rfl, ?_⟩⟩)
    refine bifW.sp (fun e => ?_) fun e => ?_
    · rw [if_pos (cl_mem.mp (of_decide_eq_true e))] at hm
      refine .run (bifW.sp (fun e => ?_) fun e => ?_)
      · have e : d = 1 := by have := eq_of_beq e; lia
        rw [if_pos e] at hm
        have : j = i + n := by cases hm; lia
        subst this
        exact .run h
      · have e : d ≠ 1 := fun q => by subst q; cases e
        rw [if_neg e] at hm
        obtain ⟨k, hk, hmk⟩ := map1 hm
        have r := hq (j + 1) (d - 1) less (nxt _ k hk hmk (Nat.le_sub_of_add_le (Nat.lt_of_le_of_ne hd1 (Ne.symm e))))
        rw [show ((d - 1 : Nat) : Int) = (d : Int) - 1 from Int.ofNat_sub hd1] at r
        exact r
    · rw [if_neg fun q => of_decide_eq_false e (cl_mem.mpr q)] at hm
      obtain ⟨k, hk, hmk⟩ := map1 hm
      exact hq (j + 1) d less (nxt _ k hk hmk hd1)
theorem map0 {o : Option Nat} : o = o.map (· + 0) := by cases o <;> rfl
theorem close_app {l : List Nat} (hl : ∀ c ∈ l, ¬ (c = 91 ∨ c = 123) ∧ ¬ (c = 93 ∨ c = 125)) (r : List Nat) (d : Nat) : closeL (l ++ r) d = (closeL r d).map (· + l.length) := by
  induction l with
  | nil => exact map0
  | cons c l ih =>
    have h := hl c (.head _)
    rw [List.cons_append, closeL, if_neg h.1, if_neg h.2, ih fun c hc => hl c (.tail _ hc)]
    cases closeL r d with
    | none => rfl
    | some k => show some _ = some _; rw [List.length_cons]; congr 1
theorem nmL_plain {t : Str} (h : t ∈ nmL) : ∀ c ∈ t.cps.toList, ¬ (c = 91 ∨ c = 123) ∧ ¬ (c = 93 ∨ c = 125) := by
  have : ∀ t ∈ nmL, ∀ c ∈ t.cps.toList, ¬ (c = 91 ∨ c = 123) ∧ ¬ (c = 93 ∨ c = 125) := by decide +kernel
  exact this t h
theorem close_one {c : Nat} (h1 : ¬ (c = 91 ∨ c = 123)) (h2 : ¬ (c = 93 ∨ c = 125)) (r : List Nat) (d : Nat) : closeL (c :: r) d = (closeL r d).map (· + 1) := by
  rw [closeL, if_neg h1, if_neg h2]
theorem map_map1 {o : Option Nat} (a b : Nat) : (o.map (· + a)).map (· + b) = o.map (· + (a + b)) := by
  cases o with
  | none => rfl
  | some k => show some _ = some _; congr 1; lia
theorem close_tl : ∀ {x : Fo} {e : Nat}, x.ok e → ∀ (r : List Nat) (d : Nat), 1 ≤ d → closeL (tlF x ++ r) d = (closeL r d).map (· + (tlF x).length)
  | .nil, _, _, r, d, _ => map0
  | .leaf t x, e, h, r, d, hd => by
    have h : t ∈ nmL ∧ x.ok e := by cases e <;> exact h
    show closeL (32 :: (t.cps.toList ++ tlF x) ++ r) d = (closeL r d).map (· + (32 :: (t.cps.toList ++ tlF x)).length)
    rw [List.cons_append, close_one (by decide) (by decide), List.append_assoc, close_app (nmL_plain h.1), close_tl h.2 r d hd, map_map1, map_map1, List.length_cons, List.length_append]
    congr 1
    funext k
    lia
  | .box b i x, e + 1, h, r, d, hd => by
    have h1 : closeL ((tlF i).tail ++ (clC b :: (tlF x ++ r))) (d + 1) = (closeL (clC b :: (tlF x ++ r)) (d + 1)).map (· + (tlF i).tail.length) := by
      cases hi : tlF i with
      | nil => exact map0
      | cons c l =>
        have hc : c = 32 := by cases i <;> cases hi <;> rfl
        subst hc
        have := close_tl h.1 (clC b :: (tlF x ++ r)) (d + 1) (by lia)
        rw [hi, List.cons_append, close_one (by decide) (by decide)] at this
        show closeL (l ++ _) _ = _
        cases q1 : closeL (l ++ clC b :: (tlF x ++ r)) (d + 1) with
        | none =>
          rw [q1] at this
          cases q2 : closeL (clC b :: (tlF x ++ r)) (d + 1) with
          | none => rfl
          | some k => rw [q2] at this; cases this
        | some k =>
          rw [q1] at this
          cases q2 : closeL (clC b :: (tlF x ++ r)) (d + 1) with
          | none => rw [q2] at this; cases this
          | some k2 =>
            rw [q2] at this
            have := Option.some.inj this
            rw [List.length_cons] at this
            show some k = some (k2 + l.length)
            congr 1
            lia
    have h2 : closeL (clC b :: (tlF x ++ r)) (d + 1) = (closeL r d).map (· + ((tlF x).length + 1)) := by
      have hb : ¬ (clC b = 91 ∨ clC b = 123) ∧ (clC b = 93 ∨ clC b = 125) := by cases b <;> decide
      rw [closeL, if_neg hb.1, if_pos hb.2, if_neg (by lia), show d + 1 - 1 = d from rfl, close_tl h.2 r d hd, map_map1]
    have hb : opC b = 91 ∨ opC b = 123 := by cases b <;> decide
    show closeL (32 :: opC b :: ((tlF i).tail ++ clC b :: tlF x) ++ r) d = (closeL r d).map (· + (32 :: opC b :: ((tlF i).tail ++ clC b :: tlF x)).length)
    rw [List.cons_append, close_one (by decide) (by decide), List.cons_append, closeL, if_pos hb, List.append_assoc, List.cons_append, h1, h2, map_map1, map_map1, map_map1, List.length_cons, List.length_cons, List.length_append, List.length_cons]
    congr 1
    funext k
    lia
theorem close_cp {x : Fo} {e : Nat} (h : x.ok e) (b : Bool) (r : List Nat) : closeL (cpF x ++ clC b :: r) 1 = some (cpF x).length := by
  have hb : ¬ (clC b = 91 ∨ clC b = 123) ∧ (clC b = 93 ∨ clC b = 125) := by cases b <;> decide
  have h0 : closeL (clC b :: r) 1 = some 0 := by rw [closeL, if_neg hb.1, if_pos hb.2, if_pos rfl]
  have := close_tl h (clC b :: r) 1 (Nat.le_refl _)
  rw [h0] at this
  unfold cpF
  cases hx : tlF x with
  | nil => exact h0
  | cons c l =>
    have hc : c = 32 := by cases x <;> cases hx <;> rfl
    subst hc
    rw [hx, List.cons_append, close_one (by decide) (by decide)] at this
    obtain ⟨k, h1, h2⟩ := map1 this
    show closeL (l ++ clC b :: r) 1 = some l.length
    rw [h1]
    rw [List.length_cons] at h2
    congr 1
    lia
inductive Lf where
  | num (i : Int)
  | flt (ps : List Int)
  | plus | swp | dup | nan | inf | ninf
  | word (v : V)
noncomputable def topI (s : List Int) : Int := nth s (s.length - 1)
noncomputable def stL : Lf → List Int → List Int
  | .num i, s => s ++ [i]
  | .flt ps, s => s ++ ps
  | .plus, s => if 1 < s.length then ini 2 s ++ [(las 2 s).sum] else s
  | .swp, s => ini 2 s ++ (las 2 s).reverse
  | .dup, s => s ++ las 1 s
  | .nan, s => ini 1 s
  | .inf, s => if s.isEmpty then s else s ++ [maxI s]
  | .ninf, s => if s.isEmpty then s else s ++ [minI s]
  | .word _, s => s
noncomputable def pairV (s : List Int) : List V := [.int s.length, .lst ((las 1 s).map .int)]
noncomputable def vL (t : Str) (s : List Int) : Lf → V
  | .word v => v
  | .flt _ => .tup (.str t :: pairV s)
  | .plus => .tup (pairV s ++ [.str "strict"])
  | .swp => .tup (pairV s ++ [.str "strict"])
  | .dup => .tup (pairV s ++ [.str "strict"])
  | _ => .tup (pairV s)
noncomputable def tbl : List (Str × Lf) := [("0", .num 0), ("1", .num 1), ("2", .num 2), ("3", .num 3), ("4", .num 4), ("-5", .num (-5)), ("-120", .num (-120)), ("2.4", .flt [2, 4]), ("5e2", .flt [5, 5]), ("\"+\"", .plus), ("\"d\"", .dup), ("\"s\"", .swp), ("Infinity", .inf), ("-Infinity", .ninf), ("NaN", .nan), ("null", .word .none), ("true", .word (.bool true)), ("false", .word (.bool false)), ("3.1E+1", .flt [3, 1]), ("-10.25e-10", .flt []),
  ("-0", .num 0), ("6789", .num 6789), ("-90", .num (-90)), ("7", .num 7), ("8", .num 8), ("0.6789", .flt [0, 6789]), ("9.0", .flt [9, 0]), ("60e02", .flt [60, 60]), ("7E98761", .flt [7])]
noncomputable def lfOf (t : Str) : Lf := ((tbl.find? fun p => decide (p.1 = t)).map (·.2)).getD .nan
noncomputable abbrev R3 := List V × List Int × List Int
noncomputable def itr (f : List Int → List Int → R3) : Nat → List Int → List Int → R3
  | 0, s, m => ([], s, m)
  | k + 1, s, m => (.lst (f s m).1 :: (itr f k (f s m).2.1 (f s m).2.2).1, (itr f k (f s m).2.1 (f s m).2.2).2)
noncomputable def loopV (f : List Int → List Int → R3) (s m : List Int) : V × List Int × List Int :=
  if s.isEmpty then (.lst [], s, m) else (.lst (itr f ((topI s).fmod 3).toNat (ini 1 s) m).1, (itr f ((topI s).fmod 3).toNat (ini 1 s) m).2)
noncomputable def told (m : List Int) : V := .tup [.str "strict", .str "hook", .str "pairs hook", .lst (m.map .int)]
noncomputable def condV (f : List Int → List Int → R3) (s m : List Int) : V × List Int × List Int :=
  if !s.isEmpty && decide (topI s > 0) then (.tup [told (m ++ [(s.length : Int)]), .lst (f s (m ++ [(s.length : Int)])).1], (f s (m ++ [(s.length : Int)])).2) else (.tup [told (m ++ [(s.length : Int)]), .none], s, m ++ [(s.length : Int)])
noncomputable def boxV (b : Bool) (f : List Int → List Int → R3) (s m : List Int) : V × List Int × List Int := if b then condV f s m else loopV f s m
noncomputable def fW : Fo → List Int → List Int → R3
  | .nil, s, m => ([], s, m)
  | .leaf t r, s, m => (vL t (stL (lfOf t) s) (lfOf t) :: (fW r (stL (lfOf t) s) m).1, (fW r (stL (lfOf t) s) m).2)
  | .box b i r, s, m => ((boxV b (fW i) s m).1 :: (fW r (boxV b (fW i) s m).2.1 (boxV b (fW i) s m).2.2).1, (fW r (boxV b (fW i) s m).2.1 (boxV b (fW i) s m).2.2).2)
noncomputable def cost : Fo → Nat
  | .nil => 0
  | .leaf _ r => 2 + cost r
  | .box _ i r => 1 + 2 * cost i + cost r
theorem mod3 (x : Int) : (x.fmod 3).toNat ≤ 2 ∧ 0 ≤ x.fmod 3 := by
  have h1 := Int.fmod_nonneg_of_pos x (show (0 : Int) < 3 by decide)
  have h2 := Int.fmod_lt_of_pos x (show (0 : Int) < 3 by decide)
  exact ⟨Int.toNat_le.mpr (Int.le_of_lt_add_one h2), h1⟩
theorem lf_tbl {t : Str} (h : t ∈ nmL) : (t, lfOf t) ∈ tbl := by
  have : ∀ t ∈ nmL, (tbl.find? fun p => decide (p.1 = t)).isSome = true := by decide +kernel
  have := this t h
  unfold lfOf
  cases e : tbl.find? fun p => decide (p.1 = t) with
  | none => rw [e] at this; cases this
  | some p =>
    have h1 := List.mem_of_find?_eq_some e
    have h2 := of_decide_eq_true (List.find?_some (p := fun p : Str × Lf => decide (p.1 = t)) e)
    rw [← h2]
    exact h1
theorem flt_le {t : Str} {ps : List Int} (h : lfOf t = .flt ps) : ps.length ≤ 2 := by
  have key : ∀ (l : List (Str × Lf)), (l.all fun p => match p.2 with | .flt ps => decide (ps.length ≤ 2) | _ => true) = true → ∀ p ∈ l, ∀ ps, p.2 = .flt ps → ps.length ≤ 2 := fun l hl p hp ps e => by
    have := List.all_eq_true.mp hl p hp
    rw [e] at this
    exact of_decide_eq_true this
  unfold lfOf at h
  cases e : tbl.find? fun p => decide (p.1 = t) with
  | none => rw [e] at h; cases h
  | some p => rw [e] at h; exact key tbl (by decide +kernel) p (List.mem_of_find?_eq_some e) ps h
theorem las_le (k : Nat) (s : List Int) : (las k s).length ≤ k := by rw [las, List.length_drop]; exact subsub _ _
theorem ini_le (k : Nat) (s : List Int) : (ini k s).length ≤ s.length := by rw [ini, List.length_take]; exact Nat.min_le_right _ _
theorem ini_las (k : Nat) (s : List Int) : (ini k s).length + (las k s).length = s.length := by
  conv => rhs; rw [← List.take_append_drop (s.length - k) s]
  rw [List.length_append]; rfl
theorem app1 {s : List Int} {x : Int} : (s ++ [x]).length ≤ s.length + 2 := by rw [List.length_append]; exact Nat.le_succ _
theorem stL_len (t : Str) (s : List Int) : (stL (lfOf t) s).length ≤ s.length + 2 := by
  have h0 : s.length ≤ s.length + 2 := Nat.le_add_right _ _
  cases e : lfOf t with
  | flt ps => exact Nat.le_trans (Nat.le_of_eq List.length_append) (Nat.add_le_add_left (flt_le e) _)
  | num i => exact app1
  | plus => exact (iteInduction (motive := fun l : List Int => l.length ≤ s.length + 2) (fun _ => by rw [List.length_append]; exact Nat.add_le_add (ini_le 2 s) (show 1 ≤ 2 by decide)) fun _ => h0)
  | swp => exact Nat.le_trans (Nat.le_of_eq (by rw [show stL .swp s = ini 2 s ++ (las 2 s).reverse from rfl, List.length_append, List.length_reverse, ini_las])) h0
  | dup => exact Nat.le_trans (Nat.le_of_eq List.length_append) (Nat.add_le_add_left (Nat.le_trans (las_le 1 s) (by decide)) _)
  | nan => exact Nat.le_trans (ini_le 1 s) h0
  | inf => exact (iteInduction (motive := fun l : List Int => l.length ≤ s.length + 2) (fun _ => h0) fun _ => app1)
  | ninf => exact (iteInduction (motive := fun l : List Int => l.length ≤ s.length + 2) (fun _ => h0) fun _ => app1)
  | word v => exact h0
noncomputable def Gr (f : List Int → List Int → R3) (c : Nat) : Prop := ∀ s m, (f s m).2.1.length ≤ s.length + c ∧ (f s m).2.2.length ≤ m.length + c
theorem itr_gr {f : List Int → List Int → R3} {c : Nat} (h : Gr f c) : ∀ (k : Nat) (s m : List Int), (itr f k s m).2.1.length ≤ s.length + k * c ∧ (itr f k s m).2.2.length ≤ m.length + k * c
  | 0, s, m => by rw [Nat.zero_mul]; exact ⟨Nat.le_refl _, Nat.le_refl _⟩
  | k + 1, s, m => by
    have h1 := h s m
    have h2 := itr_gr h k (f s m).2.1 (f s m).2.2
    rw [Nat.succ_mul]
    exact ⟨Nat.le_trans h2.1 (by lia), Nat.le_trans h2.2 (by lia)⟩
theorem box_gr {f : List Int → List Int → R3} {c : Nat} (h : Gr f c) (b : Bool) (s m : List Int) : (boxV b f s m).2.1.length ≤ s.length + (1 + 2 * c) ∧ (boxV b f s m).2.2.length ≤ m.length + (1 + 2 * c) := by
  cases b with
  | true =>
    show (condV f s m).2.1.length ≤ _ ∧ (condV f s m).2.2.length ≤ _
    unfold condV
    have h1 := h s (m ++ [(s.length : Int)])
    rw [List.length_append, List.length_singleton] at h1
    split
    · exact ⟨Nat.le_trans h1.1 (by lia), Nat.le_trans h1.2 (by lia)⟩
    · exact ⟨by show s.length ≤ _; lia, by show (m ++ [(s.length : Int)]).length ≤ _; rw [List.length_append, List.length_singleton]; lia⟩
  | false =>
    show (loopV f s m).2.1.length ≤ _ ∧ (loopV f s m).2.2.length ≤ _
    unfold loopV
    split
    · exact ⟨by show s.length ≤ _; lia, by show m.length ≤ _; lia⟩
    · have h1 := itr_gr h ((topI s).fmod 3).toNat (ini 1 s) m
      have h2 := Nat.mul_le_mul_right c (mod3 (topI s)).1
      have h3 := ini_le 1 s
      exact ⟨Nat.le_trans h1.1 (by lia), Nat.le_trans h1.2 (by lia)⟩
theorem fW_gr : ∀ x : Fo, Gr (fW x) (cost x)
  | .nil => fun s m => ⟨Nat.le_refl _, Nat.le_refl _⟩
  | .leaf t r => fun s m => by
    have h1 := fW_gr r (stL (lfOf t) s) m
    have h2 := stL_len t s
    exact ⟨Nat.le_trans h1.1 (by show _ ≤ s.length + (2 + cost r); lia), Nat.le_trans h1.2 (by show _ ≤ m.length + (2 + cost r); lia)⟩
  | .box b i r => fun s m => by
    have h1 := fW_gr r (boxV b (fW i) s m).2.1 (boxV b (fW i) s m).2.2
    have h2 := box_gr (fW_gr i) b s m
    exact ⟨Nat.le_trans h1.1 (by show _ ≤ s.length + (1 + 2 * cost i + cost r); lia), Nat.le_trans h1.2 (by show _ ≤ m.length + (1 + 2 * cost i + cost r); lia)⟩
noncomputable def cmdL : List Str := ["\"+\"", "\"s\"", "\"d\"", "NaN", "Infinity", "-Infinity"]
noncomputable def wdT : List (Str × V) := [("null", .none), ("true", .bool true), ("false", .bool false)]
noncomputable def mnT : List (Str × V) := [("2.4", .lst [.int 2, .int 4]), ("5e2", .lst [.int 5, .int 5]), ("3.1E+1", .lst [.int 3, .int 1]), ("-10.25e-10", .lst []), ("0.6789", .lst [.int 0, .int 6789]), ("9.0", .lst [.int 9, .int 0]), ("60e02", .lst [.int 60, .int 60]), ("7E98761", .lst [.int 7])]
noncomputable def sameT (a b : Str) : Bool := a.cps.toList == b.cps.toList
noncomputable def noCmd (t : Str) : Bool := cmdL.all fun c => !sameT t c
inductive FcW (t : Str) : Lf → Prop where
  | num (i : Int) (h1 : noCmd t = true) (h2 : (vAt wdT t).isSome = false) (h3 : (vAt mnT t).isSome = false) (h4 : PySem.intText? t = some i) (h5 : ∃ c, t.cps[0]? = some c ∧ c ≠ 34) : FcW t (.num i)
  | flt (ps : List Int) (h1 : noCmd t = true) (h2 : (vAt wdT t).isSome = false) (h3 : vAt mnT t = some (.lst (ps.map .int))) (h5 : ∃ c, t.cps[0]? = some c ∧ c ≠ 34) : FcW t (.flt ps)
  | plus (e : t = "\"+\"") : FcW t .plus
  | swp (e : t = "\"s\"") : FcW t .swp
  | dup (e : t = "\"d\"") : FcW t .dup
  | nan (e : t = "NaN") : FcW t .nan
  | inf (e : t = "Infinity") : FcW t .inf
  | ninf (e : t = "-Infinity") : FcW t .ninf
  | word (v : V) (h : vAt wdT t = some v) : FcW t (.word v)
noncomputable def numB (t : Str) (i : Int) : Bool := (noCmd t && !(vAt wdT t).isSome) && (!(vAt mnT t).isSome && ((PySem.intText? t == some i) && (decide (0 < t.cps.size) && !(t.cps.getD 0 0 == 34))))
noncomputable def fltB (t : Str) : Bool := (noCmd t && !(vAt wdT t).isSome) && (decide (0 < t.cps.size) && !(t.cps.getD 0 0 == 34))
theorem fst_of {t : Str} (h : (decide (0 < t.cps.size) && !(t.cps.getD 0 0 == 34)) = true) : ∃ c, t.cps[0]? = some c ∧ c ≠ 34 := by
  have h1 := of_decide_eq_true (and_l h)
  have h2 := bnot (and_r h)
  refine ⟨t.cps[0], Array.getElem?_eq_getElem h1, fun e => ?_⟩
  rw [Array.getD_eq_getD_getElem?, Array.getElem?_eq_getElem h1] at h2
  rw [e] at h2
  cases h2
theorem num_of {t : Str} {i : Int} (h : numB t i = true) : FcW t (.num i) :=
  .num i (and_l (and_l h)) (bnot (and_r (and_l h))) (bnot (and_l (and_r h))) (eq_of_beq (and_l (and_r (and_r h)))) (fst_of (and_r (and_r (and_r h))))
theorem flt_of {t : Str} {ps : List Int} (h : fltB t = true) (e : vAt mnT t = some (.lst (ps.map .int))) : FcW t (.flt ps) :=
  .flt ps (and_l (and_l h)) (bnot (and_r (and_l h))) e (fst_of (and_r h))
theorem fc_tbl : ∀ p ∈ tbl, FcW p.1 p.2 := by
  simp only [tbl, List.forall_mem_cons]
  exact ⟨num_of (by decide +kernel), num_of (by decide +kernel), num_of (by decide +kernel), num_of (by decide +kernel), num_of (by decide +kernel), num_of (by decide +kernel), num_of (by decide +kernel), flt_of (by decide +kernel) rfl, flt_of (by decide +kernel) rfl, .plus rfl, .dup rfl, .swp rfl, .inf rfl, .ninf rfl, .nan rfl, .word _ rfl, .word _ rfl, .word _ rfl, flt_of (by decide +kernel) rfl, flt_of (by decide +kernel) rfl,
    num_of (by decide +kernel), num_of (by decide +kernel), num_of (by decide +kernel), num_of (by decide +kernel), num_of (by decide +kernel), flt_of (by decide +kernel) rfl, flt_of (by decide +kernel) rfl, flt_of (by decide +kernel) rfl, flt_of (by decide +kernel) rfl, nofun⟩
theorem fcW {t : Str} (h : t ∈ nmL) : FcW t (lfOf t) := fc_tbl _ (lf_tbl h)
noncomputable def isQ : Lf → Bool
  | .plus => true
  | .swp => true
  | .dup => true
  | _ => false
noncomputable def isF : Lf → Bool
  | .flt _ => true
  | _ => false
noncomputable def isWd : Lf → Bool
  | .word _ => true
  | _ => false
theorem FcW.wd {t : Str} {lf : Lf} (h : FcW t lf) : (vAt wdT t).isSome = isWd lf := by
  cases h with
  | num i h1 h2 => exact h2
  | flt ps h1 h2 => exact h2
  | word v h => rw [h]; rfl
  | plus e => subst e; decide +kernel
  | swp e => subst e; decide +kernel
  | dup e => subst e; decide +kernel
  | nan e => subst e; decide +kernel
  | inf e => subst e; decide +kernel
  | ninf e => subst e; decide +kernel
inductive FcV (t : Str) (lf : Lf) : Prop where
  | mk (c : Nat) (hc : t.cps[0]? = some c) (q : ((⟨#[c]⟩ : Str).cps.toList == (Str.ofString "\"").cps.toList) = isQ lf) (f : (vAt mnT t).isSome = isF lf)
theorem fst_q {c : Nat} (h : c ≠ 34) : ((⟨#[c]⟩ : Str).cps.toList == (Str.ofString "\"").cps.toList) = false :=
  (chr_eq (c := c) (w := "\"") (a := 34) (by decide +kernel)).trans (decide_eq_false h)
theorem FcW.fst {t : Str} {lf : Lf} (h : FcW t lf) (hw : isWd lf = false) : FcV t lf := by
  cases h with
  | num i h1 h2 h3 h4 h5 => obtain ⟨c, hc, hn⟩ := h5; exact ⟨c, hc, fst_q hn, h3⟩
  | flt ps h1 h2 h3 h5 => obtain ⟨c, hc, hn⟩ := h5; exact ⟨c, hc, fst_q hn, by rw [h3]; rfl⟩
  | word v h => cases hw
  | plus e => subst e; exact ⟨34, rfl, rfl, by decide +kernel⟩
  | swp e => subst e; exact ⟨34, rfl, rfl, by decide +kernel⟩
  | dup e => subst e; exact ⟨34, rfl, rfl, by decide +kernel⟩
  | nan e => subst e; exact ⟨78, rfl, by decide +kernel, by decide +kernel⟩
  | inf e => subst e; exact ⟨73, rfl, by decide +kernel, by decide +kernel⟩
  | ninf e => subst e; exact ⟨45, rfl, by decide +kernel, by decide +kernel⟩
theorem vL_q {t : Str} {s : List Int} {lf : Lf} (h : isQ lf = true) : V.tup (pairV s ++ [.str "strict"]) = vL t s lf := by
  cases lf <;> first | rfl | cases h
theorem vL_f {t : Str} {s : List Int} {lf : Lf} (h : isF lf = true) : V.tup ([.str t] ++ pairV s) = vL t s lf := by
  cases lf <;> first | rfl | cases h
theorem vL_p {t : Str} {s : List Int} {lf : Lf} (h1 : isQ lf = false) (h2 : isF lf = false) (h3 : isWd lf = false) : V.tup (pairV s) = vL t s lf := by
  cases lf <;> first | rfl | exact Bool.noConfusion h1 | exact Bool.noConfusion h2 | exact Bool.noConfusion h3
structure ItP (f : List Int → List Int → R3) (c B n : Nat) (r0 : R3) (k : Nat) (ws : List V) (s m : List Int) : Prop where
  val : r0 = (ws ++ (itr f (n - k) s m).1, (itr f (n - k) s m).2)
  len : ws.length = k
  hk : k ≤ n
  hs : s.length + (n - k) * c ≤ B
  hm : m.length + (n - k) * c ≤ B
theorem grB {x s c j B : Nat} (h : s + (j + c) ≤ B) (g : x ≤ s + c) : x + j ≤ B := Nat.le_trans (Nat.add_le_add_right g j) (by rw [Nat.add_assoc, Nat.add_comm c]; exact h)
theorem grA {x s c j B : Nat} (h : s + (c + j) ≤ B) (g : x ≤ s + c) : x + j ≤ B := Nat.le_trans (Nat.add_le_add_right g j) (by rw [Nat.add_assoc]; exact h)
theorem grC {s c j B : Nat} (h : s + (c + j) ≤ B) : s + c ≤ B := Nat.le_trans (Nat.le_add_right _ _) (by rw [Nat.add_assoc]; exact h)
theorem grD {s c j B : Nat} (h : s + (j + c) ≤ B) : s + c ≤ B := Nat.le_trans (Nat.add_le_add_left (Nat.le_add_left _ _) _) h
theorem ItP.next {f : List Int → List Int → R3} {c B n k : Nat} {r0 : R3} {ws : List V} {s m : List Int} (h : ItP f c B n r0 k ws s m) (hk : k < n) (hg : Gr f c) : ItP f c B n r0 (k + 1) (ws ++ [.lst (f s m).1]) (f s m).2.1 (f s m).2.2 := by
  obtain ⟨val, len, _, hs, hm⟩ := h
  obtain ⟨j, hj⟩ : ∃ j, n - k = j + 1 := ⟨n - k - 1, (Nat.sub_add_cancel (Nat.sub_pos_of_lt hk)).symm⟩
  have hj2 : n - (k + 1) = j := by rw [Nat.sub_succ, hj]; rfl
  have h1 := hg s m
  rw [hj] at val
  rw [hj, Nat.succ_mul] at hs hm
  refine ⟨?_, by rw [List.length_append, List.length_singleton, len], hk, by rw [hj2]; exact grB hs h1.1, by rw [hj2]; exact grB hm h1.2⟩
  rw [hj2, val, List.append_assoc]
  rfl
noncomputable def gh (l : List (Option V)) (k : Nat) : Option V := l.getD k none
noncomputable def wkR (x : Fo) (s : List Int) (met md wd va : Addr) (node value : Option V) (g : Nat → Option V) : Rho := [("tree", some (.lst (foV x))), ("stack", some (.lst (s.map .int))), ("met", some (.ref met)), ("meanings", some (.ref md)), ("words", some (.ref wd)), ("values", some (.ref va)), ("node", node), ("value", value), ("rounds", g 0), ("_", g 1), ("inner", g 2), ("told", g 3)]
noncomputable def wkH (G : Glob) (met md wd va : Addr) (H : Hp) (vs : List V) (m : List Int) : Hp := (va, .list vs) :: (wd, .dict (kvL (kStr G).emb wdT)) :: (md, .dict (kvL (kStr G).emb mnT)) :: (met, .list (m.map .int)) :: H
structure WkP (B d : Nat) (x : Fo) (r0 : R3) (k : Nat) (vs : List V) (s m : List Int) (r : Fo) : Prop where
  ok : r.ok d
  tl : (foV x).drop k = foV r
  val : r0 = (vs ++ (fW r s m).1, (fW r s m).2)
  len : vs.length ≤ k
  hs : s.length + cost r ≤ B
  hm : m.length + cost r ≤ B
  hz : r.size ≤ 100
theorem walk {G : Glob} {F : Fz} {ag : Nat → Addr} (hg : Gl G F ag) (hf : IsDef F (stm 10) (ag 10)) : ∀ (d : Nat) (x : Fo) {fr : List Env} {A : Around} {H : Hp} {Q : V → Fz → Hp → Prop} {s m : List Int} {met : Addr}, x.ok d → x.size ≤ 100 → s.length + cost x ≤ 100000 → m.length + cost x ≤ 100000 → Ok fr A (d + 1) →
    Q (.tup [.lst (fW x s m).1, .lst ((fW x s m).2.1.map .int)]) F ((met, .list ((fW x s m).2.2.map .int)) :: H) → Cl G fr A F ((met, .list (m.map .int)) :: H) (.ref (ag 10)) [.lst (foV x), .lst (s.map .int), .ref met] Q No := by
  intro d
  induction d using Nat.strongRecOn with
  | _ d ih =>
    intro x fr A H Q s0 m0 met hx hsz hs0 hm0 hA h
    obtain ⟨c, st, o, pm, hst, hf', hd, hc⟩ := id hf
    obtain rfl := Option.some.inj hst.symm
    refine Cl.drpQ ?_
    refine def_w hg hf' hd hc hA ["tree", "stack", "met"] ["meanings", "words", "values", "node", "value", "rounds", "_", "inner", "told"] rfl (by decide +kernel) (fun vs hv => by obtain ⟨a, b, c, rfl⟩ := len3 hv; rfl) fun L A' hA ok => ?_
    refine .frz (szl rfl) (.frz (szl rfl) (.frz (szl rfl) (.frz (szl rfl) (.frz (szl rfl) (.frz (szl rfl) (.frz (szl rfl) (.frz (szl rfl) ?_)))))))
    refine .own mnT rfl (by decide +kernel) fun md hmd => ?_
    refine .own wdT rfl (by decide +kernel) fun wd hwd => ?_
    refine .own (szl rfl) fun va => ?_
    refine ForW.s7 ok (iter_lst hA.handled) (fun vs s m r node value g => wkR x s met md wd va node value g) (fun vs s m r node value g => wkH G met md wd va H vs m) (fun k vs s m r node value g => WkP 100000 d x (fW x s0 m0) k vs s m r) (z1 := []) (z2 := s0) (z3 := m0) (z4 := x) (z5 := none) (z6 := none) (z7 := fun _ => none) ⟨hx, rfl, rfl, Nat.le_refl _, hs0, hm0, hsz⟩ ?_ ?_
    · intro k y vs s m r node value g hy hk Qn hq
      obtain ⟨hok, htl, hval, hlen, hs, hm, hz⟩ := hk
      have hlt := (List.getElem?_eq_some_iff.mp hy).1
      have hk100 : k < 100 := Nat.lt_of_lt_of_le hlt (Nat.le_trans (foV_len x) hsz)
      have hvl : vs.length ≤ sizeLine := line_le (Nat.le_trans hlen (Nat.le_of_lt hk100)) (by decide)
      have hsl : s.length ≤ sizeLine := line_le (by lia) (show 100000 ≤ 1000000 by decide)
      have hhd : (foV r)[0]? = some y := by rw [← htl, List.getElem?_drop]; exact hy
      have hdr : (foV x).drop (k + 1) = (foV r).drop 1 := by rw [← htl, List.drop_drop]
      cases r with
      | nil => cases hhd
      | leaf t r =>
        have hok : t ∈ nmL ∧ r.ok d := by cases d <;> exact hok
        cases hhd
        have hfc := fcW hok.1
        have hsl2 := stL_len t s
        have fin : ∀ lf, lfOf t = lf → WkP 100000 d x (fW x s0 m0) (k + 1) (vs ++ [vL t (stL lf s) lf]) (stL lf s) m r := fun lf e => by
          subst e
          exact ⟨hok.2, hdr, by rw [hval, List.append_assoc]; rfl, by rw [List.length_append, List.length_singleton]; lia, by have : s.length + (2 + cost r) ≤ 100000 := hs; lia, by have : m.length + (2 + cost r) ≤ 100000 := hm; lia, Nat.le_of_succ_le hz⟩
        refine .t false (isi_ss ⟨ok, .mk rfl⟩) ?_
        refine .t false (isi_ss ⟨ok, .mk rfl⟩) ?_
        refine .run (in_dict (kd := kStr G) (.own hwd (.tl .hd)) (by decide +kernel) ⟨ok, _, rfl, ?_⟩)
        generalize hlf : lfOf t = lf at hfc
        have fin := fin lf hlf
        rw [hlf] at hsl2
        have hsl' : (stL lf s).length ≤ sizeLine := line_le (by have : s.length + (2 + cost r) ≤ 100000 := hs; lia) (show 100000 ≤ 1000000 by decide)
        have wdf := hfc.wd
        refine bifW.sp (fun e => ?_) fun e => ?_
        · have e := wdf.symm.trans e
          cases hfc with
          | word v hv =>
            refine ⟨"list", _, m_append, .list .hd, sub_dict (kd := kStr G) (.own hwd (.tl .hd)) (by decide +kernel) hv ⟨ok, append .hd hvl ⟨ok, ?_⟩⟩⟩
            exact hq _ _ _ _ _ _ _ fin
          | _ => cases e
        · have ew := wdf.symm.trans e
          obtain ⟨c, hc0, q1, q2⟩ := hfc.fst ew
          refine .at (wkR x (stL lf s) met md wd va (some (.str t)) value g) (wkH G met md wd va H vs m) ?_ ?_
          · have put : ∀ {z : List Int}, z = stL lf s → At (wkR x (stL lf s) met md wd va (some (.str t)) value g) F (wkH G met md wd va H vs m) (wkR x z met md wd va (some (.str t)) value g) F (wkH G met md wd va H vs m) := fun e => At.of (by rw [e])
            clear fin q1 q2 wdf e hsl' hsl2
            cases hfc with
            | word => cases ew
            | plus e =>
              subst e
              refine .run (len_ints .lst hsl ⟨ok, bifW.sp (fun e => ?_) fun e => ?_⟩)
              · have e : 1 < s.length := Int.ofNat_lt.mp (of_decide_eq_true e)
                refine sl_ini2 .lst hsl (sl_las2 .lst hsl (sum_lst .lst hA.handled ⟨ok, .frz (szl rfl) (add_ints (s := ini 2 s) (u := [(las 2 s).sum]) .lst .lst ?_ ⟨ok, put (if_pos e).symm⟩)⟩))
                rw [ini, List.length_take]
                exact line_le (show _ ≤ 100001 by simp; lia) (by decide)
              · have e : ¬ 1 < s.length := fun q => of_decide_eq_false e (Int.ofNat_lt.mpr q)
                exact put (if_neg e).symm
            | swp e =>
              subst e
              refine .run (sl_ini2 .lst hsl (sl_las2 .lst hsl (sl_rev .lst ?_ (add_ints (s := ini 2 s) (u := (las 2 s).reverse) .lst .lst ?_ ⟨ok, put rfl⟩))))
              · rw [las, List.length_drop]; exact Nat.le_trans (Nat.sub_le _ _) hsl
              · rw [ini, las, List.length_take, List.length_reverse, List.length_drop]; exact line_le (show _ ≤ 200000 from Nat.le_trans (Nat.add_le_add (Nat.min_le_right _ _) (subsub _ 2)) (Nat.le_trans (Nat.add_le_add_right (Nat.le_trans (Nat.le_add_right _ _) hs) 2) (by decide))) (by decide)
            | dup e =>
              subst e
              refine .run (.run (sl_las .lst hsl (add_ints (s := s) (u := las 1 s) .lst .lst ?_ ⟨ok, put rfl⟩)))
              rw [las, List.length_drop]; exact line_le (show _ ≤ 200000 from Nat.le_trans (Nat.add_le_add (Nat.le_trans (Nat.le_add_right _ _) hs) (subsub _ 1)) (by decide)) (by decide)
            | nan e =>
              subst e
              exact .run (.run (.run (sl_ini .lst hsl (put rfl))))
            | inf e =>
              subst e
              refine .run (.run (.run (.run (.run (tr_lst (by rw [List.length_map]; lia) ⟨ok, ?_⟩)))))
              cases s with
              | nil => exact put rfl
              | cons z s =>
                refine max_lst (zs := z :: s) .lst hA.handled (fun e => nomatch e) ⟨ok, .frz (szl rfl) (add_ints (s := z :: s) (u := [maxI (z :: s)]) .lst .lst ?_ ⟨ok, put rfl⟩)⟩
                exact line_le (show _ ≤ 100001 by rw [List.length_singleton]; lia) (by decide)
            | ninf e =>
              subst e
              refine .run (.run (.run (.run (.run (.run (tr_lst (by rw [List.length_map]; lia) ⟨ok, ?_⟩))))))
              cases s with
              | nil => exact put rfl
              | cons z s =>
                refine min_lst (zs := z :: s) .lst hA.handled (fun e => nomatch e) ⟨ok, .frz (szl rfl) (add_ints (s := z :: s) (u := [minI (z :: s)]) .lst .lst ?_ ⟨ok, put rfl⟩)⟩
                exact line_le (show _ ≤ 100001 by rw [List.length_singleton]; lia) (by decide)
            | num i h1 h2 h3 h4 h5 =>
              have nc : ∀ c ∈ cmdL, sameT t c = false := fun c hc => bnot (List.all_eq_true.mp h1 c hc)
              refine bifW.no (nc _ (.head _)) (.run ?_)
              refine bifW.no (nc _ (.tail _ (.head _))) (.run ?_)
              refine bifW.no (nc _ (.tail _ (.tail _ (.head _)))) (.run ?_)
              refine bifW.no (nc _ (.tail _ (.tail _ (.tail _ (.head _))))) (.run ?_)
              refine bifW.no (nc _ (.tail _ (.tail _ (.tail _ (.tail _ (.head _)))))) (.run ?_)
              refine bifW.no (nc _ (.tail _ (.tail _ (.tail _ (.tail _ (.tail _ (.head _))))))) (.run ?_)
              refine in_dict (kd := kStr G) (.own hmd (.tl (.tl .hd))) (by decide +kernel) ⟨ok, _, rfl, bifW.no h3 ?_⟩
              refine int_str h4 ?_ ⟨ok, .frz (szl rfl) (add_ints (s := s) (u := [i]) .lst .lst ?_ ⟨ok, put rfl⟩)⟩
              · have := nmL_len hok.1
                have e : t.length = t.cps.toList.length := by show t.cps.size = _; simp
                lia
              · exact line_le (show _ ≤ 100001 by rw [List.length_singleton]; lia) (by decide)
            | flt ps h1 h2 h3 h5 =>
              have nc : ∀ c ∈ cmdL, sameT t c = false := fun c hc => bnot (List.all_eq_true.mp h1 c hc)
              have hp := flt_le hlf
              refine bifW.no (nc _ (.head _)) (.run ?_)
              refine bifW.no (nc _ (.tail _ (.head _))) (.run ?_)
              refine bifW.no (nc _ (.tail _ (.tail _ (.head _)))) (.run ?_)
              refine bifW.no (nc _ (.tail _ (.tail _ (.tail _ (.head _))))) (.run ?_)
              refine bifW.no (nc _ (.tail _ (.tail _ (.tail _ (.tail _ (.head _)))))) (.run ?_)
              refine bifW.no (nc _ (.tail _ (.tail _ (.tail _ (.tail _ (.tail _ (.head _))))))) (.run ?_)
              refine in_dict (kd := kStr G) (.own hmd (.tl (.tl .hd))) (by decide +kernel) ⟨ok, _, rfl, bifW.yes (by rw [h3]; rfl) ?_⟩
              refine sub_dict (kd := kStr G) (.own hmd (.tl (.tl .hd))) (by decide +kernel) h3 ⟨ok, add_ints (s := s) (u := ps) .lst .lst ?_ ⟨ok, put rfl⟩⟩
              exact line_le (show _ ≤ 100002 by lia) (by decide)
          · refine len_ints .lst hsl' ⟨ok, sl_las .lst hsl' ?_⟩
            refine .at (wkR x (stL lf s) met md wd va (some (.str t)) (some (vL t (stL lf s) lf)) g) (wkH G met md wd va H vs m) ?_ ?_
            · have put : ∀ {z : V}, z = vL t (stL lf s) lf → At (wkR x (stL lf s) met md wd va (some (.str t)) (some (vL t (stL lf s) lf)) g) F (wkH G met md wd va H vs m) (wkR x (stL lf s) met md wd va (some (.str t)) (some z) g) F (wkH G met md wd va H vs m) := fun e => At.of (by rw [e])
              refine sub_str (i := 0) (by decide) (by decide) hc0 ⟨ok, ?_⟩
              cases hQ : isQ lf with
              | true => exact bifW.yes (q1.trans hQ) (add_tup (l1 := pairV (stL lf s)) (fun e => nomatch e) (fun e => nomatch e) (szl rfl) ⟨ok, put (vL_q hQ)⟩)
              | false =>
                refine bifW.no (q1.trans hQ) (.run (in_dict (kd := kStr G) (.own hmd (.tl (.tl .hd))) (by decide +kernel) ⟨ok, _, rfl, ?_⟩))
                cases hF : isF lf with
                | true => exact bifW.yes (q2.trans hF) (add_tup (l1 := [.str t]) (l2 := pairV (stL lf s)) (fun e => nomatch e) (fun e => nomatch e) (szl rfl) ⟨ok, put (vL_f hF)⟩)
                | false => exact bifW.no (q2.trans hF) (put (vL_p hQ hF ew))
            · refine ⟨"list", _, m_append, .list .hd, append .hd hvl ⟨ok, ?_⟩⟩
              exact hq _ _ _ _ _ _ _ fin
      | box b i r =>
        cases hhd
        obtain ⟨d, rfl⟩ : ∃ e, d = e + 1 := by
          cases d with
          | zero => exact hok.elim
          | succ e => exact ⟨e, rfl⟩
        have hgr := box_gr (fW_gr i) b s m
        have hs' : s.length + (1 + 2 * cost i + cost r) ≤ 100000 := hs
        have hm' : m.length + (1 + 2 * cost i + cost r) ≤ 100000 := hm
        have hz' : i.size + r.size + 1 ≤ 100 := hz
        have fin : WkP 100000 (d + 1) x (fW x s0 m0) (k + 1) (vs ++ [(boxV b (fW i) s m).1]) (boxV b (fW i) s m).2.1 (boxV b (fW i) s m).2.2 r :=
          ⟨hok.2, hdr, by rw [hval, List.append_assoc]; rfl, by rw [List.length_append, List.length_singleton]; lia, by lia, by lia, by lia⟩
        have hml : m.length ≤ sizeLine := line_le (by lia) (show 100000 ≤ 1000000 by decide)
        cases b with
        | true =>
          refine .run (isi_ts ⟨ok, sub_tup (by decide) (by decide) rfl ⟨ok, .run (isi_ts ⟨ok, ?_⟩)⟩⟩)
          refine ⟨"list", _, m_append, .list (.tl (.tl (.tl .hd))), len_ints .lst hsl ⟨ok, append_int (.tl (.tl (.tl .hd))) hml ⟨ok, ?_⟩⟩⟩
          refine list_copy (.own (.tl (.tl (.tl .hd)))) (by rw [List.length_map, List.length_append, List.length_singleton]; exact line_le (by lia) (show 100000 ≤ 1000000 by decide)) ⟨ok, ?_⟩
          refine IfW.s3 (fun s2 m2 v => wkR x s2 met md wd va (some (.tup [.str (kdS true), .lst (foV i)])) (some v) (gh [g 0, g 1, g 2, some (told (m ++ [(s.length : Int)]))])) (fun s2 m2 _ => wkH G met md wd va H vs m2) (fun s2 m2 v => (V.tup [told (m ++ [(s.length : Int)]), v], s2, m2) = boxV true (fW i) s m) ?_ ?_
          · refine tr_lst (by rw [List.length_map]; lia) ⟨ok, ?_⟩
            cases s with
            | nil =>
              refine .mk (_, _, _) ?_
              exact rfl
            | cons z s' =>
              refine sub_top .lst (fun e => nomatch e) ⟨ok, bifW.sp (fun e => ?_) fun e => ?_⟩
              · refine ⟨hf.ok, sub_tup (by decide) (by decide) rfl ⟨ok, Cl.upd1 (.tl (.tl (.tl .hd))) (fun Q q => ih d (Nat.lt_succ_self _) i hok.1 (by lia) (by lia) (by rw [List.length_append, List.length_singleton]; lia) hA q) ⟨ok, ?_⟩⟩⟩
                refine .mk (_, _, _) ?_
                exact (if_pos e).symm
              · refine .mk (_, _, _) ?_
                exact (if_neg (fun q => Bool.noConfusion (e.symm.trans q))).symm
          · intro s2 m2 v e
            rw [← e] at fin
            refine ⟨"list", _, m_append, .list .hd, append .hd hvl ⟨ok, ?_⟩⟩
            exact hq _ _ _ _ _ _ _ fin
        | false =>
          refine .run (isi_ts ⟨ok, sub_tup (by decide) (by decide) rfl ⟨ok, ?_⟩⟩)
          refine .own (szl rfl) fun vl => ?_
          refine IfW.s4 (fun s m _ g => wkR x s met md wd va (some (.tup [.str (kdS false), .lst (foV i)])) (some (.ref vl)) g) (fun s m ws _ => (vl, .list ws) :: wkH G met md wd va H vs m) (fun s2 m2 ws _ => (V.lst ws, s2, m2) = boxV false (fW i) s m) ?_ ?_
          · refine tr_lst (by rw [List.length_map]; lia) ⟨ok, ?_⟩
            cases s with
            | nil =>
              refine .mk (_, _, _, _) ?_
              exact rfl
            | cons z s' =>
              refine sub_top .lst (fun e => nomatch e) ⟨ok, mod_ii (by decide) ⟨ok, sl_ini .lst hsl ?_⟩⟩
              obtain ⟨n, hn, hn2⟩ : ∃ n : Nat, (topI (z :: s')).fmod 3 = n ∧ n ≤ 2 := ⟨((topI (z :: s')).fmod 3).toNat, (Int.toNat_of_nonneg (mod3 (topI (z :: s'))).2).symm, (mod3 _).1⟩
              rw [show ((z :: s').getD ((z :: s').length - 1) 0).fmod 3 = (n : Int) from hn]
              refine range1 ⟨ok, ?_⟩
              have hil : (ini 1 (z :: s')).length ≤ (z :: s').length := by rw [ini, List.length_take]; exact Nat.min_le_right _ _
              have hnc : n * cost i ≤ 2 * cost i := Nat.mul_le_mul_right _ hn2
              have hlp : loopV (fW i) (z :: s') m = (.lst (itr (fW i) n (ini 1 (z :: s')) m).1, (itr (fW i) n (ini 1 (z :: s')) m).2) := by
                show (V.lst (itr (fW i) ((topI (z :: s')).fmod 3).toNat (ini 1 (z :: s')) m).1, (itr (fW i) ((topI (z :: s')).fmod 3).toNat (ini 1 (z :: s')) m).2) = _
                rw [hn, Int.toNat_natCast]
              have hrl : (rngV 0 n 1).length = n := by rw [rngV_n, List.length_map, List.length_range]
              refine ForW.s4 ok (iter_rng hA.handled (small_n (Nat.lt_of_le_of_lt hn2 (by decide)))) (fun ws s m g => wkR x s met md wd va (some (.tup [.str (kdS false), .lst (foV i)])) (some (.ref vl)) g) (fun ws s m _ => (vl, .list ws) :: wkH G met md wd va H vs m) (fun k ws s m _ => ItP (fW i) (cost i) 100000 n (itr (fW i) n (ini 1 (z :: s')) _) k ws s m) (z1 := []) (z2 := ini 1 (z :: s')) (z3 := m) (z4 := gh [some (.int n), g 1, g 2, g 3]) ⟨rfl, rfl, Nat.zero_le _, by lia, by lia⟩ ?_ ?_
              · intro j y ws s m g hy hp Qn2 hq2
                have hjn : j < n := hrl ▸ (List.getElem?_eq_some_iff.mp hy).1
                have hp2 := hp.next hjn (fW_gr i)
                have h1 := hp.hs
                have h2 := hp.hm
                have hc1 : cost i ≤ (n - j) * cost i := Nat.le_mul_of_pos_left _ (by lia)
                refine ⟨hf.ok, sub_tup (by decide) (by decide) rfl ⟨ok, Cl.upd1 (.tl (.tl (.tl (.tl .hd)))) (fun Q q => ih d (Nat.lt_succ_self _) i hok.1 (by lia) (by lia) (by lia) hA q) ⟨ok, ?_⟩⟩⟩
                refine ⟨"list", _, m_append, .list .hd, append .hd (by rw [hp.len]; exact line_le (Nat.le_trans hp.hk hn2) (by decide)) ⟨ok, ?_⟩⟩
                exact hq2 _ _ _ (gh [g 0, some y, some (.lst (fW i s m).1), g 3]) hp2
              · intro ws s2 m2 g hp
                rw [hrl] at hp
                refine .mk (_, _, _, _) ?_
                show _ = loopV (fW i) (z :: s') m
                rw [hlp, hp.val, Nat.sub_self]
                show _ = (V.lst (ws ++ []), s2, m2)
                rw [List.append_nil]
          · intro s2 m2 ws g e
            rw [← e] at fin
            refine ⟨"list", _, m_append, .list (.tl .hd), Cl.arg2 .hd (append .hd hvl ⟨ok, ?_⟩)⟩
            exact hq _ _ _ _ _ _ _ fin
    · intro vs s m r node value g hk
      obtain ⟨hok, htl, hval, hlen, hs, hm, hz⟩ := hk
      have : r = .nil := by
        rw [List.drop_length] at htl
        cases r with
        | nil => rfl
        | leaf => cases htl
        | box => cases htl
      subst this
      refine .frz "values" rfl .hd rfl (.run ?_)
      refine ⟨_, .two .hd (fun _ e => nomatch e) .hd (fun _ e => nomatch e), ?_⟩
      rw [hval] at h
      rw [show vs ++ (fW .nil s m).1 = vs from List.append_nil _] at h
      exact h
inductive PtF (F : Fz) (k : Nat) (f : Addr) (fl : List (Str × V)) : Prop where
  | mk (q : Str) (cl : List (Str × Addr)) (h : FnS F f (sub (stm 9) k) q cl) (hc : ∀ p ∈ fl, ∃ c, cl.lookup p.1 = some c ∧ CellF F c p.2)
theorem PtF.mono {F F' : Fz} {k : Nat} {f : Addr} {fl : List (Str × V)} (le : F.le F') (h : PtF F k f fl) : PtF F' k f fl := by
  obtain ⟨q, cl, h, hc⟩ := h
  exact ⟨q, cl, h.mono le, fun p hp => by obtain ⟨c, h1, h2⟩ := hc p hp; exact ⟨c, h1, h2.mono le⟩⟩
theorem PtF.ok {F : Fz} {k : Nat} {f : Addr} {fl : List (Str × V)} (h : PtF F k f fl) : KOk F (.ref f) := by obtain ⟨q, cl, h, hc⟩ := h; exact h.ok
noncomputable def flS (S : Addr) : List (Str × V) := [("stack", .ref S)]
noncomputable def flO (S o : Addr) : List (Str × V) := [("stack", .ref S), ("_law_once", .ref o)]
structure Ctx (F : Fz) (S po pa ps pi pf pc o : Addr) : Prop where
  i : PtF F 0 pi (flS S)
  f : PtF F 1 pf (flS S)
  c : PtF F 2 pc (flS S)
  s : PtF F 3 ps (flS S)
  n : PtF F 4 o []
  a : PtF F 5 pa (flO S o)
  o : PtF F 6 po (flO S o)
theorem Ctx.mono {F F' : Fz} {S po pa ps pi pf pc o : Addr} (le : F.le F') (h : Ctx F S po pa ps pi pf pc o) : Ctx F' S po pa ps pi pf pc o :=
  ⟨h.i.mono le, h.f.mono le, h.c.mono le, h.s.mono le, h.n.mono le, h.a.mono le, h.o.mono le⟩
theorem capS {F : Fz} {c S : Addr} {cl : List (Str × Addr)} (h : cl.lookup (Str.ofString "stack") = some c) (hc : CellF F c (.ref S)) : ∀ p ∈ flS S, ∃ c, cl.lookup p.1 = some c ∧ CellF F c p.2 := fun p hp => by
  rcases List.mem_cons.mp hp with rfl | hp
  · exact ⟨c, h, hc⟩
  · cases hp
theorem capO {F : Fz} {c c' S o : Addr} {cl : List (Str × Addr)} (h : cl.lookup (Str.ofString "stack") = some c) (hc : CellF F c (.ref S)) (h' : cl.lookup (Str.ofString "_law_once") = some c') (hc' : CellF F c' (.ref o)) : ∀ p ∈ flO S o, ∃ c, cl.lookup p.1 = some c ∧ CellF F c p.2 := fun p hp => by
  rcases List.mem_cons.mp hp with rfl | hp
  · exact ⟨c, h, hc⟩
  · rcases List.mem_cons.mp hp with rfl | hp
    · exact ⟨c', h', hc'⟩
    · cases hp
theorem perm4 {α : Type} {a b c d : α} {t : List α} : (a :: b :: c :: d :: t).Perm (d :: c :: b :: a :: t) :=
  List.Perm.append_right t (l₁ := [a, b, c, d]) (l₂ := [d, c, b, a]) (List.reverse_perm [a, b, c, d]).symm
theorem context {G : Glob} {fr : List Env} {A : Around} {F : Fz} {H1 : Hp} {c P S : Addr} {ag : Nat → Addr} {Q : V → Fz → Hp → Prop} (hg : Gl G F ag)
    (hf : IsDefC F (stm 9) (ag 9) c) (hC : CodeOk F c P) (hB : BOk G P) (hA : Ok fr A 1)
    (h : ∀ F' x D m po pa ps pi pf pc o l ρ, F.le F' → Ctx F' S po pa ps pi pf pc o → (m == sysModules) = false → (∀ mb, CtxA ρ { po := .ref po, pa := .ref pa, ps := .ref ps, mb, st := .str "strict", pf := .ref pf, pi := .ref pi, pc := .ref pc, oh := .str "hook", oph := .str "pairs hook", mm := .ref m }) →
      Q (.ref x) F' ((P, .raw (tabObj (tabOf l))) :: (x, .exc "Exception" [] none (some D) true) :: (D, .attrs ρ) :: (m, .dict []) :: H1)) :
    Cl G fr A F ((P, .raw (tabObj (tabOf []))) :: H1) (.ref (ag 9)) [.ref S] Q No := by
  obtain ⟨s, o, pm, hs, hf, hd, hc⟩ := hf
  obtain rfl := Option.some.inj hs.symm
  refine Cl.permQ ?_
  refine def_c hg hf hd hc hA [false] ["stack"] ["_law_int", "_law_float", "_law_word", "_law_command", "_law_loop", "_law_condition", "context"] ["_law_once", "stack"] rfl (by decide +kernel) (fun vs hv => by obtain ⟨a, rfl⟩ := len1 hv; rfl) (by rfl) (by rfl) (fun n => rfl) (by decide) (by rfl) rfl fun L cs A' hcs hA ok => ?_
  obtain ⟨c2, c1, rfl⟩ := len2 hcs
  refine W_cellF (.tl .hd) fun F1 l1 k1 => ?_
  have ok := ok.mono l1
  have hC1 := hC.mono l1
  refine W_def ok rfl hC1 hB (.tl .hd) rfl rfl rfl rfl rfl fun pi _ F2 l2 f2 ok => ?_
  have hC2 := hC1.mono l2
  refine W_def ok rfl hC2 hB .hd rfl rfl rfl rfl rfl fun pf _ F3 l3 f3 ok => ?_
  have hC3 := hC2.mono l3
  refine W_def ok rfl hC3 hB .hd rfl rfl rfl rfl rfl fun pc _ F4 l4 f4 ok => ?_
  have hC4 := hC3.mono l4
  refine W_def ok rfl hC4 hB .hd rfl rfl rfl rfl rfl fun ps _ F5 l5 f5 ok => ?_
  have hC5 := hC4.mono l5
  refine W_def ok rfl hC5 hB .hd rfl rfl rfl rfl rfl fun o _ F6 l6 f6 ok => ?_
  refine ⟨c2, none, _, rfl, .tl .hd, ok, ?_⟩
  refine W_cellF (.tl .hd) fun F7 l7 k2 => ?_
  have ok := ok.mono l7
  have hC7 := (hC5.mono l6).mono l7
  refine W_def ok rfl hC7 hB .hd rfl rfl rfl rfl rfl fun pa _ F8 l8 f8 ok => ?_
  have hC8 := hC7.mono l8
  refine W_def ok rfl hC8 hB .hd rfl rfl rfl rfl rfl fun po _ F9 l9 f9 ok => ?_
  refine exc_new0 fun x => ⟨ok, ?_⟩
  refine set_exc_first .hd nl1 fun D => ⟨ok, ?_⟩
  refine set_exc (.tl .hd) .hd (szl rfl) nl2 ⟨ok, ?_⟩
  refine set_exc (.tl .hd) .hd (szl rfl) nl3 ⟨ok, ?_⟩
  refine set_exc (.tl .hd) .hd (szl rfl) nl6 ⟨ok, ?_⟩
  refine set_exc (.tl .hd) .hd (szl rfl) nl5 ⟨ok, ?_⟩
  refine set_exc (.tl .hd) .hd (szl rfl) nl7 ⟨ok, ?_⟩
  refine set_exc (.tl .hd) .hd (szl rfl) nl4 ⟨ok, ?_⟩
  refine set_exc (.tl .hd) .hd (szl rfl) nl8 ⟨ok, ?_⟩
  refine set_exc (.tl .hd) .hd (szl rfl) nl9 ⟨ok, ?_⟩
  intro m hm
  refine set_exc (.tl (.tl .hd)) (.tl .hd) (szl rfl) nl10 ⟨ok, ?_⟩
  refine .run ⟨_, perm4, h F9 x D m po pa ps pi pf pc o _ _ (l1.trans (l2.trans (l3.trans (l4.trans (l5.trans (l6.trans (l7.trans (l8.trans l9)))))))) ?_ hm fun mb => ⟨rfl, rfl, rfl, rfl, rfl, rfl, rfl, rfl, rfl, rfl⟩⟩
  have m9 := l9
  have m8 := l8.trans m9
  have m7 := l7.trans m8
  have m6 := l6.trans m7
  have m5 := l5.trans m6
  have m4 := l4.trans m5
  have m3 := l3.trans m4
  have kS := k1.mono (l2.trans m3)
  exact ⟨⟨_, _, ⟨_, _, _, _, _, rfl, f2.mono m3⟩, capS rfl kS⟩, ⟨_, _, ⟨_, _, _, _, _, rfl, f3.mono m4⟩, capS rfl kS⟩, ⟨_, _, ⟨_, _, _, _, _, rfl, f4.mono m5⟩, capS rfl kS⟩, ⟨_, _, ⟨_, _, _, _, _, rfl, f5.mono m6⟩, capS rfl kS⟩,
    ⟨_, _, ⟨_, _, _, _, _, rfl, f6.mono m7⟩, nofun⟩, ⟨_, _, ⟨_, _, _, _, _, rfl, f8.mono m9⟩, capO rfl kS rfl (k2.mono m8)⟩, ⟨_, _, ⟨_, _, _, _, _, rfl, f9⟩, capO rfl kS rfl (k2.mono m8)⟩⟩
section
variable {G : Glob} {fr : List Env} {A : Around} {F : Fz} {H : Hp} {S f : Addr} {ag : Nat → Addr} {s : List Int} {Q : V → Fz → Hp → Prop}
noncomputable abbrev stH (S : Addr) (s : List Int) (H : Hp) : Hp := (S, .list (s.map .int)) :: H
theorem p_int {t : Str} {i : Int} (hg : Gl G F ag) (hp : PtF F 0 f (flS S)) (hA : Ok fr A 1) (hi : PySem.intText? t = some i) (ht : t.length ≤ 640) (hs : s.length + 2 ≤ 100000)
    (h : Q (.tup (pairV (s ++ [i]))) F (stH S (s ++ [i]) H)) : Cl G fr A F (stH S s H) (.ref f) [.str t] Q No := by
  obtain ⟨q, cl, hf, hc⟩ := hp
  obtain ⟨name, params, body, scope, pos, hst, hf⟩ := hf
  cases Option.some.inj hst.symm
  have hsl : s.length ≤ sizeLine := line_le (by lia) (show 100000 ≤ 1000000 by decide)
  have hsl2 : (s ++ [i]).length ≤ sizeLine := by rw [List.length_append, List.length_singleton]; exact line_le (by lia) (show 100000 ≤ 1000000 by decide)
  refine fn_w hg hf hc hA ["text"] [] rfl (by decide +kernel) (fun doc pm c ctv vs hv => by obtain ⟨a, rfl⟩ := len1 hv; rfl) fun L A' cdv hA ok => ?_
  refine ⟨"list", _, m_append, .list .hd, int_str hi ht ⟨ok, append_int .hd hsl ⟨ok, ?_⟩⟩⟩
  refine .run (len_ints (.own .hd) hsl2 ⟨ok, sl_las (.own .hd) hsl2 ?_⟩)
  exact h
inductive FcF (t : Str) (ps : List Int) : Prop where
  | mk (u l0 : Str) (ls : List Str) (ws : List Str) (is : List Int) (n : Nat) (m : Int) (c : Nat) (e1 : Txt.lower t = u) (e2 : Txt.split u "e" = l0 :: ls) (e3 : Txt.split l0 "." = ws) (e4 : ws.map PySem.intText? = is.map some) (hb : (l0.cps.toList == t.cps.toList) = true ∧ n = 1 ∨ (l0.cps.toList == t.cps.toList) = false ∧ PySem.intText? ⟨#[c]⟩ = some m ∧ m = n)
      (hc : t.cps[t.length - 1]? = some c) (e5 : (List.replicate n is).flatten = ps) (hz : decide (t.length ≤ 20 ∧ 0 < t.length ∧ u.length ≤ 20 ∧ l0.length ≤ 20 ∧ is.length ≤ 5 ∧ n ≤ 9 ∧ ws.all (fun w => decide (w.length ≤ 20)) = true ∧ (Builtin.Str.partsBetween u (Builtin.Str.occurrences u "e" 0 u.length (u.length + 1)) 1).length ≤ 20 ∧ (Builtin.Str.partsBetween l0 (Builtin.Str.occurrences l0 "." 0 l0.length (l0.length + 1)) 1).length ≤ 20) = true)
noncomputable def fcB (t : Str) (ps : List Int) (u l0 : Str) (ls ws : List Str) (is : List Int) (n : Nat) (m : Int) (c : Nat) : Bool :=
  decide ((Txt.lower t = u) ∧ (Txt.split u "e" = l0 :: ls) ∧ (Txt.split l0 "." = ws) ∧ (ws.map PySem.intText? = is.map some) ∧ ((l0.cps.toList == t.cps.toList) = true ∧ n = 1 ∨ (l0.cps.toList == t.cps.toList) = false ∧ PySem.intText? ⟨#[c]⟩ = some m ∧ m = n) ∧ (t.cps[t.length - 1]? = some c) ∧ ((List.replicate n is).flatten = ps) ∧ (decide (t.length ≤ 20 ∧ 0 < t.length ∧ u.length ≤ 20 ∧ l0.length ≤ 20 ∧ is.length ≤ 5 ∧ n ≤ 9 ∧ ws.all (fun w => decide (w.length ≤ 20)) = true ∧ (Builtin.Str.partsBetween u (Builtin.Str.occurrences u "e" 0 u.length (u.length + 1)) 1).length ≤ 20 ∧ (Builtin.Str.partsBetween l0 (Builtin.Str.occurrences l0 "." 0 l0.length (l0.length + 1)) 1).length ≤ 20) = true))
theorem FcF.of {t : Str} {ps : List Int} (u l0 : Str) (ls ws : List Str) (is : List Int) (n : Nat) (m : Int) (c : Nat) (h : fcB t ps u l0 ls ws is n m c = true) : FcF t ps := by
  obtain ⟨a, b, c1, d, e, f, g, h⟩ := of_decide_eq_true h
  exact ⟨u, l0, ls, ws, is, n, m, c, a, b, c1, d, e, f, g, h⟩
theorem fcF {t : Str} {ps : List Int} (ht : t ∈ nmL) (h : lfOf t = .flt ps) : FcF t ps := by
  have key : ∀ p ∈ tbl, ∀ ps, p.2 = .flt ps → FcF p.1 ps := by
    simp only [tbl, List.forall_mem_cons]
    refine ⟨nofun, nofun, nofun, nofun, nofun, nofun, nofun, ?_, ?_, nofun, nofun, nofun, nofun, nofun, nofun, nofun, nofun, nofun, ?_, ?_, nofun, nofun, nofun, nofun, nofun, ?_, ?_, ?_, ?_, nofun⟩
    · rintro _ ⟨⟩; exact .of "2.4" "2.4" [] ["2", "4"] [2, 4] 1 0 52 (by decide +kernel)
    · rintro _ ⟨⟩; exact .of "5e2" "5" ["2"] ["5"] [5] 2 2 50 (by decide +kernel)
    · rintro _ ⟨⟩; exact .of "3.1e+1" "3.1" ["+1"] ["3", "1"] [3, 1] 1 1 49 (by decide +kernel)
    · rintro _ ⟨⟩; exact .of "-10.25e-10" "-10.25" ["-10"] ["-10", "25"] [-10, 25] 0 0 48 (by decide +kernel)
    · rintro _ ⟨⟩; exact .of "0.6789" "0.6789" [] ["0", "6789"] [0, 6789] 1 0 57 (by decide +kernel)
    · rintro _ ⟨⟩; exact .of "9.0" "9.0" [] ["9", "0"] [9, 0] 1 0 48 (by decide +kernel)
    · rintro _ ⟨⟩; exact .of "60e02" "60" ["02"] ["60"] [60] 2 2 50 (by decide +kernel)
    · rintro _ ⟨⟩; exact .of "7e98761" "7" ["98761"] ["7"] [7] 1 1 49 (by decide +kernel)
  exact key _ (lf_tbl ht) ps h
theorem ints_of : ∀ {ws : List Str} {is : List Int}, ws.map PySem.intText? = is.map some → ws.length = is.length ∧ ∀ (k : Nat) (w : Str), ws[k]? = some w → PySem.intText? w = some (nth is k)
  | [], [], _ => ⟨rfl, nofun⟩
  | [], _ :: _, h => by cases h
  | _ :: _, [], h => by cases h
  | w :: ws, i :: is, h => by
    rw [List.map_cons, List.map_cons] at h
    obtain ⟨h1, h2⟩ := List.cons.inj h
    obtain ⟨h3, h4⟩ := ints_of h2
    refine ⟨congrArg (· + 1) h3, fun k x hx => ?_⟩
    cases k with
    | zero => cases hx; exact h1
    | succ k => exact h4 k x hx
theorem map_nth (is : List Int) : (List.range is.length).map (fun k => V.int (nth is k)) = is.map .int := by
  apply List.ext_getElem?
  intro k
  rw [List.getElem?_map, List.getElem?_map]
  rcases Nat.lt_or_ge k is.length with q | q
  · rw [List.getElem?_range q, List.getElem?_eq_getElem q]
    show some (V.int (is.getD k 0)) = _
    rw [List.getD_eq_getElem?_getD, List.getElem?_eq_getElem q]
    rfl
  · rw [List.getElem?_eq_none (by rw [List.length_range]; exact q), List.getElem?_eq_none q]
    rfl
theorem flat_rep (n : Nat) (is : List Int) : (List.replicate n (is.map V.int)).flatten = (List.replicate n is).flatten.map .int := by
  rw [List.map_flatten, List.map_replicate]
theorem p_float {t : Str} {ps : List Int} (hg : Gl G F ag) (hp : PtF F 1 f (flS S)) (hA : Ok fr A 1) (hf : FcF t ps) (hs : s.length + ps.length ≤ 100000)
    (h : Q (.tup (.str t :: pairV (s ++ ps))) F (stH S (s ++ ps) H)) : Cl G fr A F (stH S s H) (.ref f) [.str t] Q No := by
  obtain ⟨q, cl, hf', hc⟩ := hp
  obtain ⟨name, params, body, scope, pos, hst, hf'⟩ := hf'
  cases Option.some.inj hst.symm
  obtain ⟨u, l0, ls, ws, is, n, m, c, e1, e2, e3, e4, hb, hlast, e5, hz⟩ := hf
  obtain ⟨z1, z0, z2, z3, z4, z5, z6, z7, z8⟩ := of_decide_eq_true hz
  obtain ⟨hwl, hwi⟩ := ints_of e4
  have hsl : s.length ≤ sizeLine := line_le (by lia) (show 100000 ≤ 1000000 by decide)
  have hsl2 : (s ++ ps).length ≤ sizeLine := by rw [List.length_append]; exact line_le hs (show 100000 ≤ 1000000 by decide)
  refine fn_w hg hf' hc hA ["text"] ["number", "parts"] rfl (by decide +kernel) (fun doc pm c ctv vs hv => by obtain ⟨a, rfl⟩ := len1 hv; rfl) fun L A' cdv hA ok => ?_
  refine W_methC 40 ok ⟨"str", _, m_lower, .str, lower_s e1 (Nat.le_trans z2 (by decide)) ⟨ok, "str", _, m_split, .str, split_s e2 rfl (Nat.le_trans z2 (by decide)) (Nat.le_trans z7 (by decide)) ⟨ok, ?_⟩⟩⟩ (fun _ => rfl) rfl
  refine sub_lst (i := 0) (y := .str l0) .lst (by decide) (by decide) rfl ⟨ok, ?_⟩
  refine W_map 40 ["part"] ok rfl ?_ (by decide) rfl rfl rfl rfl rfl
  refine ⟨"str", _, m_split, .str, split_s e3 rfl (Nat.le_trans z3 (by decide)) (Nat.le_trans z8 (by decide)) ⟨ok, ws.map .str, iter_lst hA.handled, by rw [List.length_map, hwl]; exact line_le z4 (show 5 ≤ 1000000 by decide), fun k => .int (nth is k), W_turn 40 ok rfl ?_, ?_⟩⟩
  · intro k y a ρ hy hρ ok
    obtain ⟨o, rfl⟩ : ∃ o, ρ = [(Str.ofString "part", o)] := by
      obtain ⟨⟨n, o⟩, rfl⟩ := len1 (by simpa using congrArg List.length hρ)
      simp at hρ
      exact ⟨o, by rw [hρ]⟩
    obtain ⟨w, hw, rfl⟩ : ∃ w, ws[k]? = some w ∧ y = .str w := by
      rw [List.getElem?_map] at hy
      cases e : ws[k]? with
      | none => rw [e] at hy; cases hy
      | some w => rw [e] at hy; cases hy; exact ⟨w, rfl, rfl⟩
    have hwz : w.length ≤ 20 := of_decide_eq_true (List.all_eq_true.mp z6 w (List.mem_of_getElem? hw))
    exact int_str (hwi k w hw) (by lia) ⟨ok, rfl, rfl, rfl, rfl⟩
  have er : (List.range (ws.map V.str).length).map (fun k => V.int (nth is k)) = is.map .int := by rw [List.length_map, hwl]; exact map_nth is
  rw [er]
  have hn : is.length * n ≤ 1000 := Nat.le_trans (Nat.mul_le_mul z4 z5) (by decide)
  have ext : ∀ {Q' : V → Fz → Hp → Prop} {E' : Value → Fz → Hp → Prop} {fr' : List Env} {A2 : Around}, Q' .none F (stH S (s ++ ps) H) → Cl G fr' A2 F (stH S s H) (.blt "list.extend") [.ref S, .lst (List.replicate n (is.map V.int)).flatten] Q' E' := fun q => by
    rw [flat_rep, e5]
    refine extend (l := s.map .int) (l2 := ps.map .int) ?_ .lst (by rw [List.length_map, List.length_map]; exact line_le hs (show 100000 ≤ 1000000 by decide)) q
    rw [← List.map_append]
    exact .hd
  refine ⟨"list", _, m_extend, .list .hd, ?_⟩
  rcases hb with ⟨hb, hn1⟩ | ⟨hb, hm, hmn⟩
  · refine .run (bifW.yes hb ?_)
    refine mul_lst (n := n) (by rw [hn1]; rfl) .lst (by rw [List.length_map]; exact hn) (by lia) ⟨ok, ?_⟩
    exact ext ⟨ok, .run (len_ints (.own .hd) hsl2 ⟨ok, sl_las (.own .hd) hsl2 h⟩)⟩
  · refine .run (bifW.no hb ?_)
    refine sub_str_last z0 hlast ⟨ok, int_str hm (show 1 ≤ 640 by decide) ⟨ok, ?_⟩⟩
    refine mul_lst (n := n) hmn .lst (by rw [List.length_map]; exact hn) (by lia) ⟨ok, ?_⟩
    exact ext ⟨ok, .run (len_ints (.own .hd) hsl2 ⟨ok, sl_las (.own .hd) hsl2 h⟩)⟩
theorem p_word {lf : Lf} {w : Str} (hg : Gl G F ag) (hp : PtF F 2 f (flS S)) (hA : Ok fr A 1) (hw : w = "NaN" ∧ lf = .nan ∨ w = "Infinity" ∧ lf = .inf ∨ w = "-Infinity" ∧ lf = .ninf) (hs : s.length + 1 ≤ 100000)
    (h : Q (.tup (pairV (stL lf s))) F (stH S (stL lf s) H)) : Cl G fr A F (stH S s H) (.ref f) [.str w] Q No := by
  obtain ⟨q, cl, hf', hc⟩ := hp
  obtain ⟨name, params, body, scope, pos, hst, hf'⟩ := hf'
  cases Option.some.inj hst.symm
  have hsl : s.length ≤ sizeLine := line_le (by lia) (show 100000 ≤ 1000000 by decide)
  refine fn_w hg hf' hc hA ["word"] [] rfl (by decide +kernel) (fun doc pm c ctv vs hv => by obtain ⟨a, rfl⟩ := len1 hv; rfl) fun L A' cdv hA ok => ?_
  have big : ∀ z : Int, (s ++ [z]).length ≤ sizeLine := fun z => by rw [List.length_append, List.length_singleton]; exact line_le (by lia) (show 100000 ≤ 1000000 by decide)
  rcases hw with ⟨rfl, rfl⟩ | ⟨rfl, rfl⟩ | ⟨rfl, rfl⟩
  · refine .run (W_del 40 ok ⟨S, s.map .int, _, rfl, rfl, .hd, by rw [List.length_map]; exact hsl, ?_⟩)
    have e : (s.map V.int).take ((s.map V.int).length - 1) = (ini 1 s).map .int := by rw [List.length_map, ← List.map_take]; rfl
    have hil : (ini 1 s).length ≤ sizeLine := by rw [ini, List.length_take]; exact Nat.le_trans (Nat.min_le_right _ _) hsl
    rw [e]
    exact .run (len_ints (.own .hd) hil ⟨ok, sl_las (.own .hd) hil h⟩)
  · refine .run (.run (tr_list .hd (by rw [List.length_map]; lia) ⟨ok, ?_⟩))
    cases s with
    | nil => exact .run (len_ints (s := []) (.own .hd) hsl ⟨ok, sl_las (s := []) (.own .hd) hsl h⟩)
    | cons z s =>
      refine ⟨"list", _, m_append, .list .hd, .run (max_lst (zs := z :: s) (.own .hd) hA.handled (fun e => nomatch e) ⟨ok, append_int .hd hsl ⟨ok, ?_⟩⟩)⟩
      exact .run (len_ints (.own .hd) (big _) ⟨ok, sl_las (.own .hd) (big _) h⟩)
  · refine .run (.run (tr_list .hd (by rw [List.length_map]; lia) ⟨ok, ?_⟩))
    cases s with
    | nil => exact .run (len_ints (s := []) (.own .hd) hsl ⟨ok, sl_las (s := []) (.own .hd) hsl h⟩)
    | cons z s =>
      refine ⟨"list", _, m_append, .list .hd, .run (min_lst (zs := z :: s) (.own .hd) hA.handled (fun e => nomatch e) ⟨ok, append_int .hd hsl ⟨ok, ?_⟩⟩)⟩
      exact .run (len_ints (.own .hd) (big _) ⟨ok, sl_las (.own .hd) (big _) h⟩)
theorem two_last {s : List Int} (h : 1 < s.length) : ∃ r u t, s = r ++ [u, t] ∧ ini 2 s = r ∧ las 2 s = [u, t] := by
  have e : s = s.take (s.length - 2) ++ s.drop (s.length - 2) := (List.take_append_drop _ _).symm
  have hl : (s.drop (s.length - 2)).length = 2 := by rw [List.length_drop]; exact Nat.sub_sub_self h
  obtain ⟨u, t, hd⟩ := len2 hl
  exact ⟨s.take (s.length - 2), u, t, by rw [← hd]; exact e, rfl, hd⟩
theorem one_less {s : List Int} (h : ¬ 1 < s.length) : ini 2 s ++ (las 2 s).reverse = s := by
  have e : s.length - 2 = 0 := Nat.sub_eq_zero_of_le (Nat.le_trans (Nat.not_lt.mp h) (by decide))
  rw [ini, las, e]
  match s, h with
  | [], _ => rfl
  | [_], _ => rfl
  | _ :: _ :: _, h => exact absurd (by simp) h
theorem p_cmd {lf : Lf} {T : Str} {i c : Nat} {z : Int} (hz : z = i) (hg : Gl G F ag) (hp : PtF F 3 f (flS S)) (hA : Ok fr A 1) (hc : T.cps[i]? = some c) (hi : i < 2 ^ 62) (hw : c = 100 ∧ lf = .dup ∨ c = 43 ∧ lf = .plus ∨ c = 115 ∧ lf = .swp) (hs : s.length + 1 ≤ 100000)
    (h : Q (.tup [.tup (pairV (stL lf s) ++ [.str "strict"]), .int (z + 2)]) F (stH S (stL lf s) H)) : Cl G fr A F (stH S s H) (.ref f) [.str T, .int z, .str "strict"] Q No := by
  obtain ⟨q, cl, hf', hcc⟩ := hp
  obtain ⟨name, params, body, scope, pos, hst, hf'⟩ := hf'
  cases Option.some.inj hst.symm
  have hsl : s.length ≤ sizeLine := line_le (by lia) (show 100000 ≤ 1000000 by decide)
  have hss : T.cps[z.toNat]? = some c := by rw [hz, Int.toNat_natCast]; exact hc
  have h0 : 0 ≤ z := by lia
  have h62 : z < 2 ^ 63 := by lia
  refine fn_w hg hf' hcc hA ["string", "at", "strict"] ["top", "under"] rfl (by decide +kernel) (fun doc pm c ctv vs hv => by obtain ⟨a, b, c, rfl⟩ := len3 hv; rfl) fun L A' cdv hA ok => ?_
  refine .run (sub_str h0 h62 hss ⟨ok, ?_⟩)
  rcases hw with ⟨rfl, rfl⟩ | ⟨rfl, rfl⟩ | ⟨rfl, rfl⟩
  · refine ⟨"list", _, m_extend, .list .hd, sl_las (.own .hd) hsl ?_⟩
    have hl2 : (s ++ las 1 s).length ≤ sizeLine := by rw [List.length_append, las, List.length_drop]; exact line_le (Nat.le_trans (Nat.add_le_add_left (subsub _ 1) _) (Nat.le_trans hs (by decide))) (show 100001 ≤ 1000000 by decide)
    refine extend (l := s.map .int) (l2 := (las 1 s).map .int) (H' := stH S (s ++ las 1 s) H) (by rw [← List.map_append]; exact .hd) .lst (by rw [← List.length_append, ← List.map_append, List.length_map]; exact hl2) ⟨ok, ?_⟩
    exact .run (len_ints (.own .hd) hl2 ⟨ok, sl_las (.own .hd) hl2 h⟩)
  · refine .run (len_ints (.own .hd) hsl ⟨ok, bifW.sp (fun e => ?_) fun e => ?_⟩)
    · have e : 1 < s.length := Int.ofNat_lt.mp (of_decide_eq_true e)
      obtain ⟨r, u, t, rfl, h1, h2⟩ := two_last e
      have hr : r.length + 2 ≤ 100000 := by rw [List.length_append] at hs; exact Nat.le_of_succ_le hs
      have es : stL .plus (r ++ [u, t]) = r ++ [t + u] := by
        show (if 1 < (r ++ [u, t]).length then ini 2 (r ++ [u, t]) ++ [(las 2 (r ++ [u, t])).sum] else _) = _
        rw [if_pos e, h1, h2]
        simp [Int.add_comm]
      rw [es] at h
      have hl2 : (r ++ [t + u]).length ≤ sizeLine := by rw [List.length_append]; exact line_le (show r.length + 1 ≤ 100001 by lia) (by decide)
      refine ⟨"list", _, m_pop, .list .hd, pop_last (l := (r ++ [u]).map .int) (x := .int t) (H' := stH S (r ++ [u]) H) (by rw [show (r ++ [u]).map V.int ++ [.int t] = (r ++ [u, t]).map .int by simp]; exact .hd) (by rw [List.length_map, List.length_append, List.length_singleton]; exact line_le (by lia) (show 100001 ≤ 1000000 by decide)) ⟨ok, ?_⟩⟩
      refine ⟨"list", _, m_pop, .list .hd, pop_last (l := r.map .int) (x := .int u) (H' := stH S r H) (by rw [show r.map V.int ++ [.int u] = (r ++ [u]).map .int by simp]; exact .hd) (by rw [List.length_map]; exact line_le (by lia) (show 100001 ≤ 1000000 by decide)) ⟨ok, ?_⟩⟩
      refine ⟨"list", _, m_extend, .list .hd, .run (sub_str h0 h62 hss ⟨ok, (.frz (szl rfl) ?_)⟩)⟩
      refine extend (l := r.map .int) (l2 := [.int (t + u)]) (H' := stH S (r ++ [t + u]) H) (by rw [show r.map V.int ++ [.int (t + u)] = (r ++ [t + u]).map .int by simp]; exact .hd) .lst (by rw [List.length_map]; exact line_le (show r.length + 1 ≤ 100001 by lia) (by decide)) ⟨ok, ?_⟩
      exact .run (len_ints (.own .hd) hl2 ⟨ok, sl_las (.own .hd) hl2 h⟩)
    · have e : ¬ 1 < s.length := fun q => of_decide_eq_false e (Int.ofNat_lt.mpr q)
      have es : stL .plus s = s := if_neg e
      rw [es] at h
      exact .run (len_ints (.own .hd) hsl ⟨ok, sl_las (.own .hd) hsl h⟩)
  · refine .run (len_ints (.own .hd) hsl ⟨ok, bifW.sp (fun e => ?_) fun e => ?_⟩)
    · have e : 1 < s.length := Int.ofNat_lt.mp (of_decide_eq_true e)
      obtain ⟨r, u, t, rfl, h1, h2⟩ := two_last e
      have hr : r.length + 2 ≤ 100000 := by rw [List.length_append] at hs; exact Nat.le_of_succ_le hs
      have es : stL .swp (r ++ [u, t]) = r ++ [t, u] := by
        show ini 2 (r ++ [u, t]) ++ (las 2 (r ++ [u, t])).reverse = _
        rw [h1, h2]
        rfl
      rw [es] at h
      have hl2 : (r ++ [t, u]).length ≤ sizeLine := by rw [List.length_append]; exact line_le (show r.length + 2 ≤ 100001 by lia) (by decide)
      refine ⟨"list", _, m_pop, .list .hd, pop_last (l := (r ++ [u]).map .int) (x := .int t) (H' := stH S (r ++ [u]) H) (by rw [show (r ++ [u]).map V.int ++ [.int t] = (r ++ [u, t]).map .int by simp]; exact .hd) (by rw [List.length_map, List.length_append, List.length_singleton]; exact line_le (by lia) (show 100001 ≤ 1000000 by decide)) ⟨ok, ?_⟩⟩
      refine ⟨"list", _, m_pop, .list .hd, pop_last (l := r.map .int) (x := .int u) (H' := stH S r H) (by rw [show r.map V.int ++ [.int u] = (r ++ [u]).map .int by simp]; exact .hd) (by rw [List.length_map]; exact line_le (by lia) (show 100001 ≤ 1000000 by decide)) ⟨ok, ?_⟩⟩
      refine ⟨"list", _, m_extend, .list .hd, .run (sub_str h0 h62 hss ⟨ok, (.frz (szl rfl) ?_)⟩)⟩
      refine extend (l := r.map .int) (l2 := [.int t, .int u]) (H' := stH S (r ++ [t, u]) H) (by rw [show r.map V.int ++ [.int t, .int u] = (r ++ [t, u]).map .int by simp]; exact .hd) .lst (by rw [List.length_map]; exact line_le (show r.length + 2 ≤ 100001 by lia) (by decide)) ⟨ok, ?_⟩
      exact .run (len_ints (.own .hd) hl2 ⟨ok, sl_las (.own .hd) hl2 h⟩)
    · have e : ¬ 1 < s.length := fun q => of_decide_eq_false e (Int.ofNat_lt.mpr q)
      have es : stL .swp s = s := one_less e
      rw [es] at h
      exact .run (len_ints (.own .hd) hsl ⟨ok, sl_las (.own .hd) hsl h⟩)
end
noncomputable def Fol (r : List Nat) : Prop := r = [] ∨ ∃ c r', r = c :: r' ∧ (c = 32 ∨ c = 93 ∨ c = 125)
theorem Fol.ind {P : List Nat → Prop} (h0 : P []) (h1 : ∀ r, P (32 :: r)) (h2 : ∀ r, P (93 :: r)) (h3 : ∀ r, P (125 :: r)) : ∀ r, Fol r → P r := by
  rintro r (rfl | ⟨c, r', rfl, rfl | rfl | rfl⟩)
  · exact h0
  · exact h1 _
  · exact h2 _
  · exact h3 _
noncomputable def kd (t : Str) : Lf → Lx
  | .num _ => .whole t.length
  | .flt _ => .broken t.length
  | .plus => .str
  | .swp => .str
  | .dup => .str
  | .nan => .con t
  | .inf => .con t
  | .ninf => .con t
  | .word v => match v with
    | .none => .null
    | .bool true => .tru
    | _ => .fls
theorem kd_tbl : ∀ p ∈ tbl, ∀ r, Fol r → lexL (p.1.cps.toList ++ r) = kd p.1 p.2 := by
  simp only [tbl, List.forall_mem_cons]
  refine ⟨?_, ?_, ?_, ?_, ?_, ?_, ?_, ?_, ?_, ?_, ?_, ?_, ?_, ?_, ?_, ?_, ?_, ?_, ?_, ?_, ?_, ?_, ?_, ?_, ?_, ?_, ?_, ?_, ?_, nofun⟩ <;> exact Fol.ind rfl (fun _ => rfl) (fun _ => rfl) fun _ => rfl
theorem lex_leaf {t : Str} (ht : t ∈ nmL) {r : List Nat} (hr : Fol r) : lexL (t.cps.toList ++ r) = kd t (lfOf t) := kd_tbl _ (lf_tbl ht) r hr
theorem drop_ext {T t : Str} {i : Nat} {r : List Nat} (h : T.cps.toList.drop i = t.cps.toList ++ r) : (⟨T.cps.extract i (i + t.length)⟩ : Str) = t := by
  refine str_ext ?_
  show (T.cps.extract i (i + t.cps.size)).toList = _
  rw [Array.toList_extract, List.extract_eq_take_drop, h, Nat.add_sub_cancel_left]
  rw [show t.cps.size = t.cps.toList.length from (Array.length_toList ..).symm, List.take_left]
theorem drop_at {T : Str} {i k c : Nat} {l : List Nat} (h : T.cps.toList.drop i = l) (hk : l[k]? = some c) : T.cps[i + k]? = some c := by
  rw [← h, List.getElem?_drop, Array.getElem?_toList] at hk
  exact hk
theorem vAt_mem {K : Type} [DecidableEq K] {l : List (K × V)} {k : K} {v : V} (h : vAt l k = some v) : (k, v) ∈ l := by
  unfold vAt at h
  cases e : l.find? fun p => decide (p.1 = k) with
  | none => rw [e] at h; cases h
  | some p =>
    rw [e] at h
    cases h
    have h1 := List.mem_of_find?_eq_some e
    have h2 := of_decide_eq_true (List.find?_some (p := fun p : K × V => decide (p.1 = k)) e)
    rw [← h2]
    exact h1
noncomputable def memK : Nat → List Int → List (Int × V)
  | _, [] => []
  | k, x :: l => ((k : Int), .int x) :: memK (k + 1) l
noncomputable def memD (m : List Int) : List (Int × V) := memK 0 m
noncomputable def rdH (G : Glob) (S M : Addr) (s m : List Int) (H : Hp) : Hp := (S, .list (s.map .int)) :: (M, .dict (kvL (kInt G).emb (memD m))) :: H
structure RdF (F : Fz) (S M f po pa ps pi pf pc o : Addr) : Prop where
  ctx : Ctx F S po pa ps pi pf pc o
  scan : ∃ mb, ScanF F f { po := .ref po, pa := .ref pa, ps := .ref ps, mb, st := .str "strict", pf := .ref pf, pi := .ref pi, pc := .ref pc, oh := .str "hook", oph := .str "pairs hook", mm := .ref M }
  hM : (M == sysModules) = false
theorem RdF.ok {F : Fz} {S M f po pa ps pi pf pc o : Addr} (h : RdF F S M f po pa ps pi pf pc o) : KOk F (.ref f) := by obtain ⟨_, h⟩ := h.scan; exact h.ok
section
variable {G : Glob} {fr : List Env} {A : Around} {F : Fz} {H : Hp} {S M f po pa ps pi pf pc o : Addr} {ag : Nat → Addr} {s m : List Int} {Q : V → Fz → Hp → Prop}
theorem ask (hr : RdF F S M f po pa ps pi pf pc o) (bt : BtS G) (hA : Ok fr A 1) {T : Str} {i : Nat} {l : List Nat} {c : Nat} (hc : T.cps[i]? = some c) (hl : T.cps.toList.drop i = l) (hT : T.cps.size ≤ 1000000)
    (h : ∀ mb, ScQ G fr A F H f { po := .ref po, pa := .ref pa, ps := .ref ps, mb, st := .str "strict", pf := .ref pf, pi := .ref pi, pc := .ref pc, oh := .str "hook", oph := .str "pairs hook", mm := .ref M } T i Q (fun _ _ _ _ _ _ => False) (lexL l)) : Cl G fr A F H (.ref f) [.str T, .int i] Q No := by
  obtain ⟨mb, hs⟩ := hr.scan
  subst hl
  exact (scan hs hA hT bt hc (h mb)).mono (fun _ _ _ q => q) fun _ _ _ e => thr_no e
theorem read_leaf (hg : Gl G F ag) (hr : RdF F S M f po pa ps pi pf pc o) (bt : BtS G) (hA : Ok fr A 2) {T t : Str} {i : Nat} {r : List Nat} {E : Value → Fz → Hp → Prop} (ht : t ∈ nmL) (hd : T.cps.toList.drop i = t.cps.toList ++ r) (hl : lexL (t.cps.toList ++ r) = kd t (lfOf t)) (hT : T.cps.size ≤ 1000000) (hs : s.length + 2 ≤ 100000)
    (h : Q (.tup [vL t (stL (lfOf t) s) (lfOf t), .int ((i + t.length : Nat) : Int)]) F (rdH G S M (stL (lfOf t) s) m H)) : Cl G fr A F (rdH G S M s m H) (.ref f) [.str T, .int i] Q E := by
  obtain ⟨c, hc0, _⟩ : ∃ c, t.cps.toList[0]? = some c ∧ True := by
    have : ∀ t ∈ nmL, t.cps.toList ≠ [] := by decide +kernel
    have := this t ht
    cases e : t.cps.toList with
    | nil => exact absurd e this
    | cons a l => exact ⟨a, rfl, trivial⟩
  refine Cl.no (ask hr bt (hA.less (by decide)) (drop_at (k := 0) hd (by rw [List.getElem?_append_left (List.getElem?_eq_some_iff.mp hc0).1]; exact hc0)) hd hT fun mb => ?_)
  have hfc := fcW ht
  have hff := fun ps => fcF (ps := ps) ht
  have hfl := fun ps => flt_le (t := t) (ps := ps)
  rw [hl]
  have ex := drop_ext hd
  have htl : t.length ≤ 10 := by have := nmL_len ht; have e : t.length = t.cps.toList.length := by show t.cps.size = _; simp
                                 lia
  have hi : i ≤ 1000000 := by
    rcases Nat.lt_or_ge 1000000 i with q | q
    · rw [List.drop_eq_nil_of_le (by simp; lia)] at hd
      have : t.cps.toList = [] := by cases e : t.cps.toList with | nil => rfl | cons a b => rw [e] at hd; cases hd
      have : ∀ t ∈ nmL, t.cps.toList ≠ [] := by decide +kernel
      exact absurd (by assumption) (this t ht)
    · exact q
  have cmd : ∀ {lf : Lf} {c : Nat}, t.cps.toList[1]? = some c → t.length = 3 → (c = 100 ∧ lf = .dup ∨ c = 43 ∧ lf = .plus ∨ c = 115 ∧ lf = .swp) → Q (.tup [.tup (pairV (stL lf s) ++ [.str "strict"]), .int ((i + t.length : Nat) : Int)]) F (rdH G S M (stL lf s) m H) → ClD G fr A F (rdH G S M s m H) (.ref ps) [.str T, .int ((i : Int) + 1), .str "strict"] Q (Thr0 fun _ _ _ _ _ _ => False) := fun {lf c} hc h3 hw q env A' hD => by
    refine Cl.no (p_cmd (z := (i : Int) + 1) (i := i + 1) (by lia) hg hr.ctx.s ((hA.deep hD).less (by decide)) (drop_at hd (by rw [List.getElem?_append_left (List.getElem?_eq_some_iff.mp hc).1]; exact hc)) (by lia) hw (by lia) ?_)
    rw [h3] at q
    rw [show (i : Int) + 1 + 2 = ((i + 3 : Nat) : Int) by lia]
    exact q
  have wrd : ∀ {lf : Lf}, (t = "NaN" ∧ lf = .nan ∨ t = "Infinity" ∧ lf = .inf ∨ t = "-Infinity" ∧ lf = .ninf) → Q (.tup [.tup (pairV (stL lf s)), .int ((i + t.length : Nat) : Int)]) F (rdH G S M (stL lf s) m H) → ClD G fr A F (rdH G S M s m H) (.ref pc) [.str t] (fun x F2 H2 => Q (.tup [x, .int ((i : Int) + (t.length : Nat))]) F2 H2) (Thr0 fun _ _ _ _ _ _ => False) := fun {lf} hw q env A' hD =>
    Cl.no (p_word hg hr.ctx.c ((hA.deep hD).less (by decide)) hw (by lia) q)
  generalize lfOf t = lf at hfc hff hfl h
  cases hfc with
  | num z h1 h2 h3 h4 h5 =>
    refine fun env A' hD => Cl.no ?_
    rw [ex]
    exact p_int hg hr.ctx.i ((hA.deep hD).less (by decide)) h4 (by lia) hs h
  | flt zs h1 h2 h3 h5 =>
    refine fun env A' hD => Cl.no ?_
    rw [ex]
    exact p_float hg hr.ctx.f ((hA.deep hD).less (by decide)) (hff zs rfl) (by have := hfl zs rfl; lia) h
  | plus e => subst e; exact cmd (lf := .plus) (c := 43) rfl rfl (.inr (.inl ⟨rfl, rfl⟩)) h
  | swp e => subst e; exact cmd (lf := .swp) (c := 115) rfl rfl (.inr (.inr ⟨rfl, rfl⟩)) h
  | dup e => subst e; exact cmd (lf := .dup) (c := 100) rfl rfl (.inl ⟨rfl, rfl⟩) h
  | nan e => exact wrd (.inl ⟨e, rfl⟩) h
  | inf e => exact wrd (.inr (.inl ⟨e, rfl⟩)) h
  | ninf e => exact wrd (.inr (.inr ⟨e, rfl⟩)) h
  | word v hv =>
    have hm := vAt_mem hv
    rcases List.mem_cons.mp hm with e | hm
    · cases e; exact h
    · rcases List.mem_cons.mp hm with e | hm
      · cases e; exact h
      · rw [List.mem_singleton] at hm; cases hm; exact h
end
theorem memK_len : ∀ (k : Nat) (m : List Int), (memK k m).length = m.length
  | _, [] => rfl
  | k, _ :: m => congrArg (· + 1) (memK_len (k + 1) m)
theorem memK_key : ∀ (k : Nat) (m : List Int), ∀ p ∈ memK k m, (k : Int) ≤ p.1 ∧ p.1 < (k : Int) + m.length
  | k, x :: m, p, hp => by
    rw [List.length_cons]
    rcases List.mem_cons.mp hp with rfl | hp
    · exact ⟨Int.le_refl _, Int.ofNat_lt.mpr (Nat.lt_add_of_pos_right (Nat.succ_pos _))⟩
    · have := memK_key (k + 1) m p hp
      exact ⟨Int.le_trans (Int.ofNat_le.mpr (Nat.le_succ k)) this.1, Int.lt_of_lt_of_le this.2 (Int.le_of_eq (by rw [← Int.natCast_add, ← Int.natCast_add, Nat.add_right_comm]; rfl))⟩
theorem memK_nd : ∀ (k : Nat) (m : List Int), ((memK k m).map (·.1)).Nodup
  | _, [] => .nil
  | k, x :: m => by
    refine List.nodup_cons.mpr ⟨fun h => ?_, memK_nd (k + 1) m⟩
    obtain ⟨p, hp, e⟩ := List.mem_map.mp h
    have := (memK_key (k + 1) m p hp).1
    lia
theorem memK_snd : ∀ (k : Nat) (m : List Int), (memK k m).map (·.2) = m.map .int
  | _, [] => rfl
  | k, x :: m => congrArg (V.int x :: ·) (memK_snd (k + 1) m)
theorem memK_snoc : ∀ (k : Nat) (m : List Int) (x : Int), memK k (m ++ [x]) = memK k m ++ [(((k + m.length : Nat) : Int), .int x)]
  | _, [], _ => rfl
  | k, y :: m, x => by
    show ((k : Int), V.int y) :: memK (k + 1) (m ++ [x]) = ((k : Int), V.int y) :: (memK (k + 1) m ++ _)
    rw [memK_snoc (k + 1) m x, List.length_cons]
    congr 4
    lia
theorem memD_put (m : List Int) (x : Int) : stV (memD m) (m.length : Int) (.int x) = memD (m ++ [x]) := by
  unfold stV memD
  have : (memK 0 m).any (fun p => decide (p.1 = (m.length : Int))) = false := by
    rw [List.any_eq_false]
    intro p hp q
    have := (memK_key 0 m p hp).2
    have := of_decide_eq_true q
    lia
  rw [this, memK_snoc, Nat.zero_add]
  rfl
theorem drop_next {T : Str} {i n : Nat} {a b : List Nat} (h : T.cps.toList.drop i = a ++ b) (hn : a.length = n) : T.cps.toList.drop (i + n) = b := by
  rw [← List.drop_drop, h, ← hn, List.drop_left]
theorem cpF_box (b : Bool) (i r : Fo) : cpF (.box b i r) = opC b :: (cpF i ++ clC b :: tlF r) := rfl
noncomputable def ndC : Fo → List Nat
  | .nil => []
  | .leaf t _ => t.cps.toList
  | .box b i _ => opC b :: (cpF i ++ [clC b])
noncomputable def Fo.rest : Fo → Fo
  | .nil => .nil
  | .leaf _ r => r
  | .box _ _ r => r
theorem cpF_nd : ∀ x : Fo, cpF x = ndC x ++ tlF x.rest
  | .nil => rfl
  | .leaf t r => rfl
  | .box b i r => by rw [cpF_box]; show _ = opC b :: (cpF i ++ [clC b]) ++ tlF r; rw [List.cons_append, List.append_assoc]; rfl
theorem tl_fol {x : Fo} {c : Nat} {r : List Nat} (hc : c = 93 ∨ c = 125) : Fol (tlF x ++ c :: r) := by
  cases x with
  | nil => exact .inr ⟨_, _, rfl, .inr hc⟩
  | leaf => exact .inr ⟨_, _, rfl, .inl rfl⟩
  | box => exact .inr ⟨_, _, rfl, .inl rfl⟩
theorem clC_or (b : Bool) : clC b = 93 ∨ clC b = 125 := by cases b <;> simp [clC]
noncomputable def Fo.some? : Fo → Prop
  | .nil => False
  | _ => True
noncomputable def ndW : Fo → List Int → List Int → V × List Int × List Int
  | .nil, s, m => (.none, s, m)
  | .leaf t _, s, m => (vL t (stL (lfOf t) s) (lfOf t), stL (lfOf t) s, m)
  | .box b i _, s, m => boxV b (fW i) s m
noncomputable def ndCost : Fo → Nat
  | .nil => 0
  | .leaf _ _ => 2
  | .box _ i _ => 1 + 2 * cost i
theorem fW_nd {x : Fo} (h : x.some?) (s m : List Int) : fW x s m = ((ndW x s m).1 :: (fW x.rest (ndW x s m).2.1 (ndW x s m).2.2).1, (fW x.rest (ndW x s m).2.1 (ndW x s m).2.2).2) := by
  cases x with
  | nil => exact h.elim
  | leaf => rfl
  | box => rfl
theorem cost_nd (x : Fo) : cost x = ndCost x + cost x.rest := by cases x <;> rfl
theorem ndW_gr (x : Fo) (s m : List Int) : (ndW x s m).2.1.length ≤ s.length + ndCost x ∧ (ndW x s m).2.2.length ≤ m.length + ndCost x := by
  cases x with
  | nil => exact ⟨Nat.le_refl _, Nat.le_refl _⟩
  | leaf t r => exact ⟨stL_len t s, Nat.le_add_right _ _⟩
  | box b i r => exact box_gr (fW_gr i) b s m
theorem rest_ok {x : Fo} {d : Nat} (h : x.ok d) : x.rest.ok d := by
  cases x with
  | nil => cases d <;> trivial
  | leaf t r => cases d <;> exact h.2
  | box b i r => cases d with
    | zero => exact h.elim
    | succ d => exact h.2
theorem rest_size {x : Fo} (h : x.some?) : x.rest.size < x.size := by
  cases x with
  | nil => exact h.elim
  | leaf t r => exact Nat.lt_succ_self _
  | box b i r => show r.size < i.size + r.size + 1; lia
theorem ndC_pos {x : Fo} {d : Nat} (h : x.some?) (ho : x.ok d) : 0 < (ndC x).length := by
  cases x with
  | nil => exact h.elim
  | leaf t r =>
    have ht : t ∈ nmL := by cases d <;> exact ho.1
    have : ∀ t ∈ nmL, 0 < t.cps.toList.length := by decide +kernel
    exact this t ht
  | box b i r => exact Nat.succ_pos _
theorem tlF_or : ∀ x : Fo, x = .nil ∧ tlF x = [] ∨ x.some? ∧ tlF x = 32 :: cpF x
  | .nil => .inl ⟨rfl, rfl⟩
  | .leaf _ _ => .inr ⟨trivial, rfl⟩
  | .box _ _ _ => .inr ⟨trivial, rfl⟩
theorem lex_op (b : Bool) (l : List Nat) : lexL (opC b :: l) = if b then .obj else .arr := by cases b <;> rfl
structure OnS (T : Str) (c : Nat) (rr : List Nat) (e d : Nat) (r0 : R3) (i : Nat) (vs : List V) (s m : List Int) (r : Fo) : Prop where
  ok : r.ok d
  dr : T.cps.toList.drop i = cpF r ++ c :: rr
  en : i + (cpF r).length = e
  val : r0 = (vs ++ (fW r s m).1, (fW r s m).2)
  hs : s.length + cost r ≤ 100000
  hm : m.length + cost r ≤ 100000
  hz : vs.length + r.size ≤ 100
section
variable {T : Str} {c : Nat} {rr : List Nat} {e d : Nat} {r0 : R3} {i : Nat} {vs : List V} {s m : List Int} {r : Fo}
theorem OnS.more (h : OnS T c rr e d r0 i vs s m r) (hi : i < e) : r.some? := by
  cases r with
  | nil => have := h.en; exact absurd hi (by rw [← this]; exact Nat.lt_irrefl _)
  | leaf => trivial
  | box => trivial
theorem OnS.done (h : OnS T c rr e d r0 i vs s m r) (hi : ¬ i < e) : r = .nil := by
  cases r with
  | nil => rfl
  | leaf t r =>
    have h1 := h.en
    rw [cpF_nd, List.length_append] at h1
    have := ndC_pos (x := .leaf t r) trivial h.ok
    lia
  | box b j r =>
    have h1 := h.en
    rw [cpF_nd, List.length_append] at h1
    have := ndC_pos (x := .box b j r) trivial h.ok
    lia
theorem OnS.fol (h : OnS T c rr e d r0 i vs s m r) (hc : c = 93 ∨ c = 125) : T.cps.toList.drop i = ndC r ++ (tlF r.rest ++ c :: rr) ∧ Fol (tlF r.rest ++ c :: rr) := by
  refine ⟨?_, tl_fol hc⟩
  rw [h.dr, cpF_nd, List.append_assoc]
theorem OnS.next (h : OnS T c rr e d r0 i vs s m r) (hr : r.some?) : (i + (ndC r).length < e ∧ OnS T c rr e d r0 (i + (ndC r).length + 1) (vs ++ [(ndW r s m).1]) (ndW r s m).2.1 (ndW r s m).2.2 r.rest) ∨ (¬ i + (ndC r).length < e ∧ OnS T c rr e d r0 (i + (ndC r).length) (vs ++ [(ndW r s m).1]) (ndW r s m).2.1 (ndW r s m).2.2 r.rest) := by
  have g := ndW_gr r s m
  have hc := cost_nd r
  have h1 := h.hs
  have h2 := h.hm
  have h3 := h.hz
  have h4 := rest_size hr
  have he := h.en
  have hd := h.dr
  rw [cpF_nd, List.length_append] at he
  rw [cpF_nd, List.append_assoc] at hd
  have hd2 := drop_next hd rfl
  have hv : r0 = (vs ++ [(ndW r s m).1] ++ (fW r.rest (ndW r s m).2.1 (ndW r s m).2.2).1, (fW r.rest (ndW r s m).2.1 (ndW r s m).2.2).2) := by rw [h.val, fW_nd hr, List.append_assoc]; rfl
  have k1 := grA (hc ▸ h1) g.1
  have k2 := grA (hc ▸ h2) g.2
  have k3 : (vs ++ [(ndW r s m).1]).length + r.rest.size ≤ 100 := Nat.le_trans (by rw [List.length_append, List.length_singleton, Nat.add_assoc, Nat.add_comm 1]; exact Nat.add_le_add_left h4 _) h3
  rcases tlF_or r.rest with ⟨q1, q2⟩ | ⟨q1, q2⟩
  · refine .inr ⟨by rw [q2] at he; rw [← he]; exact Nat.lt_irrefl _, rest_ok h.ok, ?_, ?_, hv, k1, k2, k3⟩
    · rw [hd2, q2, q1]; rfl
    · rw [q2] at he; rw [q1]; exact he
  · refine .inl ⟨by rw [q2, List.length_cons] at he; lia, rest_ok h.ok, ?_, ?_, hv, k1, k2, k3⟩
    · rw [q2] at hd2; exact drop_next (a := [32]) hd2 rfl
    · rw [q2, List.length_cons] at he; lia
end
noncomputable def OnceP (G : Glob) (F : Fz) (S M f o : Addr) (T : Str) (d : Nat) : Prop := ∀ (x : Fo) {fr : List Env} {A : Around} {H : Hp} {s m : List Int} {Q : V → Fz → Hp → Prop} {p : Nat} {b : Bool} {r : List Nat}, x.ok d → x.size ≤ 100 → T.cps.toList.drop p = cpF x ++ clC b :: r → s.length + cost x ≤ 100000 → m.length + cost x ≤ 100000 → Ok fr A (3 * d + 3) →
  Q (.lst (fW x s m).1) F (rdH G S M (fW x s m).2.1 (fW x s m).2.2 H) → Cl G fr A F (rdH G S M s m H) (.ref o) [.str T, .int p, .int ((p + (cpF x).length : Nat) : Int), .ref f] Q No
section
variable {G : Glob} {F : Fz} {S M f po pa ps pi pf pc o : Addr} {ag : Nat → Addr} {T : Str}
noncomputable def lpR (T : Str) (f : Addr) (p e : Nat) (ro va : Option V) : Rho := [("pair", some (.tup [.str T, .int (p : Int)])), ("asking", some (.ref f)), ("string", some (.str T)), ("at", some (.int (p : Int))), ("closing", some (.int (e : Int))), ("rounds", ro), ("values", va)]
theorem castp {n k : Nat} (h : k < n) : ((n - (k + 1) : Nat) : Int) = ((n - k : Nat) : Int) - 1 := by
  obtain ⟨j, hj⟩ := Nat.exists_eq_succ_of_ne_zero (Nat.ne_of_gt (Nat.sub_pos_of_lt h))
  rw [Nat.sub_succ, hj]; exact (Int.add_sub_cancel (j : Int) 1).symm
theorem p_loop {d : Nat} (hg : Gl G F ag) (h8 : IsDef F (stm 8) (ag 8)) (hr : RdF F S M f po pa ps pi pf pc o) (hT : T.cps.size ≤ 1000000) (on : OnceP G F S M f o T d) {fr : List Env} {A : Around} {H : Hp} {s m : List Int} {Q : V → Fz → Hp → Prop} {i : Fo} {p : Nat} {r : List Nat} (hi : i.ok d) (hz : i.size ≤ 100) (hd : T.cps.toList.drop p = cpF i ++ clC false :: r) (hs : s.length + (1 + 2 * cost i) ≤ 100000) (hm : m.length + (1 + 2 * cost i) ≤ 100000) (hA : Ok fr A (3 * d + 4))
    (h : Q (.tup [(loopV (fW i) s m).1, .int (((p + (cpF i).length : Nat) : Int) + 1)]) F (rdH G S M (loopV (fW i) s m).2.1 (loopV (fW i) s m).2.2 H)) : Cl G fr A F (rdH G S M s m H) (.ref pa) [.tup [.str T, .int (p : Int)], .ref f] Q No := by
  obtain ⟨q, cl, hf, hc⟩ := hr.ctx.a
  obtain ⟨name, params, body, scope, pos, hst, hf⟩ := hf
  cases Option.some.inj hst.symm
  have hcl := close_cp hi false r
  rw [← hd] at hcl
  refine fn_w hg hf hc hA ["pair", "asking"] ["string", "at", "closing", "rounds", "values"] rfl (by decide +kernel) (fun doc pm c ctv vs hv => by obtain ⟨a, b, rfl⟩ := len2 hv; rfl) fun L A' cdv hA ok => ?_
  refine ⟨h8.ok, close hg h8 hT (hA.less (by lia)) hcl ⟨ok, ?_⟩⟩
  refine .mk (fun x ρ F' H' => ∃ (n : Nat) (s1 : List Int), x = .int n ∧ ρ = lpR T f p (p + (cpF i).length) none none ∧ F' = F ∧ H' = rdH G S M s1 m H ∧ loopV (fW i) s m = (.lst (itr (fW i) n s1 m).1, (itr (fW i) n s1 m).2) ∧ n ≤ 2 ∧ s1.length ≤ s.length) ?_ ?_
  · refine tr_list .hd (by rw [List.length_map]; lia) ⟨ok, ?_⟩
    cases s with
    | nil => exact ⟨0, [], rfl, rfl, rfl, rfl, rfl, by decide, Nat.le_refl _⟩
    | cons z s' =>
      have e : (ini 1 (z :: s')).map V.int ++ [.int (topI (z :: s'))] = (z :: s').map .int := by
        have e1 : ini 1 (z :: s') ++ [topI (z :: s')] = z :: s' := by
          unfold ini topI nth
          rw [List.getD_eq_getElem?_getD, List.getElem?_eq_getElem (by simp)]
          have := List.take_append_getElem (l := z :: s') (i := (z :: s').length - 1) (by simp)
          rw [Nat.sub_add_cancel (by simp), List.take_length] at this
          exact this
        rw [← e1, List.map_append]
        simp [e1]
      refine ⟨"list", _, m_pop, .list .hd, pop_last (l := (ini 1 (z :: s')).map .int) (x := .int (topI (z :: s'))) (H' := rdH G S M (ini 1 (z :: s')) m H) (by rw [e]; exact .hd) (by rw [List.length_map, ini, List.length_take]; exact line_le (Nat.add_le_add_right (Nat.le_trans (Nat.min_le_right _ _) (Nat.le_trans (Nat.le_add_right _ _) hs)) 1) (show 100001 ≤ 1000000 by decide)) ⟨ok, ?_⟩⟩
      refine mod_ii (by decide) ⟨ok, ?_⟩
      have h3 := mod3 (topI (z :: s'))
      exact ⟨((topI (z :: s')).fmod 3).toNat, ini 1 (z :: s'), by congr 1; exact (Int.toNat_of_nonneg h3.2).symm, rfl, rfl, rfl, rfl, h3.1, ini_le 1 _⟩
  · rintro x ρ F' H' _ ⟨n, s1, rfl, rfl, rfl, rfl, hlp, hn2, hs1⟩
    refine .at (fun va => rdH G S M s1 m ((va, .list []) :: H)) (fun va => List.perm_middle (l₁ := [_, _]).symm) (szl rfl) fun va => ?_
    have hc2 : n * cost i ≤ 2 * cost i := Nat.mul_le_mul_right _ hn2
    refine WhileW.s4 ok 40 (fun k ws s m => lpR T f p (p + (cpF i).length) (some (.int ((n - k : Nat) : Int))) (some (.ref va))) (fun k ws s m => rdH G S M s m ((va, .list ws) :: H)) (fun k _ _ _ => n - k) (fun k ws s2 m2 => ItP (fW i) (cost i) 100000 n (itr (fW i) n s1 m) k ws s2 m2) (z1 := 0) (z2 := []) (z3 := s1) (z4 := m) ⟨rfl, rfl, Nat.zero_le _, by rw [Nat.sub_zero]; lia, by rw [Nat.sub_zero]; lia⟩ ?_
    intro k ws s2 m2 hp Qn hq
    refine bifW.sp (fun e => ?_) fun e => ?_
    · have hk : k < n := Nat.lt_of_sub_pos (Int.ofNat_lt.mp (of_decide_eq_true e))
      have hp2 := hp.next hk (fW_gr i)
      have g1 := hp.hs
      have g2 := hp.hm
      have hc1 : cost i ≤ (n - k) * cost i := Nat.le_mul_of_pos_left _ (Nat.sub_pos_of_lt hk)
      refine ⟨"list", _, m_append, .list (.tl (.tl .hd)), ⟨hr.ctx.n.ok, on i hi hz hd (by lia) (by lia) (hA.less (by lia)) ⟨ok, append (.tl (.tl .hd)) (by rw [hp.len]; exact line_le (Nat.le_trans hp.hk hn2) (by decide)) ⟨ok, ?_⟩⟩⟩⟩
      have q := hq (k + 1) _ _ _ (Nat.sub_succ_lt_self _ _ hk) hp2
      rw [show ((n - (k + 1) : Nat) : Int) = ((n - k : Nat) : Int) - 1 from castp hk] at q
      exact q
    · have hk : k = n := Nat.le_antisymm hp.hk (Nat.le_of_sub_eq_zero (Nat.eq_zero_of_not_pos fun q => of_decide_eq_false e (Int.ofNat_lt.mpr q)))
      subst hk
      refine .frz "values" rfl (.tl (.tl .hd)) rfl (.run ?_)
      have v := hp.val
      rw [Nat.sub_self] at v
      have v : itr (fW i) k s1 m = (ws ++ [], s2, m2) := v
      rw [List.append_nil] at v
      rw [hlp, v] at h
      exact h
end
section
variable {G : Glob} {F : Fz} {S M f po pa ps pi pf pc o : Addr} {ag : Nat → Addr} {T : Str}
noncomputable def cdR (T : Str) (f M : Addr) (p e : Nat) (told va : Option V) : Rho := [("pair", some (.tup [.str T, .int (p : Int)])), ("strict", some (.str "strict")), ("asking", some (.ref f)), ("hook", some (.str "hook")), ("pairs_hook", some (.str "pairs hook")), ("memo", some (.ref M)), ("string", some (.str T)), ("at", some (.int (p : Int))), ("closing", some (.int (e : Int))), ("told", told), ("values", va)]
theorem memD_len (m : List Int) : (memD m).length = m.length := memK_len 0 m
theorem memD_nd (m : List Int) : ((memD m).map (·.1)).Nodup := memK_nd 0 m
theorem memD_snd (m : List Int) : (memD m).map (·.2) = m.map .int := memK_snd 0 m
theorem p_cond {d : Nat} (hg : Gl G F ag) (h8 : IsDef F (stm 8) (ag 8)) (hr : RdF F S M f po pa ps pi pf pc o) (hT : T.cps.size ≤ 1000000) (on : OnceP G F S M f o T d) {fr : List Env} {A : Around} {H : Hp} {s m : List Int} {Q : V → Fz → Hp → Prop} {i : Fo} {p : Nat} {r : List Nat} (hi : i.ok d) (hz : i.size ≤ 100) (hd : T.cps.toList.drop p = cpF i ++ clC true :: r) (hs : s.length + (1 + 2 * cost i) ≤ 100000) (hm : m.length + (1 + 2 * cost i) ≤ 100000) (hA : Ok fr A (3 * d + 4))
    (h : Q (.tup [(condV (fW i) s m).1, .int (((p + (cpF i).length : Nat) : Int) + 1)]) F (rdH G S M (condV (fW i) s m).2.1 (condV (fW i) s m).2.2 H)) : Cl G fr A F (rdH G S M s m H) (.ref po) [.tup [.str T, .int (p : Int)], .str "strict", .ref f, .str "hook", .str "pairs hook", .ref M] Q No := by
  obtain ⟨q, cl, hf, hc⟩ := hr.ctx.o
  obtain ⟨name, params, body, scope, pos, hst, hf⟩ := hf
  cases Option.some.inj hst.symm
  have hcl := close_cp hi true r
  rw [← hd] at hcl
  have hsl : s.length ≤ sizeLine := line_le (by lia) (show 100000 ≤ 1000000 by decide)
  have hml : m.length ≤ sizeLine := line_le (by lia) (show 100000 ≤ 1000000 by decide)
  refine fn_w hg hf hc hA ["pair", "strict", "asking", "hook", "pairs_hook", "memo"] ["string", "at", "closing", "told", "values"] rfl (by decide +kernel) (fun doc pm c ctv vs hv => by obtain ⟨a, b, c, d, e, f, rfl⟩ := len6 hv; rfl) fun L A' cdv hA ok => ?_
  refine ⟨h8.ok, close hg h8 hT (hA.less (by lia)) hcl ⟨ok, ?_⟩⟩
  refine len_ints (.own .hd) hsl ⟨ok, ?_⟩
  refine len_dict (kd := kInt G) (l := memD m) (.own hr.hM (.tl .hd)) (memD_nd m) (by rw [memD_len]; lia) ⟨ok, ?_⟩
  rw [memD_len]
  refine set_dict (kd := kInt G) (k := (m.length : Int)) (memD_nd m) (H' := rdH G S M s (m ++ [(s.length : Int)]) H) (by rw [memD_put]; exact .tl .hd) (by rw [memD_len]; exact hml) ⟨ok, ?_⟩
  refine ⟨"dict", _, m_values, .dict (.tl .hd), dict_values (kInt G) (l := memD (m ++ [(s.length : Int)])) (.own hr.hM (.tl .hd)) (memD_nd _) fun vw => ⟨ok, ?_⟩⟩
  refine list_values (kInt G) (l := memD (m ++ [(s.length : Int)])) hA.handled .hd (.own hr.hM (.tl .hd)) (memD_nd _) (by rw [memD_len, List.length_append, List.length_singleton]; exact line_le (by lia) (show 100001 ≤ 1000000 by decide)) ⟨ok, ?_⟩
  rw [memD_snd]
  refine IfW.s3 (fun s2 m2 v => cdR T f M p (p + (cpF i).length) (some (told (m ++ [(s.length : Int)]))) (some v)) (fun s2 m2 _ => rdH G S M s2 m2 H) (fun s2 m2 v => condV (fW i) s m = (.tup [told (m ++ [(s.length : Int)]), v], s2, m2)) ?_ ?_
  · refine tr_list .hd (by rw [List.length_map]; lia) ⟨ok, ?_⟩
    cases s with
    | nil => exact .mk (_, _, _) rfl
    | cons z s' =>
      refine sub_top (.own .hd) (fun e => nomatch e) ⟨ok, bifW.sp (fun e => ?_) fun e => ?_⟩
      · refine ⟨hr.ctx.n.ok, on i hi hz hd (by lia) (by rw [List.length_append, List.length_singleton]; lia) (hA.less (by lia)) ⟨ok, ?_⟩⟩
        exact .mk (_, _, _) (if_pos e)
      · exact .mk (_, _, _) (if_neg (fun q => Bool.noConfusion (e.symm.trans q)))
  · intro s2 m2 v e
    rw [e] at h
    exact .run h
noncomputable def NodeP (G : Glob) (F : Fz) (S M f : Addr) (T : Str) (d : Nat) : Prop := ∀ (x : Fo) {fr : List Env} {A : Around} {H : Hp} {s m : List Int} {Q : V → Fz → Hp → Prop} {E : Value → Fz → Hp → Prop} {p : Nat} {r : List Nat}, x.some? → x.ok d → x.size ≤ 100 → T.cps.toList.drop p = ndC x ++ r → Fol r → s.length + ndCost x ≤ 100000 → m.length + ndCost x ≤ 100000 → Ok fr A (3 * d + 2) →
  Q (.tup [(ndW x s m).1, .int ((p + (ndC x).length : Nat) : Int)]) F (rdH G S M (ndW x s m).2.1 (ndW x s m).2.2 H) → Cl G fr A F (rdH G S M s m H) (.ref f) [.str T, .int (p : Int)] Q E
theorem node (hg : Gl G F ag) (h8 : IsDef F (stm 8) (ag 8)) (hr : RdF F S M f po pa ps pi pf pc o) (bt : BtS G) (hT : T.cps.size ≤ 1000000) (d : Nat) (on : ∀ e, e < d → OnceP G F S M f o T e) : NodeP G F S M f T d := by
  intro x fr A H s m Q E p r hx hok hz hd hfol hs hm hA h
  cases x with
  | nil => exact hx.elim
  | leaf t x =>
    have ht : t ∈ nmL := by cases d <;> exact hok.1
    refine read_leaf hg hr bt (hA.less (by lia)) ht hd (lex_leaf ht hfol) hT hs ?_
    rw [show (ndC (.leaf t x)).length = t.length by show t.cps.toList.length = t.cps.size; simp] at h
    exact h
  | box b i x =>
    cases d with
    | zero => exact hok.elim
    | succ d =>
      have hzi : i.size ≤ 100 := by have : i.size + x.size + 1 ≤ 100 := hz; lia
      have hd : T.cps.toList.drop p = opC b :: (cpF i ++ clC b :: r) := by
        rw [hd]
        show opC b :: (cpF i ++ [clC b]) ++ r = _
        rw [List.cons_append, List.append_assoc]
        rfl
      have hd2 : T.cps.toList.drop (p + 1) = cpF i ++ clC b :: r := drop_next (a := [opC b]) hd rfl
      have e : (p + (ndC (.box b i x)).length : Nat) = p + 1 + (cpF i).length + 1 := by show p + (opC b :: (cpF i ++ [clC b])).length = _; rw [List.length_cons, List.length_append, List.length_singleton]; lia
      rw [e] at h
      refine Cl.no (ask hr bt (hA.less (by lia)) (drop_at (k := 0) hd rfl) hd hT fun mb => ?_)
      rw [lex_op]
      cases b with
      | false => exact fun env A' hD => Cl.no (p_loop hg h8 hr hT (on d (Nat.lt_succ_self _)) hok.1 hzi hd2 hs hm ((hA.deep hD).less (by lia)) h)
      | true => exact fun env A' hD => Cl.no (p_cond hg h8 hr hT (on d (Nat.lt_succ_self _)) hok.1 hzi hd2 hs hm ((hA.deep hD).less (by lia)) h)
noncomputable def onR (T : Str) (f : Addr) (p e : Nat) (va v : Option V) : Rho := [("string", some (.str T)), ("at", some (.int (p : Int))), ("closing", some (.int (e : Int))), ("asking", some (.ref f)), ("values", va), ("value", v)]
theorem once (hg : Gl G F ag) (h8 : IsDef F (stm 8) (ag 8)) (hr : RdF F S M f po pa ps pi pf pc o) (bt : BtS G) (hT : T.cps.size ≤ 1000000) : ∀ d, OnceP G F S M f o T d := by
  intro d
  induction d using Nat.strongRecOn with
  | _ d ih =>
    have nd := node hg h8 hr bt hT d ih
    intro x fr A H s m Q p b r hok hz hd hs hm hA h
    obtain ⟨q, cl, hf, hc⟩ := hr.ctx.n
    obtain ⟨name, params, body, scope, pos, hst, hf⟩ := hf
    cases Option.some.inj hst.symm
    refine fn_w hg hf hc hA ["string", "at", "closing", "asking"] ["values", "value"] rfl (by decide +kernel) (fun doc pm c ctv vs hv => by obtain ⟨a, b, c, d, rfl⟩ := len4 hv; rfl) fun L A' cdv hA ok => ?_
    refine .at (fun va => rdH G S M s m ((va, .list []) :: H)) (fun va => List.perm_middle (l₁ := [_, _]).symm) (szl rfl) fun va => ?_
    refine WhileW.s6 ok 40 (fun i vs s m r v => onR T f i (p + (cpF x).length) (some (.ref va)) v) (fun i vs s m r v => rdH G S M s m ((va, .list vs) :: H)) (fun i vs s m r v => r.size) (fun i vs s2 m2 r2 v => OnS T (clC b) r (p + (cpF x).length) d (fW x s m) i vs s2 m2 r2) (z1 := p) (z2 := []) (z3 := s) (z4 := m) (z5 := x) (z6 := none) ⟨hok, hd, rfl, rfl, hs, hm, by rw [List.length_nil]; lia⟩ ?_
    intro i vs s2 m2 r2 v hp Qn hq
    refine bifW.sp (fun e => ?_) fun e => ?_
    · have hi : i < p + (cpF x).length := by have := of_decide_eq_true e; lia
      have hx := hp.more hi
      have hn := hp.next hx
      have g1 := hp.hs
      have g2 := hp.hm
      have g3 := hp.hz
      have hc := cost_nd r2
      have hf := hp.fol (clC_or b)
      refine ⟨hr.ok, nd r2 hx hp.ok (by lia) hf.1 hf.2 (by lia) (by lia) hA ⟨ok, ?_⟩⟩
      refine ⟨"list", _, m_append, .list (.tl (.tl .hd)), append (.tl (.tl .hd)) (line_le (by lia) (show 100 ≤ 1000000 by decide)) ⟨ok, ?_⟩⟩
      have hsz := rest_size hx
      rcases hn with ⟨q1, q2⟩ | ⟨q1, q2⟩
      · refine .run (bifW.yes (decide_eq_true (by lia)) ?_)
        have := hq _ _ _ _ _ (some (ndW r2 s2 m2).1) hsz q2
        exact this
      · refine .run (bifW.no (decide_eq_false (by lia)) ?_)
        exact hq _ _ _ _ _ (some (ndW r2 s2 m2).1) hsz q2
    · have hi : ¬ i < p + (cpF x).length := by have := of_decide_eq_false e; lia
      have hn := hp.done hi
      subst hn
      refine .frz "values" rfl (.tl (.tl .hd)) rfl (.run ?_)
      have v := hp.val
      have v : fW x s m = (vs ++ [], s2, m2) := v
      rw [List.append_nil] at v
      rw [v] at h
      exact h
end
noncomputable def Bd (s : List Int) (k : Nat) : Prop := ∀ z ∈ s, z.natAbs ≤ 10000 * 2 ^ k
theorem Bd.up {s : List Int} {k k' : Nat} (h : Bd s k) (le : k ≤ k') : Bd s k' := fun z hz => Nat.le_trans (h z hz) (Nat.mul_le_mul_left _ (Nat.pow_le_pow_right (by decide) le))
theorem Bd.app {s u : List Int} {k : Nat} (h : Bd s k) (h' : Bd u k) : Bd (s ++ u) k := fun z hz => (List.mem_append.mp hz).elim (h z) (h' z)
theorem Bd.sub {s u : List Int} {k : Nat} (h : Bd s k) (hu : ∀ z ∈ u, z ∈ s) : Bd u k := fun z hz => h z (hu z hz)
theorem Bd.las {s : List Int} {k n : Nat} (h : Bd s k) : Bd (las n s) k := h.sub fun z hz => List.mem_of_mem_drop hz
theorem Bd.ini {s : List Int} {k n : Nat} (h : Bd s k) : Bd (ini n s) k := h.sub fun z hz => List.mem_of_mem_take hz
theorem Bd.one {z : Int} {k : Nat} (h : z.natAbs ≤ 10000) : Bd [z] k := fun y hy => by
  rw [List.mem_singleton.mp hy]
  exact Nat.le_trans h (Nat.le_mul_of_pos_right _ (Nat.two_pow_pos k))
theorem Bd.nth {s : List Int} {k i : Nat} (h : Bd s k) : (nth s i).natAbs ≤ 10000 * 2 ^ k := by
  unfold Mine.nth
  rw [List.getD_eq_getElem?_getD]
  cases e : s[i]? with
  | none => exact Nat.zero_le _
  | some z => exact h z (List.mem_of_getElem? e)
noncomputable def lfSmall : Lf → Bool
  | .num i => decide (i.natAbs ≤ 10000)
  | .flt ps => ps.all fun i => decide (i.natAbs ≤ 10000)
  | _ => true
theorem lf_small {t : Str} (ht : t ∈ nmL) : lfSmall (lfOf t) = true := by
  have : ∀ p ∈ tbl, lfSmall p.2 = true := by
    simp only [tbl, List.forall_mem_cons]
    refine ⟨rfl, rfl, rfl, rfl, rfl, rfl, rfl, rfl, rfl, rfl, rfl, rfl, rfl, rfl, rfl, rfl, rfl, rfl, rfl, rfl, rfl, rfl, rfl, rfl, rfl, rfl, rfl, rfl, rfl, nofun⟩
  exact this _ (lf_tbl ht)
theorem bd2 {u t : Int} {k : Nat} (a : u.natAbs ≤ 10000 * 2 ^ k) (b : t.natAbs ≤ 10000 * 2 ^ k) : (u + (t + 0)).natAbs ≤ 10000 * (2 ^ k * 2) := by
  rw [Int.add_zero, ← Nat.mul_assoc, Nat.mul_two]
  exact Nat.le_trans (Int.natAbs_add_le u t) (Nat.add_le_add a b)
theorem stL_bd {lf : Lf} (hl : lfSmall lf = true) {s : List Int} {k : Nat} (h : Bd s k) : Bd (stL lf s) (k + 1) := by
  have h1 := h.up (Nat.le_succ k)
  cases lf with
  | num i => exact h1.app (.one (of_decide_eq_true hl))
  | flt ps => exact h1.app fun z hz => Bd.one (of_decide_eq_true (List.all_eq_true.mp hl z hz)) z (.head _)
  | plus =>
    show Bd (if 1 < s.length then ini 2 s ++ [(las 2 s).sum] else s) _
    split
    · rename_i e
      obtain ⟨r, u, t, rfl, e1, e2⟩ := two_last e
      rw [e1, e2]
      refine Bd.app (h1.sub fun z hz => List.mem_append_left _ hz) fun z hz => ?_
      rw [List.mem_singleton.mp hz]
      have a := h u (List.mem_append_right _ (.head _))
      have b := h t (List.mem_append_right _ (.tail _ (.head _)))
      rw [Nat.pow_succ]
      show ([u, t] : List Int).sum.natAbs ≤ _
      rw [List.sum_cons, List.sum_cons, List.sum_nil]
      exact bd2 a b
    · exact h1
  | swp => exact (h1.ini).app ((h1.las).sub fun z hz => List.mem_reverse.mp hz)
  | dup => exact h1.app h1.las
  | nan => exact h1.ini
  | inf =>
    show Bd (if s.isEmpty then s else s ++ [maxI s]) _
    split
    · exact h1
    · exact h1.app fun z hz => by rw [List.mem_singleton.mp hz]; exact h1.nth
  | ninf =>
    show Bd (if s.isEmpty then s else s ++ [minI s]) _
    split
    · exact h1
    · exact h1.app fun z hz => by rw [List.mem_singleton.mp hz]; exact h1.nth
  | word v => exact h1
noncomputable def Bm (m : List Int) : Prop := ∀ z ∈ m, z.natAbs ≤ 1000000
theorem Bm.app {m : List Int} {x : Int} (h : Bm m) (hx : x.natAbs ≤ 1000000) : Bm (m ++ [x]) := fun z hz => (List.mem_append.mp hz).elim (h z) fun hz => by rw [List.mem_singleton.mp hz]; exact hx
structure RunB (f : List Int → List Int → R3) (c d B : Nat) : Prop where
  run : ∀ (s m : List Int) (k : Nat), Bd s k → Bm m → s.length + c ≤ B → m.length + c ≤ B → k + c ≤ B → Bd (f s m).2.1 (k + c) ∧ Bm (f s m).2.2 ∧ Rqs (f s m).1 ((B + 40) * c) (2 + 2 * d)
theorem bd_ten {s : List Int} {k : Nat} (h : Bd s k) (hk : k ≤ 150) : ∀ z ∈ s, z.natAbs < tenB := fun z hz => Nat.lt_of_le_of_lt (h.up hk z hz) (by decide +kernel)
theorem bm_ten {m : List Int} (h : Bm m) : ∀ z ∈ m, z.natAbs < tenB := fun z hz => Nat.lt_of_le_of_lt (h z hz) (by decide +kernel)
theorem num_ten {n : Nat} (h : n ≤ 1000000) : ((n : Nat) : Int).natAbs < tenB := by
  rw [Int.natAbs_natCast]
  exact Nat.lt_of_le_of_lt h (by decide +kernel)
theorem pair_rq {s : List Int} {k b dp : Nat} {r : List V} (h : Bd s k) (hk : k ≤ 150) (hs : s.length ≤ 1000000) (hr : Rqs r b (dp + 1)) : Rqs (pairV s ++ r) (b + 3) (dp + 1) := by
  refine .cons (b1 := 0) (b2 := b + 2) (.num (num_ten hs)) (.cons (b1 := 1) (b2 := b) (.lst ?_) hr (by lia)) (by lia)
  refine (Rqs.ints (bd_ten h.las hk)).mono ?_ (Nat.zero_le _)
  rw [las, List.length_drop]
  exact subsub _ 1
theorem str_rq {t : Str} {dp : Nat} (ht : t ∈ nmL) : Rq (.str t) 10 dp := by
  have : ∀ t ∈ nmL, (t.cps.toList.all fun c => decide (c < 16 ^ 8)) = true := by decide +kernel
  refine .str (this t ht) ?_
  have := nmL_len ht
  rw [Array.length_toList] at this
  exact this
theorem vL_rq {t : Str} (ht : t ∈ nmL) {s : List Int} {k : Nat} (h : Bd s k) (hk : k ≤ 150) (hs : s.length ≤ 1000000) : Rq (vL t s (lfOf t)) 15 2 := by
  have hp : Rq (.tup (pairV s)) 15 2 := (Rq.tup (b := 3) (by have := pair_rq (r := []) (b := 0) (dp := 0) h hk hs .nil; rwa [List.append_nil] at this)).mono (by decide) (Nat.le_refl _)
  have hq : Rq (.tup (pairV s ++ [.str "strict"])) 15 2 := (Rq.tup (pair_rq (dp := 0) (b := 7) h hk hs (.cons (b1 := 6) (b2 := 0) (.str (by decide +kernel) (by decide)) .nil (by decide)))).mono (by decide) (Nat.le_refl _)
  have hf : Rq (.tup (.str t :: pairV s)) 15 2 := (Rq.tup (b := 14) (.cons (b2 := 3) (str_rq ht) (by have := pair_rq (r := []) (b := 0) (dp := 0) h hk hs .nil; rwa [List.append_nil] at this) (by decide))).mono (by decide) (Nat.le_refl _)
  have hfc := fcW ht
  generalize lfOf t = lf at hfc
  cases hfc with
  | word v hv =>
    have hm := vAt_mem hv
    rcases List.mem_cons.mp hm with e | hm
    · cases e; exact .none
    · rcases List.mem_cons.mp hm with e | hm
      · cases e; exact .bool
      · rw [List.mem_singleton] at hm; cases hm; exact .bool
  | num => exact hp
  | flt => exact hf
  | plus => exact hq
  | swp => exact hq
  | dup => exact hq
  | nan => exact hp
  | inf => exact hp
  | ninf => exact hp
theorem itr_runB {f : List Int → List Int → R3} {c d B : Nat} (h : RunB f c d B) (hg : Gr f c) : ∀ (n : Nat) (s m : List Int) (k : Nat), Bd s k → Bm m → s.length + n * c ≤ B → m.length + n * c ≤ B → k + n * c ≤ B → Bd (itr f n s m).2.1 (k + n * c) ∧ Bm (itr f n s m).2.2 ∧ Rqs (itr f n s m).1 (n * ((B + 40) * c + 1)) (3 + 2 * d)
  | 0, s, m, k, hs, hm, _, _, _ => ⟨hs.up (Nat.le_add_right _ _), hm, .nil⟩
  | n + 1, s, m, k, hs, hm, h1, h2, h3 => by
    rw [Nat.succ_mul] at h1 h2 h3
    obtain ⟨a, b, q⟩ := h.run s m k hs hm (grD h1) (grD h2) (grD h3)
    have g := hg s m
    obtain ⟨a2, b2, q2⟩ := itr_runB h hg n (f s m).2.1 (f s m).2.2 (k + c) a b (grB h1 g.1) (grB h2 g.2) (grB h3 (Nat.le_refl _))
    refine ⟨a2.up (by rw [Nat.succ_mul]; lia), b2, .cons (b1 := (B + 40) * c) (b2 := n * ((B + 40) * c + 1)) ((Rq.lst q).mono (Nat.le_refl _) (by lia)) q2 (by rw [Nat.succ_mul]; lia)⟩
theorem told_rq {m : List Int} {B dp : Nat} (h : Bm m) (hm : m.length ≤ B) : Rq (told m) (B + 30) (dp + 2) := by
  refine Rq.tup (.cons (b1 := 6) (b2 := B + 20) (.str (by decide +kernel) (by decide)) (.cons (b1 := 4) (b2 := B + 14) (.str (by decide +kernel) (by decide)) (.cons (b1 := 10) (b2 := B + 2) (.str (by decide +kernel) (by decide)) (.cons (b1 := B) (b2 := 0) (.lst ((Rqs.ints (bm_ten h)).mono hm (Nat.zero_le _))) .nil (by lia)) (by lia)) (by lia)) (by lia))
theorem box_runB {f : List Int → List Int → R3} {c d B : Nat} (h : RunB f c d B) (hg : Gr f c) (hB : B ≤ 150) (b : Bool) {s m : List Int} {k : Nat} (hs : Bd s k) (hm : Bm m) (h1 : s.length + (1 + 2 * c) ≤ B) (h2 : m.length + (1 + 2 * c) ≤ B) (h3 : k + (1 + 2 * c) ≤ B) :
    Bd (boxV b f s m).2.1 (k + (1 + 2 * c)) ∧ Bm (boxV b f s m).2.2 ∧ Rq (boxV b f s m).1 ((B + 40) * (1 + 2 * c) - 1) (4 + 2 * d) := by
  have e : (B + 40) * (1 + 2 * c) - 1 = (B + 39) + 2 * ((B + 40) * c) := by rw [Nat.mul_add, Nat.mul_one, Nat.mul_left_comm]; lia
  cases b with
  | true =>
    show Bd (condV f s m).2.1 _ ∧ Bm (condV f s m).2.2 ∧ Rq (condV f s m).1 _ _
    have hm2 : Bm (m ++ [(s.length : Int)]) := hm.app (by rw [Int.natAbs_natCast]; lia)
    have hl2 : (m ++ [(s.length : Int)]).length = m.length + 1 := by rw [List.length_append, List.length_singleton]
    unfold condV
    split
    · obtain ⟨a, b, q⟩ := h.run s _ k hs hm2 (by lia) (by lia) (by lia)
      refine ⟨a.up (by lia), b, (Rq.tup (b := B + 38 + (B + 40) * c) (dp := 3 + 2 * d) (.cons (b1 := B + 30) (b2 := (B + 40) * c + 1) ((told_rq (B := B) (dp := 0) hm2 (by lia)).mono (Nat.le_refl _) (by lia)) (.cons (b1 := (B + 40) * c) (b2 := 0) ((Rq.lst q).mono (Nat.le_refl _) (by lia)) .nil (by lia)) (by lia))).mono (by rw [e]; lia) (by lia)⟩
    · exact ⟨hs.up (by lia), hm2, (Rq.tup (b := B + 35) (dp := 3 + 2 * d) (.cons (b1 := B + 30) (b2 := 1) ((told_rq (B := B) (dp := 0) hm2 (by lia)).mono (Nat.le_refl _) (by lia)) (.cons (b1 := 0) (b2 := 0) .none .nil (by lia)) (by lia))).mono (by rw [e]; lia) (by lia)⟩
  | false =>
    show Bd (loopV f s m).2.1 _ ∧ Bm (loopV f s m).2.2 ∧ Rq (loopV f s m).1 _ _
    unfold loopV
    split
    · exact ⟨hs.up (by lia), hm, (Rq.lst (b := 0) (dp := 0) .nil).mono (Nat.zero_le _) (by lia)⟩
    · have h4 := (mod3 (topI s)).1
      generalize ((topI s).fmod 3).toNat = n at h4
      have h5 : n * c ≤ 2 * c := Nat.mul_le_mul_right _ h4
      have h6 : (ini 1 s).length ≤ s.length := ini_le 1 s
      obtain ⟨a, b, q⟩ := itr_runB h hg n (ini 1 s) m k hs.ini hm (by lia) (by lia) (by lia)
      have h7 : n * ((B + 40) * c + 1) ≤ 2 * ((B + 40) * c + 1) := Nat.mul_le_mul_right _ h4
      exact ⟨a.up (by lia), b, (Rq.lst q).mono (by rw [e]; exact Nat.le_trans h7 (by rw [Nat.mul_add, Nat.add_comm]; exact Nat.add_le_add_right (Nat.le_trans (by decide) (Nat.le_add_left 39 B)) _)) (by lia)⟩
theorem fW_runB {B : Nat} (hB : B ≤ 150) : ∀ (d : Nat) (x : Fo), x.ok d → RunB (fW x) (cost x) d B := by
  intro d x
  induction x generalizing d with
  | nil => exact fun _ => ⟨fun s m k hs hm _ _ _ => ⟨hs, hm, .nil⟩⟩
  | leaf t r ih =>
    intro h
    have h : t ∈ nmL ∧ r.ok d := by cases d <;> exact h
    refine ⟨fun s m k hs hm h1 h2 h3 => ?_⟩
    have h1 : s.length + (2 + cost r) ≤ B := h1
    have h2 : m.length + (2 + cost r) ≤ B := h2
    have h3 : k + (2 + cost r) ≤ B := h3
    have hl := stL_len t s
    have hb := stL_bd (lf_small h.1) hs
    obtain ⟨a, b, q⟩ := (ih d h.2).run (stL (lfOf t) s) m (k + 1) hb hm (by lia) (by lia) (by lia)
    refine ⟨a.up (by show _ ≤ k + (2 + cost r); lia), b, .cons (b1 := 15) ((vL_rq h.1 hb (by lia) (by lia)).mono (Nat.le_refl _) (by lia)) q ?_⟩
    show _ ≤ (B + 40) * (2 + cost r)
    rw [Nat.mul_add]
    lia
  | box b i r ih1 ih2 =>
    intro h
    cases d with
    | zero => exact h.elim
    | succ d =>
      refine ⟨fun s m k hs hm h1 h2 h3 => ?_⟩
      have h1 : s.length + (1 + 2 * cost i + cost r) ≤ B := h1
      have h2 : m.length + (1 + 2 * cost i + cost r) ≤ B := h2
      have h3 : k + (1 + 2 * cost i + cost r) ≤ B := h3
      have g := box_gr (fW_gr i) b s m
      obtain ⟨a, c, q⟩ := box_runB (ih1 d h.1) (fW_gr i) hB b hs hm (grC h1) (grC h2) (grC h3)
      obtain ⟨a2, c2, q2⟩ := (ih2 (d + 1) h.2).run _ _ (k + (1 + 2 * cost i)) a c (grA h1 g.1) (grA h2 g.2) (grA h3 (Nat.le_refl _))
      refine ⟨a2.up (by show _ ≤ k + (1 + 2 * cost i + cost r); lia), c2, .cons (q.mono (Nat.le_refl _) (by lia)) q2 ?_⟩
      show _ ≤ (B + 40) * (1 + 2 * cost i + cost r)
      rw [Nat.mul_add (B + 40) (1 + 2 * cost i)]
      have : 0 < (B + 40) * (1 + 2 * cost i) := Nat.mul_pos (by lia) (by lia)
      exact Nat.le_of_eq (by rw [Nat.sub_add_cancel this])
theorem cl3 {a b c X Y : Nat} (h1 : a ≤ X) (h2 : b ≤ Y) (h3 : 1 ≤ c) : 1 + a + b ≤ X + Y + c := by
  rw [Nat.add_assoc, Nat.add_comm]
  exact Nat.add_le_add (Nat.add_le_add h1 h2) h3
theorem cost_le : ∀ {d : Nat} {x : Fo}, x.ok d → cost x ≤ 2 ^ (d + 1) * x.size
  | _, .nil, _ => Nat.zero_le _
  | d, .leaf t r, h => by
    have h : t ∈ nmL ∧ r.ok d := by cases d <;> exact h
    have h1 := cost_le h.2
    have h2 : 2 ≤ 2 ^ (d + 1) := Nat.pow_le_pow_right (n := 2) (by decide) (show 1 ≤ d + 1 from Nat.le_add_left 1 d)
    show 2 + cost r ≤ 2 ^ (d + 1) * (r.size + 1)
    rw [Nat.mul_succ]
    rw [Nat.add_comm]; exact Nat.add_le_add h1 h2
  | d + 1, .box b i r, h => by
    have h1 := cost_le h.1
    have h2 := cost_le h.2
    have h3 : 1 ≤ 2 ^ (d + 2) := Nat.one_le_two_pow
    show 1 + 2 * cost i + cost r ≤ 2 ^ (d + 2) * (i.size + r.size + 1)
    rw [Nat.mul_succ, Nat.mul_add]
    have : 2 * cost i ≤ 2 ^ (d + 2) * i.size := by rw [Nat.pow_succ, Nat.mul_comm (2 ^ (d + 1)) 2, Nat.mul_assoc]; exact Nat.mul_le_mul_left 2 h1
    exact cl3 this h2 h3
theorem cat_ss : Cat "StopIteration" "StopIteration" true := ⟨by rw [isSubtype_type]; kernel_rfl, by rw [isSubtype_type]; kernel_rfl, by rw [isSubtype_type]; kernel_rfl⟩
theorem Hd.no {G : Glob} {fr : List Env} {A : Around} {env : Env} {F : Fz} {H : Hp} {x : Addr} {hs : List ExceptHandler} {Q : FV → Fz → Hp → Prop} (h : Hd G fr A env F H x hs Q (Thr0 fun _ _ _ _ _ _ => False)) : Hd G fr A env F H x hs Q No := fun K m R s hR =>
  wpAny_mono (h K m R s hR) (fun _ _ q => q) fun e s q => by obtain ⟨_, _, _, _, _, _, q⟩ := q; exact (thr_no q).elim
theorem Hd.drpQ {G : Glob} {fr : List Env} {A : Around} {env : Env} {F : Fz} {H : Hp} {x : Addr} {hs : List ExceptHandler} {Q : FV → Fz → Hp → Prop} {E : Value → Fz → Hp → Prop} (h : Hd G fr A env F H x hs (fun x F1 H1 => ∃ H2, Drp H1 H2 ∧ Q x F1 H2) E) : Hd G fr A env F H x hs Q E := fun K m R s hR =>
  wpAny_mono (h K m R s hR) (fun _ _ q => by obtain ⟨F1, H1, l, r, x, hx, F2, m2, H2, d, q⟩ := q; exact ⟨F1, H2, l, r.drp d, x, hx, F2, m2, q⟩) fun _ _ q => q
theorem Ev_gl {G : Glob} {fr : List Env} {A : Around} {env : Env} {F : Fz} {H : Hp} {E : Value → Fz → Hp → Prop} {Q : V → Fz → Hp → Prop} {x : Str} {y : V} {pos : Pos} (h : GlIs G F x y) (q : Q y F H) (hk : autoParam (env.scope.kind = .function) tac0) (hx : autoParam (env.kindOf x = some .globalImplicit) tac0) (hg : autoParam (env.globals = mainGlobals) tac0) (hb : autoParam (env.builtins = builtinsNs) tac0) (hd : autoParam ((x == ("__debug__" : Str)) = false) tac14) : Ev G fr A F H (eval (.Name x pos) env) Q E := by
  rcases h with ⟨v, hv, r⟩ | ⟨v, h0, hv, r⟩
  · exact Ev_global hv r q hk hx hg hd
  · exact Ev_blt h0 hv r q hk hx hg hb hd
section
variable {G : Glob} {fr : List Env} {A : Around} {F : Fz} {H : Hp} {S M g f po pa ps pi pf pc o : Addr} {ag : Nat → Addr} {s m : List Int} {Q : V → Fz → Hp → Prop} {T : Str}
theorem memK_ok {m : List Int} (h : m.length ≤ 100000) : (kvL (kInt G).emb (memD m)).length ≤ sizeLine := by
  unfold kvL
  rw [List.length_map, memD_len]
  exact line_le h (by decide)
theorem outer_ok (hO : OuterF F g f M) (hr : RdF F S M f po pa ps pi pf pc o) (hA : Ok fr A 1) {p : Nat} {v : V} {e : Int} {s2 m2 : List Int} (hm2 : m2.length ≤ 100000)
    (h : ∀ env A' (Q : V → Fz → Hp → Prop) (E : Value → Fz → Hp → Prop), Deep A A' env → Q (.tup [v, .int e]) F (rdH G S M s2 m2 H) → Cl G (env :: fr) A' F (rdH G S M s m H) (.ref f) [.str T, .int (p : Int)] Q E) (q : Q (.tup [v, .int e]) F (rdH G S M s2 [] H)) :
    Cl G fr A F (rdH G S M s m H) (.ref g) [.str T, .int (p : Int)] Q No :=
  (scan_outer (P := fun _ _ _ _ _ _ => False) hO hr.ok hA fun env A' hD => h env A' _ _ hD ⟨_, _, .tl .hd, memK_ok hm2, q⟩).mono (fun _ _ _ q => q) fun _ _ _ e => thr_no e
theorem refused (hg : Gl G F ag) (hf : IsDef F (stm 11) (ag 11)) (bt : BtS G) (hO : OuterF F g f M) (hr : RdF F S M f po pa ps pi pf pc o) (hA : Ok fr A 3) {p : Nat} (hT : T.cps.size ≤ 1000000) (hp : p ≤ 1000000) (hm : m.length ≤ 100000) {ch : Nat} (hch : T.cps[p]? = some ch) (hl : lexL (T.cps.toList.drop p) = .stop)
    (h : Q (.bool true) F (rdH G S M s [] H)) : Cl G fr A F (rdH G S M s m H) (.ref (ag 11)) [.ref g, .str T, .int (p : Int)] Q No := by
  obtain ⟨c, st, o', pm, hst, hf', hd, hc⟩ := id hf
  obtain rfl := Option.some.inj hst.symm
  have hpn : ((p : Nat) : Int).natAbs < tenB := num_ten hp
  refine def_w hg hf' hd hc hA ["scanner", "text", "at"] ["fault"] rfl (by decide +kernel) (fun vs hv => by obtain ⟨a, b, c, rfl⟩ := len3 hv; rfl) fun L A' hA ok => ?_
  have hgr : GlIs G F "repr" (.blt "repr") := hg (Str.ofString "repr", .blt "repr") (lkp_mem rfl)
  refine Ex_Try (outer := fr) (PB := fun x c a b F1 H1 => c = "StopIteration" ∧ a = [.int (p : Int)] ∧ F1 = F ∧ H1 = (L, .ns (mkRho ["scanner", "text", "at"] [.ref g, .str T, .int (p : Int)] ["fault"])) :: rdH G S M s [] H) hA.frames ?_ ?_
  · refine Ex.mono (P := Un ⟨G, _, A', _, gl02 ag, [], Thr0 _, true⟩ fun _ _ _ _ => False) ((W.sound 40).s (C := ⟨G, _, A', _, gl02 ag, [], Thr0 _, true⟩) ⟨ok.kind, ok.glob, ok.blt, ok.dbg, noted_thr hA.frames, ok.hd, ok.gls, ok.fls⟩ ?_) (fun _ _ _ q => by obtain ⟨_, _, _, _, q⟩ := q; exact q.elim) fun _ _ _ e => e
    refine ⟨hO.ok, (scan_outer (P := fun x c a b F1 H1 => c = "StopIteration" ∧ a = [.int (p : Int)] ∧ F1 = F ∧ H1 = rdH G S M s [] H) hO hr.ok (hA.less (by lia)) fun env A2 hD => ?_).mono (Q := fun _ _ _ => False) (fun _ _ _ q => q.elim) fun e F2 H2 q => Thr0.up (q.mono fun x c a b F1 H1 q => ⟨q.1, q.2.1, q.2.2.1, by rw [q.2.2.2]⟩)⟩
    obtain ⟨mb, hs⟩ := hr.scan
    refine scan hs ((hA.deep hD).less (by lia)) hT bt hch ?_
    rw [hl]
    exact fun x b => ⟨_, _, .tl .hd, memK_ok hm, rfl, rfl, rfl, rfl⟩
  · rintro x c a t b F1 H1 ⟨rfl, rfl, rfl, rfl⟩
    refine Hd.drpQ (Hd.no (Hd_as hA.frames bt.s0 bt.s1 cat_ss ?_))
    refine .mk (.tl (.tl .hd)) (stR_set rfl) ?_
    refine Ex_cons (Ex_Return (Ev_Compare1 ?_))
    refine Ev_Call' (Ev_gl hgr .mk) .blt (Evs_cons' (Ev_Attribute' (Ev_local (.tl (.tl .hd)) (lkR_lk rfl) .mk) (get_stop (args := [.int (p : Int)]) .hd trivial .mk)) Evs_nil') (repr_i hpn ?_)
    refine Ev_Call' (Ev_gl hgr .mk) .blt (Evs_cons' (Ev_local (.tl (.tl .hd)) (lkR_lk rfl) .mk) Evs_nil') (repr_i hpn (eq_ss ?_))
    rw [beq_self_eq_true]
    refine Unb.mk (.tl (.tl .hd)) (.tl (.tl (.tl .hd))) ⟨_, Drp.two (a := x) (b := t) .hd (by intro _ q; cases q) .hd (by intro _ q; cases q), ?_⟩
    exact ⟨_, _, rfl, ok, h⟩
noncomputable def noB : List Str := ["-", "-.5", "+1", ".5", "E5", "٧", "-٧"]
noncomputable def wdB : List Str := ["null", "true", "false", "NaN", "Infinity", "-Infinity"]
noncomputable def spW (w : Str) (k : Nat) : Str := Txt.slice w none (some (1 + (k : Int) * 1)) ++ "?" ++ Txt.slice w (some (1 + (k : Int) * 1 + 1)) none
noncomputable def spL (w : Str) : List Str := Txt.slice w none (some (-1)) :: (List.range (w.length - 1)).map (spW w)
noncomputable def spA : List Str := noB ++ wdB.flatMap spL
noncomputable def isStop : Lx → Bool
  | .stop => true
  | _ => false
theorem isStop_eq {x : Lx} (h : isStop x = true) : x = .stop := by
  cases x with
  | stop => rfl
  | _ => cases h
theorem spA_ok : ∀ h ∈ spA, lexL h.cps.toList = .stop ∧ h.length ≤ 20 ∧ ∃ c, h.cps.toList[0]? = some c := by
  have : ∀ h ∈ spA, isStop (lexL h.cps.toList) = true ∧ h.length ≤ 20 ∧ (h.cps.toList[0]?).isSome = true := by decide +kernel
  exact fun h hh => ⟨isStop_eq (this h hh).1, (this h hh).2.1, Option.isSome_iff_exists.mp (this h hh).2.2⟩
theorem spA_len : spA.length ≤ 100 := by decide +kernel
noncomputable def elB : List (Str × Str) := [("0", "1"), ("-0", "7.5"), ("6789", "."), ("-90", "e"), ("7", ".E5"), ("8", "e+"), ("1", "١"), ("0.6789", ".5"), ("9.0", "١"), ("60e02", ".5"), ("7E98761", "١")]
theorem elB_ok : ∀ p ∈ elB, p.1 ∈ nmL ∧ lexL (p.1.cps.toList ++ p.2.cps.toList) = kd p.1 (lfOf p.1) ∧ p.1.length ≤ 10 ∧ p.2.length ≤ 10 := by
  have h1 : ∀ p ∈ elB, p.1 ∈ nmL ∧ p.1.length ≤ 10 ∧ p.2.length ≤ 10 := by decide +kernel
  have h2 : ∀ p ∈ elB, lexL (p.1.cps.toList ++ p.2.cps.toList) = kd p.1 (lfOf p.1) := by
    simp only [elB, List.forall_mem_cons]
    exact ⟨by kernel_rfl, by kernel_rfl, by kernel_rfl, by kernel_rfl, by kernel_rfl, by kernel_rfl, by kernel_rfl, by kernel_rfl, by kernel_rfl, by kernel_rfl, by kernel_rfl, nofun⟩
  exact fun p hp => ⟨(h1 p hp).1, h2 p hp, (h1 p hp).2⟩
theorem wdB_ok : ∀ w ∈ wdB, w.length ≤ 10 ∧ Builtin.Range.small 1 w.length 1 = true ∧ (rngV 1 w.length 1).length = w.length - 1 := by
  have h1 : ∀ w ∈ wdB, w.length ≤ 10 ∧ Builtin.Range.small 1 w.length 1 = true ∧ (Builtin.Range.rangeSize 1 w.length 1).toNat = w.length - 1 := by decide +kernel
  exact fun w hw => ⟨(h1 w hw).1, (h1 w hw).2.1, by unfold rngV; rw [List.length_map, List.length_range]; exact (h1 w hw).2.2⟩
theorem spL_step {k : Nat} {w : Str} (hw : wdB[k]? = some w) (n : Nat) (hn : n = w.length - 1) : (noB ++ (wdB.take k).flatMap spL).map V.str ++ [.str (Txt.slice w none (some (-1)))] ++ (List.range n).map (fun j => V.str (spW w j)) = (noB ++ (wdB.take (k + 1)).flatMap spL).map .str := by
  rw [← take_snoc hw, List.flatMap_append, List.flatMap_singleton, hn, ← List.append_assoc, List.map_append (l₁ := noB ++ _), List.append_assoc]
  congr 1
  unfold spL
  rw [List.map_cons, List.map_map]
  rfl
theorem behind (x t : Str) : (x ++ " " ++ t).cps.toList.drop (x.length + 1) = t.cps.toList := by
  rw [cps_app, cps_app]
  have : (x.cps.toList ++ (Str.ofString " ").cps.toList).length = x.length + 1 := by rw [List.length_append]; show x.cps.toList.length + 1 = x.cps.size + 1; rw [Array.length_toList]
  rw [← this, List.drop_left]
theorem sp_len (k : Nat) : ((noB ++ (wdB.take k).flatMap spL).map V.str).length ≤ 100 := by
  rw [List.length_map]
  refine Nat.le_trans ?_ spA_len
  show _ ≤ (noB ++ wdB.flatMap spL).length
  rw [List.length_append, List.length_append]
  refine Nat.add_le_add_left ?_ _
  conv => rhs; rw [← List.take_append_drop k wdB, List.flatMap_append, List.length_append]
  exact Nat.le_add_right _ _
theorem sp_all : noB ++ (wdB.take wdB.length).flatMap spL = spA := by rw [List.take_length]; rfl
theorem behind2 (x t r : Str) : (x ++ " " ++ t ++ r).cps.toList.drop (x.length + 1) = t.cps.toList ++ r.cps.toList := by
  rw [cps_app, cps_app, cps_app, List.append_assoc]
  have : (x.cps.toList ++ (Str.ofString " ").cps.toList).length = x.length + 1 := by rw [List.length_append]; show x.cps.toList.length + 1 = x.cps.size + 1; rw [Array.length_toList]
  rw [← this, List.drop_left]
end
noncomputable def Fo.drop : Nat → Fo → Fo
  | 0, x => x
  | k + 1, x => x.rest.drop k
noncomputable def Fo.take : Nat → Fo → Fo
  | 0, _ => .nil
  | _ + 1, .nil => .nil
  | k + 1, .leaf t r => .leaf t (r.take k)
  | k + 1, .box b i r => .box b i (r.take k)
noncomputable def Fo.one (x : Fo) : Fo := x.take 1
theorem rest_drop : ∀ (k : Nat) (x : Fo), (x.drop k).rest = x.drop (k + 1)
  | 0, _ => rfl
  | k + 1, x => rest_drop k x.rest
theorem foV_rest : ∀ x : Fo, foV x.rest = (foV x).drop 1
  | .nil => rfl
  | .leaf _ _ => rfl
  | .box _ _ _ => rfl
theorem foV_drop : ∀ (k : Nat) (x : Fo), foV (x.drop k) = (foV x).drop k
  | 0, _ => rfl
  | k + 1, x => by
    show foV (x.rest.drop k) = _
    rw [foV_drop k, foV_rest, List.drop_drop, Nat.add_comm]
theorem foV_take : ∀ (k : Nat) (x : Fo), foV (x.take k) = (foV x).take k
  | 0, _ => rfl
  | _ + 1, .nil => rfl
  | k + 1, .leaf t r => congrArg (V.str t :: ·) (foV_take k r)
  | k + 1, .box b i r => congrArg (V.tup [.str (kdS b), .lst (foV i)] :: ·) (foV_take k r)
theorem tlF_cut : ∀ (k : Nat) (x : Fo), tlF x = tlF (x.take k) ++ tlF (x.drop k)
  | 0, _ => rfl
  | k + 1, .nil => by
    show [] = [] ++ tlF (Fo.nil.rest.drop k)
    have : ∀ k, Fo.nil.drop k = .nil := fun k => by induction k with | zero => rfl | succ k ih => exact ih
    rw [show Fo.nil.rest = .nil from rfl, this]
    rfl
  | k + 1, .leaf t r => by
    show 32 :: (t.cps.toList ++ tlF r) = 32 :: (t.cps.toList ++ tlF (r.take k)) ++ tlF (r.drop k)
    rw [tlF_cut k r, List.cons_append, List.append_assoc]
  | k + 1, .box b i r => by
    show 32 :: opC b :: ((tlF i).tail ++ clC b :: tlF r) = 32 :: opC b :: ((tlF i).tail ++ clC b :: tlF (r.take k)) ++ tlF (r.drop k)
    rw [tlF_cut k r, List.cons_append, List.cons_append, List.append_assoc]
    rfl
theorem ok_drop : ∀ (k : Nat) {x : Fo} {d : Nat}, x.ok d → (x.drop k).ok d
  | 0, _, _, h => h
  | k + 1, _, _, h => ok_drop k (rest_ok h)
theorem ok_take : ∀ (k : Nat) {x : Fo} {d : Nat}, x.ok d → (x.take k).ok d
  | 0, _, d, _ => by cases d <;> trivial
  | _ + 1, .nil, d, _ => by cases d <;> trivial
  | k + 1, .leaf t r, 0, h => ⟨h.1, ok_take k h.2⟩
  | k + 1, .leaf t r, _ + 1, h => ⟨h.1, ok_take k h.2⟩
  | k + 1, .box b i r, 0, h => h.elim
  | k + 1, .box b i r, _ + 1, h => ⟨h.1, ok_take k h.2⟩
theorem size_rest : ∀ x : Fo, x.rest.size ≤ x.size
  | .nil => Nat.le_refl _
  | .leaf _ _ => Nat.le_succ _
  | .box _ i r => by show r.size ≤ i.size + r.size + 1; lia
theorem size_drop : ∀ (k : Nat) (x : Fo), (x.drop k).size ≤ x.size
  | 0, _ => Nat.le_refl _
  | k + 1, x => Nat.le_trans (size_drop k x.rest) (size_rest x)
theorem size_take : ∀ (k : Nat) (x : Fo), (x.take k).size ≤ x.size
  | 0, _ => Nat.zero_le _
  | _ + 1, .nil => Nat.le_refl _
  | k + 1, .leaf t r => Nat.succ_le_succ (size_take k r)
  | k + 1, .box b i r => by have := size_take k r; show i.size + (r.take k).size + 1 ≤ i.size + r.size + 1; lia
theorem some_at {x : Fo} {k : Nat} {y : V} (h : (foV x)[k]? = some y) : (x.drop k).some? ∧ foV (x.drop k).one = [y] := by
  have e := foV_drop k x
  have h0 : (foV (x.drop k))[0]? = some y := by rw [e, List.getElem?_drop]; exact h
  generalize x.drop k = r at h0
  cases r with
  | nil => cases h0
  | leaf t r => cases h0; exact ⟨trivial, rfl⟩
  | box b i r => cases h0; exact ⟨trivial, rfl⟩
theorem fW_one {x : Fo} (h : x.some?) (s m : List Int) : fW x.one s m = ([(ndW x s m).1], (ndW x s m).2) := by
  cases x with
  | nil => exact h.elim
  | leaf => rfl
  | box => rfl
theorem cost_one {x : Fo} (h : x.some?) : cost x.one = ndCost x := by
  cases x with
  | nil => exact h.elim
  | leaf => rfl
  | box => rfl
theorem tlF_one {x : Fo} (h : x.some?) : tlF x = 32 :: cpF x := (tlF_or x).elim (fun q => by rw [q.1] at h; exact h.elim) (·.2)
noncomputable def atF (x : Fo) (k : Nat) : Nat := (tlF (x.take k)).length
theorem at_drop {x : Fo} {k : Nat} (h : (x.drop k).some?) : (cpF x).drop (atF x k) = cpF (x.drop k) := by
  have e := tlF_cut k x
  unfold cpF
  rw [e, ← List.drop_one, List.drop_drop, Nat.add_comm, ← List.drop_drop]
  show ((tlF (x.take k) ++ tlF (x.drop k)).drop (tlF (x.take k)).length).drop 1 = _
  rw [List.drop_left, List.drop_one]
theorem take_succ {x : Fo} {k : Nat} (h : (x.drop k).some?) : tlF (x.take (k + 1)) = tlF (x.take k) ++ 32 :: ndC (x.drop k) := by
  have e1 := tlF_cut k x
  have e2 := tlF_cut (k + 1) x
  have e3 : tlF (x.drop k) = (32 :: ndC (x.drop k)) ++ tlF (x.drop (k + 1)) := by rw [tlF_one h, cpF_nd, rest_drop]; rfl
  rw [e3, ← List.append_assoc] at e1
  exact List.append_cancel_right (e2.symm.trans e1)
theorem at_succ {x : Fo} {k : Nat} (h : (x.drop k).some?) : atF x (k + 1) = atF x k + (ndC (x.drop k)).length + 1 := by
  unfold atF
  rw [take_succ h, List.length_append, List.length_cons]
  lia
theorem place_at {x : Fo} {k : Nat} (h : (x.drop k).some?) : (cpF (x.take (k + 1))).length = atF x k + (ndC (x.drop k)).length := by
  unfold cpF atF
  rw [take_succ h, List.length_tail, List.length_append, List.length_cons]
  lia
theorem at_end {x : Fo} (h : x.some?) : atF x (foV x).length = (cpF x).length + 1 := by
  have e := tlF_cut (foV x).length x
  have : x.drop (foV x).length = .nil := by
    have := foV_drop (foV x).length x
    rw [List.drop_length] at this
    generalize x.drop (foV x).length = r at this
    cases r with
    | nil => rfl
    | leaf => cases this
    | box => cases this
  rw [this] at e
  unfold atF
  rw [show tlF (x.take (foV x).length) = tlF x by rw [e]; exact (List.append_nil _).symm, tlF_one h, List.length_cons]
theorem nd_runB {B d : Nat} {x : Fo} (hB : B ≤ 150) (h : x.some?) (ho : x.ok d) {s m : List Int} {k : Nat} (hs : Bd s k) (hm : Bm m) (h1 : s.length + ndCost x ≤ B) (h2 : m.length + ndCost x ≤ B) (h3 : k + ndCost x ≤ B) :
    Bd (ndW x s m).2.1 (k + ndCost x) ∧ Bm (ndW x s m).2.2 ∧ Rq (ndW x s m).1 ((B + 40) * ndCost x) (2 + 2 * d) := by
  have ho1 : x.one.ok d := ok_take 1 ho
  have := (fW_runB hB d x.one ho1).run s m k hs hm (by rw [cost_one h]; exact h1) (by rw [cost_one h]; exact h2) (by rw [cost_one h]; exact h3)
  rw [fW_one h, cost_one h] at this
  refine ⟨this.1, this.2.1, ?_⟩
  obtain ⟨ds, g1, g2, g3, g4, g5⟩ := this.2.2
  cases g1 with
  | cons q1 q2 =>
    rename_i d1 ds1
    exact ⟨d1, q1, and_l g2, and_l g3, Nat.le_trans (by show d1.bulk ≤ d1.bulk + 1 + PyData.bulkAll ds1; lia) g4, Nat.le_trans (Nat.le_max_left _ _) g5⟩
structure NdK (X : Fo) (k : Nat) (s m : List Int) (b : Nat) : Prop where
  x : (X.drop k).some?
  ok : (X.drop k).ok 2
  tx : (txF X).cps.size ≤ 1000
  dr : (txF X).cps.toList.drop (atF X k) = ndC (X.drop k) ++ tlF (X.drop k).rest
  fol : Fol (tlF (X.drop k).rest)
  sz : (X.drop k).size ≤ 100
  hs : s.length + ndCost (X.drop k) ≤ 100000
  hm : m.length + ndCost (X.drop k) ≤ 100000
  m2 : (ndW (X.drop k) s m).2.2.length ≤ 100000
  o1 : (X.drop k).one.size ≤ 100
  o2 : s.length + cost (X.drop k).one ≤ 100000
  o3 : m.length + cost (X.drop k).one ≤ 100000
  ts : (X.take (k + 1)).size ≤ 100
  tl : (txF (X.take (k + 1))).length = atF X k + (ndC (X.drop k)).length
  tz : (txF (X.take (k + 1))).length < 2 ^ 63
  rq : Rq (.tup [(ndW (X.drop k) s m).1, .int ((atF X k + (ndC (X.drop k)).length : Nat) : Int)]) 30000 8
  nx : ∃ b', Bd (ndW (X.drop k) s m).2.1 b' ∧ (ndW (X.drop k) s m).2.1.length + cost (X.drop (k + 1)) ≤ 130 ∧ b' + cost (X.drop (k + 1)) ≤ 130
theorem txF_l (x : Fo) : (txF x).cps.toList = cpF x := by simp [txF]
theorem txF_len (x : Fo) : (txF x).length = (cpF x).length := by show (cpF x).toArray.size = _; simp
theorem val_rq {v : V} {p bk : Nat} (h : Rq v bk 6) (hb : bk ≤ 29000) (hp : p ≤ 1000000) : Rq (.tup [v, .int (p : Int)]) 30000 8 :=
  (Rq.tup (.cons (b1 := bk) (b2 := 1) h (.cons (b1 := 0) (b2 := 0) (.num (num_ten hp)) .nil (by decide)) (Nat.le_refl _))).mono (by lia) (by decide)
theorem nd_k {X : Fo} {k : Nat} {s m : List Int} {b : Nat} {y : V} (hok : X.ok 2) (hsz : X.size ≤ 15) (hy : (foV X)[k]? = some y) (hb : Bd s b) (hm : Bm m) (hml : m.length ≤ 1) (h1 : s.length + cost (X.drop k) ≤ 130) (h2 : b + cost (X.drop k) ≤ 130) : NdK X k s m b := by
  obtain ⟨hx, -⟩ := some_at hy
  have ho := ok_drop k hok
  have hc := cost_nd (X.drop k)
  rw [rest_drop] at hc
  have hg := ndW_gr (X.drop k) s m
  have hs2 := size_drop k X
  have hs3 := size_take 1 (X.drop k)
  have hs4 := size_take (k + 1) X
  have hcl := cpF_len hok
  have hcl2 := cpF_len (ok_take (k + 1) hok)
  have hpl := place_at hx
  have htl := txF_len (X.take (k + 1))
  have hc1 := cost_one hx
  have hlen : (txF X).cps.size = (cpF X).length := txF_len X
  obtain ⟨r1, r2, r3⟩ := nd_runB (B := 150) (Nat.le_refl _) hx ho hb hm (by lia) (by lia) (by lia)
  refine ⟨hx, ho, by lia, ?_, ?_, by lia, by lia, by lia, by lia, ?_, by lia, by lia, by lia, by lia, by lia, ?_, ⟨_, r1, by lia, by lia⟩⟩
  · rw [txF_l, at_drop hx, cpF_nd]
  · rcases tlF_or (X.drop k).rest with ⟨_, q⟩ | ⟨_, q⟩
    · exact .inl q
    · exact .inr ⟨_, _, q, .inl rfl⟩
  · exact Nat.le_trans hs3 (by lia)
  · exact val_rq (r3.mono (Nat.le_refl _) (by decide)) (by lia) (by lia)
structure Gl2 (G : Glob) (F : Fz) (ag : Nat → Addr) (cC cK PC PK pat : Addr) : Prop where
  gl : Gl G F ag
  f5 : IsDef F (stm 5) (ag 5)
  f6 : IsDef F (stm 6) (ag 6)
  f7 : IsDef F (stm 7) (ag 7)
  f8 : IsDef F (stm 8) (ag 8)
  f9 : IsDefC F (stm 9) (ag 9) cC
  f10 : IsDef F (stm 10) (ag 10)
  f11 : IsDef F (stm 11) (ag 11)
  f3 : IsDefC F (stm 3) (ag 3) cK
  kC : CodeOk F cC PC
  bC : BOk G PC
  kK : CodeOk F cK PK
  bK : BOk G PK
  nre : G.mg (Str.ofString "NUMBER_RE") = some (.ref pat)
  patF : PatF F pat
  bt : BtS G
noncomputable def ag02 (n : Nat) : Addr := if n = 3 then 43 else 15 + 7 * n
theorem gl_of {G : Glob} {F : Fz} {ag : Nat → Addr} (h0 : GlIs G F "len" (.blt "len")) (h1 : GlIs G F "int" (.typ "int")) (h2 : GlIs G F "max" (.blt "max")) (h3 : GlIs G F "min" (.blt "min")) (h4 : GlIs G F "_law_walk" (.ref (ag 10))) (h5 : GlIs G F "_law_close" (.ref (ag 8))) (h6 : GlIs G F "range" (.typ "range")) (h7 : GlIs G F "repr" (.blt "repr")) (h8 : GlIs G F "isinstance" (.blt "isinstance")) (h9 : GlIs G F "str" (.typ "str")) (h10 : GlIs G F "list" (.typ "list")) (h11 : GlIs G F "sum" (.blt "sum")) (h12 : GlIs G F "divmod" (.blt "divmod")) (h13 : GlIs G F "_law_write" (.ref (ag 7))) (h14 : GlIs G F "_law_refused" (.ref (ag 11))) (h15 : GlIs G F "_law_figures" (.ref (ag 5))) (h16 : GlIs G F "_law_tree" (.ref (ag 6))) (h17 : GlIs G F "_law_context" (.ref (ag 9))) (h18 : GlIs G F "py_make_scanner" (.ref (ag 3))) (h19 : GlIs G F "Exception" (.typ "Exception")) : Gl G F ag := by
  simp only [Gl, gl02, List.forall_mem_cons]
  exact ⟨h0, h1, h2, h3, h4, h5, h6, h7, h8, h9, h10, h11, h12, h13, h14, h15, h16, h17, h18, h19, nofun⟩
noncomputable def dT : Str := "\"d\""
structure LwR where
  script : V
  X : Fo
  S : Addr
  M : Addr
  x : Addr
  g : Addr
noncomputable def lwR (c : LwR) (left : List Int) (p : Nat) (g : Nat → Option V) : Rho := [("script", some c.script), ("tree", some (.lst (foV c.X))), ("text", some (.str (txF c.X))), ("stack", some (.ref c.S)), ("left", some (.lst (left.map .int))), ("context", some (.ref c.x)), ("memo", some (.ref c.M)), ("scanner", some (.ref c.g)), ("at", some (.int (p : Int))), ("k", g 0), ("value", g 1), ("awaited", g 2), ("place", g 3), ("spoiled", g 4), ("half", g 5), ("whole", g 6), ("rest", g 7), ("given", g 8)]
noncomputable def lwH (cw PC PK x D : Addr) (o : Option V) (l1 l2 : List (Nat × Nat × Addr)) (ρ : List (Str × V)) : Hp := (cw, .cell o) :: (PC, .raw (tabObj (tabOf l1))) :: (PK, .raw (tabObj (tabOf l2))) :: (x, .exc "Exception" [] none (some D) true) :: (D, .attrs ρ) :: []
theorem law02 {G : Glob} {A : Around} {F : Fz} {ag : Nat → Addr} {a cC cK PC PK pat : Addr} {fr : List Env} (h2 : Gl2 G F ag cC cK PC PK pat) (hf : IsDef F (stm 12) a) (hA : Ok fr A 40) (zs : List Int) {Q : V → Fz → Hp → Prop}
    (h : ∀ F1 H1, (∃ l, (PC, AO.raw (tabObj (tabOf l))) ∈ H1) → (∃ l, (PK, AO.raw (tabObj (tabOf l))) ∈ H1) → Q (.bool true) F1 H1) {R : Hp} {s : Shared} (hR : Rep G fr F ([(PC, .raw (tabObj (tabOf []))), (PK, .raw (tabObj (tabOf [])))] ++ R) s) {xs : List Value} (hxs : RVs F xs [.lst (zs.map .int)]) :
    codeAny G.M A (.call (.ref a) ⟨xs, []⟩) (fun r s' => match r with | .ok (.ret v) => PQ G fr F R (VQ Q) v s' | .ok _ => False | .error e => PQ G fr F R (fun e => Dn (No e)) e s') s := by
  obtain ⟨c, st, o', pm, hst, hf', hd, hc⟩ := id hf
  obtain rfl := Option.some.inj hst.symm
  have hg := h2.gl
  refine def_code hg hf' hd hc hA [true] ["script"] ["tree", "text", "stack", "left", "context", "memo", "scanner", "at", "k", "value", "awaited", "place", "spoiled", "half", "whole", "rest", "given"] ["word"] rfl (by decide +kernel) (fun vs hv => by obtain ⟨a, rfl⟩ := len1 hv; rfl) (by rfl) (by rfl) (fun n => rfl) (by decide) (by rfl) rfl (fun L cs A' hcs hA ok => ?_) hxs hR
  clear hR hxs
  obtain ⟨cw, rfl⟩ := len1 hcs
  refine ⟨h2.f6.ok, h2.f5.ok, figs hg h2.f5 (hA.less (by decide)) zs 20 14 (by decide) (by decide) (by decide) fun fs hfs => ⟨ok, tree hg h2.f6 (hA.less (by decide)) fs hfs fun fo hfo hsz => ⟨ok, ?_⟩⟩⟩
  obtain ⟨X, hX, hok, hsz, hsome⟩ : ∃ X : Fo, foV fo ++ [V.str dT] = foV X ∧ X.ok 2 ∧ X.size ≤ 15 ∧ X.some? := by
    refine ⟨fo.app (.leaf dT .nil), (foV_app fo (.leaf dT .nil)).symm, Fo.ok_app hfo ⟨by decide +kernel, trivial⟩, by rw [Fo.size_app]; show fo.size + 1 ≤ 15; lia, ?_⟩
    cases fo <;> trivial
  have hXl : (foV X).length ≤ 15 := Nat.le_trans (foV_len X) hsz
  refine .frz (szl rfl) (add_lst .lst .lst (by rw [← List.length_append]; show (foV fo ++ [V.str dT]).length ≤ _; rw [hX]; exact line_le (Nat.le_trans hXl (by decide)) (Nat.le_refl _)) ⟨ok, ?_⟩)
  rw [show foV fo ++ [V.str (Str.ofString "\"d\"")] = foV X from hX]
  refine ⟨h2.f7.ok, write hg h2.f7 2 X hok (by lia) (hA.less (by decide)) ⟨ok, ?_⟩⟩
  refine .own (szl rfl) fun S => ?_
  refine .frz (szl rfl) ?_
  refine ⟨h2.f9.ok, Cl.perm (H := (PC, .raw (tabObj (tabOf []))) :: (S, .list ([1, 2].map .int)) :: (cw, .cell none) :: (PK, .raw (tabObj (tabOf []))) :: []) (Rem.perm (.tl (.tl .hd))) (context hg h2.f9 h2.kC h2.bC (hA.less (by decide)) fun F1 x D M po pa ps pi pf pc o l1 ρ le1 hctx hM hρ => ⟨ok.mono le1, ?_⟩)⟩
  have ok := ok.mono le1
  refine get_exc (c := "") (.tl .hd) (.tl (.tl .hd)) (hρ x).mm trivial nl10 ⟨ok, ?_⟩
  refine ⟨(h2.f3.mono le1).ok, Cl.permQ (Cl.perm (H := (PK, .raw (tabObj (tabOf []))) :: (x, .exc "Exception" [] none (some D) true) :: (D, .attrs ρ) :: (PC, .raw (tabObj (tabOf l1))) :: (M, .dict []) :: (S, .list ([1, 2].map .int)) :: (cw, .cell none) :: []) ((Rem.perm (.tl (.tl (.tl (.tl (.tl (.tl .hd))))))).trans (.cons _ ((Rem.perm (.tl .hd)).trans (.cons _ (Rem.perm (.tl .hd))))))
    (make (m := M) (h2.f3.mono le1) (h2.kK.mono le1) h2.bK (hA.less (by decide)) h2.nre (h2.patF.mono le1) (hρ x) rfl ⟨trivial, trivial, trivial, trivial, trivial, trivial, trivial, trivial, trivial⟩ ⟨hctx.o.ok, hctx.a.ok, hctx.s.ok, hctx.f.ok, hctx.i.ok, hctx.c.ok⟩ rfl fun F2 g f mb l2 le2 hO hS => ⟨rdH G S M [1, 2] [] (lwH cw PC PK x D none l1 l2 ρ), ?_, ok.mono le2, ?_⟩))⟩
  · exact (Rem.perm (.tl (.tl (.tl (.tl (.tl .hd)))))).trans (.cons _ ((Rem.perm (.tl (.tl (.tl (.tl .hd))))).trans (.cons _ ((Rem.perm (.tl (.tl (.tl (.tl .hd))))).trans (.cons _ (Rem.perm (.tl (.tl (.tl .hd)))))))))
  have ok := ok.mono le2
  have le := le1.trans le2
  have hr : RdF F2 S M f po pa ps pi pf pc o := ⟨hctx.mono le2, ⟨mb, hS⟩, hM⟩
  have hg := hg.mono le
  have f7 := h2.f7.mono le
  have f8 := h2.f8.mono le
  have f10 := h2.f10.mono le
  have f11 := h2.f11.mono le
  refine len_lst .lst (by lia) ⟨ok, range1 ⟨ok, ?_⟩⟩
  have hrl : (rngV 0 (foV X).length 1).length = (foV X).length := by rw [rngV_n, List.length_map, List.length_range]
  refine ForW.s3 ok (iter_rng hA.handled (small_n (Nat.lt_of_le_of_lt hXl (by decide)))) (fun (s : List Int) (k : Nat) (gg : Nat → Option V) => lwR ⟨.lst (zs.map .int), X, S, M, x, g⟩ s (atF X k) gg) (fun s _ _ => rdH G S M s [] (lwH cw PC PK x D none l1 l2 ρ)) (fun k s k' _ => k' = k ∧ ∃ b, Bd s b ∧ s.length + cost (X.drop k) ≤ 130 ∧ b + cost (X.drop k) ≤ 130) (z1 := [1, 2]) (z2 := 0) (z3 := gh []) ?_ ?_ ?_
  · have := cost_le hok
    refine ⟨rfl, 0, (Bd.one (z := 1) (by decide)).app (.one (z := 2) (by decide)), ?_, ?_⟩
    · show 2 + cost X ≤ 130
      lia
    · show 0 + cost X ≤ 130
      lia
  · rintro _ y s k gg hy ⟨rfl, b, hb, hc1, hc2⟩ Qn hn
    have hk : k < (foV X).length := hrl ▸ (List.getElem?_eq_some_iff.mp hy).1
    obtain rfl : y = .int (k : Nat) := by
      rw [rngV_n, List.getElem?_map, List.getElem?_range hk] at hy
      cases hy; rfl
    obtain ⟨y0, hy0⟩ : ∃ y0, (foV X)[k]? = some y0 := ⟨_, List.getElem?_eq_getElem hk⟩
    have hone := (some_at hy0).2
    have K := nd_k (m := [-1 - (k : Int)]) hok hsz hy0 hb (fun z hz => by rw [List.mem_singleton.mp hz]; exact Nat.le_trans (Int.natAbs_sub_le _ _) (show 1 + k ≤ 1000000 from by rw [Nat.add_comm]; exact Nat.le_trans hk (Nat.le_trans hXl (by decide)))) (Nat.le_refl _) hc1 hc2
    have hx := K.x
    clear hc1 hc2 hb hy
    refine set_dict (kd := kInt G) (k := 0) (l := memD []) .nil (H' := rdH G S M s [-1 - (k : Int)] _) (.tl .hd) (by decide) ⟨ok, ?_⟩
    refine ⟨hO.ok, outer_ok (m := [-1 - (k : Int)]) (v := (ndW (X.drop k) s [-1 - (k : Int)]).1) (e := ((atF X k + (ndC (X.drop k)).length : Nat) : Int)) (s2 := (ndW (X.drop k) s [-1 - (k : Int)]).2.1) (m2 := (ndW (X.drop k) s [-1 - (k : Int)]).2.2) hO hr (hA.less (by decide)) K.m2 (fun env A2 Q2 E2 hD q => node hg f8 hr h2.bt (Nat.le_trans K.tx (by decide)) 2 (fun e _ => once hg f8 hr h2.bt (Nat.le_trans K.tx (by decide)) e) (X.drop k) hx K.ok K.sz K.dr K.fol K.hs K.hm ((hA.deep hD).less (by decide)) q) ⟨ok, ?_⟩⟩
    refine ⟨f10.ok, sub_lst .lst (Int.natCast_nonneg _) (by lia) (by rw [Int.toNat_natCast]; exact hy0) ⟨ok, .frz (szl rfl) (.own (szl rfl) fun met => Cl.drpQ ?_)⟩⟩
    rw [← hone]
    refine walk hg f10 2 (X.drop k).one (m := [-1 - (k : Int)]) (ok_take 1 K.ok) K.o1 K.o2 K.o3 (hA.less (by decide)) ?_
    rw [fW_one hx]
    refine ⟨_, Drp.one .hd (fun _ e => nomatch e), ok, ?_⟩
    refine ⟨f7.ok, .lst (foV X) .lst (line_le hXl (by decide)) (fun e => nomatch e) ?_⟩
    rw [show (k : Int) + 1 = ((k + 1 : Nat) : Int) from rfl, slV_first hk, ← foV_take]
    refine write hg f7 2 (X.take (k + 1)) (ok_take _ hok) K.ts (hA.less (by decide)) ⟨ok, len_s K.tz ⟨ok, ?_⟩⟩
    rw [K.tl]
    refine .run (repr_rq (l := [_, _]) K.rq (by decide) hA.guards (Nat.lt_of_lt_of_le (Nat.add_lt_add_left (by decide) _) (Nat.le_of_lt hA.units)) fun t ht => ⟨ok, ?_⟩)
    refine sub_lst (i := 0) .lst (by decide) (by decide) rfl ⟨ok, repr_rq (l := [_, _]) K.rq (by decide) hA.guards (Nat.lt_of_lt_of_le (Nat.add_lt_add_left (by decide) _) (Nat.le_of_lt hA.units)) fun t2 ht2 => ⟨ok, ?_⟩⟩
    obtain rfl : t = t2 := by
      obtain ⟨d, hd, _⟩ := K.rq
      exact (ht d hd).symm.trans (ht2 d hd)
    refine bifW.no (by simp) ?_
    refine fun d hd => ne_dict0 hM hd (Nat.lt_of_le_of_lt (Nat.le_add_right _ _) hA.units) (.tl .hd) .hd ⟨ok, _, rfl, ?_⟩
    have q := hn (ndW (X.drop k) s [-1 - (k : Int)]).2.1 (k + 1) (gh [some (.int (k : Nat)), some (ndW (X.drop k) s [-1 - (k : Int)]).1, some (.lst [(ndW (X.drop k) s [-1 - (k : Int)]).1]), some (.int ((atF X k + (ndC (X.drop k)).length : Nat) : Int)), gg 4, gg 5, gg 6, gg 7, gg 8]) ⟨rfl, K.nx⟩
    rw [at_succ hx] at q
    exact q
  · rintro s k gg ⟨hk, b, hb, hc1, hc2⟩
    rw [hrl] at hk
    subst hk
    have hp : atF X (foV X).length = (txF X).length + 1 := by rw [at_end hsome, txF_len]
    have htx : (txF X).length ≤ 1000 := by have := cpF_len hok; rw [txF_len]; lia
    generalize atF X (foV X).length = p at hp
    have hb2 : b ≤ 130 := Nat.le_trans (Nat.le_add_right _ _) hc2
    have hs2 : s.length ≤ 130 := Nat.le_trans (Nat.le_add_right _ _) hc1
    have hu : A'.units < cLine := Nat.lt_of_le_of_lt (Nat.le_add_right _ _) hA.units
    clear hc1 hc2
    refine .own (szl rfl) fun sp => ?_
    refine .frz (szl rfl) ?_
    refine ForW.s2 ok (l := wdB.map .str) (iter_lst hA.handled) (fun (k : Nat) (o : Option V) => lwR ⟨.lst (zs.map .int), X, S, M, x, g⟩ s p (gh [gg 0, gg 1, gg 2, gg 3, some (.ref sp), gg 5, gg 6, gg 7, gg 8])) (fun k o => (sp, .list ((noB ++ (wdB.take k).flatMap spL).map .str)) :: rdH G S M s [] (lwH cw PC PK x D o l1 l2 ρ)) (fun k k' _ => k' = k) (z1 := 0) (z2 := none) rfl ?_ ?_
    · rintro _ y k o hy rfl Qn hn
      obtain ⟨w, hw, rfl⟩ : ∃ w, wdB[k]? = some w ∧ y = .str w := by
        rw [List.getElem?_map] at hy
        cases e : wdB[k]? with
        | none => rw [e] at hy; cases hy
        | some w => rw [e] at hy; cases hy; exact ⟨w, rfl, rfl⟩
      obtain ⟨w1, w2, w3⟩ := wdB_ok w (List.mem_of_getElem? hw)
      have wz : w.length ≤ sizeLine := line_le w1 (by decide)
      have hl : ((noB ++ (wdB.take k).flatMap spL).map V.str).length ≤ 100 := sp_len k
      refine ⟨cw, o, _, rfl, .tl (.tl (.tl .hd)), ok, ?_⟩
      refine ⟨"list", _, m_append, .list .hd, W_cell ok rfl rfl (.tl (.tl (.tl .hd))) (.str w rfl wz rfl (append .hd (line_le hl (by decide)) ⟨ok, ?_⟩))⟩
      refine W_mapE 40 ["k"] ok rfl (W_cell ok rfl rfl (.tl (.tl (.tl .hd))) (len_s (by lia) ⟨ok, range2 ⟨ok, rngV 1 w.length 1, iter_rng hA.handled w2, by rw [w3]; exact line_le (show _ ≤ 10 by lia) (by decide), fun j => .str (spW w j), W_turn 40 ok rfl ?_, ?_⟩⟩)) (by decide) rfl rfl rfl
      · intro j y a ρ' hy hρ ok
        obtain ⟨o, rfl⟩ : ∃ o, ρ' = [(Str.ofString "k", o)] := by
          obtain ⟨⟨n, o⟩, rfl⟩ := len1 (by simpa using congrArg List.length hρ)
          simp at hρ
          exact ⟨o, by rw [hρ]⟩
        obtain ⟨hj, rfl⟩ := rngV_get hy
        have z1 := Txt.slice_le w none (some (1 + (j : Int) * 1))
        have z2 := Txt.slice_le w (some (1 + (j : Int) * 1 + 1)) none
        refine W_cell ok rfl rfl (.tl (.tl (.tl (.tl .hd)))) (.str w rfl wz rfl (add_ss ?_ ⟨ok, W_cell ok rfl rfl (.tl (.tl (.tl (.tl .hd)))) (.str w rfl wz rfl (add_ss ?_ ⟨ok, rfl, rfl, rfl, rfl⟩))⟩))
        · exact line_le (Nat.add_le_add (Nat.le_trans z1 w1) (Nat.le_of_eq (rfl : (Str.ofString "?").length = 1))) (by decide)
        · rw [strLen_append]
          exact line_le (Nat.add_le_add (Nat.add_le_add (Nat.le_trans z1 w1) (Nat.le_of_eq (rfl : (Str.ofString "?").length = 1))) (Nat.le_trans z2 w1)) (by decide)
      · refine iadd_lst (l := (noB ++ (wdB.take k).flatMap spL).map V.str ++ [.str (Txt.slice w none (some (-1)))]) .hd .lst ?_ ⟨ok, ?_⟩
        · have hr : ((List.range (rngV 1 w.length 1).length).map fun j => V.str (spW w j)).length ≤ 10 := by rw [List.length_map, List.length_range, w3]; exact Nat.le_trans (Nat.sub_le _ _) w1
          rw [List.length_append, List.length_singleton]
          exact line_le (Nat.add_le_add (Nat.succ_le_succ hl) hr) (by decide)
        · rw [spL_step hw _ w3]
          exact hn (k + 1) (some (.str w)) rfl
    · rintro k o hk
      have hk : k = wdB.length := hk
      subst hk
      rw [sp_all]
      have hX2 : X.size ≤ 100 := Nat.le_trans hsz (by decide)
      refine ForW.stf ok (iter_lst hA.handled) (fun ho : Option V => lwR ⟨.lst (zs.map .int), X, S, M, x, g⟩ s p (gh [gg 0, gg 1, gg 2, gg 3, some (.ref sp), ho, gg 6, gg 7, gg 8])) (fun _ => rdH G S M s [] (lwH cw PC PK x D o l1 l2 ρ)) (fun _ _ => True) (gg 5) .hd trivial ?_ ?_
      · rintro k y ho hy - Qn hn
        obtain ⟨t, ht, rfl⟩ := List.mem_map.mp (List.mem_of_getElem? hy)
        obtain ⟨t1, t2, ch, t0⟩ := spA_ok t ht
        have k1 : ((Str.ofString " ").length) = 1 := rfl
        refine set_dict (kd := kInt G) (k := 0) (l := memD []) .nil (H' := rdH G S M s [(p : Int)] _) (.tl .hd) (by decide) ⟨ok, ?_⟩
        refine .run ⟨f11.ok, add_ss (line_le (Nat.add_le_add htx (Nat.le_of_eq k1)) (by decide)) ⟨ok, add_ss (by rw [strLen_append]; exact line_le (Nat.add_le_add (Nat.add_le_add htx (Nat.le_of_eq k1)) t2) (by decide)) ⟨ok, ?_⟩⟩⟩
        refine refused (m := [(p : Int)]) hg f11 h2.bt hO hr (hA.less (by decide)) ?_ (by lia) (show 1 ≤ 100000 by decide) (drop_at (k := 0) (by rw [hp]; exact behind _ _) t0) ?_ ⟨ok, ?_⟩
        · show Str.length (txF X ++ " " ++ t) ≤ 1000000
          rw [strLen_append, strLen_append]
          exact Nat.le_trans (Nat.add_le_add (Nat.add_le_add htx (Nat.le_of_eq k1)) t2) (by decide)
        · rw [hp, behind]
          exact t1
        refine fun d hd => ne_dict0 hM hd hu (.tl .hd) .hd ⟨ok, _, rfl, ?_⟩
        exact hn (some (.str t)) trivial
      · rintro ho -
        refine .frz (szl rfl) ?_
        refine ForW.s2 ok (l := elB.map fun p => .tup [.str p.1, .str p.2]) (iter_lst hA.handled) (fun (s : List Int) (gg : Nat → Option V) => lwR ⟨.lst (zs.map .int), X, S, M, x, g⟩ s p gg) (fun s _ => rdH G S M s [] (lwH cw PC PK x D o l1 l2 ρ)) (fun k s _ => ∃ b, Bd s b ∧ b ≤ 130 + k ∧ s.length ≤ 130 + 2 * k) (z1 := s) (z2 := gh [gg 0, gg 1, gg 2, gg 3, some (.ref sp), ho, gg 6, gg 7, gg 8]) ⟨b, hb, hb2, hs2⟩ ?_ ?_
        · rintro k y s gg hy ⟨b, hb, hb2, hs2⟩ Qn hn
          have hk : k < 11 := (List.getElem?_eq_some_iff.mp hy).1
          obtain ⟨⟨t, r⟩, ht, rfl⟩ := List.mem_map.mp (List.mem_of_getElem? hy)
          obtain ⟨t1, t2, t3, t4⟩ := elB_ok _ ht
          have k1 : ((Str.ofString " ").length) = 1 := rfl
          have z1 : (txF X ++ " ").length ≤ 1001 := by rw [strLen_append]; exact Nat.add_le_add htx (Nat.le_of_eq k1)
          have z2 : (txF X ++ " " ++ t).length ≤ 1011 := by rw [strLen_append]; exact Nat.add_le_add z1 t3
          have z3 : (txF X ++ " " ++ t ++ r).length ≤ 1021 := by rw [strLen_append]; exact Nat.add_le_add z2 t4
          have hdr : (txF X ++ " " ++ t ++ r).cps.toList.drop p = t.cps.toList ++ r.cps.toList := by
            rw [hp]
            exact behind2 _ _ _
          have hL := stL_len t s
          have hB := stL_bd (lf_small t1) hb
          refine set_dict (kd := kInt G) (k := 0) (l := memD []) .nil (H' := rdH G S M s [(p : Int)] _) (.tl .hd) (by decide) ⟨ok, ?_⟩
          refine ⟨hO.ok, add_ss (line_le (Nat.le_trans (Nat.le_of_eq (strLen_append _ _).symm) z1) (by decide)) ⟨ok, add_ss (line_le (Nat.le_trans (Nat.le_of_eq (strLen_append _ _).symm) z2) (by decide)) ⟨ok, add_ss (line_le (Nat.le_trans (Nat.le_of_eq (strLen_append _ _).symm) z3) (by decide)) ⟨ok, ?_⟩⟩⟩⟩
          refine outer_ok (m := [(p : Int)]) (v := vL t (stL (lfOf t) s) (lfOf t)) (e := ((p + t.length : Nat) : Int)) (s2 := stL (lfOf t) s) (m2 := [(p : Int)]) hO hr (hA.less (by decide)) (show 1 ≤ 100000 by decide) (fun env A2 Q2 E2 hD q => read_leaf hg hr h2.bt ((hA.deep hD).less (by decide)) t1 hdr t2 (Nat.le_trans z3 (by decide)) (by lia) q) ⟨ok, ?_⟩
          refine ⟨f10.ok, .frz (szl rfl) (.own (szl rfl) fun met => Cl.drpQ ?_)⟩
          refine walk hg f10 2 (.leaf t .nil) (m := []) ⟨t1, trivial⟩ (show 1 ≤ 100 by decide) (show s.length + 2 ≤ 100000 by lia) (show 0 + 2 ≤ 100000 by decide) (hA.less (by decide)) ?_
          refine ⟨_, Drp.one .hd (fun _ e => nomatch e), ok, ?_⟩
          have hrq : Rq (.tup [vL t (stL (lfOf t) s) (lfOf t), .int ((p + t.length : Nat) : Int)]) 30000 8 := val_rq ((vL_rq t1 hB (by lia) (by lia)).mono (Nat.le_refl _) (by decide)) (by decide) (by lia)
          refine .run (repr_rq hrq (by decide) hA.guards (Nat.lt_of_lt_of_le (Nat.add_lt_add_left (by decide) _) (Nat.le_of_lt hA.units)) fun t3 ht3 => ⟨ok, ?_⟩)
          refine sub_lst (i := 0) .lst (by decide) (by decide) rfl ⟨ok, len_s (by lia) ⟨ok, repr_rq (l := [_, _]) hrq (by decide) hA.guards (Nat.lt_of_lt_of_le (Nat.add_lt_add_left (by decide) _) (Nat.le_of_lt hA.units)) fun t4 ht4 => ⟨ok, ?_⟩⟩⟩
          obtain rfl : t3 = t4 := by
            obtain ⟨d, hd, _⟩ := hrq
            exact (ht3 d hd).symm.trans (ht4 d hd)
          refine bifW.no (by simp) ?_
          refine fun d hd => ne_dict0 hM hd hu (.tl .hd) .hd ⟨ok, _, rfl, ?_⟩
          exact hn (stL (lfOf t) s) (gh [gg 0, gg 1, some (.lst [vL t (stL (lfOf t) s) (lfOf t)]), gg 3, gg 4, gg 5, some (.str t), some (.str r), some (.tup [vL t (stL (lfOf t) s) (lfOf t), .int ((p + t.length : Nat) : Int)])]) ⟨b + 1, hB, by lia, by lia⟩
        · rintro s gg -
          refine .run (eq_ints (.own .hd) .lst hu ⟨ok, _, rfl, ?_⟩)
          exact h _ _ ⟨l1, by simp [rdH, lwH]⟩ ⟨l2, by simp [rdH, lwH]⟩
end Mine


set_option maxRecDepth 100000 in
set_option maxHeartbeats 8000000 in
theorem PySem.Challenge.cw_dm0199_02_holds : PySem.Challenge.rw_dm0199_02.Holds := by
  (w_on; o_law; k_head; (case hw => w_witness2))
  k_fill
  intro w s₀ s₁ mg mb G Y fa o pm cd doc dV kV ho hd hcd hD hmg hg args vals as hpre hlay hrd hwl hlo
  have KX := km_in_of Y
  have hT8 := km_tabs_of Y
  refine Ground.open G ?_
  intro T B D TE TW
  km_lay T hmg ho hd cd
  wrow_args hpre hlay hrd hwl hlo
  rename_i zs _ _ _ _ _ _ _ la vs _ hL _ _ _ hI _ _ _
  have e := Mine.isdef_of (tabs := [(77, 73), (42, 38)]) (a := 97) (c := 96) (st := Mine.stm 12) KX rfl rfl rfl rfl rfl rfl (by decide) (by decide)
  have hfa : fa = 97 := by
    have := mg_of KX T.g (n := Str.ofString "law") (v := .ref 97) (by kernel_rfl)
    rw [show mg (Str.ofString "law") = _ from hmg] at this
    cases this
    rfl
  subst hfa
  have gl : Mine.Gl2 (Mine.topG PySem.Challenge.rw_dm0199_02.row.prog w s₁ [(77, 73), (42, 38)] mg mb) (ghostOf s₁.heap [(77, 73), (42, 38)]).get? Mine.ag02 77 42 73 38 36 := .mk
      (gl := Mine.gl_of
        (.b _ (mg_none_of KX T.g (by kernel_rfl)) ((T.builtins _ (by decide)).trans (by kernel_rfl)) .blt)
        (.b _ (mg_none_of KX T.g (by kernel_rfl)) ((T.builtins _ (by decide)).trans (by kernel_rfl)) .typ)
        (.b _ (mg_none_of KX T.g (by kernel_rfl)) ((T.builtins _ (by decide)).trans (by kernel_rfl)) .blt)
        (.b _ (mg_none_of KX T.g (by kernel_rfl)) ((T.builtins _ (by decide)).trans (by kernel_rfl)) .blt)
        (.g _ (mg_of KX T.g (v := .ref 85) (by kernel_rfl)) .ref)
        (.g _ (mg_of KX T.g (v := .ref 71) (by kernel_rfl)) .ref)
        (.b _ (mg_none_of KX T.g (by kernel_rfl)) ((T.builtins _ (by decide)).trans (by kernel_rfl)) .typ)
        (.b _ (mg_none_of KX T.g (by kernel_rfl)) ((T.builtins _ (by decide)).trans (by kernel_rfl)) .blt)
        (.b _ (mg_none_of KX T.g (by kernel_rfl)) ((T.builtins _ (by decide)).trans (by kernel_rfl)) .blt)
        (.b _ (mg_none_of KX T.g (by kernel_rfl)) ((T.builtins _ (by decide)).trans (by kernel_rfl)) .typ)
        (.b _ (mg_none_of KX T.g (by kernel_rfl)) ((T.builtins _ (by decide)).trans (by kernel_rfl)) .typ)
        (.b _ (mg_none_of KX T.g (by kernel_rfl)) ((T.builtins _ (by decide)).trans (by kernel_rfl)) .blt)
        (.b _ (mg_none_of KX T.g (by kernel_rfl)) ((T.builtins _ (by decide)).trans (by kernel_rfl)) .blt)
        (.g _ (mg_of KX T.g (v := .ref 64) (by kernel_rfl)) .ref)
        (.g _ (mg_of KX T.g (v := .ref 92) (by kernel_rfl)) .ref)
        (.g _ (mg_of KX T.g (v := .ref 50) (by kernel_rfl)) .ref)
        (.g _ (mg_of KX T.g (v := .ref 57) (by kernel_rfl)) .ref)
        (.g _ (mg_of KX T.g (v := .ref 78) (by kernel_rfl)) .ref)
        (.g _ (mg_of KX T.g (v := .ref 43) (by kernel_rfl)) .ref)
        (.b _ (mg_none_of KX T.g (by kernel_rfl)) ((T.builtins _ (by decide)).trans (by kernel_rfl)) .typ))
      (f5 := ⟨49, Mine.isdef_of KX rfl rfl rfl rfl rfl rfl (by decide) (by decide)⟩)
      (f6 := ⟨56, Mine.isdef_of KX rfl rfl rfl rfl rfl rfl (by decide) (by decide)⟩)
      (f7 := ⟨63, Mine.isdef_of KX rfl rfl rfl rfl rfl rfl (by decide) (by decide)⟩)
      (f8 := ⟨70, Mine.isdef_of KX rfl rfl rfl rfl rfl rfl (by decide) (by decide)⟩)
      (f9 := Mine.isdef_of KX rfl rfl rfl rfl rfl rfl (by decide) (by decide))
      (f10 := ⟨84, Mine.isdef_of KX rfl rfl rfl rfl rfl rfl (by decide) (by decide)⟩)
      (f11 := ⟨91, Mine.isdef_of KX rfl rfl rfl rfl rfl rfl (by decide) (by decide)⟩)
      (f3 := Mine.isdef_of KX rfl rfl rfl rfl rfl rfl (by decide) (by decide))
      (kC := Mine.code_of KX hT9 (by kernel_rfl) (by decide))
      (bC := Mine.bok_of KX T hT9 (by decide) ⟨(77, 73), by simp, rfl⟩)
      (kK := Mine.code_of KX hT9 (by kernel_rfl) (by decide))
      (bK := Mine.bok_of KX T hT9 (by decide) ⟨(42, 38), by simp, rfl⟩)
      (nre := mg_of KX T.g (by kernel_rfl))
      (patF := by
      refine ⟨_, _, _, 35, _, _, _, _, Mine.fz_of KX (a := 36) rfl (by decide), rfl, rfl, rfl, rfl, rfl, rfl, Mine.fz_of KX (a := 35) rfl (by decide), rfl, ?_, ?_⟩
      · refine Eq.subst (motive := Mine.Code) (a := Mine.numC) ?_ Mine.code_numC
        kernel_rfl
      · kernel_rfl)
      (bt := ⟨mg_none_of KX T.g (by kernel_rfl), (T.builtins _ (by decide)).trans (by kernel_rfl), mg_none_of KX T.g (by kernel_rfl), (T.builtins _ (by decide)).trans (by kernel_rfl)⟩)
  refine Mine.law_top (tabs := [(77, 73), (42, 38)]) (zs := zs) hT9 (by decide) (fun _ _ => rfl) (by kernel_rfl) hg hL hI (Mine.gok_of T hT9) ?_
  intro R s hR xs hxs
  exact Mine.law02 gl ⟨96, e⟩ ⟨rfl, by decide, by decide, rfl, rfl⟩ zs (fun F1 H1 h1 h2 => ⟨rfl, fun q hq => by
    rcases List.mem_cons.mp hq with rfl | hq
    · obtain ⟨l, h1⟩ := h1
      exact ⟨_, h1⟩
    · rw [List.mem_singleton] at hq
      subst hq
      obtain ⟨l, h2⟩ := h2
      exact ⟨_, h2⟩⟩) hR hxs
