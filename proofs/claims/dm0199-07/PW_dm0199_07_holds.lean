import PyProof.Rows.All
import Wide.All
import OpenK.AllK
import Wide.FinOn
import Lean
import PySem.Challenge.RW_dm0199_07
set_option Elab.async false
set_option maxRecDepth 100000
set_option maxHeartbeats 0
set_option autoImplicit false
set_option linter.all false
section
open PySem PySem.Sre
set_option Elab.async false
set_option maxRecDepth 100000
set_option autoImplicit false
set_option linter.unusedVariables false
namespace Mine
noncomputable def Go (k : Nat) (m : M) (P : M → Prop) : Prop := ∃ n, n ≤ k ∧ (M.runFor n m).outcome.isSome = true ∧ P (M.runFor n m)
theorem Go.step {k : Nat} {m : M} {P : M → Prop} (ho : m.outcome = none) (h : Go k m.step P) : Go (k + 1) m P := by
  obtain ⟨n, hn, h1, h2⟩ := h
  have e : M.runFor (n + 1) m = M.runFor n m.step := by
    show (if m.outcome.isSome then m else M.runFor n m.step) = _
    rw [ho]; rfl
  exact ⟨n + 1, by lia, by rw [e]; exact h1, by rw [e]; exact h2⟩
theorem Go.done {k : Nat} {m : M} {P : M → Prop} (ho : m.outcome.isSome = true) (h : P m) : Go k m P := ⟨0, by lia, ho, h⟩
structure Core where
  pc : Nat
  pos : Nat
  hd : Nat
  marks : Array (Option Nat)
  lm : Int
  li : Int
  loops : Array Loop
  inner : Option Nat
  frames : List Sre.Frame
section
variable (C T : Array Nat) (lim st : Nat)
noncomputable def Core.M (c : Core) (ans : Option Bool) (seen : Seen) (weight : Nat) : Sre.M :=
  { code := C, text := T, lim := lim, start := st, pc := c.pc, pos := c.pos, handed := c.hd, outermost := true, marks := c.marks, lastmark := c.lm, lastindex := c.li, loops := c.loops, inner := c.inner, frames := c.frames, weight := weight, answer := ans, seen := seen }
noncomputable def Run (k : Nat) (c : Core) (P : Sre.M → Prop) : Prop := ∀ seen weight, weight + 7 * k ≤ 1000000 → Go k (c.M C T lim st none seen weight) P
noncomputable def Ans (k : Nat) (c : Core) (b : Bool) (P : Sre.M → Prop) : Prop := ∀ seen weight, weight + 7 * k ≤ 1000000 → Go k (c.M C T lim st (some b) seen weight) P
variable {C T lim st} {k : Nat} {P : Sre.M → Prop}
theorem step_run {c : Core} {seen : Seen} {weight : Nat} (h : c.pc < C.size) : (c.M C T lim st none seen weight).step = (c.M C T lim st none seen weight).exec := by
  have : (c.M C T lim st none seen weight).step = if c.pc < C.size then (c.M C T lim st none seen weight).exec else (c.M C T lim st none seen weight).stick "code:ran-off" := rfl
  rw [this, if_pos h]
theorem lt_of_op {pc : Nat} {o : Op} (h : ops[C.getD pc 0]? = some o) (hn : o ≠ .FAILURE) : pc < C.size := by
  rcases Nat.lt_or_ge pc C.size with q | q
  · exact q
  · have : C.getD pc 0 = 0 := by simp [Array.getD, Nat.not_lt.mpr q]
    rw [this] at h
    exact absurd (Option.some.inj h).symm hn
theorem Run.mark {c : Core} {i : Nat} (h : ops[C.getD c.pc 0]? = some .MARK) (hi : C.getD (c.pc + 1) 0 = i)
    (hk : Run C T lim st k { c with pc := c.pc + 2, marks := (if (i : Int) ≤ c.lm + 1 then c.marks else (List.range i).foldl (fun (a : Array (Option Nat)) (j : Nat) => if (j : Int) > c.lm then a.setIfInBounds j none else a) c.marks).setIfInBounds i (some c.pos), lm := max c.lm i, li := if i % 2 == 1 then (i / 2 + 1 : Nat) else c.li } P) : Run C T lim st (k + 1) c P := fun seen weight hw => by
  refine Go.step rfl ?_
  rw [step_run (lt_of_op h nofun)]
  have e : (c.M C T lim st none seen weight).exec = (c.M C T lim st none (seen.add (C.getD c.pc 0)) weight).mark (C.getD (c.pc + 1) 0) := by
    unfold M.exec
    have h' : ops[(c.M C T lim st none seen weight).word 0]? = some .MARK := h
    rw [h']
    rfl
  rw [e, hi]
  exact hk _ weight (by lia)

structure One (C : Array Nat) (pc w : Nat) (f : Nat → Bool) : Prop where
  acc : ∀ c seen, ∃ seen', accepts C pc c seen = .ok (f c, seen')
  wid : itemWidth C pc = w
  kind : ops[C.getD pc 0]? = some .LITERAL ∨ ops[C.getD pc 0]? = some .IN
theorem Run.one {c : Core} {w : Nat} {f : Nat → Bool} (h : One C c.pc w f)
    (hy : c.pos < lim → f (T.getD c.pos 0) = true → Run C T lim st k { c with pc := c.pc + w, pos := c.pos + 1 } P)
    (hn : (lim ≤ c.pos ∨ f (T.getD c.pos 0) = false) → Ans C T lim st k c false P) : Run C T lim st (k + 1) c P := fun seen weight hw => by
  refine Go.step rfl ?_
  have hlt : c.pc < C.size := by rcases h.kind with q | q <;> exact lt_of_op q nofun
  rw [step_run hlt]
  have e : (c.M C T lim st none seen weight).exec = (let m := c.M C T lim st none (seen.add (C.getD c.pc 0)) weight
      if m.pos ≥ m.lim then m.say false else
      match accepts m.code m.pc (m.text.getD m.pos 0) m.seen with
      | .error why => m.stick why
      | .ok (false, seen) => { m with seen }.say false
      | .ok (true, seen) => { m with seen, pc := m.pc + itemWidth m.code m.pc, pos := m.pos + 1 }) := by
    unfold M.exec
    rcases h.kind with q | q
    · have h' : ops[(c.M C T lim st none seen weight).word 0]? = some .LITERAL := q
      rw [h']; rfl
    · have h' : ops[(c.M C T lim st none seen weight).word 0]? = some .IN := q
      rw [h']; rfl
  rw [e]
  show Go k (if lim ≤ c.pos then _ else _) P
  rcases Nat.lt_or_ge c.pos lim with hp | hp
  · rw [if_neg (by lia)]
    obtain ⟨s', hs'⟩ := h.acc (T.getD c.pos 0) (seen.add (C.getD c.pc 0))
    have hs'' : accepts (c.M C T lim st none (seen.add (C.getD c.pc 0)) weight).code (c.M C T lim st none (seen.add (C.getD c.pc 0)) weight).pc ((c.M C T lim st none (seen.add (C.getD c.pc 0)) weight).text.getD (c.M C T lim st none (seen.add (C.getD c.pc 0)) weight).pos 0) (c.M C T lim st none (seen.add (C.getD c.pc 0)) weight).seen = .ok (f (T.getD c.pos 0), s') := hs'
    rw [hs'']
    cases hf : f (T.getD c.pos 0) with
    | true =>
      have := hy hp hf s' weight (by lia)
      rw [← h.wid] at this
      exact this
    | false => exact hn (.inr hf) s' weight (by lia)
  · rw [if_pos hp]
    exact hn (.inl hp) _ weight (by lia)
noncomputable def many (f : Nat → Bool) (T : Array Nat) : Nat → Nat → Nat
  | 0, _ => 0
  | n + 1, p => if f (T.getD p 0) then 1 + many f T n (p + 1) else 0
theorem run_many {pc w : Nat} {f : Nat → Bool} (h : One C pc w f) : ∀ n p found seen, ∃ seen', Sre.run C T pc n p found seen = .ok (found + many f T n p, seen')
  | 0, p, found, seen => ⟨seen, rfl⟩
  | n + 1, p, found, seen => by
    obtain ⟨s', hs'⟩ := h.acc (T.getD p 0) seen
    have e : Sre.run C T pc (n + 1) p found seen = (do let (yes, seen) ← accepts C pc (T.getD p 0) seen; if yes then Sre.run C T pc n (p + 1) (found + 1) seen else pure (found, seen)) := rfl
    rw [e, hs']
    show ∃ seen', (if f (T.getD p 0) then Sre.run C T pc n (p + 1) (found + 1) s' else pure (found, s')) = _
    unfold many
    cases f (T.getD p 0) with
    | true =>
      obtain ⟨s2, h2⟩ := run_many h n (p + 1) (found + 1) s'
      exact ⟨s2, by simp only [if_true]; rw [h2, Nat.add_assoc]⟩
    | false => exact ⟨s', rfl⟩
noncomputable def Core.kept (c : Core) (whole : Bool) : Sre.Kept := { lastmark := c.lm, lastindex := c.li, whole, marks := if whole then c.marks.extract 0 (c.lm + 1).toNat else #[] }
theorem kept_size {c : Core} {b : Bool} (h : c.marks.size ≤ 6) : (c.kept b).marks.size ≤ 6 := by
  unfold Core.kept
  cases b
  · simp
  · simp [Array.size_extract]; lia
theorem Go.attempt {c : Core} {seen : Seen} {weight : Nat} {f : Sre.Frame} {a p : Nat} (hf : f.kept.marks.size ≤ 6) (hw : weight + 7 * (k + 1) ≤ 1000000) (h : Run C T lim st k { c with frames := f :: c.frames, pc := a, pos := p, hd := p } P) : Go k ((c.M C T lim st none seen weight).attempt f a p true) P := by
  unfold M.attempt
  rw [if_neg]
  · exact h seen (weight + 1 + f.kept.marks.size) (by lia)
  · show ¬ weight + 1 + f.kept.marks.size > 16777216
    lia
theorem Run.rep {c : Core} {w sk lo hi : Nat} {f : Nat → Bool} (h : ops[C.getD c.pc 0]? = some .REPEAT_ONE) (hs : C.getD (c.pc + 1) 0 = sk) (hlo : C.getD (c.pc + 2) 0 = lo) (hhi : C.getD (c.pc + 3) 0 = hi) (ho : One C (c.pc + 4) w f) (hm : c.marks.size ≤ 6)
    (hy : c.pos + lo ≤ lim → ∀ n, n = many f T (min hi (lim - c.pos)) c.pos → lo ≤ n → Run C T lim st k { c with pc := c.pc + 1 + sk, pos := c.pos + n, hd := c.pos + n, frames := { wait := .giveBack, pc := c.pc, pos := c.pos + n, outermost := true, count := n, kept := c.kept c.inner.isSome } :: c.frames } P)
    (hn : (lim < c.pos + lo ∨ many f T (min hi (lim - c.pos)) c.pos < lo) → Ans C T lim st k c false P) : Run C T lim st (k + 1) c P := fun seen weight hw => by
  refine Go.step rfl ?_
  rw [step_run (lt_of_op h nofun)]
  have e : (c.M C T lim st none seen weight).exec = (let m := c.M C T lim st none (seen.add (C.getD c.pc 0)) weight
      if ((C.getD (c.pc + 2) 0 : Nat) : Int) > (lim : Int) - c.pos then m.say false else
      match Sre.run C T (c.pc + 4) (min (C.getD (c.pc + 3) 0) ((lim : Int) - c.pos).toNat) c.pos 0 (m.seen.add (C.getD (c.pc + 4) 0)) with
      | .error why => m.stick why
      | .ok (n, seen) =>
        let m := { m with seen }
        if n < C.getD (c.pc + 2) 0 then m.say false else
        let m := { m with pos := m.pos + n }
        m.afterRun .giveBack n (m.keep m.inner.isSome)) := by
    unfold M.exec
    have h' : ops[(c.M C T lim st none seen weight).word 0]? = some .REPEAT_ONE := h
    rw [h']; rfl
  rw [e, hlo, hhi]
  have er : ((lim : Int) - c.pos).toNat = lim - c.pos := by lia
  rw [er]
  obtain ⟨s', hs'⟩ := run_many (T := T) ho (min hi (lim - c.pos)) c.pos 0 ((seen.add (C.getD c.pc 0)).add (C.getD (c.pc + 4) 0))
  show Go k (if ((lo : Nat) : Int) > (lim : Int) - c.pos then _ else _) P
  rcases Nat.lt_or_ge lim (c.pos + lo) with hp | hp
  · rw [if_pos (by lia)]
    exact hn (.inl hp) _ weight (by lia)
  · rw [if_neg (by lia)]
    have hs'' : Sre.run C T (c.pc + 4) (min hi (lim - c.pos)) c.pos 0 ((c.M C T lim st none (seen.add (C.getD c.pc 0)) weight).seen.add (C.getD (c.pc + 4) 0)) = .ok (0 + many f T (min hi (lim - c.pos)) c.pos, s') := hs'
    rw [hs'', Nat.zero_add]
    show Go k (if many f T (min hi (lim - c.pos)) c.pos < lo then _ else _) P
    rcases Nat.lt_or_ge (many f T (min hi (lim - c.pos)) c.pos) lo with hq | hq
    · rw [if_pos hq]
      exact hn (.inr hq) s' weight (by lia)
    · rw [if_neg (by lia)]
      have := hy hp _ rfl hq
      rw [← hs] at this
      exact Go.attempt (c := { c with pos := c.pos + many f T (min hi (lim - c.pos)) c.pos }) (kept_size hm) hw this
theorem Run.jump {c : Core} {sk : Nat} (h : ops[C.getD c.pc 0]? = some .JUMP) (hs : C.getD (c.pc + 1) 0 = sk) (hk : Run C T lim st k { c with pc := c.pc + 1 + sk } P) : Run C T lim st (k + 1) c P := fun seen weight hw => by
  refine Go.step rfl ?_
  rw [step_run (lt_of_op h nofun)]
  have e : (c.M C T lim st none seen weight).exec = (let m := c.M C T lim st none (seen.add (C.getD c.pc 0)) weight; { m with pc := c.pc + 1 + C.getD (c.pc + 1) 0 }) := by
    unfold M.exec
    have h' : ops[(c.M C T lim st none seen weight).word 0]? = some .JUMP := h
    rw [h']; rfl
  rw [e, hs]
  exact hk _ weight (by lia)
theorem Run.succ {c : Core} (h : ops[C.getD c.pc 0]? = some .SUCCESS) (hk : Ans C T lim st k { c with hd := c.pos } true P) : Run C T lim st (k + 1) c P := fun seen weight hw => by
  refine Go.step rfl ?_
  rw [step_run (lt_of_op h nofun)]
  have e : (c.M C T lim st none seen weight).exec = (let m := c.M C T lim st none (seen.add (C.getD c.pc 0)) weight; { m with handed := c.pos }.say true) := by
    unfold M.exec
    have h' : ops[(c.M C T lim st none seen weight).word 0]? = some .SUCCESS := h
    rw [h']; rfl
  rw [e]
  exact hk _ weight (by lia)
theorem Run.branch {c : Core} {a : Nat} (h : ops[C.getD c.pc 0]? = some .BRANCH) (ha : (C.getD (c.pc + 1) 0 == 0) = false) (hm : c.marks.size ≤ 6)
    (hk : Run C T lim st k { c with frames := { wait := .nextBranch, pc := c.pc + 1, pos := c.pos, outermost := true, kept := c.kept c.inner.isSome } :: c.frames, pc := c.pc + 1 + 1, hd := c.pos } P) : Run C T lim st (k + 1) c P := fun seen weight hw => by
  refine Go.step rfl ?_
  rw [step_run (lt_of_op h nofun)]
  have e : (c.M C T lim st none seen weight).exec = (let m := c.M C T lim st none (seen.add (C.getD c.pc 0)) weight; if C.getD (c.pc + 1) 0 == 0 then m.say false else m.attempt { wait := .nextBranch, pc := c.pc + 1, pos := c.pos, outermost := true, kept := c.kept c.inner.isSome } (c.pc + 1 + 1) c.pos true) := by
    unfold M.exec
    have h' : ops[(c.M C T lim st none seen weight).word 0]? = some .BRANCH := h
    rw [h']; rfl
  rw [e, ha]
  exact Go.attempt (c := c) (kept_size hm) hw hk
theorem Run.loop {c : Core} {sk : Nat} (h : ops[C.getD c.pc 0]? = some .REPEAT) (hs : C.getD (c.pc + 1) 0 = sk)
    (hk : Run C T lim st k { c with loops := c.loops.push { pc := c.pc, outer := c.inner }, inner := some c.loops.size, frames := { wait := .closeLoop, pc := c.pc, pos := c.pos, outermost := true, loop := c.loops.size } :: c.frames, pc := c.pc + 1 + sk, hd := c.pos } P) : Run C T lim st (k + 1) c P := fun seen weight hw => by
  refine Go.step rfl ?_
  rw [step_run (lt_of_op h nofun)]
  have e : (c.M C T lim st none seen weight).exec = ((Core.M C T lim st { c with loops := c.loops.push { pc := c.pc, outer := c.inner }, inner := some c.loops.size } none (seen.add (C.getD c.pc 0)) weight).attempt { wait := .closeLoop, pc := c.pc, pos := c.pos, outermost := true, loop := c.loops.size } (c.pc + 1 + C.getD (c.pc + 1) 0) c.pos true) := by
    unfold M.exec
    have h' : ops[(c.M C T lim st none seen weight).word 0]? = some .REPEAT := h
    rw [h']; rfl
  rw [e, hs]
  exact Go.attempt (c := { c with loops := c.loops.push { pc := c.pc, outer := c.inner }, inner := some c.loops.size }) (Nat.zero_le _) hw hk
theorem Run.more {c : Core} {i : Nat} {l : Loop} (h : ops[C.getD c.pc 0]? = some .MAX_UNTIL) (hi : c.inner = some i) (hl : c.loops.getD i { pc := 0, outer := none } = l) (h0 : C.getD (l.pc + 2) 0 = 0) (h1 : C.getD (l.pc + 3) 0 = 1) (hc : l.count = -1) (hb : l.began = none) (hm : c.marks.size ≤ 6)
    (hk : Run C T lim st k { c with loops := c.loops.modify i fun l => { l with count := 0, began := some c.pos }, frames := { wait := .maxMore, pc := c.pc + 1, pos := c.pos, outermost := true, loop := i, count := 0, kept := c.kept true, began := none } :: c.frames, pc := l.pc + 4, hd := c.pos } P) : Run C T lim st (k + 1) c P := fun seen weight hw => by
  refine Go.step rfl ?_
  rw [step_run (lt_of_op h nofun)]
  have e : (c.M C T lim st none seen weight).exec = (Core.M C T lim st { c with pc := c.pc + 1 } none (seen.add (C.getD c.pc 0)) weight).until_ true := by
    unfold M.exec
    have h' : ops[(c.M C T lim st none seen weight).word 0]? = some .MAX_UNTIL := h
    rw [h']; rfl
  rw [e]
  unfold M.until_
  have hi' : (Core.M C T lim st { c with pc := c.pc + 1 } none (seen.add (C.getD c.pc 0)) weight).inner = some i := hi
  have hl' : (Core.M C T lim st { c with pc := c.pc + 1 } none (seen.add (C.getD c.pc 0)) weight).loopAt i = l := hl
  have h0' : (Core.M C T lim st { c with pc := c.pc + 1 } none (seen.add (C.getD c.pc 0)) weight).code.getD (l.pc + 2) 0 = 0 := h0
  have h1' : (Core.M C T lim st { c with pc := c.pc + 1 } none (seen.add (C.getD c.pc 0)) weight).code.getD (l.pc + 3) 0 = 1 := h1
  rw [hi']
  simp only [hl', h0', h1', hc, hb]
  unfold M.round
  simp only [hl', hb]
  exact Go.attempt (c := { c with pc := c.pc + 1, loops := c.loops.modify i fun l => { l with count := 0, began := some c.pos } }) (kept_size hm) hw hk
theorem Run.over {c : Core} {i : Nat} {l : Loop} (h : ops[C.getD c.pc 0]? = some .MAX_UNTIL) (hi : c.inner = some i) (hl : c.loops.getD i { pc := 0, outer := none } = l) (h0 : C.getD (l.pc + 2) 0 = 0) (h1 : C.getD (l.pc + 3) 0 = 1) (hc : l.count = 0)
    (hk : Run C T lim st k { c with inner := l.outer, frames := { wait := .maxTail, pc := c.pc + 1, pos := c.pos, outermost := true, loop := i, count := 1, kept := c.kept false } :: c.frames, pc := c.pc + 1, hd := c.pos } P) : Run C T lim st (k + 1) c P := fun seen weight hw => by
  refine Go.step rfl ?_
  rw [step_run (lt_of_op h nofun)]
  have e : (c.M C T lim st none seen weight).exec = (Core.M C T lim st { c with pc := c.pc + 1 } none (seen.add (C.getD c.pc 0)) weight).until_ true := by
    unfold M.exec
    have h' : ops[(c.M C T lim st none seen weight).word 0]? = some .MAX_UNTIL := h
    rw [h']; rfl
  rw [e]
  unfold M.until_
  have hi' : (Core.M C T lim st { c with pc := c.pc + 1 } none (seen.add (C.getD c.pc 0)) weight).inner = some i := hi
  have hl' : (Core.M C T lim st { c with pc := c.pc + 1 } none (seen.add (C.getD c.pc 0)) weight).loopAt i = l := hl
  have h0' : (Core.M C T lim st { c with pc := c.pc + 1 } none (seen.add (C.getD c.pc 0)) weight).code.getD (l.pc + 2) 0 = 0 := h0
  have h1' : (Core.M C T lim st { c with pc := c.pc + 1 } none (seen.add (C.getD c.pc 0)) weight).code.getD (l.pc + 3) 0 = 1 := h1
  rw [hi']
  simp only [hl', h0', h1', hc]
  unfold M.afterLoop
  simp only [hl']
  exact Go.attempt (c := { c with pc := c.pc + 1, inner := l.outer }) (Nat.zero_le _) hw hk
theorem step_ans {c : Core} {f : Sre.Frame} {rest : List Sre.Frame} {b : Bool} {seen : Seen} {weight : Nat} (hf : c.frames = f :: rest) (ho : f.outermost = true) : (c.M C T lim st (some b) seen weight).step = M.resume (Core.M C T lim st { c with frames := rest, pc := f.pc, pos := f.pos } none seen (weight - (1 + f.kept.marks.size))) f b := by
  cases c
  cases hf
  unfold M.step Core.M
  simp only [Option.isSome_none, Bool.false_eq_true, if_false, ho]
noncomputable def Easy (f : Sre.Frame) : Prop := f.wait = .nextBranch ∨ f.wait = .giveBack ∨ f.wait = .closeLoop ∨ f.wait = .maxMore ∨ f.wait = .maxTail
theorem Ans.yes {Q : Array (Option Nat) → Int → Int → Nat → Prop} : ∀ (fs : List Sre.Frame) (c : Core), c.frames = fs → fs.length < k → (∀ f ∈ fs, f.outermost = true ∧ Easy f) → Q c.marks c.lm c.li c.hd → Ans C T lim st k c true (fun m => m.outcome = some .matched ∧ m.start = st ∧ Q m.marks m.lastmark m.lastindex m.handed) := by
  induction k with
  | zero => intro fs c _ h; lia
  | succ k ih =>
    intro fs c hf hk he hQ seen weight hw
    cases fs with
    | nil =>
      refine Go.step rfl (Go.done ?_ ?_)
      · unfold M.step Core.M; simp only [hf]; rfl
      · unfold M.step Core.M; simp only [hf]; exact ⟨rfl, rfl, hQ⟩
    | cons f rest =>
      obtain ⟨ho, hw'⟩ := he f (.head _)
      refine Go.step rfl ?_
      rw [step_ans hf ho]
      have hr : ∀ g ∈ rest, g.outermost = true ∧ Easy g := fun g hg => he g (.tail _ hg)
      have hl : rest.length < k := by simp at hk; lia
      unfold M.resume
      rcases hw' with q | q | q | q | q <;> rw [q]
      · exact ih rest { c with frames := rest, pc := f.pc, pos := f.pos } rfl hl hr hQ seen (weight - (1 + f.kept.marks.size)) (by lia)
      · exact ih rest { c with frames := rest, pc := f.pc, pos := f.pos } rfl hl hr hQ seen (weight - (1 + f.kept.marks.size)) (by lia)
      · exact ih rest { c with frames := rest, pc := f.pc, pos := f.pos, inner := _, loops := _ } rfl hl hr hQ seen (weight - (1 + f.kept.marks.size)) (by lia)
      · exact ih rest { c with frames := rest, pc := f.pc, pos := f.pos, loops := _ } rfl hl hr hQ seen (weight - (1 + f.kept.marks.size)) (by lia)
      · exact ih rest { c with frames := rest, pc := f.pc, pos := f.pos, inner := _ } rfl hl hr hQ seen (weight - (1 + f.kept.marks.size)) (by lia)
theorem Ans.fail {c : Core} (hf : c.frames = []) (h : ∀ m : Sre.M, m.outcome = some .failed → P m) : Ans C T lim st (k + 1) c false P := fun seen weight hw => by
  refine Go.step rfl (Go.done ?_ ?_)
  · unfold M.step Core.M; simp only [hf]; rfl
  · unfold M.step Core.M; simp only [hf]; exact h _ rfl
noncomputable def Core.back (c : Core) (kp : Sre.Kept) : Core := { c with lm := kp.lastmark, li := kp.lastindex, marks := if kp.whole then kp.marks ++ c.marks.extract kp.marks.size c.marks.size else c.marks }
theorem Ans.branch {c : Core} {f : Sre.Frame} {rest : List Sre.Frame} {a d : Nat} (hf : c.frames = f :: rest) (ho : f.outermost = true) (hq : f.wait = .nextBranch) (ha : C.getD f.pc 0 = a) (hd : (C.getD (f.pc + a) 0 == 0) = false) (hm : f.kept.marks.size ≤ 6)
    (hk : Run C T lim st k { (c.back f.kept) with frames := { wait := .nextBranch, pc := f.pc + a, pos := f.pos, outermost := true, kept := f.kept } :: rest, pc := f.pc + a + 1, pos := f.pos, hd := f.pos } P) : Ans C T lim st (k + 1) c false P := fun seen weight hw => by
  refine Go.step rfl ?_
  rw [step_ans hf ho]
  unfold M.resume
  rw [hq]
  have e : M.alternative (M.putBack (Core.M C T lim st { c with frames := rest, pc := f.pc, pos := f.pos } none seen (weight - (1 + f.kept.marks.size))) f.kept) (f.pc + C.getD f.pc 0) f.kept = (if C.getD (f.pc + C.getD f.pc 0) 0 == 0 then M.say (Core.M C T lim st { (c.back f.kept) with frames := rest, pc := f.pc, pos := f.pos } none seen (weight - (1 + f.kept.marks.size))) false else M.attempt (Core.M C T lim st { (c.back f.kept) with frames := rest, pc := f.pc, pos := f.pos } none seen (weight - (1 + f.kept.marks.size))) { wait := .nextBranch, pc := f.pc + C.getD f.pc 0, pos := f.pos, outermost := true, kept := f.kept } (f.pc + C.getD f.pc 0 + 1) f.pos true) := rfl
  show Go k (M.alternative (M.putBack _ f.kept) (f.pc + C.getD f.pc 0) f.kept) P
  rw [e, ha, hd]
  exact Go.attempt (c := { (c.back f.kept) with frames := rest, pc := f.pc, pos := f.pos }) hm (by lia) hk
theorem Ans.branchEnd {c : Core} {f : Sre.Frame} {rest : List Sre.Frame} {a d : Nat} (hf : c.frames = f :: rest) (ho : f.outermost = true) (hq : f.wait = .nextBranch) (ha : C.getD f.pc 0 = a) (hd : (C.getD (f.pc + a) 0 == 0) = true)
    (hk : Ans C T lim st k { (c.back f.kept) with frames := rest, pc := f.pc, pos := f.pos } false P) : Ans C T lim st (k + 1) c false P := fun seen weight hw => by
  refine Go.step rfl ?_
  rw [step_ans hf ho]
  unfold M.resume
  rw [hq]
  have e : M.alternative (M.putBack (Core.M C T lim st { c with frames := rest, pc := f.pc, pos := f.pos } none seen (weight - (1 + f.kept.marks.size))) f.kept) (f.pc + C.getD f.pc 0) f.kept = (if C.getD (f.pc + C.getD f.pc 0) 0 == 0 then M.say (Core.M C T lim st { (c.back f.kept) with frames := rest, pc := f.pc, pos := f.pos } none seen (weight - (1 + f.kept.marks.size))) false else M.attempt (Core.M C T lim st { (c.back f.kept) with frames := rest, pc := f.pc, pos := f.pos } none seen (weight - (1 + f.kept.marks.size))) { wait := .nextBranch, pc := f.pc + C.getD f.pc 0, pos := f.pos, outermost := true, kept := f.kept } (f.pc + C.getD f.pc 0 + 1) f.pos true) := rfl
  show Go k (M.alternative (M.putBack _ f.kept) (f.pc + C.getD f.pc 0) f.kept) P
  rw [e, ha, hd]
  exact hk seen (weight - (1 + f.kept.marks.size)) (by lia)
theorem Ans.giveEnd {c : Core} {f : Sre.Frame} {rest : List Sre.Frame} {lo : Nat} (hf : c.frames = f :: rest) (ho : f.outermost = true) (hq : f.wait = .giveBack) (hlo : C.getD (f.pc + 2) 0 = lo) (hl : f.count - 1 < lo)
    (hk : Ans C T lim st k { (c.back f.kept) with frames := rest, pc := f.pc, pos := f.pos } false P) : Ans C T lim st (k + 1) c false P := fun seen weight hw => by
  refine Go.step rfl ?_
  rw [step_ans hf ho]
  unfold M.resume
  rw [hq]
  show Go k (if f.count - 1 < (C.getD (f.pc + 2) 0 : Nat) then _ else _) P
  rw [hlo, if_pos hl]
  exact hk seen (weight - (1 + f.kept.marks.size)) (by lia)
theorem Ans.give {c : Core} {f : Sre.Frame} {rest : List Sre.Frame} {lo sk : Nat} (hf : c.frames = f :: rest) (ho : f.outermost = true) (hq : f.wait = .giveBack) (hlo : C.getD (f.pc + 2) 0 = lo) (hl : lo ≤ f.count - 1) (hsk : C.getD (f.pc + 1) 0 = sk) (hm : f.kept.marks.size ≤ 6)
    (hk : Run C T lim st k { (c.back f.kept) with frames := { wait := .giveBack, pc := f.pc, pos := f.pos - 1, outermost := true, count := f.count - 1, kept := f.kept } :: rest, pc := f.pc + 1 + sk, pos := f.pos - 1, hd := f.pos - 1 } P) : Ans C T lim st (k + 1) c false P := fun seen weight hw => by
  refine Go.step rfl ?_
  rw [step_ans hf ho]
  unfold M.resume
  rw [hq]
  show Go k (if f.count - 1 < (C.getD (f.pc + 2) 0 : Nat) then _ else _) P
  rw [hlo, if_neg (by lia)]
  rw [← hsk] at hk
  exact Go.attempt (weight := weight - (1 + f.kept.marks.size)) (c := { (c.back f.kept) with frames := rest, pc := f.pc, pos := f.pos - 1 }) hm (by lia) hk
theorem Ans.skip {c : Core} {f : Sre.Frame} {rest : List Sre.Frame} (hf : c.frames = f :: rest) (ho : f.outermost = true) (hq : f.wait = .maxMore) (hb : f.began = none)
    (hk : Run C T lim st k { (c.back f.kept) with loops := (c.loops.modify f.loop fun l => { l with began := none }).modify f.loop fun l => { l with count := f.count - 1 }, inner := (((c.loops.modify f.loop fun l => { l with began := none }).modify f.loop fun l => { l with count := f.count - 1 }).getD f.loop { pc := 0, outer := none }).outer, frames := { wait := .maxTail, pc := f.pc, pos := f.pos, outermost := true, loop := f.loop, count := f.count, kept := (c.back f.kept).kept false } :: rest, pc := f.pc, pos := f.pos, hd := f.pos } P) : Ans C T lim st (k + 1) c false P := fun seen weight hw => by
  refine Go.step rfl ?_
  rw [step_ans hf ho]
  unfold M.resume
  rw [hq]
  simp only [hb]
  exact Go.attempt (weight := weight - (1 + f.kept.marks.size)) (c := { (c.back f.kept) with loops := (c.loops.modify f.loop fun l => { l with began := none }).modify f.loop fun l => { l with count := f.count - 1 }, inner := _, frames := rest, pc := f.pc, pos := f.pos }) (Nat.zero_le _) (by omega) hk
end
end Mine
end
section
open PySem PySem.Sre
set_option Elab.async false
set_option maxRecDepth 100000
set_option autoImplicit false
set_option linter.unusedVariables false
namespace Mine
section
variable {C T : Array Nat} {lim st : Nat} {k : Nat} {P : Sre.M → Prop}
theorem one_lit {pc a : Nat} (h0 : ops[C.getD pc 0]? = some .LITERAL) (h1 : C.getD (pc + 1) 0 = a) : One C pc 2 (fun c => c == a) := by
  refine ⟨fun c seen => ⟨seen, ?_⟩, ?_, .inl h0⟩
  · unfold accepts; rw [h0, h1]
  · unfold itemWidth; rw [h0]
theorem in_zero {c f i : Nat} {yes : Bool} {seen : Seen} (h : ops[C.getD i 0]? = some .FAILURE) : ∃ s', inSet C c (f + 1) i yes seen = .ok (!yes, s') := by
  unfold inSet; simp only [Nat.add_zero, h]; exact ⟨_, rfl⟩
theorem in_lit {c f i a : Nat} {yes r : Bool} (h : ops[C.getD i 0]? = some .LITERAL) (ha : C.getD (i + 1) 0 = a) (hr : ∀ seen, ∃ s', inSet C c f (i + 2) yes seen = .ok (r, s')) {seen : Seen} : ∃ s', inSet C c (f + 1) i yes seen = .ok (if c == a then yes else r, s') := by
  unfold inSet; simp only [Nat.add_zero, h, ha]
  cases c == a
  · exact hr _
  · exact ⟨_, rfl⟩
theorem in_range {c f i a b : Nat} {yes r : Bool} (h : ops[C.getD i 0]? = some .RANGE) (ha : C.getD (i + 1) 0 = a) (hb : C.getD (i + 2) 0 = b) (hr : ∀ seen, ∃ s', inSet C c f (i + 3) yes seen = .ok (r, s')) {seen : Seen} : ∃ s', inSet C c (f + 1) i yes seen = .ok (if a ≤ c && c ≤ b then yes else r, s') := by
  unfold inSet; simp only [Nat.add_zero, h, ha, hb]
  cases (decide (a ≤ c) && decide (c ≤ b))
  · exact hr _
  · exact ⟨_, rfl⟩
theorem one_range {pc a b n : Nat} (hsz : C.size = n + 3) (h0 : ops[C.getD pc 0]? = some .IN) (h1 : C.getD (pc + 1) 0 = 5) (h2 : ops[C.getD (pc + 2) 0]? = some .RANGE) (ha : C.getD (pc + 3) 0 = a) (hb : C.getD (pc + 4) 0 = b) (h5 : ops[C.getD (pc + 5) 0]? = some .FAILURE) : One C pc 6 (fun c => decide (a ≤ c) && decide (c ≤ b)) := by
  refine ⟨fun c seen => ?_, ?_, .inr h0⟩
  · unfold accepts; rw [h0, hsz]
    obtain ⟨s', e⟩ := in_range (c := c) (f := n + 2) (yes := true) (r := false) (seen := seen) h2 ha hb fun seen => in_zero h5
    refine ⟨s', e.trans ?_⟩
    cases (decide (a ≤ c) && decide (c ≤ b)) <;> rfl
  · unfold itemWidth; rw [h0, h1]
theorem one_two {pc a b n : Nat} (hsz : C.size = n + 3) (h0 : ops[C.getD pc 0]? = some .IN) (h1 : C.getD (pc + 1) 0 = 6) (h2 : ops[C.getD (pc + 2) 0]? = some .LITERAL) (ha : C.getD (pc + 3) 0 = a) (h4 : ops[C.getD (pc + 4) 0]? = some .LITERAL) (hb : C.getD (pc + 5) 0 = b) (h6 : ops[C.getD (pc + 6) 0]? = some .FAILURE) : One C pc 7 (fun c => c == a || c == b) := by
  refine ⟨fun c seen => ?_, ?_, .inr h0⟩
  · unfold accepts; rw [h0, hsz]
    obtain ⟨s', e⟩ := in_lit (c := c) (f := n + 2) (yes := true) (r := if c == b then true else false) (seen := seen) h2 ha fun seen => in_lit (f := n + 1) (r := false) h4 hb fun seen => in_zero h6
    refine ⟨s', e.trans ?_⟩
    cases c == a <;> cases c == b <;> rfl
  · unfold itemWidth; rw [h0, h1]
end
noncomputable def dig (c : Nat) : Bool := decide (48 ≤ c) && decide (c ≤ 57)
structure Code (C : Array Nat) : Prop where
  size : C.size = 102 + 3
  i5 : ops[C.getD 5 0]? = some .MARK
  a5 : C.getD 6 0 = 0
  i7 : ops[C.getD 7 0]? = some .REPEAT_ONE
  a7 : C.getD 8 0 = 6
  b7 : C.getD 9 0 = 0
  c7 : C.getD 10 0 = 1
  o11 : One C 11 2 (fun c => c == 45)
  i14 : ops[C.getD 14 0]? = some .BRANCH
  a14 : C.getD 15 0 = 5
  o16 : One C 16 2 (fun c => c == 48)
  i18 : ops[C.getD 18 0]? = some .JUMP
  a18 : C.getD 19 0 = 22
  a20 : C.getD 20 0 = 20
  o21 : One C 21 6 (fun c => decide (49 ≤ c) && decide (c ≤ 57))
  i27 : ops[C.getD 27 0]? = some .REPEAT_ONE
  a27 : C.getD 28 0 = 10
  b27 : C.getD 29 0 = 0
  c27 : C.getD 30 0 = maxRepeat
  o31 : One C 31 6 dig
  i38 : ops[C.getD 38 0]? = some .JUMP
  a38 : C.getD 39 0 = 2
  a40 : C.getD 40 0 = 0
  i41 : ops[C.getD 41 0]? = some .MARK
  a41 : C.getD 42 0 = 1
  i43 : ops[C.getD 43 0]? = some .REPEAT
  a43 : C.getD 44 0 = 20
  b43 : C.getD 45 0 = 0
  c43 : C.getD 46 0 = 1
  i47 : ops[C.getD 47 0]? = some .MARK
  a47 : C.getD 48 0 = 2
  o49 : One C 49 2 (fun c => c == 46)
  i51 : ops[C.getD 51 0]? = some .REPEAT_ONE
  a51 : C.getD 52 0 = 10
  b51 : C.getD 53 0 = 1
  c51 : C.getD 54 0 = maxRepeat
  o55 : One C 55 6 dig
  i62 : ops[C.getD 62 0]? = some .MARK
  a62 : C.getD 63 0 = 3
  i64 : ops[C.getD 64 0]? = some .MAX_UNTIL
  i65 : ops[C.getD 65 0]? = some .REPEAT
  a65 : C.getD 66 0 = 37
  b65 : C.getD 67 0 = 0
  c65 : C.getD 68 0 = 1
  i69 : ops[C.getD 69 0]? = some .MARK
  a69 : C.getD 70 0 = 4
  o71 : One C 71 7 (fun c => c == 101 || c == 69)
  i78 : ops[C.getD 78 0]? = some .REPEAT_ONE
  a78 : C.getD 79 0 = 11
  b78 : C.getD 80 0 = 0
  c78 : C.getD 81 0 = 1
  o82 : One C 82 7 (fun c => c == 45 || c == 43)
  i90 : ops[C.getD 90 0]? = some .REPEAT_ONE
  a90 : C.getD 91 0 = 10
  b90 : C.getD 92 0 = 1
  c90 : C.getD 93 0 = maxRepeat
  o94 : One C 94 6 dig
  i101 : ops[C.getD 101 0]? = some .MARK
  a101 : C.getD 102 0 = 5
  i103 : ops[C.getD 103 0]? = some .MAX_UNTIL
  i104 : ops[C.getD 104 0]? = some .SUCCESS
noncomputable def digs (T : Array Nat) (lim p : Nat) : Nat := many dig T (lim - p) p
noncomputable def signAt (T : Array Nat) (lim p : Nat) : Nat := if p < lim ∧ T.getD p 0 = 45 then p + 1 else p
noncomputable def intAt (T : Array Nat) (lim p : Nat) : Option Nat := if p < lim ∧ T.getD p 0 = 48 then some (p + 1) else if p < lim ∧ 49 ≤ T.getD p 0 ∧ T.getD p 0 ≤ 57 then some (p + 1 + digs T lim (p + 1)) else none
noncomputable def fracAt (T : Array Nat) (lim p : Nat) : Option Nat := if p < lim ∧ T.getD p 0 = 46 ∧ 1 ≤ digs T lim (p + 1) then some (p + 1 + digs T lim (p + 1)) else none
noncomputable def expSign (T : Array Nat) (lim p : Nat) : Nat := if p < lim ∧ (T.getD p 0 = 45 ∨ T.getD p 0 = 43) then p + 1 else p
noncomputable def expAt (T : Array Nat) (lim p : Nat) : Option Nat := if p < lim ∧ (T.getD p 0 = 101 ∨ T.getD p 0 = 69) ∧ 1 ≤ digs T lim (expSign T lim (p + 1)) then some (expSign T lim (p + 1) + digs T lim (expSign T lim (p + 1))) else none
noncomputable def spanOf (marks : Array (Option Nat)) (lm : Int) (g : Nat) : Option (Nat × Nat) := if ((2 * g + 1 : Nat) : Int) ≤ lm then (match marks.getD (2 * g) none, marks.getD (2 * g + 1) none with | some b, some e => some (b, e) | _, _ => none) else none
section
variable {C T : Array Nat} {lim st : Nat} {k : Nat} {P : Sre.M → Prop}
theorem many_le {f : Nat → Bool} : ∀ n p, many f T n p ≤ n
  | 0, p => Nat.le_refl _
  | n + 1, p => by
    unfold many
    have := many_le (f := f) n (p + 1)
    split <;> lia
noncomputable abbrev Fin3 (st : Nat) (e : Nat) (s0 s1 s2 : Option (Nat × Nat)) : Sre.M → Prop := fun m => m.outcome = some .matched ∧ m.start = st ∧ (spanOf m.marks m.lastmark 0 = s0 ∧ spanOf m.marks m.lastmark 1 = s1 ∧ spanOf m.marks m.lastmark 2 = s2 ∧ m.handed = e)
theorem yes3 {c : Core} {e : Nat} {s0 s1 s2 : Option (Nat × Nat)} (hk : c.frames.length < k) (he : ∀ f ∈ c.frames, f.outermost = true ∧ Easy f) (h0 : spanOf c.marks c.lm 0 = s0) (h1 : spanOf c.marks c.lm 1 = s1) (h2 : spanOf c.marks c.lm 2 = s2) (h3 : c.hd = e) :
    Ans C T lim st k c true (Fin3 st e s0 s1 s2) := Ans.yes (Q := fun marks lm li hd => spanOf marks lm 0 = s0 ∧ spanOf marks lm 1 = s1 ∧ spanOf marks lm 2 = s2 ∧ hd = e) c.frames c rfl hk he ⟨h0, h1, h2, h3⟩
theorem many1 {f : Nat → Bool} {p : Nat} : many f T (min 1 (lim - p)) p = if p < lim ∧ f (T.getD p 0) = true then 1 else 0 := by
  rcases Nat.lt_or_ge p lim with h | h
  · have e : min 1 (lim - p) = 1 := by lia
    rw [e]
    unfold many
    cases f (T.getD p 0) with
    | true => simp [h, many]
    | false => simp [h]
  · have e : min 1 (lim - p) = 0 := by lia
    rw [e, if_neg (by lia)]; rfl
theorem minMax {p : Nat} (h : lim ≤ maxRepeat) : min maxRepeat (lim - p) = lim - p := by lia
noncomputable def sp (a b : Option Nat) : Option (Nat × Nat) := match a, b with | some b, some e => some (b, e) | _, _ => none
theorem easy_cons {f : Sre.Frame} {fs : List Sre.Frame} (h : f.outermost = true ∧ Easy f) (t : ∀ f ∈ fs, f.outermost = true ∧ Easy f) : ∀ g ∈ f :: fs, g.outermost = true ∧ Easy g := fun g hg => by
  rcases List.mem_cons.mp hg with rfl | hg
  · exact h
  · exact t g hg
theorem Run.mark' {c : Core} {i : Nat} (marks' : Array (Option Nat)) (lm' li' : Int) (h : ops[C.getD c.pc 0]? = some .MARK) (hi : C.getD (c.pc + 1) 0 = i)
    (e1 : (if (i : Int) ≤ c.lm + 1 then c.marks else (List.range i).foldl (fun (a : Array (Option Nat)) (j : Nat) => if (j : Int) > c.lm then a.setIfInBounds j none else a) c.marks).setIfInBounds i (some c.pos) = marks') (e2 : max c.lm i = lm') (e3 : (if i % 2 == 1 then ((i / 2 + 1 : Nat) : Int) else c.li) = li')
    (hk : Run C T lim st k { c with pc := c.pc + 2, marks := marks', lm := lm', li := li' } P) : Run C T lim st (k + 1) c P := by
  subst e1 e2 e3
  exact Run.mark h hi hk
theorem Run.more' {c : Core} {i : Nat} {l : Loop} (loops' : Array Loop) (h : ops[C.getD c.pc 0]? = some .MAX_UNTIL) (hi : c.inner = some i) (hl : c.loops.getD i { pc := 0, outer := none } = l) (h0 : C.getD (l.pc + 2) 0 = 0) (h1 : C.getD (l.pc + 3) 0 = 1) (hc : l.count = -1) (hb : l.began = none) (hm : c.marks.size ≤ 6)
    (e : (c.loops.modify i fun l => { l with count := 0, began := some c.pos }) = loops')
    (hk : Run C T lim st k { c with loops := loops', frames := { wait := .maxMore, pc := c.pc + 1, pos := c.pos, outermost := true, loop := i, count := 0, kept := c.kept true, began := none } :: c.frames, pc := l.pc + 4, hd := c.pos } P) : Run C T lim st (k + 1) c P := by
  subst e
  exact Run.more h hi hl h0 h1 hc hb hm hk
theorem Run.loop' {c : Core} {sk : Nat} (loops' : Array Loop) (h : ops[C.getD c.pc 0]? = some .REPEAT) (hs : C.getD (c.pc + 1) 0 = sk) (i : Nat) (hi : c.loops.size = i) (e : c.loops.push { pc := c.pc, outer := c.inner } = loops')
    (hk : Run C T lim st k { c with loops := loops', inner := some i, frames := { wait := .closeLoop, pc := c.pc, pos := c.pos, outermost := true, loop := i } :: c.frames, pc := c.pc + 1 + sk, hd := c.pos } P) : Run C T lim st (k + 1) c P := by
  subst e hi
  exact Run.loop h hs hk
end
end Mine
end
section
open PySem PySem.Sre
set_option Elab.async false
set_option maxRecDepth 100000
set_option autoImplicit false
set_option linter.unusedVariables false
namespace Mine
section
variable {C T : Array Nat} {lim st : Nat} {k : Nat} {P : Sre.M → Prop}
theorem exp_tail (hC : Code C) (hlim : lim ≤ maxRepeat) {p : Nat} {M : Array (Option Nat)} {li : Int} {l0 : Loop} {fs : List Sre.Frame} {kp : Sre.Kept} {s0 s1 : Option (Nat × Nat)} (hfs : ∀ f ∈ fs, f.outermost = true ∧ Easy f) (hlen : fs.length ≤ 9) (hM6 : M.size = 6) (hkp : kp.marks.size ≤ 6) (hw : kp.whole = true)
    (hs : ∀ e, spanOf (M.setIfInBounds 5 (some e)) 5 0 = s0 ∧ spanOf (M.setIfInBounds 5 (some e)) 5 1 = s1 ∧ spanOf (M.setIfInBounds 5 (some e)) 5 2 = some (p, e))
    (hf : spanOf (kp.marks ++ M.extract kp.marks.size M.size) kp.lastmark 0 = s0 ∧ spanOf (kp.marks ++ M.extract kp.marks.size M.size) kp.lastmark 1 = s1 ∧ spanOf (kp.marks ++ M.extract kp.marks.size M.size) kp.lastmark 2 = none) :
    Run C T lim st 27 ⟨71, p, p, M, 4, li, #[l0, { pc := 65, count := 0, began := some p, outer := none }], some 1, { wait := .maxMore, pc := 104, pos := p, outermost := true, loop := 1, count := 0, kept := kp, began := none } :: fs⟩ (Fin3 st ((expAt T lim p).getD p) s0 s1 ((expAt T lim p).map fun e => (p, e))) := by
  have hM : M.size ≤ 6 := by lia
  have skip : ∀ {pc q hd : Nat} {lm li : Int} {k : Nat}, 20 ≤ k → expAt T lim p = none →
      Ans C T lim st k ⟨pc, q, hd, M, lm, li, #[l0, { pc := 65, count := 0, began := some p, outer := none }], some 1, { wait := .maxMore, pc := 104, pos := p, outermost := true, loop := 1, count := 0, kept := kp, began := none } :: fs⟩ false (Fin3 st ((expAt T lim p).getD p) s0 s1 ((expAt T lim p).map fun e => (p, e))) := by
    intro pc q hd lm li k hk he
    rw [he]
    match k, hk with
    | k + 2, hk =>
      refine Ans.skip rfl rfl rfl rfl ?_
      refine Run.succ hC.i104 ?_
      have e : (Core.back ⟨pc, q, hd, M, lm, li, #[l0, { pc := 65, count := 0, began := some p, outer := none }], some 1, { wait := .maxMore, pc := 104, pos := p, outermost := true, loop := 1, count := 0, kept := kp, began := none } :: fs⟩ kp).marks = kp.marks ++ M.extract kp.marks.size M.size := by
        unfold Core.back; rw [hw]; rfl
      refine yes3 (by simp; lia) (easy_cons ⟨rfl, .inr (.inr (.inr (.inr rfl)))⟩ hfs) ?_ ?_ ?_ rfl
      · dsimp only; rw [e]; exact hf.1
      · dsimp only; rw [e]; exact hf.2.1
      · dsimp only; rw [e]; exact hf.2.2
  have sz : ∀ {b : Bool} {pc q hd : Nat} {lm li : Int} {a b' d}, (Core.kept ⟨pc, q, hd, M, lm, li, a, b', d⟩ b).marks.size ≤ 6 := kept_size hM
  refine Run.one hC.o71 (fun hp he => ?_) fun hn => ?_
  · dsimp only at hp he ⊢
    have he' : T.getD p 0 = 101 ∨ T.getD p 0 = 69 := by simpa using he
    refine Run.rep hC.i78 hC.a78 hC.b78 hC.c78 hC.o82 hM (fun _ n hn _ => ?_) fun hn => by
      rcases hn with hn | hn
      · have hn : lim < p + 1 + 0 := hn
        lia
      · exact absurd hn (Nat.not_lt_zero _)
    dsimp only at hn ⊢
    have hn' : n = if p + 1 < lim ∧ (T.getD (p + 1) 0 = 45 ∨ T.getD (p + 1) 0 = 43) then 1 else 0 := by
      rw [hn]; exact many1.trans (by simp)
    have hpn : p + 1 + n = expSign T lim (p + 1) := by
      rw [hn']; unfold expSign; split <;> simp_all
    generalize hkk : Core.kept _ _ = kk
    have hks : kk.marks.size ≤ 6 := by rw [← hkk]; exact sz
    have hkw : kk.whole = true := by rw [← hkk]; rfl
    have hkm : kk.marks = M.extract 0 5 := by rw [← hkk]; rfl
    refine Run.rep hC.i90 hC.a90 hC.b90 hC.c90 hC.o94 hM (fun _ d hd hd1 => ?_) fun hn => ?_
    · dsimp only at hd ⊢
      have hd' : d = digs T lim (expSign T lim (p + 1)) := by
        rw [hd, minMax hlim, hpn]; rfl
      have he : expAt T lim p = some (p + 1 + n + d) := by
        unfold expAt
        rw [if_pos ⟨hp, he', by rw [← hd']; exact hd1⟩, hpn, ← hd']
      rw [he]
      obtain ⟨q0, q1, q2⟩ := hs (p + 1 + n + d)
      refine Run.mark' (M.setIfInBounds 5 (some (p + 1 + n + d))) 5 3 hC.i101 hC.a101 rfl rfl rfl ?_
      dsimp only
      refine Run.over (i := 1) (l := { pc := 65, count := 0, began := some p, outer := none }) hC.i103 rfl rfl hC.b65 hC.c65 rfl ?_
      dsimp only
      refine Run.succ hC.i104 ?_
      dsimp only
      refine yes3 (by simp; lia) ?_ q0 q1 q2 rfl
      exact easy_cons ⟨rfl, .inr (.inr (.inr (.inr rfl)))⟩ (easy_cons ⟨rfl, .inr (.inl rfl)⟩ (easy_cons ⟨rfl, .inr (.inl rfl)⟩ (easy_cons ⟨rfl, .inr (.inr (.inr (.inl rfl)))⟩ hfs)))
    · dsimp only at hn ⊢
      have hz : digs T lim (expSign T lim (p + 1)) = 0 := by
        rcases hn with hn | hn
        · have := many_le (T := T) (f := dig) (lim - expSign T lim (p + 1)) (expSign T lim (p + 1))
          unfold digs; lia
        · rw [minMax hlim, hpn] at hn
          unfold digs; lia
      have he : expAt T lim p = none := by
        unfold expAt
        rw [if_neg fun q => by rw [hz] at q; lia]
      have hback : kk.marks ++ M.extract kk.marks.size M.size = M := by
        have e5 : kk.marks.size = 5 := by rw [hkm]; simp; lia
        rw [e5, hkm, Array.extract_append_extract, hM6]
        show M.extract 0 6 = M
        rw [← hM6]; exact Array.extract_size
      by_cases hc : p + 1 < lim ∧ (T.getD (p + 1) 0 = 45 ∨ T.getD (p + 1) 0 = 43)
      · rw [if_pos hc] at hn'
        subst hn'
        refine Ans.give rfl rfl rfl hC.b78 (by dsimp only; decide) hC.a78 hks ?_
        unfold Core.back
        simp only [hkw, if_true, hback]
        refine Run.rep hC.i90 hC.a90 hC.b90 hC.c90 hC.o94 hM (fun _ d hd hd1 => ?_) fun hn => ?_
        · have hd : d = many dig T (min maxRepeat (lim - (p + 1))) (p + 1) := hd
          rw [minMax hlim] at hd
          obtain ⟨j, hj⟩ : ∃ j, lim - (p + 1) = j + 1 := ⟨lim - (p + 1) - 1, by lia⟩
          rw [hj] at hd
          unfold many at hd
          have : dig (T.getD (p + 1) 0) = false := by
            rcases hc.2 with q | q <;> rw [q] <;> rfl
          rw [this] at hd
          simp at hd
          lia
        · refine Ans.giveEnd rfl rfl rfl hC.b78 (by dsimp only; decide) ?_
          unfold Core.back
          simp only [hkw, if_true, hback]
          exact skip (by lia) he
      · rw [if_neg hc] at hn'
        subst hn'
        refine Ans.giveEnd rfl rfl rfl hC.b78 (by dsimp only; decide) ?_
        unfold Core.back
        simp only [hkw, if_true, hback]
        exact skip (by lia) he
  · dsimp only at hn
    have he : expAt T lim p = none := by
      unfold expAt
      rw [if_neg fun q => ?_]
      rcases hn with hn | hn
      · lia
      · rw [Bool.or_eq_false_iff] at hn
        simp only [beq_eq_false_iff_ne] at hn
        lia
    exact skip (by lia) he
end
end Mine
end
section
open PySem PySem.Sre
set_option Elab.async false
set_option maxRecDepth 100000
set_option autoImplicit false
set_option linter.unusedVariables false
namespace Mine
section
variable {C T : Array Nat} {lim st : Nat} {k : Nat} {P : Sre.M → Prop}
theorem ext2 {α : Type} {a b c d e f : α} : #[a, b, c, d, e, f].extract 0 2 = #[a, b] := by simp
theorem ext4 {α : Type} {a b c d e f : α} : #[a, b, c, d, e, f].extract 0 4 = #[a, b, c, d] := by simp
theorem ext26 {α : Type} {a b c d e f x y : α} : #[x, y] ++ #[a, b, c, d, e, f].extract 2 6 = #[x, y, c, d, e, f] := by simp
theorem ext46 {α : Type} {a b c d e f x y z w : α} : #[x, y, z, w] ++ #[a, b, c, d, e, f].extract 4 6 = #[x, y, z, w, e, f] := by simp
theorem kept2 {pc q hd : Nat} {m0 m1 m2 m3 m4 m5 : Option Nat} {li : Int} {a b d} : Core.kept ⟨pc, q, hd, #[m0, m1, m2, m3, m4, m5], 1, li, a, b, d⟩ true = { lastmark := 1, lastindex := li, whole := true, marks := #[m0, m1] } := by
  have : Core.kept ⟨pc, q, hd, #[m0, m1, m2, m3, m4, m5], 1, li, a, b, d⟩ true = { lastmark := 1, lastindex := li, whole := true, marks := #[m0, m1, m2, m3, m4, m5].extract 0 2 } := rfl
  rw [this, ext2]
theorem kept4 {pc q hd : Nat} {m0 m1 m2 m3 m4 m5 : Option Nat} {li : Int} {a b d} : Core.kept ⟨pc, q, hd, #[m0, m1, m2, m3, m4, m5], 3, li, a, b, d⟩ true = { lastmark := 3, lastindex := li, whole := true, marks := #[m0, m1, m2, m3] } := by
  have : Core.kept ⟨pc, q, hd, #[m0, m1, m2, m3, m4, m5], 3, li, a, b, d⟩ true = { lastmark := 3, lastindex := li, whole := true, marks := #[m0, m1, m2, m3, m4, m5].extract 0 4 } := rfl
  rw [this, ext4]
theorem exp_walk (hC : Code C) (hlim : lim ≤ maxRepeat) {p hd : Nat} {m0 m1 m2 m3 m4 m5 : Option Nat} {lm li : Int} {l0 : Loop} {fs : List Sre.Frame} {s1 : Option (Nat × Nat)} (hfs : ∀ f ∈ fs, f.outermost = true ∧ Easy f) (hlen : fs.length ≤ 8) (h : (lm = 1 ∧ s1 = none) ∨ (lm = 3 ∧ s1 = sp m2 m3)) :
    Run C T lim st 30 ⟨65, p, hd, #[m0, m1, m2, m3, m4, m5], lm, li, #[l0], none, fs⟩ (Fin3 st ((expAt T lim p).getD p) (sp m0 m1) s1 ((expAt T lim p).map fun e => (p, e))) := by
  refine Run.loop' #[l0, { pc := 65, outer := none }] hC.i65 hC.a65 1 rfl rfl ?_
  dsimp only
  refine Run.more' (i := 1) (l := { pc := 65, outer := none }) #[l0, { pc := 65, count := 0, began := some p, outer := none }] hC.i103 rfl rfl hC.b65 hC.c65 rfl rfl (Nat.le_of_ble_eq_true rfl) rfl ?_
  dsimp only
  have hfs1 := easy_cons (f := { wait := .closeLoop, pc := 65, pos := p, outermost := true, loop := 1 }) ⟨rfl, .inr (.inr (.inl rfl))⟩ hfs
  rcases h with ⟨rfl, rfl⟩ | ⟨rfl, rfl⟩
  · rw [kept2]
    refine Run.mark' #[m0, m1, none, none, some p, m5] 4 li hC.i69 hC.a69 rfl rfl rfl ?_
    refine exp_tail hC hlim hfs1 (by simp; lia) rfl (Nat.le_of_ble_eq_true rfl) rfl (fun e => ⟨rfl, rfl, rfl⟩) ?_
    show spanOf (#[m0, m1] ++ #[m0, m1, none, none, some p, m5].extract 2 6) 1 0 = _ ∧ spanOf (#[m0, m1] ++ #[m0, m1, none, none, some p, m5].extract 2 6) 1 1 = _ ∧ spanOf (#[m0, m1] ++ #[m0, m1, none, none, some p, m5].extract 2 6) 1 2 = _
    rw [ext26]
    exact ⟨rfl, rfl, rfl⟩
  · rw [kept4]
    refine Run.mark' #[m0, m1, m2, m3, some p, m5] 4 li hC.i69 hC.a69 rfl rfl rfl ?_
    refine exp_tail hC hlim hfs1 (by simp; lia) rfl (Nat.le_of_ble_eq_true rfl) rfl (fun e => ⟨rfl, rfl, rfl⟩) ?_
    show spanOf (#[m0, m1, m2, m3] ++ #[m0, m1, m2, m3, some p, m5].extract 4 6) 3 0 = _ ∧ spanOf (#[m0, m1, m2, m3] ++ #[m0, m1, m2, m3, some p, m5].extract 4 6) 3 1 = _ ∧ spanOf (#[m0, m1, m2, m3] ++ #[m0, m1, m2, m3, some p, m5].extract 4 6) 3 2 = _
    rw [ext46]
    exact ⟨rfl, rfl, rfl⟩
theorem Run.lift {c : Core} {j : Nat} (h : Run C T lim st j c P) (hj : j ≤ k) : Run C T lim st k c P := fun seen weight hw => by
  obtain ⟨n, hn, x⟩ := h seen weight (by lia)
  exact ⟨n, by lia, x⟩
theorem Ans.lift {c : Core} {j : Nat} {b : Bool} (h : Ans C T lim st j c b P) (hj : j ≤ k) : Ans C T lim st k c b P := fun seen weight hw => by
  obtain ⟨n, hn, x⟩ := h seen weight (by lia)
  exact ⟨n, by lia, x⟩
theorem Ans.skip' {c : Core} {f : Sre.Frame} {rest : List Sre.Frame} (loops' : Array Loop) (inner' : Option Nat) (c' : Core) (hf : c.frames = f :: rest) (ho : f.outermost = true) (hq : f.wait = .maxMore) (hb : f.began = none) (hc : c.back f.kept = c')
    (e1 : ((c.loops.modify f.loop fun l => { l with began := none }).modify f.loop fun l => { l with count := f.count - 1 }) = loops') (e2 : (loops'.getD f.loop { pc := 0, outer := none }).outer = inner')
    (hk : Run C T lim st k { c' with loops := loops', inner := inner', frames := { wait := .maxTail, pc := f.pc, pos := f.pos, outermost := true, loop := f.loop, count := f.count, kept := c'.kept false } :: rest, pc := f.pc, pos := f.pos, hd := f.pos } P) : Ans C T lim st (k + 1) c false P := by
  subst hc e1 e2
  exact Ans.skip hf ho hq hb hk
noncomputable abbrev expEnd (T : Array Nat) (lim p : Nat) : Nat := (expAt T lim p).getD p
noncomputable abbrev fracEnd (T : Array Nat) (lim p : Nat) : Nat := (fracAt T lim p).getD p
theorem frac_walk (hC : Code C) (hlim : lim ≤ maxRepeat) {p hd : Nat} {m0 m1 m2 m3 m4 m5 : Option Nat} {li : Int} {fs : List Sre.Frame} (hfs : ∀ f ∈ fs, f.outermost = true ∧ Easy f) (hlen : fs.length ≤ 4) :
    Run C T lim st 40 ⟨43, p, hd, #[m0, m1, m2, m3, m4, m5], 1, li, #[], none, fs⟩ (Fin3 st (expEnd T lim (fracEnd T lim p)) (sp m0 m1) ((fracAt T lim p).map fun e => (p, e)) ((expAt T lim (fracEnd T lim p)).map fun e => (fracEnd T lim p, e))) := by
  refine Run.loop' #[{ pc := 43, outer := none }] hC.i43 hC.a43 0 rfl rfl ?_
  dsimp only
  refine Run.more' (i := 0) (l := { pc := 43, outer := none }) #[{ pc := 43, count := 0, began := some p, outer := none }] hC.i64 rfl rfl hC.b43 hC.c43 rfl rfl (Nat.le_of_ble_eq_true rfl) rfl ?_
  dsimp only
  have hfs1 := easy_cons (f := { wait := .closeLoop, pc := 43, pos := p, outermost := true, loop := 0 }) ⟨rfl, .inr (.inr (.inl rfl))⟩ hfs
  rw [kept2]
  refine Run.mark' #[m0, m1, some p, m3, m4, m5] 2 li hC.i47 hC.a47 rfl rfl rfl ?_
  dsimp only
  have skip : ∀ {pc q hd : Nat} {lm li' : Int}, fracAt T lim p = none →
      Ans C T lim st 31 ⟨pc, q, hd, #[m0, m1, some p, m3, m4, m5], lm, li', #[{ pc := 43, count := 0, began := some p, outer := none }], some 0, { wait := .maxMore, pc := 65, pos := p, outermost := true, loop := 0, count := 0, kept := { lastmark := 1, lastindex := li, whole := true, marks := #[m0, m1] }, began := none } :: { wait := .closeLoop, pc := 43, pos := p, outermost := true, loop := 0 } :: fs⟩ false
      (Fin3 st (expEnd T lim (fracEnd T lim p)) (sp m0 m1) ((fracAt T lim p).map fun e => (p, e)) ((expAt T lim (fracEnd T lim p)).map fun e => (fracEnd T lim p, e))) := by
    intro pc q hd lm li' hnone
    have e : fracEnd T lim p = p := by show (fracAt T lim p).getD p = p; rw [hnone]; rfl
    rw [e, hnone]
    refine Ans.skip' #[{ pc := 43, count := -1, began := none, outer := none }] none ⟨pc, q, hd, #[m0, m1, some p, m3, m4, m5], 1, li, #[{ pc := 43, count := 0, began := some p, outer := none }], some 0, { wait := .maxMore, pc := 65, pos := p, outermost := true, loop := 0, count := 0, kept := { lastmark := 1, lastindex := li, whole := true, marks := #[m0, m1] }, began := none } :: { wait := .closeLoop, pc := 43, pos := p, outermost := true, loop := 0 } :: fs⟩ rfl rfl rfl rfl ?_ rfl rfl ?_
    · have : ∀ (c : Core) (kp : Sre.Kept), kp.whole = true → c.back kp = { c with lm := kp.lastmark, li := kp.lastindex, marks := kp.marks ++ c.marks.extract kp.marks.size c.marks.size } := fun c kp h => by unfold Core.back; rw [h]; rfl
      rw [this _ _ rfl]
      show Core.mk pc q hd (#[m0, m1] ++ #[m0, m1, some p, m3, m4, m5].extract 2 6) 1 li _ _ _ = _
      rw [ext26]
    exact Run.lift (exp_walk hC hlim (easy_cons ⟨rfl, .inr (.inr (.inr (.inr rfl)))⟩ hfs1) (by simp; lia) (.inl ⟨rfl, rfl⟩)) (by lia)
  refine Run.one hC.o49 (fun hp he => ?_) fun hn => ?_
  · dsimp only at hp he ⊢
    have he' : T.getD p 0 = 46 := by simpa using he
    refine Run.rep hC.i51 hC.a51 hC.b51 hC.c51 hC.o55 (Nat.le_of_ble_eq_true rfl) (fun _ d hd hd1 => ?_) fun hn => ?_
    · dsimp only at hd ⊢
      have hd' : d = digs T lim (p + 1) := by rw [hd, minMax hlim]; rfl
      have he : fracAt T lim p = some (p + 1 + d) := by
        unfold fracAt
        rw [if_pos ⟨hp, he', by rw [← hd']; exact hd1⟩, ← hd']
      have e : fracEnd T lim p = p + 1 + d := by show (fracAt T lim p).getD p = _; rw [he]; rfl
      rw [e, he]
      refine Run.mark' #[m0, m1, some p, some (p + 1 + d), m4, m5] 3 2 hC.i62 hC.a62 rfl rfl rfl ?_
      dsimp only
      refine Run.over (i := 0) (l := { pc := 43, count := 0, began := some p, outer := none }) hC.i64 rfl rfl hC.b43 hC.c43 rfl ?_
      dsimp only
      exact Run.lift (exp_walk hC hlim (easy_cons ⟨rfl, .inr (.inr (.inr (.inr rfl)))⟩ (easy_cons ⟨rfl, .inr (.inl rfl)⟩ (easy_cons ⟨rfl, .inr (.inr (.inr (.inl rfl)))⟩ hfs1))) (by simp; lia) (.inr ⟨rfl, rfl⟩)) (by lia)
    · dsimp only at hn ⊢
      refine Ans.lift (skip ?_) (by lia)
      unfold fracAt
      rw [if_neg fun q => ?_]
      rcases hn with hn | hn
      · have := many_le (T := T) (f := dig) (lim - (p + 1)) (p + 1)
        unfold digs at q; lia
      · rw [minMax hlim] at hn
        unfold digs at q; lia
  · dsimp only at hn
    have he : fracAt T lim p = none := by
      unfold fracAt
      rw [if_neg fun q => ?_]
      rcases hn with hn | hn
      · lia
      · simp only [beq_eq_false_iff_ne] at hn
        lia
    exact Ans.lift (skip he) (by lia)
noncomputable def NumAt (T : Array Nat) (lim st : Nat) (m : Sre.M) : Prop := match intAt T lim (signAt T lim st) with
  | none => m.outcome = some .failed
  | some p => Fin3 st (expEnd T lim (fracEnd T lim p)) (some (st, p)) ((fracAt T lim p).map fun e => (p, e)) ((expAt T lim (fracEnd T lim p)).map fun e => (fracEnd T lim p, e)) m
theorem kept0 {c : Core} : c.kept false = { lastmark := c.lm, lastindex := c.li, whole := false, marks := #[] } := rfl
theorem back0 {c : Core} {kp : Sre.Kept} (h : kp.whole = false) : c.back kp = { c with lm := kp.lastmark, li := kp.lastindex } := by unfold Core.back; rw [h]; rfl
theorem int_walk (hC : Code C) (hlim : lim ≤ maxRepeat) {p hd : Nat} {Mk : Array (Option Nat)} {fs : List Sre.Frame} (hMk : Mk.size ≤ 6)
    (hp : ∀ e hd' F, intAt T lim p = some e → F.length ≤ 2 → (∀ f ∈ F, f.outermost = true ∧ Easy f) → Run C T lim st k ⟨41, e, hd', Mk, 0, -1, #[], none, F ++ fs⟩ P)
    (hf : intAt T lim p = none → ∀ pc q hd', Ans C T lim st k ⟨pc, q, hd', Mk, 0, -1, #[], none, fs⟩ false P) : Run C T lim st (k + 6) ⟨14, p, hd, Mk, 0, -1, #[], none, fs⟩ P := by
  refine Run.branch (a := 5) hC.i14 (by show (C.getD 15 0 == 0) = false; rw [hC.a14]; rfl) hMk ?_
  dsimp only
  rw [show (none : Option Nat).isSome = false from rfl, kept0]
  refine Run.one hC.o16 (fun h1 h2 => ?_) fun hn => ?_
  · dsimp only at h1 h2 ⊢
    have h2' : T.getD p 0 = 48 := by simpa using h2
    refine Run.jump hC.i18 hC.a18 ?_
    refine Run.lift (hp (p + 1) _ [{ wait := .nextBranch, pc := 15, pos := p, outermost := true, kept := { lastmark := 0, lastindex := -1, whole := false, marks := #[] } }] ?_ (by simp) (easy_cons ⟨rfl, .inl rfl⟩ fun _ h => nomatch h)) (by lia)
    unfold intAt; rw [if_pos ⟨h1, h2'⟩]
  · dsimp only at hn
    have h0 : ¬ (p < lim ∧ T.getD p 0 = 48) := fun q => by
      rcases hn with hn | hn
      · lia
      · simp only [beq_eq_false_iff_ne] at hn; lia
    refine Ans.branch (d := 0) rfl rfl rfl hC.a14 (by show (C.getD 20 0 == 0) = false; rw [hC.a20]; rfl) (Nat.zero_le _) ?_
    rw [back0 rfl]
    dsimp only
    refine Run.one hC.o21 (fun h1 h2 => ?_) fun hn => ?_
    · dsimp only at h1 h2 ⊢
      have h2' : 49 ≤ T.getD p 0 ∧ T.getD p 0 ≤ 57 := by rw [Bool.and_eq_true] at h2; simpa only [decide_eq_true_eq] using h2
      refine Run.rep hC.i27 hC.a27 hC.b27 hC.c27 hC.o31 hMk (fun _ d hd hd1 => ?_) fun hn => by
        rcases hn with hn | hn
        · have hn : lim < p + 1 + 0 := hn
          lia
        · exact absurd hn (Nat.not_lt_zero _)
      dsimp only at hd ⊢
      have hd' : d = digs T lim (p + 1) := by rw [hd, minMax hlim]; rfl
      refine Run.jump hC.i38 hC.a38 ?_
      rw [show (none : Option Nat).isSome = false from rfl, kept0]
      refine hp (p + 1 + d) _ [{ wait := .giveBack, pc := 27, pos := p + 1 + d, outermost := true, count := d, kept := { lastmark := 0, lastindex := -1, whole := false, marks := #[] } }, { wait := .nextBranch, pc := 20, pos := p, outermost := true, kept := { lastmark := 0, lastindex := -1, whole := false, marks := #[] } }] ?_ (by simp) (easy_cons ⟨rfl, .inr (.inl rfl)⟩ (easy_cons ⟨rfl, .inl rfl⟩ fun _ h => nomatch h))
      unfold intAt; rw [if_neg h0, if_pos ⟨h1, h2'⟩, ← hd']
    · dsimp only at hn
      refine Ans.branchEnd (d := 0) rfl rfl rfl hC.a20 (by show (C.getD 40 0 == 0) = true; rw [hC.a40]; rfl) ?_
      rw [back0 rfl]
      refine Ans.lift (hf ?_ _ _ _) (by lia)
      unfold intAt; rw [if_neg h0, if_neg fun q => ?_]
      rcases hn with hn | hn
      · lia
      · rw [Bool.and_eq_false_iff] at hn
        simp only [decide_eq_false_iff_not] at hn
        lia
theorem num_walk (hC : Code C) (hlim : lim ≤ maxRepeat) : Run C T lim st 100 ⟨5, st, st, #[none, none, none, none, none, none], -1, -1, #[], none, []⟩ (NumAt T lim st) := by
  have found : ∀ e hd' F, intAt T lim (signAt T lim st) = some e → F.length ≤ 4 → (∀ f ∈ F, f.outermost = true ∧ Easy f) → Run C T lim st 50 ⟨41, e, hd', #[some st, none, none, none, none, none], 0, -1, #[], none, F⟩ (NumAt T lim st) := by
    intro e hd' F he hl hF
    refine Run.mark' #[some st, some e, none, none, none, none] 1 1 hC.i41 hC.a41 rfl rfl rfl ?_
    unfold NumAt
    rw [he]
    exact Run.lift (frac_walk hC hlim hF hl) (by lia)
  have lost : intAt T lim (signAt T lim st) = none → ∀ c : Core, c.frames = [] → Ans C T lim st 10 c false (NumAt T lim st) := fun h c hc => Ans.fail hc fun m hm => by unfold NumAt; rw [h]; exact hm
  refine Run.mark' #[some st, none, none, none, none, none] 0 (-1) hC.i5 hC.a5 rfl rfl rfl ?_
  dsimp only
  refine Run.rep hC.i7 hC.a7 hC.b7 hC.c7 hC.o11 (Nat.le_of_ble_eq_true rfl) (fun _ n hn _ => ?_) fun hn => ?_
  · dsimp only at hn ⊢
    have hn' : n = if st < lim ∧ T.getD st 0 = 45 then 1 else 0 := by
      rw [hn]; exact many1.trans (by simp)
    have hpn : st + n = signAt T lim st := by
      rw [hn']; unfold signAt
      by_cases q : st < lim ∧ T.getD st 0 = 45
      · rw [if_pos q, if_pos q]
      · rw [if_neg q, if_neg q]; rfl
    rw [show (none : Option Nat).isSome = false from rfl, kept0]
    refine Run.lift (j := 50 + 6) (int_walk hC hlim (Nat.le_of_ble_eq_true rfl) (fun e hd' F he hl hF => ?_) fun he pc q hd' => ?_) (by lia)
    · rw [hpn] at he
      refine found e hd' _ he (by simp; lia) fun f hf => ?_
      rcases List.mem_append.mp hf with hf | hf
      · exact hF f hf
      · rw [List.mem_singleton] at hf
        subst hf
        exact ⟨rfl, .inr (.inl rfl)⟩
    · rw [hpn] at he
      by_cases hc : st < lim ∧ T.getD st 0 = 45
      · rw [if_pos hc] at hn'
        subst hn'
        refine Ans.give rfl rfl rfl hC.b7 (by dsimp only; decide) hC.a7 (Nat.zero_le _) ?_
        rw [back0 rfl]
        dsimp only
        refine Run.lift (j := 20 + 6) (int_walk hC hlim (Nat.le_of_ble_eq_true rfl) (fun e hd' F he' hl hF => ?_) fun he' pc q hd' => ?_) (by lia)
        · exfalso
          have he' : intAt T lim st = some e := he'
          unfold intAt at he'
          rw [hc.2] at he'
          simp at he'
        · refine Ans.giveEnd rfl rfl rfl hC.b7 (by dsimp only; decide) ?_
          exact Ans.lift (lost he _ rfl) (by lia)
      · rw [if_neg hc] at hn'
        subst hn'
        refine Ans.giveEnd rfl rfl rfl hC.b7 (by dsimp only; decide) ?_
        exact Ans.lift (lost he _ rfl) (by lia)
  · dsimp only at hn
    rcases hn with hn | hn
    · have hnn : intAt T lim (signAt T lim st) = none := by
        have e : signAt T lim st = st := if_neg (by lia)
        rw [e]
        unfold intAt
        rw [if_neg (by lia), if_neg (by lia)]
      exact Ans.lift (lost hnn _ rfl) (by lia)
    · exact absurd hn (Nat.not_lt_zero _)
end
end Mine
end
section
open PySem PySem.W PySem.Calls PyProof.Rows
open Builtin Builtin.ObjectAttr
set_option Elab.async false
set_option maxRecDepth 100000
set_option maxHeartbeats 2000000
set_option autoImplicit false
set_option linter.unusedVariables false
namespace Mine
section
variable {prog : Program} {w : World} {A : Around} {E : Value → Shared → Prop} {h : Heap} {g : Array GenState} {d : Drawn} {t : Nat} {os : OsState} {x : Addr} {o : Obj} {name : Str} {v : Value}
theorem excget_entry {D : Addr} {m : Str → Option Value} {tk : Tok} {vs : Array Value} {Q : Fin → Shared → Prop} (hx : h.get? x = some o) (hc : o.cls = .type "Exception") (hd : o.dict = some D) (hdt : o.data = .fields vs) (hn : h.Ns D m) (hm : m name = some v) (hB : typeLookup (.type "Exception") name = pure none)
    (hq : Q (.done (.ret v)) ⟨h, g, d, t, os⟩) : wpAny (model prog w) A (Builtin.«object.__getattribute__» ⟨[.ref x, .str name tk], []⟩) Q E ⟨h, g, d, t, os⟩ := by
  have hT : (⟨h, g, d, t, os⟩ : Shared).TypeIs (.ref x) "Exception" := ⟨_, hx, hc⟩
  repeat (any_goals (first | assumption | wp_step))
  simp only [hdt]
  unfold instanceDict
  repeat (any_goals (first | assumption | (with_reducible refine wpAny_loadPart_at hx ?_; rw [hc]) | wp_step))
  rw [hd]
  refine wpAny_pure ?_
  repeat (any_goals (first | assumption | (with_reducible refine wpAny_nsGet hn ?_; rw [hm]) | wp_step))
theorem exc_get {D : Addr} {m : Str → Option Value} {expr : Bool} {vs : Array Value} {Q : Value → Shared → Prop} (hx : h.get? x = some o) (hc : o.cls = .type "Exception") (hd : o.dict = some D) (hdt : o.data = .fields vs) (hn : h.Ns D m) (hm : m name = some v) (hB : typeLookup (.type "Exception") name = pure none) (hh : handedOut v = pure v)
    (hq : Q v ⟨h, g, d, t + 1, os⟩) : wpAny (model prog w) A (getAttr (.ref x) name expr) Q E ⟨h, g, d, t, os⟩ := by
  have hT : (⟨h, g, d, t + 1, os⟩ : Shared).TypeIs (.ref x) "Exception" := ⟨_, hx, hc⟩
  have f2 := F.attr_Exception.ga.lookup
  have f3 := F.attr_Exception.ga.bind (.ref x)
  have hx0 : (expr && onTheHeap (Value.builtin "BaseException.__getattribute__")) = false := by cases expr <;> rfl
  unfold getAttr
  repeat (any_goals (first | assumption | wp_step))
  refine codeAny_call_builtin F.attr_Exception.ga.plain F.entry_bexc_ga (F.attr_Exception.ga.check _ _ _ _ _ _ _ _ hT (F.args_bexc_ga _ _) (excget_entry hx hc hd hdt hn hm hB ?_))
  repeat (any_goals (first | assumption | wp_step))
theorem excset_first {tk : Tok} {vs : Array Value} {Q : Fin → Shared → Prop} (hx : h.get? x = some o) (hc : o.cls = .type "Exception") (hd : o.dict = none) (hdt : o.data = .fields vs) (hB : typeLookup (.type "Exception") name = pure none)
    (hq : ∀ h' tk' D, h.get? D = none → h'.get? x = some { o with dict := some D } → h'.Ns1 D (fun y => if y = name then some v else none) → (∀ b ob, b ≠ x → h.get? b = some ob → h'.get? b = some ob) → Q (.done (.ret .none)) ⟨h', g, d, tk', os⟩) :
    wpAny (model prog w) A (Builtin.«object.__setattr__» ⟨[.ref x, .str name tk, v], []⟩) Q E ⟨h, g, d, t, os⟩ := by
  have hT : (⟨h, g, d, t, os⟩ : Shared).TypeIs (.ref x) "Exception" := ⟨_, hx, hc⟩
  have hpass := F.store_Exception.passes (.ref x)
  have hmro := F.store_Exception.mro
  unfold Builtin.«object.__setattr__»
  repeat (first | rw [refuse_eq] | (with_reducible refine wpAny_loadPart_at hx ?_; rw [hc]) | wp_step)
  rw [hd]
  simp only [hdt]
  rw [if_neg (by decide +kernel)]
  have hx₁ : (h.push { cls := .type "dict", data := .dict #[] }).get? x = some o := Heap.get?_push_of_some _ hx
  have hxs : x ≠ h.objs.size := Nat.ne_of_lt (Heap.lt_size hx)
  refine wpAny_bind (wpAny_alloc' ?_)
  refine wpAny_bind (wpAny_update' hx₁ ?_)
  show wpAny _ _ (pure _) _ _ _
  refine wpAny_pure ?_
  have hgd : ((h.push { cls := .type "dict", data := .dict #[] }).update x fun o => { cls := o.cls, dict := some h.objs.size, data := o.data, slots := o.slots }).get? h.objs.size
      = some { cls := .type "dict", data := .dict #[] } :=
    (Heap.get?_update_ne _ _ _ _ hxs.symm).trans (Heap.get?_push_at rfl rfl)
  have hnd : ((h.push { cls := .type "dict", data := .dict #[] }).update x fun o => { cls := o.cls, dict := some h.objs.size, data := o.data, slots := o.slots }).Ns h.objs.size (fun _ => none) :=
    ⟨_, #[], _, hgd, rfl, fun e he => absurd he (by simp), fun _ => rfl⟩
  show wpAny _ _ (storeInDict h.objs.size (.str name tk) name v) _ _ _
  unfold storeInDict newKeyGuard
  refine wpAny_bind (wpAny_pure (wpAny_bind (wpAny_nsSet1 (Heap.Ns1.of_empty hnd) fun h' hn' hs => ?_)))
  obtain ⟨oD, esD, epD, hoD, hdD, hcD⟩ := hn'.count (Within.cons name v Within.nil)
  refine wpAny_bind (wpAny_lookBehind hoD (by rw [hdD]; exact pastItsLine_dict (Nat.le_trans hcD (by rw [List.length_cons, List.length_nil, sizeLine_eq]; lia))) ?_)
  refine wpAny_pure ?_
  refine hq h' _ h.objs.size ?_ ?_ hn' fun b ob hbx hb => ?_
  · cases q : h.get? h.objs.size with
    | none => rfl
    | some o => exact absurd (Heap.lt_size q) (Nat.lt_irrefl _)
  · refine (hs.2 x hxs).trans (Heap.get?_update_self _ hx₁ ?_)
    have hfr := (Heap.get?_some_iff.mp hx).2
    obtain ⟨oc, od, odt, osl⟩ := o
    cases odt <;> first | rfl | exact hfr
  · exact (hs.2 b (Nat.ne_of_lt (Heap.lt_size hb))).trans ((Heap.get?_update_ne _ _ _ _ hbx).trans (Heap.get?_push_of_some _ hb))
theorem excset_more {tk : Tok} {vs : Array Value} {D : Addr} {m : Str → Option Value} {ns : List Str} {Q : Fin → Shared → Prop} (hx : h.get? x = some o) (hc : o.cls = .type "Exception") (hd : o.dict = some D) (hdt : o.data = .fields vs) (hB : typeLookup (.type "Exception") name = pure none) (hn : h.Ns1 D m) (hw : Within m ns) (hsz : ns.length + 1 ≤ sizeLine)
    (hq : ∀ h' tk', h'.Ns1 D (fun y => if y = name then some v else m y) → Heap.SameBut D h h' → Q (.done (.ret .none)) ⟨h', g, d, tk', os⟩) :
    wpAny (model prog w) A (Builtin.«object.__setattr__» ⟨[.ref x, .str name tk, v], []⟩) Q E ⟨h, g, d, t, os⟩ := by
  have hT : (⟨h, g, d, t, os⟩ : Shared).TypeIs (.ref x) "Exception" := ⟨_, hx, hc⟩
  have hpass := F.store_Exception.passes (.ref x)
  have hmro := F.store_Exception.mro
  unfold Builtin.«object.__setattr__»
  repeat (first | rw [refuse_eq] | (with_reducible refine wpAny_loadPart_at hx ?_; rw [hc]) | wp_step)
  rw [hd]
  refine wpAny_pure ?_
  show wpAny _ _ (storeInDict D (.str name tk) name v) _ _ _
  unfold storeInDict newKeyGuard
  refine wpAny_bind (wpAny_pure (wpAny_bind (wpAny_nsSet1 hn fun h' hn' hs => ?_)))
  obtain ⟨oD, esD, epD, hoD, hdD, hcD⟩ := hn'.count (Within.cons name v hw)
  refine wpAny_bind (wpAny_lookBehind hoD (by rw [hdD]; exact pastItsLine_dict (Nat.le_trans hcD (by rw [List.length_cons]; lia))) ?_)
  exact wpAny_pure (hq h' _ hn' hs)
theorem exc_set {Q : Unit → Shared → Prop} (hx : h.get? x = some o) (hc : o.cls = .type "Exception")
    (key : ∀ (tk : Tok) (P : Fin → Shared → Prop) (E' : Value → Shared → Prop) (A' : Around), (∀ s, Q () s → P (.done (.ret .none)) s) → wpAny (model prog w) A' (Builtin.«object.__setattr__» ⟨[.ref x, .str name tk, v], []⟩) P E' ⟨h, g, d, t + 1, os⟩) :
    wpAny (model prog w) A (setAttr (.ref x) name v) Q E ⟨h, g, d, t, os⟩ := by
  have hT : (⟨h, g, d, t + 1, os⟩ : Shared).TypeIs (.ref x) "Exception" := ⟨_, hx, hc⟩
  have f2 := F.store_Exception.slot.lookup
  have f3 := F.store_Exception.slot.bind (.ref x)
  unfold setAttr callSpecial? specialOf
  repeat (any_goals (first | assumption | wp_step))
  refine codeAny_call_builtin F.store_Exception.slot.plain F.store_Exception.entry (F.store_Exception.slot.check _ _ _ _ _ _ _ _ hT (F.store_Exception.args _ _ _) (key _ _ _ _ fun s hs => ?_))
  repeat (any_goals (first | assumption | wp_step))
noncomputable abbrev boundM (id : String) (self : Value) : Obj := { cls := .type "builtin_function_or_method", data := .fields #[.builtin id, self] }
theorem slot_md_get : Slot "method_descriptor" "__get__" "method_descriptor.__get__" :=
  .of (owner := "method_descriptor") (n := "__get__") (by rw [typeLookup_type, builtinLookup_eq_fast]; kernel_rfl) (by decide +kernel) (by decide +kernel) (by decide +kernel)
    (by first | exact .inl (by decide +kernel) | exact .inr (by decide +kernel)) (by rw [isSubtype_type]; kernel_rfl)
theorem entry_md_get : entryFor table "method_descriptor.__get__" = some Builtin.«method_descriptor.__get__» := entryFor_of_tree (by kernel_rfl)
theorem args_md_get (a b c : Value) : argsOk "method_descriptor.__get__" ⟨[a, b, c], []⟩ := by unfold argsOk; kernel_rfl
theorem type_match : typeOf (.builtin "re.Pattern.match") = pure (.type "method_descriptor") := by show builtinType _ = _; rw [builtinType_eq_fast]; kernel_rfl
theorem slot_pat_ga : Slot "re.Pattern" "__getattribute__" "object.__getattribute__" :=
  .of (owner := "object") (n := "__getattribute__") (by rw [typeLookup_type, builtinLookup_eq_fast]; kernel_rfl) (by decide +kernel) (by decide +kernel) (by decide +kernel)
    (by first | exact .inl (by decide +kernel) | exact .inr (by decide +kernel)) (by rw [isSubtype_type]; kernel_rfl)
theorem lk_pat_match : typeLookup (.type "re.Pattern") "match" = pure (some (.builtin "re.Pattern.match")) := by rw [typeLookup_type, builtinLookup_eq_fast]; kernel_rfl
theorem md_noset : typeLookup (.type "method_descriptor") "__set__" = pure none := by rw [typeLookup_type, builtinLookup_eq_fast]; kernel_rfl
theorem md_nodel : typeLookup (.type "method_descriptor") "__delete__" = pure none := by rw [typeLookup_type, builtinLookup_eq_fast]; kernel_rfl
theorem sub_pat : isSubtype (.type "re.Pattern") (.type "re.Pattern") = pure true := by rw [isSubtype_type]; kernel_rfl
theorem told_match : Manifest.toldItsClass.contains "re.Pattern.match" = true := by decide +kernel
theorem owner_match : (".".intercalate ("re.Pattern.match".cutAt '.').dropLast) = "re.Pattern" := by
  have e0 : "re.Pattern.match".cutAt '.' = ["re", "Pattern", "match"] := by first | rfl | decide +kernel
  rw [e0]; decide +kernel
theorem isType_pat : isType (.type "re.Pattern") = pure true := by first | rfl | kernel_rfl | (unfold isType; rw [isSubtype_type]; kernel_rfl)
theorem md_get_run {P : Fin → Shared → Prop} (hx : h.get? x = some o) (hc : o.cls = .type "re.Pattern") (hq : P (.done (.ret (.ref h.objs.size))) ⟨h.push (boundM "re.Pattern.match" (.ref x)), g, d, t, os⟩) :
    wpAny (model prog w) A (Builtin.«method_descriptor.__get__» ⟨[.builtin "re.Pattern.match", .ref x, .type "re.Pattern"], []⟩) P E ⟨h, g, d, t, os⟩ := by
  have hT : (⟨h, g, d, t, os⟩ : Shared).TypeIs (.ref x) "re.Pattern" := ⟨_, hx, hc⟩
  have f8 : isSubtype (.type "re.Pattern") (.type (".".intercalate ("re.Pattern.match".cutAt '.').dropLast)) = pure true := by rw [owner_match]; exact sub_pat
  have f9 := isType_pat
  unfold Builtin.«method_descriptor.__get__»
  refine wpAny_bind (wpAny_of_eq (a := (.builtin "re.Pattern.match", some (.ref x), some (.type "re.Pattern"))) (by first | rfl | kernel_rfl) ?_)
  simp only [told_match]
  repeat (any_goals (first | assumption | wp_step))
theorem pat_match {expr : Bool} {Q : Value → Shared → Prop} {vs : Array Value} (hx : h.get? x = some o) (hc : o.cls = .type "re.Pattern") (hd : o.dict = none) (hdt : o.data = .fields vs)
    (hq : Q (.ref h.objs.size) ⟨h.push (boundM "re.Pattern.match" (.ref x)), g, d, t + 1, os⟩) : wpAny (model prog w) A (getAttr (.ref x) "match" expr) Q E ⟨h, g, d, t, os⟩ := by
  have hT : (⟨h, g, d, t + 1, os⟩ : Shared).TypeIs (.ref x) "re.Pattern" := ⟨_, hx, hc⟩
  have f2 := slot_pat_ga.lookup
  have f3 := slot_pat_ga.bind (.ref x)
  have f4 := lk_pat_match
  have f5 := type_match
  have f6 := slot_md_get.lookup
  have f7 := md_noset
  have f8 := md_nodel
  have hx0 : (expr && onTheHeap (Value.builtin "object.__getattribute__")) = false := by cases expr <;> rfl
  unfold getAttr
  repeat (any_goals (first | assumption | wp_step))
  refine codeAny_call_builtin slot_pat_ga.plain F.entry_object_getattribute (slot_pat_ga.check _ _ _ _ _ _ _ _ hT (F.args_object_getattribute_2 _ _) ?_)
  repeat (any_goals (first | assumption | wp_step))
  simp only [hdt]
  unfold instanceDict
  repeat (any_goals (first | assumption | (with_reducible refine wpAny_loadPart_at hx ?_; rw [hc]) | wp_step))
  rw [hd]
  refine wpAny_pure ?_
  repeat (any_goals (first | assumption | wp_step))
  refine codeAny_call_builtin slot_md_get.plain entry_md_get (slot_md_get.check _ _ _ _ _ _ _ _ (show (⟨h, g, d, t + 1, os⟩ : Shared).TypeIs (.builtin "re.Pattern.match") "method_descriptor" from type_match) (args_md_get _ _ _) (md_get_run hx hc ?_))
  exact wpAny_pure (wpAny_pure hq)
end
end Mine
end
section
open PySem PySem.W PySem.Calls PyProof.Rows
open Builtin Builtin.Re
set_option Elab.async false
set_option maxRecDepth 100000
set_option autoImplicit false
set_option linter.unusedVariables false
namespace Mine
section
variable {prog : Program} {w : World} {A : Around} {E : Value → Shared → Prop} {h : Heap} {g : Array GenState} {d : Drawn} {t : Nat} {os : OsState} {x : Addr} {o : Obj} {name : Str} {v : Value}
theorem entry_match : entryFor table "re.Pattern.match" = some Builtin.«re.Pattern.match» := entryFor_of_tree (by kernel_rfl)
theorem quiet_match {as : Args} : (Code.builtin "re.Pattern.match" as).quiet = true := Code.quiet_builtin _ (by decide +kernel)
theorem sub_pat_mod : isSubtype (.type "re.Pattern") (.type "module") = pure false := by rw [isSubtype_type]; kernel_rfl
theorem sig_match {sig : Manifest.Signature} (hs : Manifest.signature? "re.Pattern.match" = some sig) (x a b : Value) : Bind.checkArgs "re.Pattern.match" { sig with full := toString (Bind.lastOf "re.Pattern") ++ toString "." ++ toString (Bind.lastOf "re.Pattern.match") } ⟨[x, a, b], []⟩ = pure () := by
  have e : sig = (Manifest.signature? "re.Pattern.match").get (by decide +kernel) := by simp [hs]
  rw [e]
  kernel_rfl
theorem check_match {a b : Value} {vs : Array Value} {Q : Unit → Shared → Prop} (hx : h.get? x = some o) (hc : o.cls = .type "re.Pattern") (hdt : o.data = .fields vs) (hq : Q () ⟨h, g, d, t, os⟩) :
    wpAny (model prog w) A (checkBoundCall "re.Pattern.match" ⟨[.ref x, a, b], []⟩) Q E ⟨h, g, d, t, os⟩ := by
  have hT : (⟨h, g, d, t, os⟩ : Shared).TypeIs (.ref x) "re.Pattern" := ⟨_, hx, hc⟩
  have f1 := sub_pat_mod
  obtain ⟨sig, hs⟩ : ∃ sig, Manifest.signature? "re.Pattern.match" = some sig := Option.isSome_iff_exists.mp (by decide +kernel)
  have hk : builtinKind "re.Pattern.match" = some .method := by decide +kernel
  have hv : Manifest.varargsMethods.contains "re.Pattern.match" = false := by decide +kernel
  have ha := sig_match hs
  unfold checkBoundCall
  rw [hs]
  simp only [hk]
  rw [if_neg (by decide)]
  refine wpAny_bind (wpAny_isInstance hT f1 ?_)
  rw [if_neg (by rw [hv]; decide)]
  have hty : wpAny (model prog w) A (isType (.ref x)) (fun b s' => b = false ∧ s' = ⟨h, g, d, t, os⟩) E ⟨h, g, d, t, os⟩ := by
    repeat (any_goals (first | assumption | wp_step))
    simp only [hdt]
    exact ⟨trivial, trivial⟩
  refine wpAny_bind (wpAny_mono hty (fun b s' hb => ?_) fun _ _ e => e)
  obtain ⟨rfl, rfl⟩ := hb
  rw [if_neg (by decide)]
  refine wpAny_bind (wpAny_typeOf_ref hx ?_)
  rw [hc]
  show wpAny _ _ (Bind.checkArgs "re.Pattern.match" _ _) _ _ _
  rw [ha]
  exact wpAny_pure hq
theorem call_match {u : Addr} {a b : Value} {vs : Array Value} {Q : Value → Shared → Prop} (hu : h.get? u = some (boundM "re.Pattern.match" (.ref x))) (hx : h.get? x = some o) (hc : o.cls = .type "re.Pattern") (hdt : o.data = .fields vs)
    (key : ∀ A', wpAny (model prog w) A' (Builtin.«re.Pattern.match» ⟨[.ref x, a, b], []⟩) (fun fin s' => ∃ v, fin = .done (.ret v) ∧ Q v s') E ⟨h, g, d, t, os⟩) :
    wpAny (model prog w) A (call (.ref u) [a, b]) Q E ⟨h, g, d, t, os⟩ := by
  refine wpAny_call (codeAny_of_tree ?_)
  show wpAny _ A.in1 (callAny (.ref u) ⟨[a, b], []⟩) _ _ _
  simp only [callAny]
  refine wpAny_bind (wpAny_load hu ?_)
  simp only [show (Value.type "builtin_function_or_method" == Value.type "method" || Value.type "builtin_function_or_method" == Value.type "builtin_function_or_method" || Value.type "builtin_function_or_method" == Value.type "method-wrapper") = true by decide, if_true]
  show wpAny _ _ (if (Value.type "builtin_function_or_method" != Value.type "method") = true then do
          checkBoundCall "re.Pattern.match" { pos := [.ref x, a, b] }
          again (Code.builtin "re.Pattern.match" { pos := [.ref x, a, b] })
        else again (Code.call (.builtin "re.Pattern.match") { pos := [.ref x, a, b] })) _ _ _
  rw [if_pos (by decide)]
  refine wpAny_bind (check_match hx hc hdt ?_)
  refine wpAny_pure ⟨quiet_match, codeAny_builtin entry_match (wpAny_mono (key _) (fun fin s' hq => ?_) fun _ _ e => e)⟩
  obtain ⟨v, rfl, hq⟩ := hq
  exact hq
theorem runFor_stay : ∀ (n : Nat) (m : Sre.M), m.outcome.isSome = true → Sre.M.runFor n m = m
  | 0, m, _ => rfl
  | n + 1, m, h => by
    show (if m.outcome.isSome then m else Sre.M.runFor n m.step) = m
    rw [if_pos h]
theorem runFor_add : ∀ (a b : Nat) (m : Sre.M), Sre.M.runFor (a + b) m = Sre.M.runFor b (Sre.M.runFor a m)
  | 0, b, m => by rw [Nat.zero_add]; rfl
  | a + 1, b, m => by
    have e : a + 1 + b = (a + b) + 1 := by lia
    rw [e]
    show (if m.outcome.isSome then m else Sre.M.runFor (a + b) m.step) = Sre.M.runFor b (if m.outcome.isSome then m else Sre.M.runFor a m.step)
    by_cases h : m.outcome.isSome = true
    · rw [if_pos h, if_pos h, runFor_stay _ _ h]
    · rw [if_neg h, if_neg h, runFor_add a b]
theorem drive {M : Model} {s : Shared} {P : Sre.M → Prop} {Q : Sre.M → Shared → Prop} : ∀ (T k : Nat) (m : Sre.M), Go k m P → k ≤ 4 * T → (∀ m', m'.outcome.isSome = true → P m' → Q m' s) → wpAny M A (reDrive (T + 1) m) Q E s
  | T, k, m, ⟨n, hn, ho, hp⟩, hk, hQ => by
    have e : reDrive (T + 1) m = (if (Sre.M.runFor 4 m).outcome.isSome then pure (Sre.M.runFor 4 m) else do rule "sre.turn"; reDrive T (Sre.M.runFor 4 m)) := rfl
    rw [e]
    by_cases h4 : (Sre.M.runFor 4 m).outcome.isSome = true
    · rw [if_pos h4]
      refine wpAny_pure ?_
      have : Sre.M.runFor n m = Sre.M.runFor 4 m := by
        rcases Nat.le_total n 4 with q | q
        · obtain ⟨j, hj⟩ := Nat.exists_eq_add_of_le q
          rw [hj, runFor_add n j, runFor_stay _ _ ho]
        · obtain ⟨j, rfl⟩ := Nat.exists_eq_add_of_le q
          rw [runFor_add 4 j, runFor_stay _ _ h4]
      rw [this] at hp
      exact hQ _ h4 hp
    · rw [if_neg h4]
      have q : 4 < n := by
        rcases Nat.lt_or_ge 4 n with q | q
        · exact q
        · obtain ⟨j, hj⟩ := Nat.exists_eq_add_of_le q
          rw [hj, runFor_add n j, runFor_stay _ _ ho] at h4
          exact absurd ho h4
      obtain ⟨j, rfl⟩ := Nat.exists_eq_add_of_le (Nat.le_of_lt q)
      rw [runFor_add 4 j] at ho hp
      obtain ⟨T', rfl⟩ : ∃ T', T = T' + 1 := ⟨T - 1, by lia⟩
      exact wpAny_bind (wpAny_rule (drive T' (k - 4) _ ⟨j, by lia, ho, hp⟩ (by lia) hQ))
theorem rules_quiet {M : Model} {s : Shared} {p : Nat → Bool} {nm : Nat → String} {Q : PUnit → Shared → Prop} : ∀ (l : List Nat), Q PUnit.unit s → wpAny M A (forIn l PUnit.unit fun i (_ : PUnit) => if p i = true then do rule (nm i); pure (ForInStep.yield PUnit.unit) else pure (ForInStep.yield PUnit.unit)) Q E s
  | [], h => by rw [List.forIn_nil]; exact wpAny_pure h
  | i :: l, h => by
    rw [List.forIn_cons]
    refine wpAny_bind ?_
    cases p i
    · exact wpAny_pure (rules_quiet l h)
    · exact wpAny_bind (wpAny_rule (wpAny_pure (rules_quiet l h)))
theorem run_end {M : Model} {s : Shared} {m : Sre.M} {P : Sre.M → Prop} {k : Nat} {Q : Option Sre.M → Shared → Prop} (hg : Go k m P) (hk : k ≤ 1000) (hP : ∀ m', P m' → (m'.outcome = some .matched ∧ Q (some m') s) ∨ (m'.outcome = some .failed ∧ Q none s)) : wpAny M A (reRunToEnd m) Q E s := by
  unfold reRunToEnd
  obtain ⟨T, hT⟩ : ∃ T, 2 ^ 64 = (T + 1000) + 1 := ⟨2 ^ 64 - 1001, by decide⟩
  rw [hT]
  refine wpAny_bind (drive (P := P) (T + 1000) k m hg (by lia) fun m' ho hp => ?_)
  refine wpAny_bind ?_
  refine rules_quiet (p := fun i => m'.seen.has i) (nm := fun i => Sre.names.getD i "") _ ?_
  rcases hP m' hp with ⟨e, q⟩ | ⟨e, q⟩
  · rw [e]; exact wpAny_pure q
  · rw [e]; exact wpAny_pure q
noncomputable def wordsOf (items : Array Value) : Array Nat := (items.map reRawOf).map (·.toNat)
theorem target {M : Model} {s : Shared} {fs items : Array Value} {c : Addr} {oc : Obj} {n : Nat} {T : Str} {i : Int} {tk tk2 t3 t6 : Tok} {Q : ReTarget → Shared → Prop} (hx : s.heap.get? x = some o) (hdt : o.data = .fields fs) (h6 : fs.getD 6 .none = .int 0 t6) (h5 : fs.getD 5 .none = .ref c) (h2 : fs.getD 2 .none = .int 3 t3)
    (hc : s.heap.get? c = some oc) (hcd : oc.data = .seq items n) (hi : 0 ≤ i ∧ i < 2 ^ 63) (hT : (T.cps.size : Int) < 2 ^ 63)
    (hq : Q { pattern := .ref x, string := .str T tk, code := wordsOf items, text := T.cps, kind := 0, groups := 3, pos := min i.toNat T.cps.size, lim := T.cps.size } s) :
    wpAny M A (reTarget "re.Pattern.match" "match" ⟨[.ref x, .str T tk, .int i tk2], []⟩) Q E s := by
  unfold reTarget
  refine wpAny_bind (wpAny_of_eq (a := [some (.str T tk), some (.int i tk2), none]) (by first | rfl | kernel_rfl) ?_)
  dsimp only
  refine wpAny_bind (wpAny_of_eq (a := i) ?_ ?_)
  · unfold reSsize
    show (if (decide (i < -(2 ^ 63)) || decide (i ≥ 2 ^ 63)) = true then _ else _) = _
    rw [if_neg (by simp; lia)]
  refine wpAny_bind (wpAny_of_eq (a := 2 ^ 63 - 1) rfl ?_)
  refine wpAny_bind (wpAny_fieldsOf hx hdt ?_)
  refine wpAny_bind (wpAny_of_eq (a := (T.cps, 0)) rfl ?_)
  simp only [h6, h5, h2]
  rw [if_neg (by show ¬ (false = true); decide), if_neg (by show ¬ (false = true); decide)]
  refine wpAny_bind (wpAny_of_eq (a := ()) rfl ?_)
  refine wpAny_bind ?_
  unfold reRawItems
  refine wpAny_bind (wpAny_seqItems hc hcd (wpAny_pure (wpAny_pure ?_)))
  have e : Min.min ((2 : Int) ^ 63 - 1).toNat T.cps.size = T.cps.size := by lia
  rw [e]
  exact hq
noncomputable def spV : Option (Nat × Nat) → List Value
  | none => [rawInt (-1), rawInt (-1)]
  | some (b, e) => [rawInt b, rawInt e]
theorem spV_eq (marks : Array (Option Nat)) (lm : Int) (g : Nat) : (match (if ((2 * g + 1 : Nat) : Int) ≤ lm then (marks.getD (2 * g) none, marks.getD (2 * g + 1) none) else (none, none)) with | (some b, some e) => [rawInt (b : Nat), rawInt (e : Nat)] | _ => [rawInt (-1), rawInt (-1)]) = spV (spanOf marks lm g) := by
  unfold spanOf
  split
  · rename_i b e q
    split at q
    · rename_i hle
      rw [if_pos hle]
      rw [Prod.mk.injEq] at q
      rw [q.1, q.2]
      rfl
    · cases q
  · rename_i q
    split
    · rename_i hle
      rw [if_pos hle] at q
      cases h1 : marks.getD (2 * g) none with
      | none => rfl
      | some b => cases h2 : marks.getD (2 * g + 1) none with
        | none => rfl
        | some e => exact absurd (by rw [h1, h2]) (q b e)
    · rfl
noncomputable abbrev matchObj (string pat : Value) (pos lim : Nat) (li : Int) (tp : Addr) : Obj := { cls := .type "re.Match", data := .fields #[string, pat, rawInt pos, rawInt lim, rawInt li, .ref tp] }
noncomputable abbrev spanTup (st hd : Nat) (s0 s1 s2 : Option (Nat × Nat)) : List Value := rawInt st :: rawInt hd :: (spV s0 ++ (spV s1 ++ spV s2))
theorem signAt_le {T : Array Nat} {lim p : Nat} : p ≤ signAt T lim p := by unfold signAt; split <;> lia
theorem digs_le {T : Array Nat} {lim p : Nat} : digs T lim p ≤ lim - p := many_le _ _
theorem intAt_lt {T : Array Nat} {lim p e : Nat} (h : intAt T lim p = some e) : p < e ∧ e ≤ lim := by
  unfold intAt at h
  have := digs_le (T := T) (lim := lim) (p := p + 1)
  split at h
  · cases h; lia
  · split at h
    · cases h; lia
    · cases h
theorem fracAt_lt {T : Array Nat} {lim p e : Nat} (h : fracAt T lim p = some e) : p < e ∧ e ≤ lim := by
  unfold fracAt at h
  have := digs_le (T := T) (lim := lim) (p := p + 1)
  split at h
  · cases h; lia
  · cases h
theorem expAt_lt {T : Array Nat} {lim p e : Nat} (h : expAt T lim p = some e) : p < e ∧ e ≤ lim := by
  unfold expAt at h
  have := digs_le (T := T) (lim := lim) (p := expSign T lim (p + 1))
  have : p + 1 ≤ expSign T lim (p + 1) := by unfold expSign; split <;> lia
  split at h
  · cases h; lia
  · cases h
theorem newMatch {M : Model} {pattern string : Value} {pos lim : Nat} {m : Sre.M} {s0 s1 s2 : Option (Nat × Nat)} {Q : Value → Shared → Prop} (h0 : spanOf m.marks m.lastmark 0 = s0) (h1 : spanOf m.marks m.lastmark 1 = s1) (h2 : spanOf m.marks m.lastmark 2 = s2)
    (hle : ∀ g b e, g < 3 → spanOf m.marks m.lastmark g = some (b, e) → b ≤ e)
    (hq : ∀ h', (∀ b ob, h.get? b = some ob → h'.get? b = some ob) → ∀ u v, h.get? u = none → h.get? v = none → u ≠ v → h'.get? u = some { cls := .type "tuple", data := .seq (spanTup m.start m.handed s0 s1 s2).toArray } → h'.get? v = some (matchObj string pattern pos lim m.lastindex u) → Q (.ref v) ⟨h', g, d, t, os⟩) :
    wpAny M A (reNewMatch pattern string 3 pos lim m) Q E ⟨h, g, d, t, os⟩ := by
  have hany : ((List.range 3).any fun g => match m.marks.getD (2 * g) none, m.marks.getD (2 * g + 1) none with | some b, some e => decide (((2 * g + 1 : Nat) : Int) ≤ m.lastmark) && decide (e < b) | _, _ => false) = false := by
    rw [List.any_eq_false]
    intro g hg3 hg
    split at hg
    · rename_i b e q1 q2
      rw [Bool.and_eq_true, decide_eq_true_eq, decide_eq_true_eq] at hg
      have := hle g b e (List.mem_range.mp hg3) (by unfold spanOf; rw [if_pos hg.1, q1, q2])
      lia
    · cases hg
  have hsp : List.flatMap (fun g => match (if ((2 * g + 1 : Nat) : Int) ≤ m.lastmark then (m.marks.getD (2 * g) none, m.marks.getD (2 * g + 1) none) else (none, none)) with | (some b, some e) => [rawInt (b : Nat), rawInt (e : Nat)] | _ => [rawInt (-1), rawInt (-1)]) (List.range 3) = spV s0 ++ (spV s1 ++ spV s2) := by
    show List.flatMap _ [0, 1, 2] = _
    rw [List.flatMap_cons, List.flatMap_cons, List.flatMap_cons, List.flatMap_nil, List.append_nil, spV_eq, spV_eq, spV_eq, h0, h1, h2]
  have e : reNewMatch pattern string 3 pos lim m = (if ((List.range 3).any fun g => match m.marks.getD (2 * g) none, m.marks.getD (2 * g + 1) none with | some b, some e => decide (((2 * g + 1 : Nat) : Int) ≤ m.lastmark) && decide (e < b) | _, _ => false) = true then (do reWrongSpan; newFields "re.Match" [string, pattern, rawInt pos, rawInt lim, rawInt m.lastindex, ← newTuple (rawInt m.start :: rawInt m.handed :: List.flatMap (fun g => match (if ((2 * g + 1 : Nat) : Int) ≤ m.lastmark then (m.marks.getD (2 * g) none, m.marks.getD (2 * g + 1) none) else (none, none)) with | (some b, some e) => [rawInt (b : Nat), rawInt (e : Nat)] | _ => [rawInt (-1), rawInt (-1)]) (List.range 3))]) else (do newFields "re.Match" [string, pattern, rawInt pos, rawInt lim, rawInt m.lastindex, ← newTuple (rawInt m.start :: rawInt m.handed :: List.flatMap (fun g => match (if ((2 * g + 1 : Nat) : Int) ≤ m.lastmark then (m.marks.getD (2 * g) none, m.marks.getD (2 * g + 1) none) else (none, none)) with | (some b, some e) => [rawInt (b : Nat), rawInt (e : Nat)] | _ => [rawInt (-1), rawInt (-1)]) (List.range 3))])) := rfl
  rw [e, hsp, hany]
  rw [if_neg (by decide)]
  refine wpAny_bind (wpAny_newTuple ?_ ?_)
  · refine wpAny_newObj_type ?_
    have hu : h.get? h.objs.size = none := by
      cases q : h.get? h.objs.size with
      | none => rfl
      | some o => exact absurd (Heap.lt_size q) (Nat.lt_irrefl _)
    have hsz : (h.push { cls := .type "tuple", data := .seq (spanTup m.start m.handed s0 s1 s2).toArray }).objs.size = h.objs.size + 1 := by first | rfl | simp [Heap.push]
    have hv : h.get? (h.push { cls := .type "tuple", data := .seq (spanTup m.start m.handed s0 s1 s2).toArray }).objs.size = none := by
      rw [hsz]
      cases q : h.get? (h.objs.size + 1) with
      | none => rfl
      | some o => exact absurd (Heap.lt_size q) (Nat.not_lt.mpr (Nat.le_succ _))
    refine hq _ (fun b ob hb => Heap.get?_push_of_some _ (Heap.get?_push_of_some _ hb)) h.objs.size _ hu hv (by rw [hsz]; exact Nat.ne_of_lt (Nat.lt_succ_self _)) ?_ ?_
    · exact Heap.get?_push_of_some _ (Heap.get?_push_size _ rfl)
    · exact Heap.get?_push_size _ rfl
  · have l2 : ∀ q, (spV q).length = 2 := fun q => by cases q <;> rfl
    simp [l2, sizeLine]
theorem match_run {fs items : Array Value} {c : Addr} {oc : Obj} {n : Nat} {T : Str} {i : Nat} {tk tk2 t3 t6 : Tok} {Q : Fin → Shared → Prop} (hx : h.get? x = some o) (hdt : o.data = .fields fs) (h6 : fs.getD 6 .none = .int 0 t6) (h5 : fs.getD 5 .none = .ref c) (h2 : fs.getD 2 .none = .int 3 t3)
    (hc : h.get? c = some oc) (hcd : oc.data = .seq items n) (hC : Code (wordsOf items)) (hh : Sre.header (wordsOf items) = (1, 5)) (hi : i < T.cps.size) (hT : T.cps.size ≤ Sre.maxRepeat)
    (hnone : intAt T.cps T.cps.size (signAt T.cps T.cps.size i) = none → Q (.done (.ret .none)) ⟨h, g, d, t, os⟩)
    (hsome : ∀ p, intAt T.cps T.cps.size (signAt T.cps T.cps.size i) = some p → ∀ h', (∀ b ob, h.get? b = some ob → h'.get? b = some ob) → ∀ u v li, h.get? u = none → h.get? v = none → u ≠ v →
      h'.get? u = some { cls := .type "tuple", data := .seq (spanTup i (expEnd T.cps T.cps.size (fracEnd T.cps T.cps.size p)) (some (i, p)) ((fracAt T.cps T.cps.size p).map fun e => (p, e)) ((expAt T.cps T.cps.size (fracEnd T.cps T.cps.size p)).map fun e => (fracEnd T.cps T.cps.size p, e))).toArray } →
      h'.get? v = some (matchObj (.str T tk) (.ref x) i T.cps.size li u) → Q (.done (.ret (.ref v))) ⟨h', g, d, t, os⟩) :
    wpAny (model prog w) A (Builtin.«re.Pattern.match» ⟨[.ref x, .str T tk, .int i tk2], []⟩) Q E ⟨h, g, d, t, os⟩ := by
  have hT' : T.cps.size ≤ 4294967295 := hT
  unfold Builtin.«re.Pattern.match»
  refine wpAny_bind (target hx hdt h6 h5 h2 hc hcd ⟨by lia, by lia⟩ (by lia) ?_)
  dsimp only
  have e1 : min (i : Int).toNat T.cps.size = i := by lia
  rw [e1]
  unfold reAnswer
  have hm : Sre.forMatch (wordsOf items) T.cps 3 i T.cps.size false false = Core.M (wordsOf items) T.cps T.cps.size i ⟨5, i, i, #[none, none, none, none, none, none], -1, -1, #[], none, []⟩ none (({} : Sre.Seen).add 14) 0 := by
    have e : ∀ (code text : Array Nat) (pos lim : Nat), Sre.forMatch code text 3 pos lim false false = (let m : Sre.M := { code, text, lim, start := pos, pc := (Sre.header code).2, pos, handed := pos, marks := Array.replicate 6 none, mustAdvance := false, seen := if (Sre.header code).2 == 0 then {} else ({} : Sre.Seen).add 14, wholeText := false }
      if (Sre.header code).1 != 0 && decide (pos ≤ lim) && decide (lim - pos < (Sre.header code).1) then m.say false else m) := fun _ _ _ _ => rfl
    rw [e, hh]
    dsimp only
    rw [if_neg (by simp; lia)]
    rfl
  have hnum : Go 100 (Sre.forMatch (wordsOf items) T.cps 3 i T.cps.size false false) (NumAt T.cps T.cps.size i) := by
    rw [hm]
    exact num_walk hC hT _ 0 (by lia)
  refine wpAny_bind (run_end hnum (by lia) fun m hm => ?_)
  unfold NumAt at hm
  cases hp : intAt T.cps T.cps.size (signAt T.cps T.cps.size i) with
  | none =>
    rw [hp] at hm
    exact .inr ⟨hm, wpAny_pure (hnone hp)⟩
  | some p =>
    rw [hp] at hm
    obtain ⟨ho, hst, h0, h1, h2', hhd⟩ := hm
    refine .inl ⟨ho, ?_⟩
    refine wpAny_bind (newMatch h0 h1 h2' (fun g b e h3 hg => ?_) fun h' hk u v n1 n2 n3 hu hv => wpAny_pure ?_)
    · have a1 := signAt_le (T := T.cps) (lim := T.cps.size) (p := i)
      have a2 := intAt_lt hp
      match g, h3 with
      | 0, _ =>
        rw [h0] at hg
        cases hg
        lia
      | 1, _ =>
        rw [h1] at hg
        cases q : fracAt T.cps T.cps.size p with
        | none => rw [q] at hg; cases hg
        | some e' => rw [q] at hg; cases hg; exact Nat.le_of_lt (fracAt_lt q).1
      | 2, _ =>
        rw [h2'] at hg
        cases q : expAt T.cps T.cps.size (fracEnd T.cps T.cps.size p) with
        | none => rw [q] at hg; cases hg
        | some e' => rw [q] at hg; cases hg; exact Nat.le_of_lt (expAt_lt q).1
    · rw [hst, hhd] at hu
      exact hsome p hp h' hk u v _ n1 n2 n3 hu hv
noncomputable def grpV (T : Str) (b : Tok) : Option (Nat × Nat) → Value
  | none => .none
  | some (x, y) => .str ⟨T.cps.extract x y⟩ b
theorem plainAttrs_Match : PlainAttrs "re.Match" :=
  ⟨⟨"object.__getattribute__", by rw [typeLookup_type, builtinLookup_eq_fast]; kernel_rfl, by decide +kernel⟩, by rw [typeLookup_type, builtinLookup_eq_fast]; kernel_rfl⟩
theorem slot_groups : Slot "re.Match" "groups" "re.Match.groups" :=
  .of (owner := "re.Match") (n := "groups") (by rw [typeLookup_type, builtinLookup_eq_fast]; kernel_rfl) (by decide +kernel) (by decide +kernel) (by decide +kernel)
    (by first | exact .inl (by decide +kernel) | exact .inr (by decide +kernel)) (by rw [isSubtype_type]; kernel_rfl)
theorem slot_end : Slot "re.Match" "end" "re.Match.end" :=
  .of (owner := "re.Match") (n := "end") (by rw [typeLookup_type, builtinLookup_eq_fast]; kernel_rfl) (by decide +kernel) (by decide +kernel) (by decide +kernel)
    (by first | exact .inl (by decide +kernel) | exact .inr (by decide +kernel)) (by rw [isSubtype_type]; kernel_rfl)
theorem entry_groups : entryFor table "re.Match.groups" = some Builtin.«re.Match.groups» := entryFor_of_tree (by kernel_rfl)
theorem entry_end : entryFor table "re.Match.end" = some Builtin.«re.Match.end» := entryFor_of_tree (by kernel_rfl)
theorem type_groups : typeOf (.builtin "re.Match.groups") = pure (.type "method_descriptor") := by show builtinType _ = _; rw [builtinType_eq_fast]; kernel_rfl
theorem type_end : typeOf (.builtin "re.Match.end") = pure (.type "method_descriptor") := by show builtinType _ = _; rw [builtinType_eq_fast]; kernel_rfl
theorem args_groups (a : Value) : argsOk "re.Match.groups" ⟨[a], []⟩ := by unfold argsOk; kernel_rfl
theorem args_end (a : Value) : argsOk "re.Match.end" ⟨[a], []⟩ := by unfold argsOk; kernel_rfl
end
end Mine
end
section
open PySem PySem.W PySem.Calls PyProof.Rows
open Builtin Builtin.Re
set_option Elab.async false
set_option maxRecDepth 100000
set_option autoImplicit false
set_option linter.unusedVariables false
namespace Mine
section
variable {prog : Program} {w : World} {A : Around} {E : Value → Shared → Prop} {h : Heap} {g : Array GenState} {d : Drawn} {t : Nat} {os : OsState} {x u : Addr} {o : Obj} {name : Str} {v : Value}
theorem found {M : Model} {T : Str} {tk : Tok} {pat : Value} {pos lim hd : Nat} {li : Int} {s0 s1 s2 : Option (Nat × Nat)} {Q : ReFound → Shared → Prop} (hx : h.get? x = some (matchObj (.str T tk) pat pos lim li u)) (hu : h.get? u = some { cls := .type "tuple", data := .seq (spanTup pos hd s0 s1 s2).toArray })
    (hq : Q { fields := #[.str T tk, pat, rawInt pos, rawInt lim, rawInt li, .ref u], spans := (spanTup pos hd s0 s1 s2).toArray.map reRawOf } ⟨h, g, d, t, os⟩) : wpAny M A (reFound (.ref x)) Q E ⟨h, g, d, t, os⟩ := by
  unfold reFound
  refine wpAny_bind (wpAny_fieldsOf hx rfl ?_)
  refine wpAny_bind ?_
  unfold reRawItems
  refine wpAny_bind (wpAny_seqItems hu rfl (wpAny_pure (wpAny_pure hq)))
theorem spans_at {pos hd : Nat} {s0 s1 s2 : Option (Nat × Nat)} : ∀ i, i < 8 → ((spanTup pos hd s0 s1 s2).toArray.map reRawOf).getD i (-1) = (match i with | 0 => (pos : Int) | 1 => hd | 2 => (s0.map fun p => ((p.1 : Nat) : Int)).getD (-1) | 3 => (s0.map fun p => ((p.2 : Nat) : Int)).getD (-1) | 4 => (s1.map fun p => ((p.1 : Nat) : Int)).getD (-1) | 5 => (s1.map fun p => ((p.2 : Nat) : Int)).getD (-1) | 6 => (s2.map fun p => ((p.1 : Nat) : Int)).getD (-1) | _ => (s2.map fun p => ((p.2 : Nat) : Int)).getD (-1)) := by
  intro i hi
  rw [List.map_toArray]
  match i, hi with
  | 0, _ => cases s0 <;> cases s1 <;> cases s2 <;> rfl
  | 1, _ => cases s0 <;> cases s1 <;> cases s2 <;> rfl
  | 2, _ => cases s0 <;> cases s1 <;> cases s2 <;> rfl
  | 3, _ => cases s0 <;> cases s1 <;> cases s2 <;> rfl
  | 4, _ => cases s0 <;> cases s1 <;> cases s2 <;> rfl
  | 5, _ => cases s0 <;> cases s1 <;> cases s2 <;> rfl
  | 6, _ => cases s0 <;> cases s1 <;> cases s2 <;> rfl
  | 7, _ => cases s0 <;> cases s1 <;> cases s2 <;> rfl
theorem grp {M : Model} {s : Shared} {T : Str} {tk : Tok} {x : ReFound} {sp : Option (Nat × Nat)} {k : Nat} {Q : Value → Shared → Prop} (h0 : x.fields.getD 0 .none = .str T tk) (hb : x.spans.getD (2 * k) (-1) = (sp.map fun p => ((p.1 : Nat) : Int)).getD (-1)) (he : x.spans.getD (2 * k + 1) (-1) = (sp.map fun p => ((p.2 : Nat) : Int)).getD (-1)) (hT : T.cps.size ≤ sizeLine)
    (hq : ∀ b tk', Q (grpV T b sp) { s with toks := tk' }) : wpAny M A (reGroupText x k .none) Q E s := by
  unfold reGroupText
  dsimp only
  rw [hb, he]
  cases sp with
  | none => exact wpAny_pure (hq 0 s.toks)
  | some p =>
    have e : ¬ ((decide ((((some p).map fun p : Nat × Nat => ((p.1 : Nat) : Int)).getD (-1)) < 0) || decide ((((some p).map fun p : Nat × Nat => ((p.2 : Nat) : Int)).getD (-1)) < 0)) = true) := by simp
    rw [if_neg e]
    rw [h0]
    refine wpAny_bind (wpAny_of_eq (a := (T.cps, 0)) rfl ?_)
    show wpAny M A (mkStr ⟨T.cps.extract p.1 p.2⟩) _ _ _
    refine wpAny_mkStr (hq _ _) ?_
    show (T.cps.extract p.1 p.2).size ≤ sizeLine
    rw [Array.size_extract]; lia
theorem groups_run {T : Str} {tk : Tok} {pat : Value} {pos lim hd : Nat} {li : Int} {s0 s1 s2 : Option (Nat × Nat)} {Q : Fin → Shared → Prop} (hx : h.get? x = some (matchObj (.str T tk) pat pos lim li u)) (hu : h.get? u = some { cls := .type "tuple", data := .seq (spanTup pos hd s0 s1 s2).toArray }) (hT : T.cps.size ≤ sizeLine)
    (hq : ∀ a b c tk', Q (.done (.ret (.ref h.objs.size))) ⟨h.push { cls := .type "tuple", data := .seq #[grpV T a s0, grpV T b s1, grpV T c s2] }, g, d, tk', os⟩) :
    wpAny (model prog w) A (Builtin.«re.Match.groups» ⟨[.ref x], []⟩) Q E ⟨h, g, d, t, os⟩ := by
  unfold Builtin.«re.Match.groups» reWithDefault
  refine wpAny_bind (wpAny_bind (wpAny_of_eq (a := [none]) (by first | rfl | kernel_rfl) ?_))
  dsimp only
  refine wpAny_bind (found hx hu (wpAny_pure ?_))
  have hsz : ((spanTup pos hd s0 s1 s2).toArray.map reRawOf).size / 2 - 1 = 3 := by
    have l2 : ∀ q, (spV q).length = 2 := fun q => by cases q <;> rfl
    simp [l2]
  dsimp only
  rw [hsz]
  refine wpAny_bind ?_
  show wpAny _ _ (List.mapM _ [0, 1, 2]) _ _ _
  rw [List.mapM_cons, List.mapM_cons, List.mapM_cons, List.mapM_nil]
  refine wpAny_bind (grp rfl (spans_at 2 (by lia)) (spans_at 3 (by lia)) hT fun a ta => ?_)
  refine wpAny_bind (wpAny_bind (grp rfl (spans_at 4 (by lia)) (spans_at 5 (by lia)) hT fun b tb => ?_))
  refine wpAny_bind (wpAny_bind (grp rfl (spans_at 6 (by lia)) (spans_at 7 (by lia)) hT fun c tc => ?_))
  refine wpAny_bind (wpAny_pure (wpAny_pure (wpAny_pure (wpAny_pure ?_))))
  refine wpAny_bind (wpAny_newTuple (wpAny_pure (hq a b c tc)) ?_)
  show 3 ≤ sizeLine
  exact Nat.le_of_ble_eq_true rfl
theorem end_run {T : Str} {tk : Tok} {pat : Value} {pos lim hd : Nat} {li : Int} {s0 s1 s2 : Option (Nat × Nat)} {Q : Fin → Shared → Prop} (hx : h.get? x = some (matchObj (.str T tk) pat pos lim li u)) (hu : h.get? u = some { cls := .type "tuple", data := .seq (spanTup pos hd s0 s1 s2).toArray })
    (hq : ∀ a tk', Q (.done (.ret (.int hd a))) ⟨h, g, d, tk', os⟩) :
    wpAny (model prog w) A (Builtin.«re.Match.end» ⟨[.ref x], []⟩) Q E ⟨h, g, d, t, os⟩ := by
  unfold Builtin.«re.Match.end» reOneGroup
  refine wpAny_bind (wpAny_bind (wpAny_of_eq (a := (.ref x, [])) (by first | rfl | kernel_rfl) ?_))
  dsimp only
  refine wpAny_bind (found hx hu (wpAny_bind (wpAny_pure (wpAny_pure ?_))))
  dsimp only
  rw [spans_at 1 (by lia)]
  exact wpAny_bind (wpAny_mkInt (wpAny_pure (hq _ _)))
end
end Mine
end
section
open PySem PySem.W PySem.Calls PyProof.Rows
set_option Elab.async false
set_option maxRecDepth 100000
set_option maxHeartbeats 0
set_option autoImplicit false
set_option linter.unusedVariables false
namespace Mine
theorem stopSub : isSubtype (.type "StopIteration") (.type "StopIteration") = pure true := by rw [isSubtype_type]; kernel_rfl
theorem stopMade : Bind.madeBy (.type "StopIteration") = pure (some "Exception.__new__") := by kernel_rfl
theorem newEntry : entryFor table "Exception.__new__" = some Builtin.«BaseException.__new__» := PySem.F.excCall_Exception.entry
theorem stop_new {prog : Program} {w : World} {A : Around} {R : Result → Shared → Prop} {v : Value} {hp : Heap} {g : Array GenState} {d : Drawn} {tk : Nat} {os : OsState}
    (h : R (.ok (.ret (.ref (hp.objs.size + 1)))) ⟨(hp.push { cls := .type "tuple", data := .seq [v].toArray }).push
      { cls := .type "StopIteration", data := .fields #[.ref hp.objs.size, .none, .none, .none, .bool false, .none] }, g, d, tk, os⟩) :
    codeAny (model prog w) A (.builtin "Exception.__new__" ⟨[.type "StopIteration", v], []⟩) R ⟨hp, g, d, tk, os⟩ := by
  have hends : ("Exception.__new__" : String).endsWith ".__new__" = true := by decide +kernel
  have howner : ("Exception.__new__" : String).dropRight 8 = "Exception" := by decide +kernel
  have hsub : isSubtype (.type "StopIteration") (.type "Exception") = pure true := by rw [isSubtype_type]; kernel_rfl
  have hna : isSubtype (.type "StopIteration") (.type "AttributeError") = pure false := by rw [isSubtype_type]; kernel_rfl
  have hnn : isSubtype (.type "StopIteration") (.type "NameError") = pure false := by rw [isSubtype_type]; kernel_rfl
  have hmade : Bind.madeHere "BaseException.__new__" (.type "StopIteration") = pure () := by kernel_rfl
  refine codeAny_builtinAt newEntry ?_
  unfold Builtin.«BaseException.__new__»
  refine PySem.wpAt_bind ?_
  show PySem.wpAt _ _ _ (stack >>= _) _ _ _
  refine PySem.wpAt_bind (PySem.wpAt_stack fun p below => PySem.wpAt_of_wpAny ?_)
  wp_walk
  refine PySem.wpAt_of_wpAny ?_
  rw [howner]
  wp_walk
  show R _ _
  rw [Heap.size_push]
  exact h
theorem stopInit : Slot "StopIteration" "__init__" "StopIteration.__init__" := .of (owner := "StopIteration") (n := "__init__") (by rw [typeLookup_type, builtinLookup_eq_fast]; kernel_rfl) (by decide +kernel) (by decide +kernel) (by decide +kernel)
    (by first | exact .inl (by decide +kernel) | exact .inr (by decide +kernel)) (by rw [isSubtype_type]; kernel_rfl)
theorem stopEntry : entryFor table "StopIteration.__init__" = some Builtin.«StopIteration.__init__» := entryFor_of_tree (by kernel_rfl)
theorem baseInitEntry : entryFor table "BaseException.__init__" = some Builtin.«BaseException.__init__» := entryFor_of_tree (by kernel_rfl)
structure MadeStop (h h' : Heap) (e : Addr) (v : Value) : Prop where
  keeps : ∀ b o, h.get? b = some o → h'.get? b = some o
  new : h.get? e = none
  there : ∃ t, h'.get? e = some { cls := .type "StopIteration", data := .fields #[.ref t, .none, .none, .none, .bool false, v] } ∧ h.get? t = none ∧ h'.get? t = some { cls := .type "tuple", data := .seq #[v] }
section
variable {prog : Program} {w : World} {A : Around} {E : Value → Shared → Prop}
theorem stop_check {M : Model} {self : Value} {rest : List Value} {Q : Unit → Shared → Prop}
    {hp : Heap} {g : Array GenState} {d : Drawn} {tk : Nat} {os : OsState} (hT : Shared.TypeIs ⟨hp, g, d, tk, os⟩ self "StopIteration") (h : Q () ⟨hp, g, d, tk, os⟩) :
    wpAny M A (checkBuiltinCall "StopIteration.__init__" ⟨self :: rest, []⟩) Q E ⟨hp, g, d, tk, os⟩ := by
  have hk : builtinKind "StopIteration.__init__" = some .slot := by kernel_rfl
  have hsp : splitId "StopIteration.__init__" = some ("StopIteration", "__init__") := by kernel_rfl
  have hrow : Manifest.signature? "StopIteration.__init__" = some ⟨.positional, "*", "StopIteration", .self, [⟨"args", .varPos, false⟩]⟩ := by kernel_rfl
  have hsub := stopSub
  have hshort : ("StopIteration" != "*") = true := by decide +kernel
  simp only [checkBuiltinCall, hk, hsp, hrow]
  wp_walk
  refine wpAny_onRaise ?_
  rw [show ∀ (a b : String) (n : Nat), Bind.check ⟨.positional, "*", "StopIteration", .self, [⟨"args", .varPos, false⟩]⟩ a b n (List.map (fun x => x.fst) ({ pos := self :: rest } : Args).kw) = pure () from
    fun a b n => check_star_args _ _ _ _ _ _]
  exact wpAny_pure h
theorem stop_type_call {v : Value} {Q : Fin → Shared → Prop} {hp : Heap} {g : Array GenState} {d : Drawn} {tk : Nat} {os : OsState}
    (h : ∀ h' e, MadeStop hp h' e v → Q (.done (.ret (.ref e))) ⟨h', g, d, tk, os⟩) :
    wpAny (model prog w) A (Builtin.«type.__call__» ⟨[.type "StopIteration", v], []⟩) Q E ⟨hp, g, d, tk, os⟩ := by
  have hnt : (Value.type "StopIteration" == Value.type "type") = false := by decide +kernel
  have hcan : ((Manifest.find? "StopIteration").bind fun x => List.findSome? (fun t => (Manifest.find? t).bind fun b =>
    if b.noNew = true then some true else if (b.attrs.any fun x => x.fst == "__new__") = true then some false else none) x.mro).getD false = false := by kernel_rfl
  have hchk : checkTypeCall "StopIteration" ⟨[v], []⟩ = pure () := by kernel_rfl
  have hmro : mroOf (.type "StopIteration") = pure [.type "StopIteration", .type "Exception", .type "BaseException", .type "object"] := by rw [mroOf_type]; kernel_rfl
  have hmade := stopMade
  have hne : ([.type "StopIteration", .type "Exception", .type "BaseException", .type "object"] : List Value).isEmpty = false := rfl
  wp_walk
  refine codeAny_call_builtin_code (Code.quiet_builtin _ (by decide +kernel)) (wpAny_of_eq (show checkBuiltinCall "Exception.__new__" ⟨[.type "StopIteration", v], []⟩ = pure () by kernel_rfl) ?_)
  refine stop_new ?_
  show wpAny _ _ _ _ _ _
  have hget : ((hp.push { cls := .type "tuple", data := .seq [v].toArray }).push
      { cls := .type "StopIteration", data := .fields #[.ref hp.objs.size, .none, .none, .none, .bool false, .none] }).get? (hp.objs.size + 1) = some
      { cls := .type "StopIteration", data := .fields #[.ref hp.objs.size, .none, .none, .none, .bool false, .none] } := by heap_get
  refine wpAny_bind (wpAny_isInstance ⟨_, hget, rfl⟩ stopSub ?_)
  wp_step
  refine wpAny_bind (wpAny_holding (wpAny_callSpecial?_slot ⟨_, hget, rfl⟩ stopInit (wpAny_call (codeAny_call_builtin stopInit.plain stopEntry ?_))))
  refine stop_check ⟨_, hget, rfl⟩ ?_
  unfold Builtin.«StopIteration.__init__»
  wp_walk
  refine codeAny_builtin baseInitEntry ?_
  wp_walk
  refine h _ _ ⟨fun b o hb => ?_, Heap.get?_none_of_le (Nat.le_succ _), hp.objs.size + 2, ?_, Heap.get?_none_of_le (by lia), ?_⟩
  · have hne : hp.objs.size + 1 ≠ b := Nat.ne_of_gt (Nat.lt_succ_of_lt (Heap.lt_size hb))
    rw [Heap.get?_update_other _ _ hne, Heap.get?_update_other _ _ hne, Heap.get?_update_other _ _ hne]
    exact Heap.get?_push_of_some _ (Heap.get?_push_of_some _ (Heap.get?_push_of_some _ hb))
  · rw [Heap.get?_update_self _ (Heap.get?_update_self _ (Heap.get?_update_self _ (Heap.get?_push_of_some _ hget) rfl) rfl) rfl]
    simp only [Heap.size_push]
    rfl
  · have hne : hp.objs.size + 1 ≠ hp.objs.size + 2 := by lia
    rw [Heap.get?_update_other _ _ hne, Heap.get?_update_other _ _ hne, Heap.get?_update_other _ _ hne]
    exact Heap.get?_push_at (by simp only [Heap.size_push]) rfl
theorem stop_call {v : Value} {Q : Value → Shared → Prop} {s : Shared} (h : ∀ h' e, MadeStop s.heap h' e v → Q (.ref e) { s with heap := h' }) :
    wpAny (model prog w) A (call (.type "StopIteration") [v]) Q E s := by
  obtain ⟨hp, g, d, tk, os⟩ := s
  refine wpAny_call (codeAny_of_tree ?_)
  show wpAny _ _ (again (.builtin "type.__call__" ⟨[.type "StopIteration", v], []⟩)) _ _ _
  exact wpAny_pure ⟨Code.quiet_builtin _ (by decide +kernel), codeAny_builtin entry_typeCall (stop_type_call fun h' e hm => h h' e hm)⟩
end
end Mine
end
section
open PySem PySem.W PySem.Calls PyProof.Rows
set_option Elab.async false
set_option maxRecDepth 100000
set_option maxHeartbeats 0
set_option autoImplicit false
set_option linter.unusedVariables false
namespace Mine
section
variable {M : Model} {A : Around} {E : Value → Shared → Prop} {s : Shared} {env : Env}
end
section
variable {prog : Program} {w : World} {A : Around} {E : Value → Shared → Prop} {s : Shared} {env : Env}
theorem unchain_none {e h : Value} {o : Obj} {vs : Array Value} {a : Addr} {Q : Value → Shared → Prop} (hh : h = .ref a) (ho : s.heap.get? a = some o) (hd : o.data = .fields vs) (h2 : vs[2]? = some .none) (hQ : ∀ v, Q v s) :
    wpAny (model prog w) A (runValue (.builtin "proto.unchain" ⟨[e, h, h, .bool false], []⟩)) Q E s := by
  subst hh
  have hent : entryFor table "proto.unchain" = some Builtin.«proto.unchain» := entryFor_of_tree (by kernel_rfl)
  refine wpAny_runValue (codeAny_builtin hent ?_)
  unfold Builtin.«proto.unchain»
  show wpAny _ _ (do let context ← field (.ref a) 2; _) _ _ _
  refine wpAny_bind (wpAny_field ho hd h2 ?_)
  rw [if_pos (by decide)]
  exact wpAny_pure (hQ _)
theorem raise_from_none {cls : String} (F : ExcRaiseFacts cls) {x : Sem Value} {c : Sem Value} {hx : Addr} {Q : Flow → Shared → Prop} (hh : A.handled = some (.ref hx))
    (h : wpAny (model prog w) A x (fun v s₁ => wpAny (model prog w) A c (fun cv s₂ => cv = .none ∧ ∃ e o vs oh vh, v = .ref e ∧ s₂.heap.get? e = some o ∧ o.cls = .type cls ∧ o.data = .fields vs ∧ vs[1]? = some .none ∧ 5 < vs.size ∧ e ≠ hx ∧
      s₂.heap.get? hx = some oh ∧ oh.data = .fields vh ∧ vh[2]? = some .none ∧
      ∀ h', Heap.SameBut e s₂.heap h' → h'.get? e = some (((o.mapFields (·.setIfInBounds 3 .none)).mapFields (·.setIfInBounds 4 (.bool true))).mapFields (·.setIfInBounds 2 (.ref hx))) → E (.ref e) { s₂ with heap := h' }) E s₁) E s) :
    wpAny (model prog w) A (raiseStmt env (some x) (some c)) Q E s := by
  unfold raiseStmt
  refine wpAny_bind (wpAny_mono h (fun v s₁ h₁ => ?_) fun _ _ x => x)
  refine wpAny_bind (wpAny_holding (wpAny_mono h₁ (fun cv s₂ h₂ => wpAny_bind (wpAny_pure ?_)) fun _ _ x => x))
  obtain ⟨rfl, e, o, vs, oh, vh, rfl, he, hc, hd, h1, hsz, hne, hho, hhd, hh2, hE⟩ := h₂
  obtain ⟨hp, g, d, tk, os⟩ := s₂
  have hsub := F.isExc
  have hmeta := F.plainMeta
  obtain ⟨oc, od, odt, osl⟩ := o
  obtain rfl : oc = .type cls := hc
  obtain rfl : odt = .fields vs := hd
  repeat (first | refine wpAny_loadPart he ?_ | wp_step)
  rw [if_pos (by lia)]
  refine wpAny_update he ?_
  have he3 := Heap.get?_update_self (Obj.mapFields (·.setIfInBounds 3 Value.none)) he rfl
  refine wpAny_bind (wpAny_setField he3 rfl (by simp; lia) ?_)
  have he4 := Heap.get?_update_self (Obj.mapFields (·.setIfInBounds 4 (Value.bool true))) he3 rfl
  have h1' : ((vs.setIfInBounds 3 Value.none).setIfInBounds 4 (Value.bool true))[1]? = some Value.none := by simp [h1]
  generalize hH : ((hp.update e (Obj.mapFields (·.setIfInBounds 3 Value.none))).update e (Obj.mapFields (·.setIfInBounds 4 (Value.bool true)))) = hq at he4
  have hsame : Heap.SameBut e hp hq := by rw [← hH]; exact (Heap.SameBut.update ..).trans (Heap.SameBut.update ..)
  repeat (first | refine wpAny_loadPart he4 ?_ | wp_step)
  show wpAny (model prog w) A (match ((vs.setIfInBounds 3 Value.none).setIfInBounds 4 (Value.bool true))[1]? with
    | some x => pure x
    | none => unsupported "internal:no-such-field") _ E ⟨hq, g, d, tk, os⟩
  rw [h1']
  refine wpAny_pure ?_
  rw [if_neg (by decide)]
  refine wpAny_pure ?_
  unfold raiseNew
  refine wpAny_bind (wpAny_handled ?_)
  rw [hh]
  have hb : (Value.ref hx != Value.ref e) = true := by simp [Ne.symm hne]
  have hhq : hq.get? hx = some oh := (hsame.2 hx (Ne.symm hne)).trans hho
  show wpAny (model prog w) A (if (Value.ref hx != Value.ref e) = true then (do
      let _ ← holding [Value.ref e] (runValue (.builtin "proto.unchain" ⟨[Value.ref e, Value.ref hx, Value.ref hx, .bool false], []⟩))
      updateField e 2 (Value.ref hx)
      throw (Value.ref e)) else throw (Value.ref e)) Q E ⟨hq, g, d, tk, os⟩
  rw [if_pos hb]
  refine wpAny_bind (wpAny_holding (unchain_none rfl hhq hhd hh2 fun _ => ?_))
  refine wpAny_bind ?_
  unfold updateField
  refine wpAny_bind (wpAny_load he4 ?_)
  show wpAny _ _ (if 2 < ((vs.setIfInBounds 3 Value.none).setIfInBounds 4 (Value.bool true)).size then _ else _) _ _ _
  rw [if_pos (by simp; lia)]
  exact wpAny_update he4 (wpAny_throw (hE _ (hsame.trans (Heap.SameBut.update ..)) (Heap.get?_update_self _ he4 rfl)))
end
end Mine
end
open PySem PySem.W PySem.Calls PyProof.Rows
namespace Mine
noncomputable abbrev Fz := Addr → Option Obj
noncomputable def Fz.le (F F' : Fz) : Prop := ∀ a o, F a = some o → F' a = some o
theorem Fz.le.refl (F : Fz) : F.le F := fun _ _ e => e
theorem Fz.le.trans {F F' F'' : Fz} (x : F.le F') (y : F'.le F'') : F.le F'' := fun a o e => y a o (x a o e)

inductive V where
  | none
  | bool (b : Bool)
  | int (i : Int)
  | str (s : Str)
  | tup (l : List V)
  | lst (l : List V)
  | ref (a : Addr)
  | rng (a b c : Int)
  | typ (n : String)
  | blt (n : String)

inductive RV (F : Fz) : Value → V → Prop where
  | none : RV F .none .none
  | bool {b : Bool} : RV F (.bool b) (.bool b)
  | int {i : Int} {t : Tok} : RV F (.int i t) (.int i)
  | str {x : Str} {t : Tok} : RV F (.str x t) (.str x)
  | typ {n : String} : RV F (.type n) (.typ n)
  | blt {n : String} : RV F (.builtin n) (.blt n)
  | ref {a : Addr} : RV F (.ref a) (.ref a)
  | rng {r : Addr} {a b c : Int} {t u v : Tok} (h : F r = some { cls := .type "range", dict := none, data := .fields #[.int a t, .int b u, .int c v], slots := #[] }) : RV F (.ref r) (.rng a b c)
  | tup {a : Addr} {vs : List Value} {n : Nat} {l : List V} (h : F a = some { cls := .type "tuple", dict := none, data := .seq vs.toArray n, slots := #[] })
      (hl : vs.length = l.length) (hr : ∀ (i : Nat) (v : Value) (x : V), vs[i]? = some v → l[i]? = some x → RV F v x) : RV F (.ref a) (.tup l)
  | lst {a : Addr} {vs : List Value} {n : Nat} {l : List V} {o : Obj} (h : F a = some o) (hc : o.cls = .type "list") (hd : o.data = .seq vs.toArray n)
      (hl : vs.length = l.length) (hr : ∀ (i : Nat) (v : Value) (x : V), vs[i]? = some v → l[i]? = some x → RV F v x) : RV F (.ref a) (.lst l)

theorem RV.mono {F F' : Fz} (le : F.le F') {v : Value} {x : V} (h : RV F v x) : RV F' v x := by
  induction h with
  | none => exact .none
  | bool => exact .bool
  | int => exact .int
  | str => exact .str
  | typ => exact .typ
  | blt => exact .blt
  | ref => exact .ref
  | rng h => exact .rng (le _ _ h)
  | tup h hl _ ih => exact .tup (le _ _ h) hl ih
  | lst h hc hd hl _ ih => exact .lst (le _ _ h) hc hd hl ih

section
variable {F : Fz} {P : Value → Prop} {v : Value}
noncomputable def RVI (F : Fz) (v : Value) : V → Prop
  | .none => v = .none
  | .bool b => v = .bool b
  | .int i => ∃ t, v = .int i t
  | .str x => ∃ t, v = .str x t
  | .typ n => v = .type n
  | .blt n => v = .builtin n
  | .ref a => v = .ref a
  | .rng a b c => ∃ r t u w, F r = some { cls := .type "range", dict := Option.none, data := .fields #[.int a t, .int b u, .int c w], slots := #[] } ∧ v = .ref r
  | .tup l => ∃ a vs n, (F a = some { cls := .type "tuple", dict := Option.none, data := .seq (List.toArray vs) n, slots := #[] } ∧ vs.length = l.length ∧ ∀ (i : Nat) (v : Value) (x : V), vs[i]? = some v → l[i]? = some x → RV F v x) ∧ v = .ref a
  | .lst l => ∃ a vs n o, (F a = some o ∧ o.cls = .type "list" ∧ o.data = .seq (List.toArray vs) n ∧ vs.length = l.length ∧ ∀ (i : Nat) (v : Value) (x : V), vs[i]? = some v → l[i]? = some x → RV F v x) ∧ v = .ref a
theorem RV.inv {x : V} (h : RV F v x) : RVI F v x := RV.casesOn (motive := fun v x _ => RVI F v x) h rfl rfl ⟨_, rfl⟩ ⟨_, rfl⟩ rfl rfl rfl (fun h => ⟨_, _, _, _, h, rfl⟩) (fun h hl hr => ⟨_, _, _, ⟨h, hl, hr⟩, rfl⟩) (fun h hc hd hl hr => ⟨_, _, _, _, ⟨h, hc, hd, hl, hr⟩, rfl⟩)
theorem RV.i_none (h : RV F v .none) : v = .none := h.inv
theorem RV.i_ref {a : Addr} (h : RV F v (.ref a)) : v = .ref a := h.inv
theorem RV.i_blt {n : String} (h : RV F v (.blt n)) : v = .builtin n := h.inv
theorem RV.i_typ {n : String} (h : RV F v (.typ n)) : v = .type n := h.inv
theorem RV.i_bool {b : Bool} (h : RV F v (.bool b)) : v = .bool b := h.inv
theorem RV.e_int {i : Int} (h : RV F v (.int i)) (k : ∀ t, P (.int i t)) : P v := Exists.elim h.inv fun t e => Eq.mpr (congrArg P e) (k t)
theorem RV.e_str {x : Str} (h : RV F v (.str x)) (k : ∀ t, P (.str x t)) : P v := Exists.elim h.inv fun t e => Eq.mpr (congrArg P e) (k t)
theorem RV.e_bool {b : Bool} (h : RV F v (.bool b)) (k : P (.bool b)) : P v := Eq.mpr (congrArg P h.i_bool) k
theorem RV.e_none (h : RV F v .none) (k : P .none) : P v := Eq.mpr (congrArg P h.i_none) k
noncomputable def V.isN : V → Bool
  | .none => true
  | _ => false
theorem RV.isN {z : V} (h : RV F v z) : (v == .none) = z.isN := RV.casesOn (motive := fun v x _ => (v == .none) = x.isN) h rfl rfl rfl rfl rfl rfl rfl (fun _ => rfl) (fun _ _ _ => rfl) (fun _ _ _ _ _ => rfl)
theorem RV.e_typ {n : String} (h : RV F v (.typ n)) (k : P (.type n)) : P v := Eq.mpr (congrArg P h.i_typ) k
theorem RV.e_blt {n : String} (h : RV F v (.blt n)) (k : P (.builtin n)) : P v := Eq.mpr (congrArg P h.i_blt) k
theorem RV.e_ref {a : Addr} (h : RV F v (.ref a)) (k : P (.ref a)) : P v := Eq.mpr (congrArg P h.i_ref) k
theorem RV.e_rng {a b c : Int} (h : RV F v (.rng a b c)) (k : ∀ r t u w, F r = some { cls := .type "range", dict := Option.none, data := .fields #[.int a t, .int b u, .int c w], slots := #[] } → P (.ref r)) : P v := h.inv.elim fun _ h => h.elim fun _ h => h.elim fun _ h => h.elim fun _ h => Eq.mpr (congrArg P h.2) (k _ _ _ _ h.1)
theorem RV.e_tup {l : List V} (h : RV F v (.tup l)) (k : ∀ a vs n, F a = some { cls := .type "tuple", dict := Option.none, data := .seq (List.toArray vs) n, slots := #[] } → vs.length = l.length → (∀ (i : Nat) (v : Value) (x : V), vs[i]? = some v → l[i]? = some x → RV F v x) → P (.ref a)) : P v := h.inv.elim fun _ h => h.elim fun _ h => h.elim fun _ h => Eq.mpr (congrArg P h.2) (k _ _ _ h.1.1 h.1.2.1 h.1.2.2)
theorem RV.e_lst {l : List V} (h : RV F v (.lst l)) (k : ∀ a vs n o, F a = some o → o.cls = .type "list" → o.data = .seq (List.toArray vs) n → vs.length = l.length → (∀ (i : Nat) (v : Value) (x : V), vs[i]? = some v → l[i]? = some x → RV F v x) → P (.ref a)) : P v := h.inv.elim fun _ h => h.elim fun _ h => h.elim fun _ h => h.elim fun _ h => Eq.mpr (congrArg P h.2) (k _ _ _ _ h.1.1 h.1.2.1 h.1.2.2.1 h.1.2.2.2.1 h.1.2.2.2.2)
end
inductive RVs (F : Fz) : List Value → List V → Prop where
  | nil : RVs F [] []
  | cons {v : Value} {x : V} {vs : List Value} {l : List V} (h : RV F v x) (t : RVs F vs l) : RVs F (v :: vs) (x :: l)
theorem RVs.e0 {F : Fz} {P : List Value → Prop} {vs : List Value} (h : RVs F vs []) (k : P []) : P vs := by cases h; exact k
theorem RVs.ec {F : Fz} {P : List Value → Prop} {vs : List Value} {x : V} {l : List V} (h : RVs F vs (x :: l)) (k : ∀ v vs, RV F v x → RVs F vs l → P (v :: vs)) : P vs := by cases h with | cons h t => exact k _ _ h t
theorem RVs.e1 {F : Fz} {P : List Value → Prop} {vs : List Value} {x : V} (h : RVs F vs [x]) (k : ∀ a, RV F a x → P [a]) : P vs := h.ec fun a _ ha t => t.e0 (P := fun vs => P (a :: vs)) (k a ha)
theorem RVs.e2 {F : Fz} {P : List Value → Prop} {vs : List Value} {x y : V} (h : RVs F vs [x, y]) (k : ∀ a b, RV F a x → RV F b y → P [a, b]) : P vs := h.ec fun a _ ha t => t.e1 (P := fun vs => P (a :: vs)) fun b hb => k a b ha hb
theorem RVs.e3 {F : Fz} {P : List Value → Prop} {vs : List Value} {x y z : V} (h : RVs F vs [x, y, z]) (k : ∀ a b c, RV F a x → RV F b y → RV F c z → P [a, b, c]) : P vs := h.ec fun a _ ha t => t.e2 (P := fun vs => P (a :: vs)) fun b c hb hc => k a b c ha hb hc
theorem RVs.mono {F F' : Fz} (le : F.le F') {vs : List Value} {l : List V} (h : RVs F vs l) : RVs F' vs l := by
  induction h with
  | nil => exact .nil
  | cons h _ ih => exact .cons (h.mono le) ih
theorem RVs.length {F : Fz} {vs : List Value} {l : List V} (h : RVs F vs l) : vs.length = l.length := by
  induction h with
  | nil => rfl
  | cons _ _ ih => simp [ih]
theorem RVs.get {F : Fz} {vs : List Value} {l : List V} (h : RVs F vs l) : ∀ (i : Nat) (v : Value) (x : V), vs[i]? = some v → l[i]? = some x → RV F v x := by
  induction h with
  | nil => intro i v x e; simp at e
  | cons h _ ih =>
    intro i v x e1 e2
    cases i with
    | zero => simp at e1 e2; subst e1 e2; exact h
    | succ i => simp at e1 e2; exact ih i v x e1 e2
theorem RVs.of {F : Fz} : ∀ {vs : List Value} {l : List V}, vs.length = l.length → (∀ (i : Nat) (v : Value) (x : V), vs[i]? = some v → l[i]? = some x → RV F v x) → RVs F vs l
  | [], [], _, _ => .nil
  | [], _ :: _, h, _ => by simp at h
  | _ :: _, [], h, _ => by simp at h
  | v :: vs, x :: l, h, hr => .cons (hr 0 v x rfl rfl) (RVs.of (by simpa using h) fun i v x e1 e2 => hr (i + 1) v x (by simpa using e1) (by simpa using e2))
theorem RVs.append {F : Fz} {vs ws : List Value} {l m : List V} (h : RVs F vs l) (h' : RVs F ws m) : RVs F (vs ++ ws) (l ++ m) := by
  induction h with
  | nil => exact h'
  | cons h _ ih => exact .cons h ih
theorem RVs.at {F : Fz} {vs : List Value} {l : List V} (h : RVs F vs l) {i : Nat} {x : V} (e : l[i]? = some x) : ∃ v, vs[i]? = some v ∧ RV F v x := by
  have hi : i < l.length := by
    rcases Nat.lt_or_ge i l.length with h | h
    · exact h
    · rw [List.getElem?_eq_none h] at e; cases e
  have hi' : i < vs.length := by rw [h.length]; exact hi
  exact ⟨vs[i], List.getElem?_eq_getElem hi', h.get i _ x (List.getElem?_eq_getElem hi') e⟩

inductive AO where
  | list (l : List V)
  | ns (ρ : List (Str × Option V))
  | cell (o : Option V)
  | dict (es : List (V × V))
  | raw (o : Obj)
  | flds (cls : String) (vs : Array Value)
  | exc (cls : String) (args : List V) (tb : Option Addr) (dict : Option Addr) (cx : Bool)
  | tb
  | attrs (ρ : List (Str × V))

noncomputable abbrev Hp := List (Addr × AO)
theorem mem_keys {H : Hp} {p : Addr × AO} {a : Addr} (h : p ∈ H) (e : p.1 = a) : a ∈ H.map (·.1) := e ▸ List.mem_map_of_mem (f := fun q : Addr × AO => q.1) h

noncomputable def keyHashV (w : World) : V → Value → Int → Prop
  | .str x, .str y _, h => x = y ∧ h = hashStr w x
  | .int i, .int j _, h => i = j ∧ h = hashInt i
  | _, _, _ => False

inductive RD (w : World) (F : Fz) : List DictEntry → List (V × V) → Prop where
  | nil : RD w F [] []
  | cons {e : DictEntry} {k x : V} {es : List DictEntry} {l : List (V × V)} (hk : keyHashV w k e.key e.hash) (hv : RV F e.val x) (t : RD w F es l) : RD w F (e :: es) ((k, x) :: l)

inductive ExcO (F : Fz) (o : Obj) (c : String) (args : List V) (tb d : Option Addr) (cx : Bool) : Prop where
  | mk (vs : Array Value) (a : Addr) (v5 : Value) (e1 : o.cls = .type c) (e2 : o.dict = d) (e3 : o.data = .fields vs) (e4 : vs[0]? = some (.ref a)) (e5 : RV F (.ref a) (.tup args)) (e6 : vs[1]? = some (tb.elim .none Value.ref)) (e7 : vs[5]? = some v5) (e8 : c = "StopIteration" → RV F v5 (args.headD .none)) (e9 : cx = true → vs[2]? = some .none)
inductive ListO (F : Fz) (o : Obj) (l : List V) : Prop where
  | intro (vs : Array Value) (n : Nat) (e : o = { cls := .type "list", dict := none, data := .seq vs n, slots := #[] }) (h : RVs F vs.toList l)
inductive NsO (F : Fz) (o : Obj) (ρ : List (Str × Option V)) : Prop where
  | intro (es : Array DictEntry) (ep : Nat) (e : o.data = .dict es ep) (k : StrKeys es) (nd : (ρ.map (·.1)).Nodup) (r : ∀ p ∈ ρ, match p.2 with
      | none => True
      | some x => ∃ v, nsFind es p.1 = some v ∧ RV F v x)
inductive DictO (w : World) (F : Fz) (o : Obj) (l : List (V × V)) : Prop where
  | intro (es : Array DictEntry) (n : Nat) (e : o = { cls := .type "dict", dict := none, data := .dict es n, slots := #[] }) (h : RD w F es.toList l)
inductive TbO (o : Obj) : Prop where
  | intro (vs : Array Value) (e1 : o.cls = .type "traceback") (e2 : o.data = .fields vs) (e3 : 3 < vs.size)
inductive AttrsO (F : Fz) (o : Obj) (ρ : List (Str × V)) : Prop where
  | intro (es : Array DictEntry) (ep : Nat) (e : o.data = .dict es ep) (k : StrKeys es) (u : UniqKeys es) (r : ∀ n, match ρ.lookup n with
      | none => nsFind es n = none
      | some x => ∃ v, nsFind es n = some v ∧ RV F v x)
noncomputable def RO (w : World) (F : Fz) (o : Obj) : AO → Prop
  | .list l => ListO F o l
  | .ns ρ => NsO F o ρ
  | .cell c => match c with
      | none => o.data = .cell none
      | some x => ∃ v, o.data = .cell (some v) ∧ RV F v x
  | .dict l => DictO w F o l
  | .raw o' => o = o'
  | .flds c vs => o.cls = .type c ∧ o.data = .fields vs
  | .exc c args tb d cx => ExcO F o c args tb d cx
  | .tb => TbO o
  | .attrs ρ => AttrsO F o ρ

theorem RD.mono {w : World} {F F' : Fz} (le : F.le F') {es : List DictEntry} {l : List (V × V)} (h : RD w F es l) : RD w F' es l := by
  induction h with
  | nil => exact .nil
  | cons hk hv _ ih => exact .cons hk (hv.mono le) ih

theorem RO.mono {w : World} {F F' : Fz} (le : F.le F') {o : Obj} {x : AO} (h : RO w F o x) : RO w F' o x := by
  cases x with
  | list l => obtain ⟨vs, n, e, r⟩ := h; exact ⟨vs, n, e, r.mono le⟩
  | ns ρ =>
    obtain ⟨es, ep, e, k, nd, r⟩ := h
    refine ⟨es, ep, e, k, nd, fun p hp => ?_⟩
    have := r p hp
    cases hq : p.2 with
    | none => trivial
    | some x => simp only [hq] at this ⊢; obtain ⟨v, h1, h2⟩ := this; exact ⟨v, h1, h2.mono le⟩
  | cell c => cases c with
    | none => exact h
    | some x => obtain ⟨v, e, r⟩ := h; exact ⟨v, e, r.mono le⟩
  | dict l => obtain ⟨es, n, e, r⟩ := h; exact ⟨es, n, e, r.mono le⟩
  | raw o' => exact h
  | flds c vs => exact h
  | exc c args tb d cx => obtain ⟨vs, a, v5, e1, e2, e3, e4, e5, e6, e7, e8, e9⟩ := h; exact ⟨vs, a, v5, e1, e2, e3, e4, e5.mono le, e6, e7, fun q => (e8 q).mono le, e9⟩
  | tb => exact h
  | attrs ρ =>
    obtain ⟨es, ep, e, k, u, r⟩ := h
    refine ⟨es, ep, e, k, u, fun n => ?_⟩
    have := r n
    cases hq : ρ.lookup n with
    | none => simp only [hq] at this ⊢; exact this
    | some x => simp only [hq] at this ⊢; obtain ⟨v, h1, h2⟩ := this; exact ⟨v, h1, h2.mono le⟩

structure Glob where
  prog : Program
  w : World
  F0 : Fz
  os : OsState
  mg : Str → Option Value
  mb : Str → Option Value
noncomputable def GOk (G : Glob) : Prop := ∀ h : Heap, (∀ a o, G.F0 a = some o → h.get? a = some o) → h.Ns mainGlobals G.mg ∧ h.Ns builtinsNs G.mb ∧ h.NoLimit

noncomputable abbrev Glob.M (G : Glob) : Model := model G.prog G.w

structure Rep (G : Glob) (fr : List Env) (F : Fz) (H : Hp) (s : Shared) : Prop where
  gok : GOk G
  base : G.F0.le F
  fz : ∀ a o, F a = some o → s.heap.get? a = some o
  own : ∀ p ∈ H, F p.1 = none ∧ ∃ o, s.heap.get? p.1 = some o ∧ RO G.w F o p.2
  nd : (H.map (·.1)).Nodup
  frs : ∀ env ∈ fr, env.scope.kind = .function ∧ ∃ L ρ, env.frame = some L ∧ (L, AO.ns ρ) ∈ H
  gens : s.gens = #[]
  os : s.os = G.os

section
variable {G : Glob} {fr : List Env} {F F' : Fz} {H H' : Hp} {s : Shared}
theorem Rep.glob (h : Rep G fr F H s) : s.heap.Ns mainGlobals G.mg ∧ s.heap.Ns builtinsNs G.mb ∧ s.heap.NoLimit := h.gok s.heap fun a o e => h.fz a o (h.base a o e)
theorem Rep.perm (h : Rep G fr F H s) (p : H.Perm H') : Rep G fr F H' s :=
  ⟨h.gok, h.base, h.fz, fun q hq => h.own q (p.mem_iff.mpr hq), (p.map _).nodup_iff.mp h.nd, fun e he => ⟨(h.frs e he).1, let ⟨L, ρ, a, b⟩ := (h.frs e he).2; ⟨L, ρ, a, p.mem_iff.mp b⟩⟩, h.gens, h.os⟩
theorem Rep.drop {p : Addr × AO} (h : Rep G fr F (p :: H) s) (hp : ∀ env ∈ fr, env.frame ≠ some p.1) : Rep G fr F H s :=
  ⟨h.gok, h.base, h.fz, fun q hq => h.own q (.tail _ hq), (List.nodup_cons.mp h.nd).2, fun e he => ⟨(h.frs e he).1, by
    obtain ⟨L, ρ, a, b⟩ := (h.frs e he).2
    cases b with
    | head => exact absurd a (hp e he)
    | tail _ b => exact ⟨L, ρ, a, b⟩⟩, h.gens, h.os⟩
theorem Rep.dropNot {a : Addr} {x : AO} (h : Rep G fr F ((a, x) :: H) s) (hx : ∀ ρ, x ≠ .ns ρ) : Rep G fr F H s :=
  h.drop fun env he e => by
    obtain ⟨L, ρ, q, m⟩ := (h.frs env he).2
    obtain rfl : L = a := Option.some.inj (q.symm.trans e)
    cases m with
    | head => exact hx _ rfl
    | tail _ m => exact (List.nodup_cons.mp h.nd).1 (mem_keys m rfl)
theorem Rep.pop {env : Env} (h : Rep G (env :: fr) F H s) : Rep G fr F H s :=
  ⟨h.gok, h.base, h.fz, h.own, h.nd, fun e he => h.frs e (.tail _ he), h.gens, h.os⟩
theorem Rep.keeps (h : Rep G fr F H s) {h' : Heap} {tk : Nat} {dr : Drawn} (k : ∀ b o, s.heap.get? b = some o → h'.get? b = some o) : Rep G fr F H { s with heap := h', toks := tk, drawn := dr } :=
  ⟨h.gok, h.base, fun a o e => k _ _ (h.fz a o e), fun p hp => let ⟨n, o, g, r⟩ := h.own p hp; ⟨n, o, k _ _ g, r⟩, h.nd, h.frs, h.gens, h.os⟩
theorem Rep.toks (h : Rep G fr F H s) (tk : Nat) : Rep G fr F H { s with toks := tk } := h.keeps fun _ _ e => e
theorem Rep.fresh (h : Rep G fr F H s) {b : Addr} (e : s.heap.get? b = none) : F b = none ∧ b ∉ H.map (·.1) := by
  refine ⟨?_, fun q => ?_⟩
  · cases q : F b with
    | none => rfl
    | some o => have := h.fz _ _ q; rw [e] at this; cases this
  · obtain ⟨p, hp, rfl⟩ := List.mem_map.mp q
    obtain ⟨_, o, g, _⟩ := h.own p hp
    rw [e] at g; cases g
theorem none_at_size (h : Heap) : h.get? h.objs.size = none := by
  cases q : h.get? h.objs.size with
  | none => rfl
  | some o => exact absurd (Heap.lt_size q) (Nat.lt_irrefl _)
theorem Rep.new (h : Rep G fr F H s) {h' : Heap} {tk : Nat} {dr : Drawn} {D : Addr} {o : Obj} {x : AO} (k : ∀ b o, s.heap.get? b = some o → h'.get? b = some o) (hD : s.heap.get? D = none) (ho : h'.get? D = some o) (r : RO G.w F o x) :
    Rep G fr F ((D, x) :: H) { s with heap := h', toks := tk, drawn := dr } := by
  obtain ⟨f1, f2⟩ := h.fresh hD
  have h1 := h.keeps (tk := tk) (dr := dr) k
  refine ⟨h1.gok, h1.base, h1.fz, fun p hp => ?_, List.nodup_cons.mpr ⟨f2, h1.nd⟩, fun e he => ⟨(h1.frs e he).1, let ⟨L, ρ, a, b⟩ := (h1.frs e he).2; ⟨L, ρ, a, .tail _ b⟩⟩, h1.gens, h1.os⟩
  cases hp with
  | head => exact ⟨f1, o, ho, r⟩
  | tail _ hp => exact h1.own p hp
noncomputable def Fz.add (F : Fz) (D : Addr) (o : Obj) : Fz := fun a => if a = D then some o else F a
theorem Fz.add_self (F : Fz) (D : Addr) (o : Obj) : F.add D o D = some o := if_pos rfl
theorem Fz.add_le {F : Fz} {D : Addr} (o : Obj) (h : F D = none) : F.le (F.add D o) := fun a x e => by
  unfold Fz.add
  split
  · rename_i q; subst q; rw [h] at e; cases e
  · exact e
theorem Rep.newF (h : Rep G fr F H s) {h' : Heap} {tk : Nat} {dr : Drawn} {D : Addr} {o : Obj} (k : ∀ b o, s.heap.get? b = some o → h'.get? b = some o) (hD : s.heap.get? D = none) (ho : h'.get? D = some o) :
    F.le (F.add D o) ∧ Rep G fr (F.add D o) H { s with heap := h', toks := tk, drawn := dr } := by
  obtain ⟨f1, f2⟩ := h.fresh hD
  have le := Fz.add_le o f1
  have h1 := h.keeps (tk := tk) (dr := dr) k
  refine ⟨le, h1.gok, h1.base.trans le, fun a x e => ?_, fun p hp => ?_, h1.nd, h1.frs, h1.gens, h1.os⟩
  · unfold Fz.add at e
    split at e
    · rename_i q; subst q; cases e; exact ho
    · exact h1.fz a x e
  · obtain ⟨n, o', g, r⟩ := h1.own p hp
    refine ⟨?_, o', g, r.mono le⟩
    unfold Fz.add
    rw [if_neg fun q => f2 (mem_keys hp q)]
    exact n
theorem Rep.freeze {a : Addr} {x : AO} (h : Rep G fr F ((a, x) :: H) s) (hx : ∀ ρ, x ≠ .ns ρ) : ∃ o, RO G.w F o x ∧ F.le (F.add a o) ∧ Rep G fr (F.add a o) H s := by
  obtain ⟨n, o, g, r⟩ := h.own _ (.head _)
  have le := Fz.add_le o n
  have h1 := h.dropNot hx
  refine ⟨o, r, le, h1.gok, h1.base.trans le, fun b x e => ?_, fun p hp => ?_, h1.nd, h1.frs, h1.gens, h1.os⟩
  · unfold Fz.add at e
    split at e
    · rename_i q; subst q; cases e; exact g
    · exact h1.fz b x e
  · obtain ⟨n', o', g', r'⟩ := h1.own p hp
    refine ⟨?_, o', g', r'.mono le⟩
    unfold Fz.add
    rw [if_neg fun q => (List.nodup_cons.mp h.nd).1 (mem_keys hp q)]
    exact n'
theorem Rep.upd {a : Addr} {x x' : AO} (h : Rep G fr F ((a, x) :: H) s) {h' : Heap} {tk : Nat} {dr : Drawn} {o' : Obj} (k : Heap.ExtBut a s.heap h') (ho : h'.get? a = some o') (r : RO G.w F o' x') (hn : (∃ ρ, x = .ns ρ) → ∃ ρ, x' = .ns ρ) :
    Rep G fr F ((a, x') :: H) { s with heap := h', toks := tk, drawn := dr } := by
  have na : ∀ p ∈ H, p.1 ≠ a := fun p hp q => (List.nodup_cons.mp h.nd).1 (mem_keys hp q)
  have fa : F a = none := (h.own _ (.head _)).1
  refine ⟨h.gok, h.base, fun b o e => k b o (fun q => by subst q; rw [fa] at e; cases e) (h.fz b o e), fun p hp => ?_, h.nd, fun e he => ⟨(h.frs e he).1, ?_⟩, h.gens, h.os⟩
  · cases hp with
    | head => exact ⟨fa, o', ho, r⟩
    | tail _ hp => obtain ⟨n, o, g, r⟩ := h.own p (.tail _ hp); exact ⟨n, o, k _ _ (na p hp) g, r⟩
  · obtain ⟨L, ρ, q, m⟩ := (h.frs e he).2
    cases m with
    | head => obtain ⟨ρ', rfl⟩ := hn ⟨_, rfl⟩; exact ⟨_, _, q, .head _⟩
    | tail _ m => exact ⟨L, ρ, q, .tail _ m⟩
end

inductive Dn (P : Fz → Hp → Prop) (F : Fz) (H : Hp) : Prop where
  | mk (F1 : Fz) (le : Fz.le F1 F) (h : P F1 H)
inductive PQ {α : Type} (G : Glob) (fr : List Env) (F : Fz) (R : Hp) (Q : α → Fz → Hp → Prop) (v : α) (s : Shared) : Prop where
  | mk (F' : Fz) (H' : Hp) (le : F.le F') (rep : Rep G fr F' (H' ++ R) s) (q : Q v F' H')
noncomputable def TpAt {α : Type} (G : Glob) (fr : List Env) (A : Around) (K : Fz) (H : Hp) (t : Sem α) (Q : α → Fz → Hp → Prop) (E : Value → Fz → Hp → Prop) : Prop :=
  ∀ R s, Rep G fr K (H ++ R) s → wpAny G.M A t (PQ G fr K R Q) (PQ G fr K R fun e => Dn (E e)) s
noncomputable def Tp {α : Type} (G : Glob) (fr : List Env) (A : Around) (F : Fz) (H : Hp) (t : Sem α) (Q : α → Fz → Hp → Prop) (E : Value → Fz → Hp → Prop) : Prop :=
  ∀ K, F.le K → TpAt G fr A K H t (fun v => Dn (Q v)) E
section
variable {α β : Type} {G : Glob} {fr : List Env} {A : Around} {F K K₀ : Fz} {H R : Hp} {t : Sem α} {Q : α → Fz → Hp → Prop} {E : Value → Fz → Hp → Prop} {s : Shared}
theorem noPQ {F : Fz} {v : α} (h : PQ G fr F R (fun (_ : α) => Dn fun (_ : Fz) (_ : Hp) => False) v s) : False := by obtain ⟨_, _, _, _, _, _, q⟩ := h; exact q
theorem upPQ {v : α} (le : K₀.le K) (h : PQ G fr K R Q v s) : PQ G fr K₀ R Q v s := by obtain ⟨F1, H1, l, r, q⟩ := h; exact ⟨F1, H1, le.trans l, r, q⟩
theorem TpAt.seq (h : TpAt G fr A K H t Q E) (hR : Rep G fr K (H ++ R) s) (le : K₀.le K) {P : α → Shared → Prop}
    (k : ∀ a K1 H1 s1, K.le K1 → Rep G fr K1 (H1 ++ R) s1 → Q a K1 H1 → P a s1) : wpAny G.M A t P (PQ G fr K₀ R fun e => Dn (E e)) s :=
  wpAny_mono (h R s hR) (fun a s1 ⟨F1, H1, l, r, q⟩ => k a F1 H1 s1 l r q) fun _ _ q => upPQ le q
theorem TpAt.last (h : TpAt G fr A K H t Q E) (hR : Rep G fr K (H ++ R) s) (le : K₀.le K) : wpAny G.M A t (PQ G fr K₀ R Q) (PQ G fr K₀ R fun e => Dn (E e)) s :=
  h.seq hR le fun _ F1 H1 _ l r q => ⟨F1, H1, le.trans l, r, q⟩
theorem Tp.seq (h : Tp G fr A F H t Q E) (m : F.le K) (hR : Rep G fr K (H ++ R) s) (le : K₀.le K) {P : α → Shared → Prop}
    (k : ∀ a F1 K1 H1 s1, K.le K1 → Fz.le F1 K1 → Rep G fr K1 (H1 ++ R) s1 → Q a F1 H1 → P a s1) : wpAny G.M A t P (PQ G fr K₀ R fun e => Dn (E e)) s :=
  (h K m).seq hR le fun a K1 H1 s1 l r ⟨F1, m1, q⟩ => k a F1 K1 H1 s1 l m1 r q
theorem Tp.last (h : Tp G fr A F H t Q E) (m : F.le K) (hR : Rep G fr K (H ++ R) s) (le : K₀.le K) : wpAny G.M A t (PQ G fr K₀ R fun v => Dn (Q v)) (PQ G fr K₀ R fun e => Dn (E e)) s := (h K m).last hR le
theorem Tp.mono {Q' : α → Fz → Hp → Prop} {E' : Value → Fz → Hp → Prop} (h : Tp G fr A F H t Q E) (hq : ∀ a F1 H1, Q a F1 H1 → Q' a F1 H1) (he : ∀ e F1 H1, E e F1 H1 → E' e F1 H1) : Tp G fr A F H t Q' E' :=
  fun K m R s hR => wpAny_mono (h K m R s hR) (fun _ _ ⟨F1, H1, l, r, F2, m2, q⟩ => ⟨F1, H1, l, r, F2, m2, hq _ _ _ q⟩) fun _ _ ⟨F1, H1, l, r, F2, m2, q⟩ => ⟨F1, H1, l, r, F2, m2, he _ _ _ q⟩
end
inductive Upd : Hp → Addr → AO → AO → Hp → Prop where
  | hd {a : Addr} {x x' : AO} {H : Hp} : Upd ((a, x) :: H) a x x' ((a, x') :: H)
  | tl {a : Addr} {x x' : AO} {p : Addr × AO} {H H' : Hp} (h : Upd H a x x' H') : Upd (p :: H) a x x' (p :: H')
theorem Upd.split {a : Addr} {x x' : AO} {H H' : Hp} (h : Upd H a x x' H') : ∃ H₀, H.Perm ((a, x) :: H₀) ∧ H'.Perm ((a, x') :: H₀) := by
  induction h with
  | hd => exact ⟨_, .refl _, .refl _⟩
  | @tl _ _ _ p H H' _ ih =>
    obtain ⟨H₀, h1, h2⟩ := ih
    exact ⟨p :: H₀, (h1.cons p).trans (.swap ..), (h2.cons p).trans (.swap ..)⟩
theorem Rep.upd' {G : Glob} {fr : List Env} {F : Fz} {H H' R : Hp} {s : Shared} {a : Addr} {x x' : AO} (h : Rep G fr F (H ++ R) s) (u : Upd H a x x' H') {h' : Heap} {tk : Nat} {dr : Drawn} {o' : Obj} (k : Heap.ExtBut a s.heap h') (ho : h'.get? a = some o') (r : RO G.w F o' x')
    (hn : (∃ ρ, x = .ns ρ) → ∃ ρ, x' = .ns ρ) : Rep G fr F (H' ++ R) { s with heap := h', toks := tk, drawn := dr } := by
  obtain ⟨H₀, p1, p2⟩ := u.split
  exact ((h.perm (p1.append_right R)).upd k ho r hn).perm (p2.append_right R).symm
theorem Upd.mem {a : Addr} {x x' : AO} {H H' : Hp} (h : Upd H a x x' H') : (a, x) ∈ H := by
  obtain ⟨_, p1, _⟩ := h.split
  exact p1.mem_iff.mpr (.head _)
theorem Rep.get {G : Glob} {fr : List Env} {F : Fz} {H R : Hp} {s : Shared} (h : Rep G fr F (H ++ R) s) {a : Addr} {x : AO} (m : (a, x) ∈ H) : ∃ o, s.heap.get? a = some o ∧ RO G.w F o x :=
  (h.own _ (List.mem_append_left R m)).2
inductive Has : Hp → Addr → AO → Prop where
  | hd {a : Addr} {x : AO} {H : Hp} : Has ((a, x) :: H) a x
  | tl {a : Addr} {x : AO} {p : Addr × AO} {H : Hp} (h : Has H a x) : Has (p :: H) a x
theorem Has.mem {H : Hp} {a : Addr} {x : AO} (h : Has H a x) : (a, x) ∈ H := by
  induction h with
  | hd => exact .head _
  | tl _ ih => exact .tail _ ih
theorem Rep.has {G : Glob} {fr : List Env} {F : Fz} {H R : Hp} {s : Shared} (h : Rep G fr F (H ++ R) s) {a : Addr} {x : AO} (m : Has H a x) : ∃ o, s.heap.get? a = some o ∧ RO G.w F o x := h.get m.mem
inductive Lk : List (Str × Option V) → Str → V → Prop where
  | hd {x : Str} {y : V} {ρ : List (Str × Option V)} : Lk ((x, some y) :: ρ) x y
  | tl {x : Str} {y : V} {p : Str × Option V} {ρ : List (Str × Option V)} (h : Lk ρ x y) : Lk (p :: ρ) x y
theorem Lk.mem {ρ : List (Str × Option V)} {x : Str} {y : V} (h : Lk ρ x y) : (x, some y) ∈ ρ := by
  induction h with
  | hd => exact .head _
  | tl _ ih => exact .tail _ ih
inductive Rem : Hp → Addr → AO → Hp → Prop where
  | hd {a : Addr} {x : AO} {H : Hp} : Rem ((a, x) :: H) a x H
  | tl {a : Addr} {x : AO} {p : Addr × AO} {H H' : Hp} (h : Rem H a x H') : Rem (p :: H) a x (p :: H')
theorem Rem.perm {a : Addr} {x : AO} {H H' : Hp} (h : Rem H a x H') : H.Perm ((a, x) :: H') := by
  induction h with
  | hd => exact .refl _
  | tl _ ih => exact (ih.cons _).trans (.swap ..)

inductive SetL : List (Str × Option V) → Str → Option V → List (Str × Option V) → Prop where
  | hd {x : Str} {o o' : Option V} {ρ : List (Str × Option V)} : SetL ((x, o) :: ρ) x o' ((x, o') :: ρ)
  | tl {x : Str} {o' : Option V} {p : Str × Option V} {ρ ρ' : List (Str × Option V)} (h : SetL ρ x o' ρ') : SetL (p :: ρ) x o' (p :: ρ')
theorem SetL.names {x : Str} {o' : Option V} {ρ ρ' : List (Str × Option V)} (h : SetL ρ x o' ρ') : ρ'.map (·.1) = ρ.map (·.1) ∧ x ∈ ρ.map (·.1) := by
  induction h with
  | hd => exact ⟨rfl, .head _⟩
  | tl _ ih => exact ⟨by rw [List.map_cons, List.map_cons, ih.1], .tail _ ih.2⟩
theorem SetL.spec {x : Str} {o' : Option V} {ρ ρ' : List (Str × Option V)} (h : SetL ρ x o' ρ') (nd : (ρ.map (·.1)).Nodup) : ∀ p ∈ ρ', (p.1 = x ∧ p.2 = o') ∨ (p.1 ≠ x ∧ p ∈ ρ) := by
  induction h with
  | @hd x o o' ρ =>
    intro p hp
    rw [List.map_cons, List.nodup_cons] at nd
    rcases List.mem_cons.mp hp with rfl | hp
    · exact .inl ⟨rfl, rfl⟩
    · exact .inr ⟨fun e => nd.1 (by have := List.mem_map_of_mem (f := fun q : Str × Option V => q.1) hp; rw [e] at this; exact this), .tail _ hp⟩
  | tl h ih =>
    intro p hp
    rw [List.map_cons, List.nodup_cons] at nd
    rcases List.mem_cons.mp hp with rfl | hp
    · exact .inr ⟨fun e => nd.1 (by rw [e]; exact h.names.2), .head _⟩
    · exact (ih nd.2 p hp).elim .inl fun h => .inr ⟨h.1, .tail _ h.2⟩

inductive FV where
  | next | brk | cont
  | ret (x : V)
inductive RF (F : Fz) : Flow → FV → Prop where
  | next : RF F .next .next
  | brk : RF F .brk .brk
  | cont : RF F .cont .cont
  | ret {v : Value} {x : V} (h : RV F v x) : RF F (.ret v) (.ret x)

inductive VQ (Q : V → Fz → Hp → Prop) (v : Value) (K : Fz) (H : Hp) : Prop where
  | mk (x : V) (hx : RV K v x) (q : Dn (Q x) K H)
inductive VsQ (Q : List V → Fz → Hp → Prop) (v : List Value) (K : Fz) (H : Hp) : Prop where
  | mk (x : List V) (hx : RVs K v x) (q : Dn (Q x) K H)
inductive FQ (Q : FV → Fz → Hp → Prop) (v : Flow) (K : Fz) (H : Hp) : Prop where
  | mk (x : FV) (hx : RF K v x) (q : Dn (Q x) K H)
noncomputable def EvAt (G : Glob) (fr : List Env) (A : Around) (K : Fz) (H : Hp) (t : Sem Value) (Q : V → Fz → Hp → Prop) (E : Value → Fz → Hp → Prop) : Prop := TpAt G fr A K H t (VQ Q) E
noncomputable def Ev (G : Glob) (fr : List Env) (A : Around) (F : Fz) (H : Hp) (t : Sem Value) (Q : V → Fz → Hp → Prop) (E : Value → Fz → Hp → Prop) : Prop := ∀ K, F.le K → EvAt G fr A K H t Q E
noncomputable def Evs (G : Glob) (fr : List Env) (A : Around) (F : Fz) (H : Hp) (t : Sem (List Value)) (Q : List V → Fz → Hp → Prop) (E : Value → Fz → Hp → Prop) : Prop := ∀ K, F.le K → TpAt G fr A K H t (VsQ Q) E
noncomputable def Ex (G : Glob) (fr : List Env) (A : Around) (F : Fz) (H : Hp) (t : Sem Flow) (Q : FV → Fz → Hp → Prop) (E : Value → Fz → Hp → Prop) : Prop := ∀ K, F.le K → TpAt G fr A K H t (FQ Q) E
noncomputable def Op1 (G : Glob) (fr : List Env) (A : Around) (F : Fz) (H : Hp) (f : Value → Sem Value) (x : V) (Q : V → Fz → Hp → Prop) (E : Value → Fz → Hp → Prop) : Prop := ∀ K, F.le K → ∀ a, RV K a x → EvAt G fr A K H (f a) Q E
noncomputable def Op2 (G : Glob) (fr : List Env) (A : Around) (F : Fz) (H : Hp) (f : Value → Value → Sem Value) (x y : V) (Q : V → Fz → Hp → Prop) (E : Value → Fz → Hp → Prop) : Prop := ∀ K, F.le K → ∀ a b, RV K a x → RV K b y → EvAt G fr A K H (f a b) Q E
noncomputable def Tr (G : Glob) (fr : List Env) (A : Around) (F : Fz) (H : Hp) (x : V) (Q : Bool → Fz → Hp → Prop) (E : Value → Fz → Hp → Prop) : Prop := ∀ K, F.le K → ∀ a, RV K a x → TpAt G fr A K H (truthy a) (fun b => Dn (Q b)) E
section
variable {G : Glob} {fr : List Env} {A : Around} {F K K₀ : Fz} {H R : Hp} {s : Shared} {E : Value → Fz → Hp → Prop}
theorem EvAt.go {t : Sem Value} {Q : V → Fz → Hp → Prop} (h : EvAt G fr A K H t Q E) (hR : Rep G fr K (H ++ R) s) (le : K₀.le K) {P : Value → Shared → Prop} (k : ∀ v x F1 K1 H1 s1, K.le K1 → Fz.le F1 K1 → Rep G fr K1 (H1 ++ R) s1 → RV K1 v x → Q x F1 H1 → P v s1) : wpAny G.M A t P (PQ G fr K₀ R fun e => Dn (E e)) s :=
  TpAt.seq h hR le fun v K1 H1 s1 l1 r1 ⟨x, hx, F1, m1, q⟩ => k v x F1 K1 H1 s1 l1 m1 r1 hx q
theorem Ev.go {t : Sem Value} {Q : V → Fz → Hp → Prop} (h : Ev G fr A F H t Q E) (m : F.le K) (hR : Rep G fr K (H ++ R) s) (le : K₀.le K) {P : Value → Shared → Prop} (k : ∀ v x F1 K1 H1 s1, K.le K1 → Fz.le F1 K1 → Rep G fr K1 (H1 ++ R) s1 → RV K1 v x → Q x F1 H1 → P v s1) : wpAny G.M A t P (PQ G fr K₀ R fun e => Dn (E e)) s := (h K m).go hR le k
theorem Evs.go {t : Sem (List Value)} {Q : List V → Fz → Hp → Prop} (h : Evs G fr A F H t Q E) (m : F.le K) (hR : Rep G fr K (H ++ R) s) (le : K₀.le K) {P : List Value → Shared → Prop} (k : ∀ v x F1 K1 H1 s1, K.le K1 → Fz.le F1 K1 → Rep G fr K1 (H1 ++ R) s1 → RVs K1 v x → Q x F1 H1 → P v s1) : wpAny G.M A t P (PQ G fr K₀ R fun e => Dn (E e)) s :=
  TpAt.seq (h K m) hR le fun v K1 H1 s1 l1 r1 ⟨x, hx, F1, m1, q⟩ => k v x F1 K1 H1 s1 l1 m1 r1 hx q
theorem Ex.go {t : Sem Flow} {Q : FV → Fz → Hp → Prop} (h : Ex G fr A F H t Q E) (m : F.le K) (hR : Rep G fr K (H ++ R) s) (le : K₀.le K) {P : Flow → Shared → Prop} (k : ∀ v x F1 K1 H1 s1, K.le K1 → Fz.le F1 K1 → Rep G fr K1 (H1 ++ R) s1 → RF K1 v x → Q x F1 H1 → P v s1) : wpAny G.M A t P (PQ G fr K₀ R fun e => Dn (E e)) s :=
  TpAt.seq (h K m) hR le fun v K1 H1 s1 l1 r1 ⟨x, hx, F1, m1, q⟩ => k v x F1 K1 H1 s1 l1 m1 r1 hx q
theorem EvAt.last {t : Sem Value} {Q : V → Fz → Hp → Prop} (h : EvAt G fr A K H t Q E) (hR : Rep G fr K (H ++ R) s) (le : K₀.le K) : wpAny G.M A t (PQ G fr K₀ R (VQ Q)) (PQ G fr K₀ R fun e => Dn (E e)) s := TpAt.last h hR le
theorem Ev.last {t : Sem Value} {Q : V → Fz → Hp → Prop} (h : Ev G fr A F H t Q E) (m : F.le K) (hR : Rep G fr K (H ++ R) s) (le : K₀.le K) : wpAny G.M A t (PQ G fr K₀ R (VQ Q)) (PQ G fr K₀ R fun e => Dn (E e)) s := TpAt.last (h K m) hR le
theorem Ex.last {t : Sem Flow} {Q : FV → Fz → Hp → Prop} (h : Ex G fr A F H t Q E) (m : F.le K) (hR : Rep G fr K (H ++ R) s) (le : K₀.le K) : wpAny G.M A t (PQ G fr K₀ R (FQ Q)) (PQ G fr K₀ R fun e => Dn (E e)) s := TpAt.last (h K m) hR le
theorem vret {Q : V → Fz → Hp → Prop} {v : Value} {x : V} (hR : Rep G fr K (H ++ R) s) (hx : RV K v x) (m : F.le K) (q : Q x F H) : PQ G fr K R (VQ Q) v s := ⟨K, H, .refl K, hR, x, hx, F, m, q⟩
theorem tret {α : Type} {Q : α → Fz → Hp → Prop} {v : α} (hR : Rep G fr K (H ++ R) s) (m : F.le K) (q : Q v F H) : PQ G fr K R (fun v => Dn (Q v)) v s := ⟨K, H, .refl K, hR, F, m, q⟩
theorem fret {Q : FV → Fz → Hp → Prop} {v : Flow} {x : FV} (hR : Rep G fr K (H ++ R) s) (hx : RF K v x) (m : F.le K) (q : Q x F H) : PQ G fr K R (FQ Q) v s := ⟨K, H, .refl K, hR, x, hx, F, m, q⟩
end
noncomputable def Then (G : Glob) (fr : List Env) (A : Around) (env : Env) (rest : List Stmt) (Q : FV → Fz → Hp → Prop) (E : Value → Fz → Hp → Prop) : FV → Fz → Hp → Prop
  | .next, F, H => Ex G fr A F H (execs rest env) Q E
  | fv, F, H => Q fv F H
section
variable {G : Glob} {fr : List Env} {A : Around} {env : Env} {F : Fz} {H : Hp} {E : Value → Fz → Hp → Prop}
theorem Then.next {rest : List Stmt} {Q : FV → Fz → Hp → Prop} (h : Ex G fr A F H (execs rest env) Q E) : Then G fr A env rest Q E .next F H := h
theorem Then.brk {rest : List Stmt} {Q : FV → Fz → Hp → Prop} (h : Q .brk F H) : Then G fr A env rest Q E .brk F H := h
theorem Then.cont {rest : List Stmt} {Q : FV → Fz → Hp → Prop} (h : Q .cont F H) : Then G fr A env rest Q E .cont F H := h
theorem Then.ret {x : V} {rest : List Stmt} {Q : FV → Fz → Hp → Prop} (h : Q (.ret x) F H) : Then G fr A env rest Q E (.ret x) F H := h
theorem Ex_nil {Q : FV → Fz → Hp → Prop} (h : Q .next F H) : Ex G fr A F H (execs [] env) Q E := fun K m R s hR => wpAny_execs_nil (fret hR .next m h)
theorem Ex_cons {st : Stmt} {rest : List Stmt} {Q : FV → Fz → Hp → Prop} (h : Ex G fr A F H (exec st env) (Then G fr A env rest Q E) E) : Ex G fr A F H (execs (st :: rest) env) Q E := fun K m R s hR => by
  refine wpAny_execs_cons (h.go m hR (.refl K) fun f fv F1 K1 H1 s1 l1 m1 r1 hf q => ?_)
  cases hf with
  | next => exact (show Ex _ _ _ _ _ _ _ _ from q).last m1 r1 l1
  | brk => exact upPQ l1 (fret r1 .brk m1 q)
  | cont => exact upPQ l1 (fret r1 .cont m1 q)
  | ret hx => exact upPQ l1 (fret r1 (.ret hx) m1 q)
variable {Q : V → Fz → Hp → Prop}
theorem Ev_int {i : Int} {k pos} (h : Q (.int i) F H) : Ev G fr A F H (eval (.Constant (.int i) k pos) env) Q E := fun K m R s hR => wpAny_Constant_int (vret (hR.toks _) .int m h)
theorem Ev_str {x : Str} {k pos} (h : Q (.str x) F H) : Ev G fr A F H (eval (.Constant (.str x) k pos) env) Q E := fun K m R s hR => wpAny_Constant_str (vret (hR.toks _) .str m h)
theorem Ev_bool {b : Bool} {k pos} (h : Q (.bool b) F H) : Ev G fr A F H (eval (.Constant (.bool b) k pos) env) Q E := fun K m R s hR => wpAny_Constant_bool (vret hR .bool m h)
theorem Ev_none {k pos} (h : Q .none F H) : Ev G fr A F H (eval (.Constant .none k pos) env) Q E := fun K m R s hR => wpAny_Constant_none (vret hR .none m h)
theorem nsOf {ρ : List (Str × Option V)} {o : Obj} {w : World} {h : Heap} {L : Addr} (ho : h.get? L = some o) (r : RO w F o (.ns ρ)) : ∃ m, h.Ns L m ∧ (ρ.map (·.1)).Nodup ∧ ∀ p ∈ ρ, match p.2 with
    | none => True
    | some x => ∃ v, m p.1 = some v ∧ RV F v x := by
  obtain ⟨es, ep, hd, hk, nd, hp⟩ := r
  exact ⟨fun n => nsFind es n, ⟨o, es, ep, ho, hd, hk, fun _ => rfl⟩, nd, hp⟩
theorem Ev_local {ρ : List (Str × Option V)} {x : Str} {pos} {y : V} (hm : Has H env.locals (.ns ρ)) (hx : Lk ρ x y) (h : Q y F H) (hk : env.scope.kind = .function := by rfl) (hl : env.kindOf x = some .local := by rfl)
    (hd : (x == ("__debug__" : Str)) = false := by decide) : Ev G fr A F H (eval (.Name x pos) env) Q E := fun K m R s hR => by
  obtain ⟨o, ho, r⟩ := hR.has hm
  obtain ⟨ms, hn, nd, hp⟩ := nsOf ho r
  obtain ⟨v, hv, hr⟩ := hp _ hx.mem
  exact wpAny_Name (wpAny_loadName_local hk hl hn hv (vret hR hr m h)) hd
theorem Ev_BinOp {l op r pos} (h : Ev G fr A F H (eval l env) (fun x F1 H1 => Ev G fr A F1 H1 (eval r env) (fun y F2 H2 => Op2 G fr A F2 H2 (binaryOp op) x y Q E) E) E) :
    Ev G fr A F H (eval (.BinOp l op r pos) env) Q E := fun K m R s hR =>
  wpAny_BinOp (h.go m hR (.refl K) fun a x F1 K1 H1 s1 l1 m1 r1 hx h1 => h1.go m1 r1 l1 fun b y F2 K2 H2 s2 l2 m2 r2 hy h2 => (h2 K2 m2 a b (hx.mono l2) hy).last r2 (l1.trans l2))
theorem Ev_UnaryOp {op x pos} (h : Ev G fr A F H (eval x env) (fun x F1 H1 => Op1 G fr A F1 H1 (unaryOp op) x Q E) E) :
    Ev G fr A F H (eval (.UnaryOp op x pos) env) Q E := fun K m R s hR =>
  wpAny_UnaryOp (h.go m hR (.refl K) fun a x F1 K1 H1 s1 l1 m1 r1 hx h1 => (h1 K1 m1 a hx).last r1 l1)
theorem Ev_IfExp {test body orelse pos} (h : Tp G fr A F H (isTrue test env (eval test env)) (fun b F1 H1 => if b then Ev G fr A F1 H1 (eval body env) Q E else Ev G fr A F1 H1 (eval orelse env) Q E) E) :
    Ev G fr A F H (eval (.IfExp test body orelse pos) env) Q E := fun K m R s hR => by
  refine wpAny_IfExp (h.seq m hR (.refl K) fun b F1 K1 H1 s1 l1 m1 r1 h1 => ?_)
  cases b with
  | true => exact (show Ev _ _ _ _ _ _ _ _ from h1).last m1 r1 l1
  | false => exact (show Ev _ _ _ _ _ _ _ _ from h1).last m1 r1 l1
end
theorem Ev.mono {G : Glob} {fr : List Env} {A : Around} {F : Fz} {H : Hp} {E E' : Value → Fz → Hp → Prop} {P Q : V → Fz → Hp → Prop} {t : Sem Value} (h : Ev G fr A F H t P E) (k : ∀ x F1 H1, P x F1 H1 → Q x F1 H1) (e : ∀ x F1 H1, E x F1 H1 → E' x F1 H1) : Ev G fr A F H t Q E' := fun K m R s hR =>
  wpAny_mono (h K m R s hR) (fun _ _ q => let ⟨F1, H1, l, r, x, hx, F2, m2, q⟩ := q; ⟨F1, H1, l, r, x, hx, F2, m2, k _ _ _ q⟩) fun _ _ q => let ⟨F1, H1, l, r, F2, m2, q⟩ := q; ⟨F1, H1, l, r, F2, m2, e _ _ _ q⟩
theorem Ex.mono {G : Glob} {fr : List Env} {A : Around} {F : Fz} {H : Hp} {E E' : Value → Fz → Hp → Prop} {P Q : FV → Fz → Hp → Prop} {t : Sem Flow} (h : Ex G fr A F H t P E) (k : ∀ x F1 H1, P x F1 H1 → Q x F1 H1) (e : ∀ x F1 H1, E x F1 H1 → E' x F1 H1) : Ex G fr A F H t Q E' := fun K m R s hR =>
  wpAny_mono (h K m R s hR) (fun _ _ q => let ⟨F1, H1, l, r, x, hx, F2, m2, q⟩ := q; ⟨F1, H1, l, r, x, hx, F2, m2, k _ _ _ q⟩) fun _ _ q => let ⟨F1, H1, l, r, F2, m2, q⟩ := q; ⟨F1, H1, l, r, F2, m2, e _ _ _ q⟩
theorem Ev.val {G : Glob} {fr : List Env} {A : Around} {F : Fz} {H : Hp} {E : Value → Fz → Hp → Prop} {Q : V → Fz → Hp → Prop} {t : Sem Value} (P : V → Prop) (h : Ev G fr A F H t (fun x F1 H1 => P x ∧ F1 = F ∧ H1 = H) E) (k : ∀ x, P x → Q x F H) : Ev G fr A F H t Q E :=
  h.mono (fun x F1 H1 q => by obtain ⟨p, rfl, rfl⟩ := q; exact k x p) fun _ _ _ e => e
theorem Bif {b : Bool} {P Q : Prop} (h1 : b = true → P) (h2 : b = false → Q) : if b then P else Q := by
  cases b with
  | true => exact h1 rfl
  | false => exact h2 rfl
section
variable {G : Glob} {fr : List Env} {A : Around} {env : Env} {F : Fz} {H : Hp} {E : Value → Fz → Hp → Prop} {Q : Bool → Fz → Hp → Prop}
theorem It_Compare1 {l op r pos whole} (h : Ev G fr A F H (eval l env) (fun x F1 H1 => Ev G fr A F1 H1 (eval r env) (fun y F2 H2 => Op2 G fr A F2 H2 (compareOp op) x y (fun z F3 H3 => ∃ c, z = .bool c ∧ Q c F3 H3) E) E) E)
    (hm : behindInMarks op r = false := by with_unfolding_all rfl) : Tp G fr A F H (isTrue (.Compare l [op] [r] pos) env whole) Q E := fun K m R s hR =>
  wpAny_isTrue_Compare1 (h.go m hR (.refl K) fun a x F1 K1 H1 s1 l1 m1 r1 hx h1 => h1.go m1 r1 l1 fun b y F2 K2 H2 s2 l2 m2 r2 hy h2 =>
    (h2 K2 m2 a b (hx.mono l2) hy).go r2 (l1.trans l2) fun v z F3 K3 H3 s3 l3 m3 r3 hz hq => by
      obtain ⟨c, rfl, q⟩ := hq
      exact hz.e_bool (P := fun v => wpAny _ _ (truthy v) _ _ _) (wpAny_truthy_bool (upPQ (l1.trans (l2.trans l3)) (tret r3 m3 q)))) hm
theorem It_value {e : Expr} {whole : Sem Value} (h : Ev G fr A F H whole (fun x F1 H1 => Tr G fr A F1 H1 x Q E) E)
    (hs : isTrue e env whole = (do let v ← whole; standAt e.pos; holding [v] (truthy v)) := by rfl) : Tp G fr A F H (isTrue e env whole) Q E := fun K m R s hR => by
  rw [hs]
  exact wpAny_bind (h.go m hR (.refl K) fun a x F1 K1 H1 s1 l1 m1 r1 hx h1 => wpAny_bind (wpAny_standAt (wpAny_holding ((h1 K1 m1 a hx).last r1 l1))))
theorem It_BoolOp {op values pos whole} (h : Tp G fr A F H (allTrue op values env) Q E) : Tp G fr A F H (isTrue (.BoolOp op values pos) env whole) Q E := fun K m R s hR => wpAny_isTrue_BoolOp (h K m R s hR)
theorem It_and_nil (h : Q true F H) : Tp G fr A F H (allTrue .And [] env) Q E := fun K m R s hR => by
  have e : allTrue .And [] env = pure true := by first | rfl | (unfold allTrue; rfl) | simp [allTrue]
  rw [e]; exact wpAny_pure (tret (Q := Q) hR m h)
theorem It_or_nil (h : Q false F H) : Tp G fr A F H (allTrue .Or [] env) Q E := fun K m R s hR => by
  have e : allTrue .Or [] env = pure false := by first | rfl | (unfold allTrue; rfl) | simp [allTrue]
  rw [e]; exact wpAny_pure (tret (Q := Q) hR m h)
theorem It_and {x rest} (h : Tp G fr A F H (isTrue x env (eval x env)) (fun b F1 H1 => if b then Tp G fr A F1 H1 (allTrue .And rest env) Q E else Q false F1 H1) E) : Tp G fr A F H (allTrue .And (x :: rest) env) Q E := fun K m R s hR => by
  have e : allTrue .And (x :: rest) env = (isTrue x env (eval x env) >>= fun b => match b with | false => pure false | true => allTrue .And rest env) := by
    conv => lhs; unfold allTrue
    congr 1; funext b; cases b <;> rfl
  rw [e]
  refine wpAny_bind (h.seq m hR (.refl K) fun b F1 K1 H1 s1 l1 m1 r1 q => ?_)
  cases b with
  | true => exact (show Tp _ _ _ _ _ _ _ _ from q).last m1 r1 l1
  | false => exact wpAny_pure (upPQ l1 (tret (Q := Q) r1 m1 q))
theorem It_or {x rest} (h : Tp G fr A F H (isTrue x env (eval x env)) (fun b F1 H1 => if b then Q true F1 H1 else Tp G fr A F1 H1 (allTrue .Or rest env) Q E) E) : Tp G fr A F H (allTrue .Or (x :: rest) env) Q E := fun K m R s hR => by
  have e : allTrue .Or (x :: rest) env = (isTrue x env (eval x env) >>= fun b => match b with | true => pure true | false => allTrue .Or rest env) := by
    conv => lhs; unfold allTrue
    congr 1; funext b; cases b <;> rfl
  rw [e]
  refine wpAny_bind (h.seq m hR (.refl K) fun b F1 K1 H1 s1 l1 m1 r1 q => ?_)
  cases b with
  | false => exact (show Tp _ _ _ _ _ _ _ _ from q).last m1 r1 l1
  | true => exact wpAny_pure (upPQ l1 (tret (Q := Q) r1 m1 q))
end
section
variable {G : Glob} {fr : List Env} {A : Around} {env : Env} {F : Fz} {H : Hp} {E : Value → Fz → Hp → Prop} {Q : FV → Fz → Hp → Prop}
theorem Ex_Break {pos} (h : Q .brk F H) : Ex G fr A F H (exec (.Break pos) env) Q E := fun K m R s hR => wpAny_Break (fret hR .brk m h)
theorem Ex_Continue {pos} (h : Q .cont F H) : Ex G fr A F H (exec (.Continue pos) env) Q E := fun K m R s hR => wpAny_Continue (fret hR .cont m h)
theorem Ex_Return {e pos} (h : Ev G fr A F H (eval e env) (fun x F1 H1 => Q (.ret x) F1 H1) E) : Ex G fr A F H (exec (.Return (some e) pos) env) Q E := fun K m R s hR =>
  wpAny_Return_some (h.go m hR (.refl K) fun v x F1 K1 H1 s1 l1 m1 r1 hx q => upPQ l1 (fret r1 (.ret hx) m1 q))
theorem Ex_If {test body orelse pos} (h : Tp G fr A F H (isTrue test env (eval test env)) (fun b F1 H1 => if b then Ex G fr A F1 H1 (execs body env) Q E else Ex G fr A F1 H1 (execs orelse env) Q E) E) :
    Ex G fr A F H (exec (.If test body orelse pos) env) Q E := fun K m R s hR => by
  refine wpAny_If (h.seq m hR (.refl K) fun b F1 K1 H1 s1 l1 m1 r1 q => ?_)
  cases b with
  | true => exact (show Ex _ _ _ _ _ _ _ _ from q).last m1 r1 l1
  | false => exact (show Ex _ _ _ _ _ _ _ _ from q).last m1 r1 l1
theorem ns_set {w : World} {ρ ρ' : List (Str × Option V)} {h' : Heap} {L : Addr} {m : Str → Option Value} {x : Str} {v : Value} {y : V} (hn : h'.Ns L (fun z => if z = x then some v else m z)) (hs : SetL ρ x (some y) ρ') (nd : (ρ.map (·.1)).Nodup) (hv : RV F v y)
    (hp : ∀ p ∈ ρ, match p.2 with | none => True | some x => ∃ v, m p.1 = some v ∧ RV F v x) : ∃ o, h'.get? L = some o ∧ RO w F o (.ns ρ') := by
  obtain ⟨o, es, ep, ho, hd, hk, hf⟩ := hn
  refine ⟨o, ho, es, ep, hd, hk, by rw [hs.names.1]; exact nd, fun p hpm => ?_⟩
  rcases hs.spec nd p hpm with ⟨h1, h2⟩ | ⟨h1, h2⟩
  · rw [h2]
    exact ⟨v, (hf _).trans (if_pos h1), hv⟩
  · have q := hp p h2
    cases e : p.2 with
    | none => trivial
    | some z => simp only [e] at q ⊢; obtain ⟨u, q1, q2⟩ := q; exact ⟨u, ((hf _).trans (if_neg h1)).trans q1, q2⟩
inductive Store (env : Env) (x : Str) (y : V) (F : Fz) (H : Hp) (Q : Fz → Hp → Prop) : Prop where
  | intro (ρ ρ' : List (Str × Option V)) (H' : Hp) (hu : Upd H env.locals (.ns ρ) (.ns ρ') H') (hs : SetL ρ x (some y) ρ') (h : Q F H')
theorem Store.mk {env : Env} {x : Str} {y : V} {Q : Fz → Hp → Prop} {ρ ρ' : List (Str × Option V)} {H' : Hp} (hu : Upd H env.locals (.ns ρ) (.ns ρ') H') (hs : SetL ρ x (some y) ρ') (h : Q F H') : Store env x y F H Q := ⟨ρ, ρ', H', hu, hs, h⟩
theorem store {K : Fz} {x : Str} {v : Value} {y : V} {Q : Fz → Hp → Prop} (m : F.le K) (hv : RV K v y) (h : Store env x y F H Q)
    (hk : env.scope.kind = .function := by rfl) (hl : env.kindOf x = some .local := by rfl) : TpAt G fr A K H (storeName env x v) (fun _ => Dn Q) E := fun R s hR => by
  obtain ⟨ρ, ρ', H', hu, hs, h⟩ := h
  obtain ⟨o, ho, r⟩ := hR.get hu.mem
  obtain ⟨ms, hn, nd, hp⟩ := nsOf ho r
  refine wpAny_storeName_local hl hn (fun h' hn' hs' => ?_) (by rw [hk]; rfl)
  obtain ⟨o', ho', r'⟩ := ns_set (w := G.w) hn' hs nd hv hp
  exact ⟨K, H', .refl K, hR.upd' hu hs'.extBut ho' r' fun _ => ⟨_, rfl⟩, F, m, h⟩
theorem Ex_Assign_Name {x : Str} {pos' value pos} (h : Ev G fr A F H (eval value env) (fun y F1 H1 => Store env x y F1 H1 (Q .next)) E)
    (hs : swapsWith value (some (.Name x pos')) pos.line env = pure false := by rfl) (hk : env.scope.kind = .function := by rfl) (hl : env.kindOf x = some .local := by rfl) :
    Ex G fr A F H (exec (.Assign [.Name x pos'] value pos) env) Q E := fun K m R s hR =>
  wpAny_Assign_Name (h.go m hR (.refl K) fun v y F1 K1 H1 s1 l1 m1 r1 hy hq =>
    (store m1 hy hq hk hl).seq r1 l1 fun _ K2 H2 s2 l2 r2 ⟨F2, m2, q⟩ => upPQ (l1.trans l2) (fret r2 .next m2 q)) hs
end
section
variable {G : Glob} {fr : List Env} {A : Around} {F : Fz} {H : Hp} {E : Value → Fz → Hp → Prop} {Q : V → Fz → Hp → Prop} {i j : Int}
theorem ii {K : Fz} {P : Value → Value → Prop} (k : ∀ t u, P (.int i t) (.int j u)) : ∀ a b, RV K a (.int i) → RV K b (.int j) → P a b := fun _ b ha hb => ha.e_int (P := fun a => P a b) fun t => hb.e_int (k t)
theorem add_ii (h : Q (.int (i + j)) F H) : Op2 G fr A F H (binaryOp .Add) (.int i) (.int j) Q E := fun K m => ii fun t u R s hR => PySem.P.add_int (vret (hR.toks _) .int m h)
theorem sub_ii (h : Q (.int (i - j)) F H) : Op2 G fr A F H (binaryOp .Sub) (.int i) (.int j) Q E := fun K m => ii fun t u R s hR => PySem.P.sub_int (vret (hR.toks _) .int m h)
theorem iadd_ii (h : Q (.int (i + j)) F H) : Op2 G fr A F H (inplaceOp .Add) (.int i) (.int j) Q E := fun K m => ii fun t u R s hR => PySem.P.iadd_int (vret (hR.toks _) .int m h)
theorem mul_ii (hm : IntMulOk i j) (h : Q (.int (i * j)) F H) : Op2 G fr A F H (binaryOp .Mult) (.int i) (.int j) Q E := fun K m => ii fun t u R s hR => PySem.P.mul_int (vret (hR.toks _) .int m h) hm
theorem neg_i (h : Q (.int (-i)) F H) : Op1 G fr A F H (unaryOp .USub) (.int i) Q E := fun K m a ha => ha.e_int (P := fun a => EvAt _ _ _ _ _ (unaryOp .USub a) _ _) fun t R s hR => PySem.P.neg_int (vret (hR.toks _) .int m h)
theorem eq_ii (h : Q (.bool (i == j)) F H) : Op2 G fr A F H (compareOp .Eq) (.int i) (.int j) Q E := fun K m => ii fun t u R s hR => PySem.P.eq_int (vret hR .bool m h)
theorem lt_ii (h : Q (.bool (decide (i < j))) F H) : Op2 G fr A F H (compareOp .Lt) (.int i) (.int j) Q E := fun K m => ii fun t u R s hR => PySem.P.lt_int (vret hR .bool m h)
theorem le_ii (h : Q (.bool (decide (i ≤ j))) F H) : Op2 G fr A F H (compareOp .LtE) (.int i) (.int j) Q E := fun K m => ii fun t u R s hR => PySem.P.le_int (vret hR .bool m h)
theorem ge_ii (h : Q (.bool (decide (i ≥ j))) F H) : Op2 G fr A F H (compareOp .GtE) (.int i) (.int j) Q E := fun K m => ii fun t u R s hR => PySem.P.ge_int (vret hR .bool m h)
end
noncomputable def Noted (G : Glob) (fr : List Env) (A : Around) (env : Env) (E : Value → Fz → Hp → Prop) : Prop :=
  ∀ K R e s, PQ G fr K R (fun e => Dn (E e)) e s → notedBy G.M A env (cameBackBy G.M A env (PQ G fr K R fun e => Dn (E e))) e s
noncomputable abbrev No : Value → Fz → Hp → Prop := fun _ _ _ => False
theorem noted_no {G : Glob} {fr : List Env} {A : Around} {env : Env} : Noted G fr A env No := fun _ _ _ _ h => (noPQ h).elim
noncomputable def Turn (I : Fz → Hp → Prop) (Q : FV → Fz → Hp → Prop) : FV → Fz → Hp → Prop
  | .next, F, H => I F H
  | .cont, F, H => I F H
  | .brk, F, H => Q .next F H
  | .ret x, F, H => Q (.ret x) F H
section
variable {G : Glob} {fr : List Env} {A : Around} {env : Env} {F : Fz} {H : Hp} {E : Value → Fz → Hp → Prop} {Q : FV → Fz → Hp → Prop} {I : Fz → Hp → Prop}
theorem Turn.next (h : I F H) : Turn I Q .next F H := h
theorem Turn.cont (h : I F H) : Turn I Q .cont F H := h
theorem Turn.brk (h : Q .next F H) : Turn I Q .brk F H := h
theorem Ex_While {test body pos} (I : Nat → Fz → Hp → Prop) (n : Nat) (h0 : I n F H)
    (step : ∀ n F1 H1, I n F1 H1 → ∀ Qn : Fz → Hp → Prop, (∀ m F3 H3, m < n → I m F3 H3 → Qn F3 H3) → Tp G fr A F1 H1 (isTrue test env (eval test env)) (fun b F2 H2 => if b then Ex G fr A F2 H2 (execs body env) (Turn Qn Q) E else Q .next F2 H2) E)
    (hE : Noted G fr A env E) : Ex G fr A F H (exec (.While test body [] pos) env) Q E := fun K m R s hR => by
  refine wpAny_While (codeAny_whileLoop (I := fun n s => ∃ F1 K1 H1, K.le K1 ∧ Fz.le F1 K1 ∧ Rep G fr K1 (H1 ++ R) s ∧ I n F1 H1) (fun n s hI => ?_) n ⟨F, K, H, .refl K, m, hR, h0⟩)
  obtain ⟨F1, K1, H1, l1, m1, r1, hI⟩ := hI
  have hE' : ∀ e s', PQ G fr K R (fun e => Dn (E e)) e s' → notedBy G.M A env (fun e s' => cameBackBy G.M A env (PQ G fr K R fun e => Dn (E e)) e s') e s' := fun e s' q => hE K R e s' q
  refine wpAny_mono ((step n F1 H1 hI (fun F3 H3 => ∃ m, m < n ∧ I m F3 H3) fun m F3 H3 hm q => ⟨m, hm, q⟩).seq m1 r1 l1 (P := fun b s₂ => if b then wpAny G.M A (execs body env) (fun f s₃ => match f with
            | .next | .cont => ∃ m, m < n ∧ ∃ F1 K1 H1, K.le K1 ∧ Fz.le F1 K1 ∧ Rep G fr K1 (H1 ++ R) s₃ ∧ I m F1 H1
            | .brk => PQ G fr K R (FQ Q) .next s₃
            | .ret v => PQ G fr K R (FQ Q) (.ret v) s₃) (PQ G fr K R fun e => Dn (E e)) s₂ else PQ G fr K R (FQ Q) .next s₂) fun b F2 K2 H2 s2 l2 m2 r2 q => ?_) (fun b s₂ hb => ?_) hE'
  · cases b with
    | false => exact upPQ (l1.trans l2) (fret r2 .next m2 q)
    | true =>
      refine (show Ex _ _ _ _ _ _ _ _ from q).go m2 r2 (l1.trans l2) fun f fv F3 K3 H3 s3 l3 m3 r3 hf q => ?_
      have l := l1.trans (l2.trans l3)
      cases hf with
      | next => obtain ⟨m, hm, q⟩ := q; exact ⟨m, hm, F3, K3, H3, l, m3, r3, q⟩
      | cont => obtain ⟨m, hm, q⟩ := q; exact ⟨m, hm, F3, K3, H3, l, m3, r3, q⟩
      | brk => exact upPQ l (fret r3 .next m3 q)
      | ret hx => exact upPQ l (fret r3 (.ret hx) m3 q)
  · cases b with
    | false =>
      show wpAny _ _ (execs [] env) _ _ _
      exact wpAny_execs_nil hb
    | true => exact wpAny_mono (show wpAny _ _ _ _ _ _ from hb) (fun f s₃ h₃ => by cases f <;> exact h₃) hE'
end
theorem pick {α : Type} {l : List α} {k : Nat} : l[k]? = none ↔ l.length ≤ k := List.getElem?_eq_none_iff
structure IterP (G : Glob) (A : Around) (F : Fz) (it : Addr) (l : List V) (I : Nat → AO) : Prop where
  item : ∀ (k : Nat) (y : V) (s : Shared) (F2 : Fz) {Q : Option Value → Shared → Prop} {E : Value → Shared → Prop}, F.le F2 → (∃ o, s.heap.get? it = some o ∧ RO G.w F2 o (I k)) → (∀ b o, F2 b = some o → s.heap.get? b = some o) → l[k]? = some y →
    (∀ v h' o tk, RV F2 v y → h'.get? it = some o → RO G.w F2 o (I (k + 1)) → Heap.SameBut it s.heap h' → Q (some v) { s with heap := h', toks := tk }) → wpAny G.M A (pyNext (.ref it)) Q E s
  fin : ∀ (s : Shared) (F2 : Fz) {Q : Option Value → Shared → Prop} {E : Value → Shared → Prop}, F.le F2 → (∃ o, s.heap.get? it = some o ∧ RO G.w F2 o (I l.length)) → (∀ b o, F2 b = some o → s.heap.get? b = some o) →
    (∀ h', Heap.ExtBut it s.heap h' → Q none { s with heap := h' }) → wpAny G.M A (pyNext (.ref it)) Q E s
  notNs : ∀ k ρ, I k ≠ .ns ρ
  go : ∀ (k : Nat) (target : Expr) (v : Value) (s : Shared) (F2 : Fz) {Q : Unit → Shared → Prop} {E : Value → Shared → Prop}, (∃ o, s.heap.get? it = some o ∧ RO G.w F2 o (I k)) → Q () s → wpAny G.M A (letOwnedTupleGo target (.ref it) v) Q E s
  self : ∀ (k : Nat) (s : Shared) (F2 : Fz) {Q : Value → Shared → Prop} {E : Value → Shared → Prop}, (∃ o, s.heap.get? it = some o ∧ RO G.w F2 o (I k)) → Q (.ref it) s → wpAny G.M A (pyIter (.ref it)) Q E s
theorem go_other {G : Glob} {A : Around} {it : Addr} {n : String} {vs : Array Value} {o : Obj} {s : Shared} (hc : o.cls = .type n) (hd : o.data = .fields vs) (ho : s.heap.get? it = some o) (hn : ["enumerate", "zip", "dict_itemiterator", "dict_reverseitemiterator", "odict_iterator", "itertools.zip_longest", "itertools.pairwise"].contains n = false) (target : Expr) (v : Value) {Q : Unit → Shared → Prop} {E : Value → Shared → Prop} (hQ : Q () s) :
    wpAny G.M A (letOwnedTupleGo target (.ref it) v) Q E s := by
  have key : ∀ a, wpAny G.M A (do
      let o ← load it
      match o.cls, o.data with
      | .type n, .fields vs =>
        if ["enumerate", "zip", "dict_itemiterator", "dict_reverseitemiterator", "odict_iterator", "itertools.zip_longest", "itertools.pairwise"].contains n && vs[0]? == some (rawInt a) then
          rule "for.unpacks-the-owned-tuple"
          updateField it 0 .none
      | _, _ => pure ()) Q E s := fun a => by
    refine wpAny_bind (wpAny_load ho ?_)
    rw [hc, hd]
    simp only [hn, Bool.false_and, Bool.false_eq_true, if_false]
    exact wpAny_pure hQ
  cases target <;> first
    | exact wpAny_pure hQ
    | (cases v <;> first | exact wpAny_pure hQ | exact key _)
noncomputable def Iterable (G : Glob) (A : Around) (x : V) (l : List V) : Prop := ∀ (F : Fz) (s : Shared) (v : Value) {Q E : Value → Shared → Prop}, (∀ b o, F b = some o → s.heap.get? b = some o) → RV F v x →
  (∀ it h' o I, s.heap.get? it = none → (∀ b o, s.heap.get? b = some o → h'.get? b = some o) → h'.get? it = some o → RO G.w F o (I 0) → IterP G A F it l I → Q (.ref it) { s with heap := h' }) → wpAny G.M A (pyIter v) Q E s
theorem iter_lst {G : Glob} {A : Around} {l : List V} (hh : A.handled = none) : Iterable G A (.lst l) l := fun F s v Q E hf hv k => by
    refine hv.e_lst (P := fun v => wpAny _ _ (pyIter v) _ _ _) fun a vs n o ha hcl hdt hlen hrv => ?_
    refine wpAny_pyIter_list ⟨o, hf _ _ ha, hcl, n, hdt⟩ (k _ _ _ (fun k => AO.flds "list_iterator" #[.ref a, .int (k : Nat) 0]) (none_at_size _) (fun b o e => Heap.get?_push_of_some _ e) (Heap.get?_push_size _ rfl) ⟨rfl, rfl⟩ ⟨?_, ?_, (fun _ _ q => nomatch q), fun _ t v _ _ _ _ ⟨o', g, c1, c2⟩ hQ => go_other c1 c2 g (by decide) t v hQ, fun _ _ _ _ _ ⟨o', g, c1, c2⟩ hQ => wpAny_pyIter_listiter ⟨o', g, c1, c2⟩ hQ⟩)
    · intro k y s F2 Q E le ⟨o', g, c1, c2⟩ hfz hy hQ
      have hk : k < vs.length := by
        rcases Nat.lt_or_ge k l.length with q | q
        · lia
        · rw [List.getElem?_eq_none q] at hy; cases hy
      refine wpAny_pyNext_list_item (items := vs.toArray) (x := vs[k]) ⟨o', g, c1, c2⟩ ⟨_, hfz _ _ (le _ _ ha), hcl, n, hdt⟩ (by simp [hk]) fun h' ⟨o'', g', c1', c2'⟩ hs' => hQ _ h' o'' s.toks ((hrv k _ y (List.getElem?_eq_getElem hk) hy).mono le) g' ⟨c1', c2'⟩ hs'
    · intro s F2 Q E le ⟨o', g, c1, c2⟩ hfz hQ
      exact wpAny_pyNext_list_end hh ⟨o', g, c1, c2⟩ ⟨_, hfz _ _ (le _ _ ha), hcl, n, hdt⟩ (by simp [hlen]) hQ
noncomputable def rngV (a b c : Int) : List V := (List.range (Builtin.Range.rangeSize a b c).toNat).map fun (k : Nat) => .int (a + (k : Int) * c)
theorem rngV_get {a b c : Int} {k : Nat} {y : V} (h : (rngV a b c)[k]? = some y) : k < (Builtin.Range.rangeSize a b c).toNat ∧ y = .int (a + (k : Int) * c) := by
  unfold rngV at h
  rw [List.getElem?_map] at h
  rcases Nat.lt_or_ge k (Builtin.Range.rangeSize a b c).toNat with q | q
  · rw [List.getElem?_range q] at h; exact ⟨q, by simpa using h.symm⟩
  · rw [List.getElem?_eq_none (by simpa using q)] at h; cases h
theorem iter_rng {G : Glob} {A : Around} {a b c : Int} (hh : A.handled = none) (hs : Builtin.Range.small a b c = true) : Iterable G A (.rng a b c) (rngV a b c) := fun F s v Q E hf hv k => by
    refine hv.e_rng (P := fun v => wpAny _ _ (pyIter v) _ _ _) fun r t u v ha => ?_
    refine wpAny_pyIter_range (hf _ _ ha) hs (k _ _ _ (fun k => AO.raw { cls := .type "range_iterator", dict := none, data := .fields #[rawInt (a + (k : Int) * c), rawInt (Builtin.Range.rangeSize a b c - k), rawInt c], slots := #[] }) (none_at_size _) (fun b o e => Heap.get?_push_of_some _ e) (Heap.get?_push_size _ rfl) ?_ ⟨?_, ?_, (fun _ _ q => nomatch q), fun _ t v _ _ _ _ ⟨o', g, ro⟩ hQ => go_other (n := "range_iterator") rfl rfl (g.trans (congrArg some ro)) (by decide) t v hQ, fun _ _ _ _ _ ⟨o', g, ro⟩ hQ => wpAny_pyIter_rangeiter (g.trans (congrArg some ro)) hQ⟩)
    · show _ = _
      simp
    · intro k y s F2 Q E le ⟨o', g, ro⟩ hfz hy hQ
      obtain ⟨hk, rfl⟩ := rngV_get hy
      have ro' : o' = { cls := .type "range_iterator", dict := none, data := .fields #[rawInt (a + (k : Int) * c), rawInt (Builtin.Range.rangeSize a b c - k), rawInt c], slots := #[] } := ro
      subst ro'
      refine wpAny_pyNext_range_item g (by lia) fun h' hi hs' => hQ _ h' _ (s.toks + 1) .int hi ?_ hs'
      show _ = _
      have e1 : a + ((k + 1 : Nat) : Int) * c = a + (k : Int) * c + c := by
        have : ((k + 1 : Nat) : Int) = (k : Int) + 1 := by lia
        rw [this, Int.add_mul, Int.one_mul, Int.add_assoc]
      have e2 : Builtin.Range.rangeSize a b c - ((k + 1 : Nat) : Int) = Builtin.Range.rangeSize a b c - k - 1 := by lia
      rw [e1, e2]
    · intro s F2 Q E le ⟨o', g, ro⟩ hfz hQ
      have ro' : o' = { cls := .type "range_iterator", dict := none, data := .fields #[rawInt (a + ((rngV a b c).length : Int) * c), rawInt (Builtin.Range.rangeSize a b c - ((rngV a b c).length : Nat)), rawInt c], slots := #[] } := ro
      subst ro'
      exact wpAny_pyNext_range_end hh g (by simp [rngV]; lia) hQ
noncomputable def As (G : Glob) (fr : List Env) (A : Around) (env : Env) (F : Fz) (H : Hp) (target : Expr) (y : V) (Q : Fz → Hp → Prop) (E : Value → Fz → Hp → Prop) : Prop := ∀ K, F.le K → ∀ v, RV K v y → TpAt G fr A K H (assign target env v) (fun _ => Dn Q) E
section
variable {G : Glob} {fr : List Env} {A : Around} {env : Env} {F : Fz} {H : Hp} {E : Value → Fz → Hp → Prop} {Q : FV → Fz → Hp → Prop}
theorem Ex_For {target iter body pos} (hE : Noted G fr A env E)
    (h : Ev G fr A F H (eval iter env) (fun x F1 H1 => ∃ l, Iterable G A x l ∧ ∃ I : Nat → Fz → Hp → Prop, I 0 F1 H1 ∧
      (∀ k y F2 H2, l[k]? = some y → I k F2 H2 → ∀ Qn : Fz → Hp → Prop, (∀ F3 H3, I (k + 1) F3 H3 → Qn F3 H3) → As G fr A env F2 H2 target y (fun F3 H3 => Ex G fr A F3 H3 (execs body env) (Turn Qn Q) E) E) ∧
      (∀ F2 H2, I l.length F2 H2 → Q .next F2 H2)) E)
    (hs : ∀ x, foldedSetIterable iter env x = pure x := by intro _; rfl) :
    Ex G fr A F H (exec (.For target iter body [] pos) env) Q E := fun K m R s hR => by
  refine wpAny_For (h.go m hR (.refl K) fun x y F1 K1 H1 s1 l1 m1 r1 hy hq => ?_) hs
  obtain ⟨l, itr, I, h0, step, fin⟩ := hq
  have hE' : ∀ e s', PQ G fr K R (fun e => Dn (E e)) e s' → notedBy G.M A env (fun e s' => cameBackBy G.M A env (PQ G fr K R fun e => Dn (E e)) e s') e s' := fun e s' q => hE K R e s' q
  refine itr K1 s1 x r1.fz hy fun it h' o J hit0 hkp hit hro P => ?_
  have perm : ∀ (H : Hp) (p : Addr × AO) (R : Hp), (H ++ p :: R).Perm (p :: (H ++ R)) := fun H p R => List.perm_middle
  have r2 : Rep G fr K1 (H1 ++ (it, J 0) :: R) { s1 with heap := h' } := (r1.new (tk := s1.toks) (dr := s1.drawn) hkp hit0 hit hro).perm (perm H1 _ R).symm
  refine codeAny_forLoop_any (I := fun n s => ∃ k F2 K2 H2, n + k = l.length ∧ K1.le K2 ∧ Fz.le F2 K2 ∧ Rep G fr K2 (H2 ++ (it, J k) :: R) s ∧ I k F2 H2)
    (fun n s hI => ?_) l.length ⟨0, F1, K1, H1, by lia, .refl K1, m1, r2, h0⟩
  obtain ⟨k, F2, K2, H2, hnk, l2, m2, r2, hI⟩ := hI
  have hro : ∃ o, s.heap.get? it = some o ∧ RO G.w K2 o (J k) := (r2.own (it, _) (List.mem_append_right _ (.head _))).2
  cases hv : l[k]? with
  | none =>
    have hk : l.length ≤ k := pick.mp hv
    have hkl : k = l.length := by lia
    subst hkl
    refine wpAny_mono (P.fin s K2 (E := PQ G fr K R fun e => Dn (E e)) l2 hro r2.fz (Q := fun r s₁ => r = none ∧ PQ G fr K R (FQ Q) .next s₁) fun h' he => ⟨rfl, ?_⟩) (fun r s₁ hr => ?_) hE'
    · have r3 := (r2.perm (perm H2 _ R))
      have r4 : Rep G fr K2 (H2 ++ R) { s with heap := h' } := by
        have d := r3.dropNot (P.notNs _)
        have nit : ∀ p ∈ H2 ++ R, p.1 ≠ it := fun p hp q => (List.nodup_cons.mp r3.nd).1 (mem_keys hp q)
        have fit : K2 it = none := (r3.own _ (.head _)).1
        exact ⟨d.gok, d.base, fun b o e => he b o (fun q => by subst q; rw [fit] at e; cases e) (d.fz b o e), fun p hp => let ⟨n, o, g, rr⟩ := d.own p hp; ⟨n, o, he _ _ (nit p hp) g, rr⟩, d.nd, d.frs, d.gens, d.os⟩
      exact upPQ (l1.trans l2) (fret r4 .next m2 (fin F2 H2 hI))
    · obtain ⟨rfl, hr⟩ := hr
      exact wpAny_execs_nil hr
  | some y =>
    have hk : k < l.length := (List.getElem?_eq_some_iff.mp hv).1
    refine wpAny_mono (P.item k y s K2 (E := PQ G fr K R fun e => Dn (E e)) l2 hro r2.fz hv (Q := fun r s₁ => ∃ v, r = some v ∧ RV K2 v y ∧ Rep G fr K2 (H2 ++ (it, J (k + 1)) :: R) s₁) fun v h' o tk rv ho hro' hs => ⟨v, rfl, rv, ?_⟩) (fun r s₁ hr => ?_) hE'
    · have r3 := (r2.perm (perm H2 _ R)).upd (h' := h') (tk := tk) (dr := s.drawn) (o' := o) (x' := J (k + 1)) hs.extBut ho hro' (fun hq => by obtain ⟨ρ, q⟩ := hq; exact absurd q (P.notNs k ρ))
      exact r3.perm (perm H2 _ R).symm
    · obtain ⟨v, rfl, ry, r3⟩ := hr
      show wpAny _ _ (letOwnedTupleGo target (.ref it) v) _ _ s₁
      refine P.go (k + 1) target v s₁ K2 (r3.own (it, _) (List.mem_append_right _ (.head _))).2 ?_
      have dropIt : ∀ {K4 H4 s4}, Rep G fr K4 (H4 ++ (it, J (k + 1)) :: R) s4 → Rep G fr K4 (H4 ++ R) s4 := fun r => (r.perm (perm _ _ R)).dropNot (P.notNs _)
      have dropE : ∀ {K4 : Fz} (_ : K.le K4) e s', PQ G fr K4 ((it, J (k + 1)) :: R) (fun e => Dn (E e)) e s' → PQ G fr K R (fun e => Dn (E e)) e s' := fun l4 e s' q => by
        obtain ⟨K5, H5, l5, r5, q⟩ := q
        exact ⟨K5, H5, l4.trans l5, dropIt r5, q⟩
      refine wpAny_mono (step k y F2 H2 hv hI (I (k + 1)) (fun _ _ q => q) K2 m2 v ry _ s₁ r3) (fun _ s₂ hq => ?_) fun e s' q => hE' e s' (dropE (l1.trans l2) e s' q)
      obtain ⟨K3, H3, l3, r3', F3, m3, q⟩ := hq
      have l13 := l1.trans (l2.trans l3)
      refine wpAny_mono (q K3 m3 _ s₂ r3') (fun f s4 hq => ?_) fun e s' q => hE' e s' (dropE l13 e s' q)
      obtain ⟨K4, H4, l4, r4, fv, hf, F4, m4, q⟩ := hq
      have l := l13.trans l4
      cases hf with
      | next => exact ⟨n - 1, by lia, k + 1, F4, K4, H4, by lia, l2.trans (l3.trans l4), m4, r4, q⟩
      | cont => exact ⟨n - 1, by lia, k + 1, F4, K4, H4, by lia, l2.trans (l3.trans l4), m4, r4, q⟩
      | brk => exact upPQ l (fret (dropIt r4) .next m4 q)
      | ret hx => exact upPQ l (fret (dropIt r4) (.ret hx) m4 q)
end
section
variable {G : Glob} {fr : List Env} {A : Around} {env : Env} {F : Fz} {H : Hp} {E : Value → Fz → Hp → Prop} {Q : V → Fz → Hp → Prop}
theorem Ev_global {x : Str} {pos} {v : Value} {y : V} (hv : G.mg x = some v) (hr : RV F v y) (h : Q y F H) (hk : env.scope.kind = .function := by rfl) (hx : env.kindOf x = some .globalImplicit := by rfl) (hg : env.globals = mainGlobals := by rfl)
    (hd : (x == ("__debug__" : Str)) = false := by decide) : Ev G fr A F H (eval (.Name x pos) env) Q E := fun K m R s hR =>
  Name_function_global hk hx (loadGlobal_global (by rw [hg]; exact hR.glob.1) hv (vret hR (hr.mono m) m h)) hd
theorem Ev_blt {x : Str} {pos} {v : Value} {y : V} (hn : G.mg x = none) (hv : G.mb x = some v) (hr : RV F v y) (h : Q y F H) (hk : env.scope.kind = .function := by rfl) (hx : env.kindOf x = some .globalImplicit := by rfl) (hg : env.globals = mainGlobals := by rfl) (hb : env.builtins = builtinsNs := by rfl)
    (hd : (x == ("__debug__" : Str)) = false := by decide) : Ev G fr A F H (eval (.Name x pos) env) Q E := fun K m R s hR =>
  Name_function_global hk hx (loadGlobal_builtin (by rw [hg]; exact hR.glob.1) hn (by rw [hb]; exact hR.glob.2.1) hv (vret hR (hr.mono m) m h)) hd
theorem Ev_cell {x : Str} {pos} {c : Addr} {y : V} (hc : env.cells.lookup x = some c) (hm : Has H c (.cell (some y))) (h : Q y F H) (hk : env.scope.kind = .function := by rfl) (hx : env.kindOf x = some .cell := by rfl)
    (hd : (x == ("__debug__" : Str)) = false := by decide) : Ev G fr A F H (eval (.Name x pos) env) Q E := fun K m R s hR => by
  obtain ⟨o, ho, v, hd', hv⟩ := hR.has hm
  exact wpAny_Name (wpAny_loadName_cell hk hx hc ⟨o, ho, hd'⟩ (vret hR hv m h)) hd
inductive CellF (F : Fz) (c : Addr) (y : V) : Prop where
  | intro (o : Obj) (v : Value) (h1 : F c = some o) (h2 : o.data = .cell (some v)) (h3 : RV F v y)
theorem CellF.mono {F F' : Fz} {c : Addr} {y : V} (le : F.le F') (h : CellF F c y) : CellF F' c y := let ⟨o, v, a, b, r⟩ := h; ⟨o, v, le _ _ a, b, r.mono le⟩
theorem Ev_freeF {x : Str} {pos} {c : Addr} {y : V} (hc : env.cells.lookup x = some c) (hm : CellF F c y) (h : Q y F H) (hk : env.scope.kind = .function := by rfl) (hx : env.kindOf x = some .free := by rfl)
    (hd : (x == ("__debug__" : Str)) = false := by decide) (hn : (x == ("__classdict__" : Str)) = false := by decide) : Ev G fr A F H (eval (.Name x pos) env) Q E := fun K m R s hR => by
  obtain ⟨o, v, ho, hd', hv⟩ := hm
  exact wpAny_Name (wpAny_loadName_free hk hx hc ⟨o, hR.fz _ _ (m _ _ ho), hd'⟩ (vret hR (hv.mono m) m h) hn) hd
end

section
variable {G : Glob} {fr : List Env} {A : Around} {env : Env} {F : Fz} {H : Hp} {E : Value → Fz → Hp → Prop}
theorem Evs_nil {pos} {Q : List V → Fz → Hp → Prop} (h : Q [] F H) : Evs G fr A F H (spliced (backTo pos (starEach [] env))) Q E := fun K m R s hR => args_nil ⟨K, H, .refl K, hR, [], .nil, F, m, h⟩
theorem Evs_cons {e : Expr} {rest : List Expr} {pos} {Q : List V → Fz → Hp → Prop} (h : Ev G fr A F H (eval e env) (fun x F1 H1 => Evs G fr A F1 H1 (spliced (backTo pos (starEach rest env))) (fun xs F2 H2 => Q (x :: xs) F2 H2) E) E)
    (he : starEach (e :: rest) env = (false, eval e env) :: starEach rest env := by rfl) : Evs G fr A F H (spliced (backTo pos (starEach (e :: rest) env))) Q E := fun K m R s hR =>
  args_cons (h.go m hR (.refl K) fun v x F1 K1 H1 s1 l1 m1 r1 hx h1 => h1.go m1 r1 l1 fun vs xs F2 K2 H2 s2 l2 m2 r2 hxs q => ⟨K2, H2, l1.trans l2, r2, x :: xs, .cons (hx.mono l2) hxs, F2, m2, q⟩) he
inductive KOk (F : Fz) : V → Prop where
  | blt {n : String} : KOk F (.blt n)
  | typ {n : String} : KOk F (.typ n)
  | fn {a : Addr} {o : Obj} {fd : FuncData} (h : F a = some o) (hd : o.data = .func fd) : KOk F (.ref a)
  | meth {a : Addr} {o : Obj} {vs : Array Value} (h : F a = some o) (hd : o.data = .fields vs) (hc : o.cls = .type "builtin_function_or_method") : KOk F (.ref a)
theorem callWith_meth' {M : Model} {pos : Pos} {a : Addr} {o : Obj} {vs : Array Value} {args : List (Bool × Sem Value)} {Q E : Value → Shared → Prop} {s : Shared} (hd : o.data = .fields vs) (hc : o.cls = .type "builtin_function_or_method") (hplain : args.any (·.1) = false)
    (h : wpAny M A (evalArgs (.ref a) true args []) (fun x s₁ => s₁.heap.get? a = some o ∧ wpAny M A (call (.ref a) ([] ++ x.pos) x.kw) Q E s₁) E s) : wpAny M A (callWith pos (.ref a) [] args []) Q E s := by
  unfold callWith
  refine wpAny_bind (wpAny_holding (wpAny_mono h (fun x s₁ h₁ => wpAny_bind (wpAny_standAt ?_)) fun _ _ x => x))
  simp only [hplain, List.any_nil, Bool.or_false]
  refine wpAny_bind (m := keeperOf (.ref a)) ?_
  unfold keeperOf
  refine wpAny_bind (wpAny_load h₁.1 ?_)
  rw [hd]
  simp only [hc]
  rw [if_pos (by decide)]
  rw [if_pos (by decide)]
  exact wpAny_pure (wpAny_bind (wpAny_mono h₁.2 (fun r s₂ hr => wpAny_bind (wpAny_holding (wpAny_point (wpAny_pure hr)))) fun _ _ x => x))
theorem KOk.mono {F F' : Fz} {x : V} (le : F.le F') (h : KOk F x) : KOk F' x := by
  cases h with
  | blt => exact .blt
  | typ => exact .typ
  | fn h hd => exact .fn (le _ _ h) hd
  | meth h hd hc => exact .meth (le _ _ h) hd hc
noncomputable def Cl (G : Glob) (fr : List Env) (A : Around) (F : Fz) (H : Hp) (f : V) (xs : List V) (Q : V → Fz → Hp → Prop) (E : Value → Fz → Hp → Prop) : Prop :=
  ∀ K, F.le K → ∀ v vs, RV K v f → RVs K vs xs → EvAt G fr A K H (call v vs) Q E
variable {Q : V → Fz → Hp → Prop}
theorem callW {pos : Pos} {s : Shared} {F1 : Fz} {f : Value} {x : V} {args : List (Bool × Sem Value)} {P E' : Value → Shared → Prop} (hx : RV F1 f x) (hk : KOk F1 x) (hp : args.any (·.1) = false)
    (key : wpAny G.M A (evalArgs f true args []) (fun a s2 => a.kw = [] ∧ (∀ b o, F1 b = some o → s2.heap.get? b = some o) ∧ wpAny G.M A (call f a.pos) P E' s2) E' s) : wpAny G.M A (callWith pos f [] args []) P E' s := by
  have key' : wpAny G.M A (evalArgs f true args []) (fun a s2 => (∀ b o, F1 b = some o → s2.heap.get? b = some o) ∧ wpAny G.M A (call f ([] ++ a.pos) a.kw) P E' s2) E' s :=
    wpAny_mono key (fun a s2 h => ⟨h.2.1, h.1.symm ▸ h.2.2⟩) fun _ _ x => x
  clear key
  cases hk with
  | blt => exact hx.e_blt (P := fun f => wpAny G.M A (evalArgs f true args []) (fun a s2 => (∀ b o, F1 b = some o → s2.heap.get? b = some o) ∧ wpAny G.M A (call f ([] ++ a.pos) a.kw) P E' s2) E' s → wpAny G.M A (callWith pos f [] args []) P E' s) (fun key => callWith_builtin hp (wpAny_mono key (fun _ _ h => h.2) fun _ _ x => x)) key'
  | typ => exact hx.e_typ (P := fun f => wpAny G.M A (evalArgs f true args []) (fun a s2 => (∀ b o, F1 b = some o → s2.heap.get? b = some o) ∧ wpAny G.M A (call f ([] ++ a.pos) a.kw) P E' s2) E' s → wpAny G.M A (callWith pos f [] args []) P E' s) (fun key => PyProof.Rows.callWith_type hp (wpAny_mono key (fun _ _ h => h.2) fun _ _ x => x)) key'
  | fn h hd => exact hx.e_ref (P := fun f => wpAny G.M A (evalArgs f true args []) (fun a s2 => (∀ b o, F1 b = some o → s2.heap.get? b = some o) ∧ wpAny G.M A (call f ([] ++ a.pos) a.kw) P E' s2) E' s → wpAny G.M A (callWith pos f [] args []) P E' s) (fun key => callWith_function (wpAny_mono key (fun _ _ q => ⟨⟨q.1 _ _ h, hd⟩, q.2⟩) fun _ _ x => x)) key'
  | meth h hd hc => exact hx.e_ref (P := fun f => wpAny G.M A (evalArgs f true args []) (fun a s2 => (∀ b o, F1 b = some o → s2.heap.get? b = some o) ∧ wpAny G.M A (call f ([] ++ a.pos) a.kw) P E' s2) E' s → wpAny G.M A (callWith pos f [] args []) P E' s) (fun key => callWith_meth' hd hc hp (wpAny_mono key (fun _ _ q => ⟨q.1 _ _ h, q.2⟩) fun _ _ x => x)) key'
theorem Ev_Call {func e : Expr} {rest : List Expr} {pos} (h : Ev G fr A F H (eval func env) (fun f F1 H1 => KOk F1 f ∧ Evs G fr A F1 H1 (spliced (backTo pos (starEach (e :: rest) env))) (fun xs F2 H2 => Cl G fr A F2 H2 f xs Q E) E) E)
    (he : eval (.Call func (e :: rest) [] pos) env = (do callWith pos (← eval func env) [] (backTo pos (starEach (e :: rest) env)) (backToKw pos (keywordEach [] env))) := by rfl)
    (hs : starEach (e :: rest) env = (false, eval e env) :: starEach rest env := by rfl) (hplain : (backTo pos (starEach rest env)).any (·.1) = false := by rfl) :
    Ev G fr A F H (eval (.Call func (e :: rest) [] pos) env) Q E := fun K m R s hR => by
  refine Call_ (h.go m hR (.refl K) fun f x F1 K1 H1 s1 l1 m1 r1 hx hq => ?_) he
  obtain ⟨hk, h1⟩ := hq
  have hp : (backTo pos (starEach (e :: rest) env)).any (·.1) = false := by rw [hs]; show (false || (backTo pos (starEach rest env)).any (·.1)) = false; rw [hplain]; rfl
  refine callW hx (hk.mono m1) hp ?_
  rw [hs] at h1 ⊢
  refine evalArgs_plain ?_
  exact (show Evs G fr A F1 H1 (spliced ((false, eval e env) :: backTo pos (starEach rest env))) _ E from h1).go m1 r1 l1 fun vs xs F2 K2 H2 s2 l2 m2 r2 hxs q => ⟨rfl, fun b o e => r2.fz b o (l2 b o e), (q K2 m2 f vs (hx.mono l2) hxs).last r2 (l1.trans l2)⟩
theorem Ev_Call0 {func : Expr} {pos} (h : Ev G fr A F H (eval func env) (fun f F1 H1 => KOk F1 f ∧ Cl G fr A F1 H1 f [] Q E) E)
    (he : eval (.Call func [] [] pos) env = (do callWith pos (← eval func env) [] (backTo pos (starEach [] env)) (backToKw pos (keywordEach [] env))) := by rfl) :
    Ev G fr A F H (eval (.Call func [] [] pos) env) Q E := fun K m R s hR => by
  refine Call_ (h.go m hR (.refl K) fun f x F1 K1 H1 s1 l1 m1 r1 hx hq => ?_) he
  obtain ⟨hk, h1⟩ := hq
  refine callW hx (hk.mono m1) rfl (PyProof.Rows.evalArgs_none ⟨rfl, fun b o e => r1.fz b o e, (h1 K1 m1 f [] hx .nil).last r1 l1⟩)
inductive TyIs (F : Fz) (H : Hp) : V → String → Prop where
  | str {x : Str} : TyIs F H (.str x) "str"
  | int {i : Int} : TyIs F H (.int i) "int"
  | tup {l : List V} : TyIs F H (.tup l) "tuple"
  | list {a : Addr} {l : List V} (h : Has H a (.list l)) : TyIs F H (.ref a) "list"
  | dict {a : Addr} {l : List (V × V)} (h : Has H a (.dict l)) : TyIs F H (.ref a) "dict"
  | frz {a : Addr} {o : Obj} {T : String} (h : F a = some o) (hc : o.cls = .type T) (hd : o.dict = none) : TyIs F H (.ref a) T
theorem TyIs.mono {F F' : Fz} {H : Hp} {x : V} {T : String} (le : F.le F') (h : TyIs F H x T) : TyIs F' H x T := by
  cases h with
  | str => exact .str
  | int => exact .int
  | tup => exact .tup
  | list h => exact .list h
  | dict h => exact .dict h
  | frz h hc hd => exact .frz (le _ _ h) hc hd
noncomputable def TyOf (s : Shared) (T : String) (v : Value) : Prop := s.TypeIs v T ∧ ∀ a, v = .ref a → ∃ ob, s.heap.get? a = some ob ∧ ob.dict = none
theorem ty_of {s : Shared} {a : Addr} {o : Obj} {T : String} (h : s.heap.get? a = some o) (hc : o.cls = .type T) (hd : o.dict = none) : TyOf s T (.ref a) :=
  ⟨⟨_, h, hc⟩, fun b e => by cases e; exact ⟨_, h, hd⟩⟩
theorem TyIs.typeIs {R : Hp} {s : Shared} {x : V} {T : String} {v : Value} (h : TyIs F H x T) (hR : Rep G fr F (H ++ R) s) (hv : RV F v x) : TyOf s T v := by
  cases h with
  | str => exact hv.e_str (P := TyOf s _) fun _ => ⟨typeIs_str _ _ _, fun _ e => nomatch e⟩
  | int => exact hv.e_int (P := TyOf s _) fun _ => ⟨typeIs_int _ _ _, fun _ e => nomatch e⟩
  | tup => exact hv.e_tup (P := TyOf s _) fun _ _ _ h _ _ => ty_of (hR.fz _ _ h) rfl rfl
  | list h =>
    obtain ⟨o, ho, vs, n, rfl, _⟩ := hR.has h
    exact hv.e_ref (P := TyOf s _) (ty_of ho rfl rfl)
  | dict h =>
    obtain ⟨o, ho, vs, n, rfl, _⟩ := hR.has h
    exact hv.e_ref (P := TyOf s _) (ty_of ho rfl rfl)
  | frz h hc hd => exact hv.e_ref (P := TyOf s _) (ty_of (hR.fz _ _ h) hc hd)

theorem Ev_method {o : Expr} {name : Str} {apos pos : Pos} {args : List Expr}
    (h : Ev G fr A F H (eval o env) (fun x F1 H1 => ∃ T id, PlainAttrs T ∧ Slot T name id ∧ typeOf (.builtin id) = pure (.type "method_descriptor") ∧ TyIs F1 H1 x T ∧
      Evs G fr A F1 H1 (spliced (backTo pos (starEach args env))) (fun xs F2 H2 => Cl G fr A F2 H2 (.blt id) (x :: xs) Q E) E) E)
    (hbase : attributeBase o name env (eval o env) = eval o env := by rfl)
    (hfew : ((backTo pos (starEach args env)).all (fun x => !x.1) && (backToKw pos (keywordEach [] env)).all (fun x => x.1.isSome)
      && decide (args.length + ([] : List Keyword).length + (if ([] : List Keyword).isEmpty then 0 else 1) < 30)) = true := by rfl)
    (hline : (apos.endLine == pos.line) = true := by rfl)
    (hargs : ∀ f (Q : Args → Shared → Prop) E s, wpAny G.M A (spliced (backTo pos (starEach args env))) (fun vs s' => Q ⟨vs, []⟩ s') E s → wpAny G.M A (evalArgs f true (backTo pos (starEach args env)) []) Q E s := by intro _ _ _ _ h; first | exact evalArgs_plain h | exact Mine.evalArgs_nil' h)
    (hplain : (backTo pos (starEach args env)).any (·.1) = false := by rfl) :
    Ev G fr A F H (eval (.Call (.Attribute o name apos) args [] pos) env) Q E := fun K m R s hR => by
  refine wpAny_Call_method_lateS hbase hfew hline (h.go m hR (.refl K) fun v x F1 K1 H1 s1 l1 m1 r1 hx hq => ?_)
  obtain ⟨T, id, pa, sl, ht, ty, h1⟩ := hq
  obtain ⟨t1, t2⟩ := (ty.mono m1).typeIs r1 hx
  refine ⟨T, id, pa, sl, ht, t1, t2, callWith_builtin hplain (hargs _ _ _ _ ?_)⟩
  exact h1.go m1 r1 l1 fun vs xs F2 K2 H2 s2 l2 m2 r2 hxs q => (q K2 m2 (.builtin id) (v :: vs) .blt (.cons (hx.mono l2) hxs)).last r2 (l1.trans l2)
theorem evalArgs_nil' {M : Model} {pos : Pos} {f : Value} {E : Value → Shared → Prop} {s : Shared} {Q : Args → Shared → Prop} (h : wpAny M A (spliced (backTo pos (starEach [] env))) (fun vs s' => Q ⟨vs, []⟩ s') E s) : wpAny M A (evalArgs f true (backTo pos (starEach [] env)) []) Q E s := by
  have h' : wpAny M A (pure [] : Sem (List Value)) (fun vs s' => Q ⟨vs, []⟩ s') E s := h
  intro Γ p hΓ
  exact PyProof.Rows.evalArgs_none (h' Γ p hΓ) Γ p hΓ
end

section
variable {G : Glob} {fr : List Env} {A : Around} {F : Fz} {H : Hp} {E : Value → Fz → Hp → Prop} {E' : Addr → Value → Fz → Hp → Prop} {Q : V → Fz → Hp → Prop}
inductive CodeF (F : Fz) (cd : Value) (q : Str) : Prop where
  | intro (c : Addr) (o : Obj) (vs : Array Value) (t : Tok) (h1 : cd = .ref c) (h2 : F c = some o) (h3 : o.data = .fields vs) (h4 : vs[1]? = some (.str q t))
theorem CodeF.mono {F F' : Fz} {cd : Value} {q : Str} (le : F.le F') (h : CodeF F cd q) : CodeF F' cd q := let ⟨c, o, vs, t, e, g, d, r⟩ := h; ⟨c, o, vs, t, e, le _ _ g, d, r⟩
theorem CodeF.crec {cd : Value} {q : Str} {h : Heap} (x : CodeF F cd q) (k : ∀ a o, F a = some o → h.get? a = some o) : h.CodeRec cd q := let ⟨c, o, vs, t, e, g, d, r⟩ := x; ⟨c, o, vs, t, e, k _ _ g, d, r⟩
structure Deep (A A' : Around) (env : Env) : Prop where
  handled : A'.handled = A.handled
  depth : A'.depth = A.depth + 1
  units : A'.units = A.units + 3
  guards : A'.guards = A.guards
  frames : A'.frames = A.frames.map (env :: ·)
theorem deep (A : Around) (env : Env) : Deep A (A.deeper env) env := ⟨rfl, rfl, rfl, rfl, rfl⟩
structure Ok (fr : List Env) (A : Around) (n : Nat) : Prop where
  handled : A.handled = none
  depth : A.depth + n < recursionLimit
  units : A.units + 8 * n < cLine
  guards : A.guards = some []
  frames : A.frames = some fr
theorem Ok.room {fr : List Env} {A : Around} {n : Nat} (h : Ok fr A n) : A.depth < recursionLimit := by have := h.depth; lia
theorem Ok.deep {fr : List Env} {A A' : Around} {env : Env} {n : Nat} (h : Ok fr A (n + 1)) (d : Deep A A' env) : Ok (env :: fr) A' n :=
  ⟨d.handled.trans h.handled, by rw [d.depth]; have := h.depth; lia, by rw [d.units]; have := h.units; lia, d.guards.trans h.guards, by rw [d.frames, h.frames]; rfl⟩
theorem Ok.less {fr : List Env} {A : Around} {n m : Nat} (h : Ok fr A n) (hm : m ≤ n) : Ok fr A m := ⟨h.handled, by have := h.depth; lia, by have := h.units; lia, h.guards, h.frames⟩
inductive Ret (L : Addr) (Q : V → Fz → Hp → Prop) (fv : FV) (F : Fz) (H : Hp) : Prop where
  | intro (ρ : List (Str × Option V)) (H' : Hp) (hr : Rem H L (.ns ρ) H') (h : Q (match fv with | .ret x => x | _ => .none) F H')
noncomputable def Leaves (G : Glob) (fr : List Env) (A : Around) (env : Env) (E E' : Value → Fz → Hp → Prop) : Prop :=
  (∀ e ∈ fr, e.frame ≠ env.frame) → ∀ K R e s, PQ G (env :: fr) K R (fun e => Dn (E e)) e s → wpAny G.M (A.deeper env) (leaving env e) (fun _ s' => PQ G fr K R (fun e => Dn (E' e)) e s') (fun e' s' => PQ G fr K R (fun e => Dn (E' e)) e' s') s
theorem leaves_no {env : Env} : Leaves G fr A env No E := fun _ _ _ _ _ h => (noPQ h).elim
noncomputable def mkRho : List Str → List V → List Str → List (Str × Option V)
  | n :: ns, x :: xs, r => (n, some x) :: mkRho ns xs r
  | _, _, r => r.map fun n => (n, none)
theorem mkRho_names : ∀ {ns : List Str} {xs : List V} {r : List Str}, ns.length = xs.length → (mkRho ns xs r).map (·.1) = ns ++ r
  | [], [], r, _ => by simp [mkRho, Function.comp_def]
  | n :: ns, x :: xs, r, h => by simp [mkRho, mkRho_names (ns := ns) (xs := xs) (r := r) (by simpa using h)]
  | [], _ :: _, _, h => by simp at h
  | _ :: _, [], _, h => by simp at h
theorem mem_mkRho : ∀ {ns : List Str} {xs : List V} {r : List Str} {vs : List Value}, ns.length = xs.length → RVs F vs xs → ∀ p ∈ mkRho ns xs r, (p.1 ∈ r ∧ p.2 = none) ∨ ∃ x v, p.2 = some x ∧ (p.1, v) ∈ ns.zip vs ∧ RV F v x
  | [], [], r, _, _, _, p, hp => by
    simp only [mkRho, List.mem_map] at hp
    obtain ⟨n, hn, rfl⟩ := hp
    exact .inl ⟨hn, rfl⟩
  | n :: ns, x :: xs, r, v :: vs, h, .cons hv t, p, hp => by
    simp only [mkRho, List.mem_cons] at hp
    rcases hp with rfl | hp
    · exact .inr ⟨x, v, rfl, .head _, hv⟩
    · rcases mem_mkRho (ns := ns) (xs := xs) (r := r) (vs := vs) (by simpa using h) t p hp with h | ⟨x, v, a, b, c⟩
      · exact .inl h
      · exact .inr ⟨x, v, a, .tail _ b, c⟩
  | [], _ :: _, _, _, h, _, _, _ => by simp at h
  | _ :: _, [], _, _, h, _, _, _ => by simp at h
theorem lookup_mem {β : Type} : ∀ {l : List (Str × β)} {n : Str} {v : β}, (l.map (·.1)).Nodup → (n, v) ∈ l → l.lookup n = some v
  | (n', v') :: l, n, v, nd, h => by
    rw [List.map_cons, List.nodup_cons] at nd
    rcases List.mem_cons.mp h with e | h
    · cases e; simp [List.lookup]
    · have hne : (n == n') = false := by
        refine beq_eq_false_iff_ne.mpr fun e => nd.1 ?_
        have := List.mem_map_of_mem (f := fun q : Str × β => q.1) h
        exact e ▸ this
      simp only [List.lookup, hne]
      exact lookup_mem nd.2 h
theorem zip_names {ns : List Str} {vs : List Value} (h : ns.length = vs.length) : (ns.zip vs).map (·.1) = ns := by
  rw [List.map_fst_zip]; lia
theorem call_def {a : Addr} {fo : Obj} {name qual : Str} {params : Arguments} {scope : Scope} {cl : List (Str × Addr)} {dV kV doc pm cdv ct : Value} {an : Option Addr} {body : List Stmt} {xs : List V} (hf : F a = some fo)
    (hd : fo.data = .func (fnX name qual params body scope cl dV kV doc pm an cdv ct)) (hcd : CodeF F cdv qual)
    (ns rest : List Str) (hn : ns.length = xs.length) (hnd : (ns ++ rest).Nodup) (hbind : ∀ vs : List Value, vs.length = xs.length → bindArgs (fnX name qual params body scope cl dV kV doc pm an cdv ct) ⟨vs, []⟩ = pure (ns.zip vs))
    (hcell : (scope.names.all fun x => x.2 != .cell) = true) (hloc : (ns.all fun x => decide (scope.names.lookup x = some .local)) = true)
    (hroom : A.depth < recursionLimit) (hE : ∀ L, Leaves G fr A (envX qual scope L a cdv cl) (E' L) E)
    (h : ∀ L A', Deep A A' (envX qual scope L a cdv cl) → Ex G (envX qual scope L a cdv cl :: fr) A' F ((L, .ns (mkRho ns xs rest)) :: H) (execs body (envX qual scope L a cdv cl)) (Ret L Q) (E' L))
    (hco : scope.isCoroutine = false := by rfl) (hgen : scope.isGenerator = false := by rfl) (hk : scope.kind = .function := by rfl) :
    Cl G fr A F H (.ref a) xs Q E := fun K m v vs hv hvs R s hR => by
  obtain rfl := hv.i_ref
  have hlen := hvs.length
  refine wpAny_call (codeAny_call_def hroom (hR.fz _ _ (m _ _ hf)) hd hR.glob.2.2 ((hcd.mono m).crec hR.fz) rfl (BindsTo.of_eq (hbind vs hlen)) (fun x hx => by simpa using List.all_eq_true.mp hcell x hx) (fun x hx => of_decide_eq_true (List.all_eq_true.mp hloc _ (List.of_mem_zip hx).1)) (fun h₀ hns₀ hk₀ => ?_) hco hgen hk)
  have nd1 : ((ns.zip vs).reverse.map (·.1)).Nodup := by
    rw [List.map_reverse, (List.reverse_perm _).nodup_iff, zip_names (by lia)]
    exact (List.nodup_append.mp hnd).1
  have fresh : ∀ env ∈ fr, env.frame ≠ some s.heap.objs.size := fun env he e => by
    obtain ⟨L, ρ, q, m⟩ := (hR.frs env he).2
    obtain ⟨_, o, g, _⟩ := hR.own _ m
    rw [Option.some.inj (q.symm.trans e)] at g
    exact absurd (Heap.lt_size g) (Nat.lt_irrefl _)
  have r1 : Rep G (envX qual scope s.heap.objs.size a cdv cl :: fr) K (((s.heap.objs.size, AO.ns (mkRho ns xs rest)) :: H) ++ R) { s with heap := h₀, toks := s.toks + (ns.zip vs).length } := by
    obtain ⟨o, es, ep, ho, hdd, hkk, hff⟩ := hns₀
    have := hR.new (D := s.heap.objs.size) (x := AO.ns (mkRho ns xs rest)) (tk := s.toks + (ns.zip vs).length) (dr := s.drawn) hk₀ (none_at_size _) ho ⟨es, ep, hdd, hkk, by rw [mkRho_names hn]; exact hnd, fun p hp => by
      rcases mem_mkRho hn hvs p hp with ⟨h1, h2⟩ | ⟨x, v, h1, h2, h3⟩
      · rw [h2]
        trivial
      · rw [h1]
        exact ⟨v, (hff _).trans (lookup_mem nd1 (List.mem_reverse.mpr h2)), h3⟩⟩
    exact ⟨this.gok, this.base, this.fz, this.own, this.nd, fun env he => by
      rcases List.mem_cons.mp he with rfl | he
      · exact ⟨hk, _, _, rfl, .head _⟩
      · exact this.frs env he, this.gens, this.os⟩
  refine wpAny_mono (h s.heap.objs.size _ (deep A _) K m R _ r1) (fun f s' hq => ?_) fun e s' q => wpAny_mono (hE _ fresh K R e s' q) (fun _ _ x => x) fun _ _ x => x
  obtain ⟨F', H', l', r', fv, hfv, F1, m1, ρ, H2, hrem, q⟩ := hq
  have r2 : Rep G fr F' (H2 ++ R) s' := (r'.pop.perm (hrem.perm.append_right R)).drop fresh
  refine ⟨F', H2, l', r2, _, ?_, F1, m1, q⟩
  cases hfv with
  | next => exact .none
  | brk => exact .none
  | cont => exact .none
  | ret hx => exact hx
end
section
variable {G : Glob} {fr : List Env} {A : Around} {env : Env} {F : Fz} {H H' : Hp} {E : Value → Fz → Hp → Prop} {Q : V → Fz → Hp → Prop}

theorem RVs.toArr {vs : Array Value} {l : List V} (h : RVs F vs.toList l) : vs.size = l.length := by rw [← h.length]; simp
theorem cl_b1 {n : String} {x : V} (k : ∀ K, F.le K → ∀ a, RV K a x → EvAt G fr A K H (call (.builtin n) [a]) Q E) : Cl G fr A F H (.blt n) [x] Q E := fun K m v vs hv hvs => hv.e_blt (P := fun v => EvAt _ _ _ _ _ (call v vs) _ _) (hvs.e1 (P := fun vs => EvAt _ _ _ _ _ (call _ vs) _ _) (k K m))
theorem cl_b2 {n : String} {x y : V} (k : ∀ K, F.le K → ∀ a b, RV K a x → RV K b y → EvAt G fr A K H (call (.builtin n) [a, b]) Q E) : Cl G fr A F H (.blt n) [x, y] Q E := fun K m v vs hv hvs => hv.e_blt (P := fun v => EvAt _ _ _ _ _ (call v vs) _ _) (hvs.e2 (P := fun vs => EvAt _ _ _ _ _ (call _ vs) _ _) (k K m))
theorem cl_b3 {n : String} {x y z : V} (k : ∀ K, F.le K → ∀ a b c, RV K a x → RV K b y → RV K c z → EvAt G fr A K H (call (.builtin n) [a, b, c]) Q E) : Cl G fr A F H (.blt n) [x, y, z] Q E := fun K m v vs hv hvs => hv.e_blt (P := fun v => EvAt _ _ _ _ _ (call v vs) _ _) (hvs.e3 (P := fun vs => EvAt _ _ _ _ _ (call _ vs) _ _) (k K m))
theorem cl_t0 {n : String} (k : ∀ K, F.le K → EvAt G fr A K H (call (.type n) []) Q E) : Cl G fr A F H (.typ n) [] Q E := fun K m v vs hv hvs => hv.e_typ (P := fun v => EvAt _ _ _ _ _ (call v vs) _ _) (hvs.e0 (P := fun vs => EvAt _ _ _ _ _ (call _ vs) _ _) (k K m))
theorem cl_t1 {n : String} {x : V} (k : ∀ K, F.le K → ∀ a, RV K a x → EvAt G fr A K H (call (.type n) [a]) Q E) : Cl G fr A F H (.typ n) [x] Q E := fun K m v vs hv hvs => hv.e_typ (P := fun v => EvAt _ _ _ _ _ (call v vs) _ _) (hvs.e1 (P := fun vs => EvAt _ _ _ _ _ (call _ vs) _ _) (k K m))
theorem notNs_dict {l l' : List (V × V)} : (∃ ρ, AO.dict l = .ns ρ) → ∃ ρ, AO.dict l' = .ns ρ := fun h => by obtain ⟨_, q⟩ := h; cases q
theorem notNs_attrs {l l' : List (Str × V)} : (∃ ρ, AO.attrs l = .ns ρ) → ∃ ρ, AO.attrs l' = .ns ρ := fun h => by obtain ⟨_, q⟩ := h; cases q
theorem notNs_list {l l' : List V} : (∃ ρ, AO.list l = .ns ρ) → ∃ ρ, AO.list l' = .ns ρ := fun h => by obtain ⟨_, q⟩ := h; cases q
theorem len_list {a : Addr} {l : List V} (hm : Has H a (.list l)) (hl : l.length < 2 ^ 63) (h : Q (.int l.length) F H) : Cl G fr A F H (.blt "len") [.ref a] Q E := cl_b1 fun K m v hv => by
    refine hv.e_ref (P := fun v => EvAt _ _ _ _ _ (call _ [v]) _ _) fun R s hR => ?_
    obtain ⟨o, ho, items, n, rfl, hr⟩ := hR.has hm
    have e := hr.toArr
    refine call_len_list ⟨_, ho, rfl, n, rfl⟩ (by rw [e]; exact_mod_cast hl) ?_
    rw [e]
    exact vret (hR.toks _) .int m h
theorem divmod_ii {i j : Int} (hj : j ≠ 0) (hs : j.natAbs < 1073741824) (h : Q (.tup [.int (i.fdiv j), .int (i.fmod j)]) F H) : Cl G fr A F H (.blt "divmod") [.int i, .int j] Q E := cl_b2 fun K m v w hv hw => by
      refine hv.e_int (P := fun v => EvAt _ _ _ _ _ (call _ [v, w]) _ _) fun t => hw.e_int (P := fun w => EvAt _ _ _ _ _ (call _ [_, w]) _ _) fun u R s hR => ?_
      refine divmod_int hj ?_ (.inl (PyProof.noPylong_small hs))
      obtain ⟨le, r⟩ := hR.newF (D := s.heap.objs.size) (tk := s.toks + 1 + 1) (dr := s.drawn) (fun b o e => Heap.get?_push_of_some { cls := .type "tuple", data := .seq #[.int (i.fdiv j) s.toks, .int (i.fmod j) (s.toks + 1)] } e) (none_at_size _) (Heap.get?_push_size _ rfl)
      exact ⟨_, H, le, r, _, .tup (vs := [.int (i.fdiv j) s.toks, .int (i.fmod j) (s.toks + 1)]) (Fz.add_self _ _ _) rfl (RVs.get (.cons .int (.cons .int .nil))), F, m.trans le, h⟩
theorem append {a : Addr} {l : List V} {x : V} (hu : Upd H a (.list l) (.list (l ++ [x])) H') (hl : l.length ≤ sizeLine) (h : Q .none F H') : Cl G fr A F H (.blt "list.append") [.ref a, x] Q E := cl_b2 fun K m w v hw h2 => by
      refine hw.e_ref (P := fun w => EvAt _ _ _ _ _ (call _ [w, v]) _ _) fun R s hR => ?_
      obtain ⟨o, ho, items, n, rfl, hr⟩ := hR.get hu.mem
      have e := hr.toArr
      refine call_meets slot_list_append ⟨_, ho, rfl⟩ entry_list_append (args_list_append _ _) (PySem.AutoListH.list_append_list_val_0 a items n v (by rw [e]; exact hl)) ⟨ho, ?_⟩
      have g := Heap.get?_update_self (Obj.mapSeq fun x => x.push v) ho rfl
      exact ⟨K, H', .refl K, hR.upd' (tk := s.toks) (dr := s.drawn) hu (Heap.SameBut.update ..).extBut g ⟨_, _, rfl, by simpa using hr.append (.cons h2 .nil)⟩ notNs_list, _, .none, F, m, h⟩

theorem As_Name {x : Str} {pos} {y : V} {Q : Fz → Hp → Prop} (h : Store env x y F H Q) (hk : env.scope.kind = .function := by rfl) (hl : env.kindOf x = some .local := by rfl) :
    As G fr A env F H (.Name x pos) y Q E := fun K m v hv R s hR => wpAny_assign_Name (store m hv h hk hl R s hR)
noncomputable def Stores (env : Env) : List Str → List V → Fz → Hp → (Fz → Hp → Prop) → Prop
  | x :: xs, y :: ys, F, H, Q => Store env x y F H fun F1 H1 => Stores env xs ys F1 H1 Q
  | [], [], F, H, Q => Q F H
  | _, _, _, _, _ => False
noncomputable def nameOf? : Expr → Option (Str × Pos)
  | .Name x p => some (x, p)
  | _ => none
noncomputable def namesOf? : List Expr → Option (List Str)
  | [] => some []
  | e :: r => match nameOf? e, namesOf? r with
    | some p, some xs => some (p.1 :: xs)
    | _, _ => none
theorem nameOf_eq {e : Expr} {p : Str × Pos} (h : nameOf? e = some p) : e = .Name p.1 p.2 := by
  cases e <;> first | (cases h; rfl) | cases h
theorem namesOf_ind {P : List Expr → List Str → Prop} (h0 : P [] []) (h1 : ∀ x pos es xs, P es xs → P (.Name x pos :: es) (x :: xs)) : ∀ (es : List Expr) (xs : List Str), namesOf? es = some xs → P es xs
  | [], xs, h => Option.some.inj h ▸ h0
  | e :: r, xs, h => by
    have h : (match nameOf? e, namesOf? r with
      | some p, some xs => some (p.1 :: xs)
      | _, _ => none) = some xs := h
    cases e1 : nameOf? e with
    | none => rw [e1] at h; cases h
    | some p =>
      cases e2 : namesOf? r with
      | none => rw [e1, e2] at h; cases h
      | some ys =>
        rw [e1, e2] at h
        rw [nameOf_eq e1, ← Option.some.inj h]
        exact h1 _ _ _ _ (namesOf_ind h0 h1 r ys e2)
theorem assignAll_ (hk : env.scope.kind = .function) {es : List Expr} {xs : List Str} {ys : List V} {vs : List Value} {F K : Fz} {H : Hp} {Q : Fz → Hp → Prop} (m : F.le K) (hn : namesOf? es = some xs) (hl : ∀ x ∈ xs, env.kindOf x = some .local) (hv : RVs K vs ys) (h : Stores env xs ys F H Q) :
    TpAt G fr A K H (assignInOrder ((assignEach es env).map (·.2)) vs) (fun _ => Dn Q) E := by
  refine namesOf_ind (P := fun es xs => ∀ (ys : List V) (vs : List Value) (F K : Fz) (H : Hp), F.le K → (∀ x ∈ xs, env.kindOf x = some .local) → RVs K vs ys → Stores env xs ys F H Q → TpAt G fr A K H (assignInOrder ((assignEach es env).map (·.2)) vs) (fun _ => Dn Q) E) ?_ ?_ es xs hn ys vs F K H m hl hv h
  · intro ys vs F K H m hl hv h
    cases hv with
    | nil => exact fun R s hR => wpAny_pure (tret (Q := fun _ => Q) hR m h)
    | cons => exact h.elim
  · intro x pos es xs ih ys vs F K H m hl hv h R s hR
    cases hv with
    | nil => exact h.elim
    | @cons v y vs ys h1 h2 =>
      show wpAny _ _ (do holding vs (assign (.Name x pos) env v); assignInOrder ((assignEach es env).map (·.2)) vs) _ _ s
      refine wpAny_bind (wpAny_holding (wpAny_assign_Name ((store (G := G) (fr := fr) (A := A) (E := E) m h1 (show Store _ _ _ _ _ _ from h) hk (hl x (.head _))).seq hR (.refl K) fun _ K2 H2 s2 l2 r2 hq => ?_)))
      obtain ⟨F2, m2, q⟩ := hq
      exact (ih ys vs F2 K2 H2 m2 (fun x hx => hl x (.tail _ hx)) (h2.mono l2) q).last r2 l2
theorem extBut_keeps {h h' : Heap} (x : Heap.ExtBut h.objs.size h h') : ∀ b o, h.get? b = some o → h'.get? b = some o := fun b o e => x b o (Nat.ne_of_lt (Heap.lt_size e)) e
theorem assignEach_names {env : Env} {es : List Expr} {xs : List Str} (h : namesOf? es = some xs) : (assignEach es env).length = xs.length ∧ (assignEach es env).findIdx? (·.1) = none := by
  refine namesOf_ind (P := fun es xs => (assignEach es env).length = xs.length ∧ (assignEach es env).findIdx? (·.1) = none) ⟨rfl, rfl⟩ ?_ es xs h
  intro x pos es xs ih
  refine ⟨congrArg (· + 1) ih.1, ?_⟩
  show ((false, assign (.Name x pos) env) :: assignEach es env).findIdx? (·.1) = none
  rw [List.findIdx?_cons, ih.2]
  rfl
theorem As_Tuple {es : List Expr} {k pos} {xs : List Str} {ys : List V} {Q : Fz → Hp → Prop} (hh : A.handled = none) (hn : namesOf? es = some xs) (hl : (xs.all fun x => decide (env.kindOf x = some .local)) = true) (hlen : xs.length = ys.length) (h : Stores env xs ys F H Q)
    (hk : env.scope.kind = .function := by rfl) : As G fr A env F H (.Tuple es k pos) (.tup ys) Q E := fun K m v hv => by
  refine hv.e_tup (P := fun v => TpAt _ _ _ _ _ (assign _ _ v) _ _) fun a vs n ha hlv hr R s hR => ?_
  obtain ⟨e1, e2⟩ := assignEach_names (env := env) hn
  refine assign_Tuple_tuple (items := vs.toArray) hh ⟨_, hR.fz _ _ ha, rfl, n, rfl⟩ (by rw [e1]; simp; lia) e2 fun h' he => ?_
  exact (assignAll_ hk m hn (fun x hx => of_decide_eq_true (List.all_eq_true.mp hl x hx)) (RVs.of hlv hr) h) R _ (hR.keeps (tk := s.toks) (dr := s.drawn) (extBut_keeps he))
theorem Stores.cons {x : Str} {y : V} {xs : List Str} {ys : List V} {Q : Fz → Hp → Prop} (h : Store env x y F H fun F1 H1 => Stores env xs ys F1 H1 Q) : Stores env (x :: xs) (y :: ys) F H Q := h
theorem Stores.nil {Q : Fz → Hp → Prop} (h : Q F H) : Stores env [] [] F H Q := h
theorem Ex_Assign_Tuple {es : List Expr} {k pos' value pos} {xs : List Str} {Q : FV → Fz → Hp → Prop} (hh : A.handled = none) (hn : namesOf? es = some xs) (hl : (xs.all fun x => decide (env.kindOf x = some .local)) = true)
    (h : Ev G fr A F H (eval value env) (fun y F1 H1 => ∃ ys, y = .tup ys ∧ xs.length = ys.length ∧ Stores env xs ys F1 H1 (Q .next)) E)
    (hs : swapsWithSole [.Tuple es k pos'] value pos.line env = pure false := by rfl) (hw : swappedStores [.Tuple es k pos'] value env = pure none := by rfl) (hk : env.scope.kind = .function := by rfl) :
    Ex G fr A F H (exec (.Assign [.Tuple es k pos'] value pos) env) Q E := fun K m R s hR => by
  have he : exec (.Assign [.Tuple es k pos'] value pos) env = (do
    standAt pos
    if ← swapsWithSole [.Tuple es k pos'] value pos.line env then do
      evalThenUse value env fun v => assignAll v ((assignEach [.Tuple es k pos'] env).map (·.2))
      pure .next
    else do
      let v ← eval value env
      assignStores env v (← swappedStores [.Tuple es k pos'] value env) ((assignEach [.Tuple es k pos'] env).map (·.2))) := rfl
  rw [he, hs, hw]
  refine wpAny_bind (wpAny_standAt (wpAny_bind (wpAny_pure ?_)))
  simp only [Bool.false_eq_true, if_false]
  refine wpAny_bind (h.go m hR (.refl K) fun v y F1 K1 H1 s1 l1 m1 r1 hy hq => wpAny_bind (wpAny_pure ?_))
  obtain ⟨ys, rfl, hlen, q⟩ := hq
  show wpAny _ _ (do assignAll v [assign (.Tuple es k pos') env]; pure Flow.next) _ _ s1
  refine wpAny_bind ?_
  show wpAny _ _ (assign (.Tuple es k pos') env v) _ _ s1
  exact (As_Tuple (G := G) (fr := fr) (E := E) hh hn hl hlen q hk K1 m1 v hy).seq r1 l1 fun _ K2 H2 s2 l2 r2 hq => wpAny_pure (by obtain ⟨F2, m2, q⟩ := hq; exact upPQ (l1.trans l2) (fret r2 .next m2 q))
theorem Ex_Expr {e pos} {Q : FV → Fz → Hp → Prop} (h : Ev G fr A F H (eval e env) (fun x F1 H1 => x = .none ∧ Q .next F1 H1) E) (hi : interactive env = false := by rfl) (hs : swapsWith e none pos.line env = pure false := by rfl) :
    Ex G fr A F H (exec (.Expr e pos) env) Q E := fun K m R s hR =>
  wpAny_Expr (h.go m hR (.refl K) fun v x F1 K1 H1 s1 l1 m1 r1 hx hq => by
    obtain ⟨rfl, q⟩ := hq
    obtain rfl := hx.i_none
    exact upPQ l1 (fret r1 .next m1 q)) hi hs
theorem Ev_List {elts : List Expr} {pos} (h : Evs G fr A F H (spliced (backTo pos (starEach elts env))) (fun xs F1 H1 => xs.length ≤ sizeLine ∧ ∀ a, Q (.ref a) F1 ((a, .list xs) :: H1)) E) : Ev G fr A F H (eval (.List elts pos) env) Q E := fun K m R s hR =>
  wpAny_List (h.go m hR (.refl K) fun vs xs F1 K1 H1 s1 l1 m1 r1 hxs hq => ⟨hxs.length.symm ▸ hq.1, K1, (s1.heap.objs.size, .list xs) :: H1, l1, r1.new (tk := s1.toks) (dr := s1.drawn) (fun b o e => Heap.get?_push_of_some _ e) (none_at_size _) (Heap.get?_push_size _ rfl) ⟨vs.toArray, 0, rfl, hxs⟩, _, .ref, F1, m1, hq.2 _⟩)
theorem Ev_ListF {elts : List Expr} {pos} (h : Evs G fr A F H (spliced (backTo pos (starEach elts env))) (fun xs F1 H1 => xs.length ≤ sizeLine ∧ Q (.lst xs) F1 H1) E) : Ev G fr A F H (eval (.List elts pos) env) Q E := fun K m R s hR =>
  wpAny_List (h.go m hR (.refl K) fun vs xs F1 K1 H1 s1 l1 m1 r1 hxs hq => by
    obtain ⟨hl, q⟩ := hq
    refine ⟨hxs.length.symm ▸ hl, ?_⟩
    obtain ⟨le, r⟩ := r1.newF (tk := s1.toks) (dr := s1.drawn) (fun b o e => Heap.get?_push_of_some _ e) (none_at_size s1.heap) (Heap.get?_push_size s1.heap (o := { cls := .type "list", data := .seq vs.toArray }) rfl)
    exact ⟨_, H1, l1.trans le, r, _, .lst (Fz.add_self _ _ _) rfl rfl hxs.length (hxs.mono le).get, F1, m1.trans le, q⟩)
theorem Ev_Tuple {elts : List Expr} {k pos} (h : Evs G fr A F H (spliced (backTo pos (starEach elts env))) (fun xs F1 H1 => xs.length ≤ sizeLine ∧ Q (.tup xs) F1 H1) E) : Ev G fr A F H (eval (.Tuple elts k pos) env) Q E := fun K m R s hR =>
  wpAny_Tuple (h.go m hR (.refl K) fun vs xs F1 K1 H1 s1 l1 m1 r1 hxs hq => by
    obtain ⟨hl, q⟩ := hq
    refine ⟨hxs.length.symm ▸ hl, ?_⟩
    obtain ⟨le, r⟩ := r1.newF (tk := s1.toks) (dr := s1.drawn) (fun b o e => Heap.get?_push_of_some _ e) (none_at_size s1.heap) (Heap.get?_push_size s1.heap (o := { cls := .type "tuple", data := .seq vs.toArray }) rfl)
    exact ⟨_, H1, l1.trans le, r, _, .tup (Fz.add_self _ _ _) hxs.length (hxs.mono le).get, F1, m1.trans le, q⟩)
theorem list_freeze {fr : List Env} {R : Hp} {s : Shared} {a : Addr} {l : List V} (r : Rep G fr F ((a, .list l) :: H ++ R) s) : ∃ F', F.le F' ∧ Rep G fr F' (H ++ R) s ∧ RV F' (.ref a) (.lst l) := by
  obtain ⟨o, ⟨vs, n, rfl, hr⟩, le, r'⟩ := Rep.freeze r fun ρ q => nomatch q
  exact ⟨_, le, r', .lst (vs := vs.toList) (n := n) (Fz.add_self _ _ _) rfl rfl hr.length (hr.mono le).get⟩
theorem Cl.freeze {f : V} {xs : List V} (h : Cl G fr A F H f xs (fun x F1 H1 => ∃ a l H2, x = .ref a ∧ Rem H1 a (.list l) H2 ∧ Q (.lst l) F1 H2) E) : Cl G fr A F H f xs Q E := fun K m v vs hv hvs R s hR => by
  refine wpAny_mono (h K m v vs hv hvs R s hR) (fun v s' hq => ?_) fun _ _ x => x
  obtain ⟨K1, H1, l1, r1, x, hx, F1, m1, a, l, H2, rfl, hrem, q⟩ := hq
  obtain rfl := hx.i_ref
  obtain ⟨K2, l2, r2, hv2⟩ := list_freeze (r1.perm (hrem.perm.append_right R))
  exact ⟨K2, H2, l1.trans l2, r2, _, hv2, F1, m1.trans l2, q⟩
theorem Rep.freezeN {R : Hp} {s : Shared} {x : Str} {L a : Addr} {l : List V} {ρ ρ' : List (Str × Option V)} {H1 H2 : Hp} (hr : Rem H a (.list l) H1) (hu : Upd H1 L (.ns ρ) (.ns ρ') H2) (hx : Lk ρ x (.ref a)) (hs : SetL ρ x (some (.lst l)) ρ')
    (hR : Rep G fr F (H ++ R) s) : ∃ F', F.le F' ∧ Rep G fr F' (H2 ++ R) s := by
  obtain ⟨F', le, r1, hv⟩ := list_freeze (hR.perm (hr.perm.append_right R))
  refine ⟨F', le, ?_⟩
  obtain ⟨o, ho, es, ep, hd, hk, nd, hp⟩ := r1.get hu.mem
  refine r1.upd' (h' := s.heap) (tk := s.toks) (dr := s.drawn) (o' := o) hu (Heap.ExtBut.refl _ _) ho ⟨es, ep, hd, hk, by rw [hs.names.1]; exact nd, fun p hpm => ?_⟩ fun _ => ⟨_, rfl⟩
  rcases hs.spec nd p hpm with ⟨h1, h2⟩ | ⟨h1, h2⟩
  · rw [h2]
    obtain ⟨v, q1, q2⟩ := hp _ hx.mem
    obtain rfl := q2.i_ref
    exact ⟨_, by rw [h1]; exact q1, hv⟩
  · exact hp p h2
theorem Ex_freeze {t : Sem Flow} {Q : FV → Fz → Hp → Prop} (x : Str) {L a : Addr} {l : List V} {ρ ρ' : List (Str × Option V)} {H1 H2 : Hp} (hr : Rem H a (.list l) H1) (hu : Upd H1 L (.ns ρ) (.ns ρ') H2) (hx : Lk ρ x (.ref a)) (hs : SetL ρ x (some (.lst l)) ρ')
    (h : Ex G fr A F H2 t Q E) : Ex G fr A F H t Q E := fun K m R s hR => by
  obtain ⟨K', le, r2⟩ := Rep.freezeN hr hu hx hs hR
  exact h.last (m.trans le) r2 le
end
noncomputable def mkRhoB : List Bool → List Str → List V → List Str → List (Str × Option V)
  | true :: ks, n :: ns, x :: xs, r => (n, some x) :: mkRhoB ks ns xs r
  | false :: ks, _ :: ns, _ :: xs, r => mkRhoB ks ns xs r
  | _, _, _, r => r.map fun n => (n, none)
noncomputable def initB : List Bool → List Str → List V → Str → Option V
  | true :: ks, _ :: ns, _ :: xs, c => initB ks ns xs c
  | false :: ks, n :: ns, x :: xs, c => if n = c then some x else initB ks ns xs c
  | _, _, _, _ => none
noncomputable def namesB : List Bool → List Str → List Str
  | true :: ks, n :: ns => n :: namesB ks ns
  | false :: ks, _ :: ns => namesB ks ns
  | _, _ => []
noncomputable def kindB (k : Str → Option NameKind) : List Bool → List Str → Bool
  | true :: ks, n :: ns => decide (k n = some .local) && kindB k ks ns
  | false :: ks, n :: ns => decide (k n = some .cell) && kindB k ks ns
  | [], [] => true
  | _, _ => false
inductive LkO (F : Fz) : Option Value → Option V → Prop where
  | none : LkO F none none
  | some {v : Value} {x : V} (h : RV F v x) : LkO F (some v) (some x)
theorem and_l {a b : Bool} (h : (a && b) = true) : a = true := by cases a with | true => rfl | false => exact h
theorem and_r {a b : Bool} (h : (a && b) = true) : b = true := by cases a with | true => exact h | false => exact Bool.noConfusion h
section
variable {F : Fz}
theorem kindB_ind {k : Str → Option NameKind} {P : List Bool → List Str → Prop} (h0 : P [] []) (h1 : ∀ ks n ns, k n = some .local → P ks ns → P (true :: ks) (n :: ns)) (h2 : ∀ ks n ns, k n = some .cell → P ks ns → P (false :: ks) (n :: ns)) :
    ∀ (ks : List Bool) (ns : List Str), kindB k ks ns = true → P ks ns
  | [], [], _ => h0
  | true :: ks, n :: ns, h => h1 _ _ _ (of_decide_eq_true (and_l h)) (kindB_ind h0 h1 h2 ks ns (and_r h))
  | false :: ks, n :: ns, h => h2 _ _ _ (of_decide_eq_true (and_l h)) (kindB_ind h0 h1 h2 ks ns (and_r h))
  | [], _ :: _, h => Bool.noConfusion (h : false = true)
  | true :: _, [], h => Bool.noConfusion (h : false = true)
  | false :: _, [], h => Bool.noConfusion (h : false = true)
theorem bindL_not {k : Str → Option NameKind} {n : Str} : ∀ {binds : List (Str × Value)} {m : Str → Option Value}, (n ∉ binds.map (·.1) ∨ k n ≠ some .local) → bindL k binds m n = m n
  | [], m, _ => rfl
  | (n', v) :: r, m, h => by
    refine (bindL_not (binds := r) (h.imp (fun q m => q (.tail _ m)) id)).trans ?_
    split
    · rename_i hk
      exact if_neg fun (e : n = n') => h.elim (fun q => q (e ▸ .head _)) fun q => q (e ▸ hk)
    · rfl
theorem bindC_not {k : Str → Option NameKind} {n : Str} : ∀ {binds : List (Str × Value)} {m : Str → Option Value}, n ∉ binds.map (·.1) → bindC k binds m n = m n
  | [], m, _ => rfl
  | (n', v) :: r, m, h => by
    refine (bindC_not (binds := r) fun m => h (.tail _ m)).trans ?_
    split
    · rfl
    · exact if_neg fun (e : n = n') => h (e ▸ .head _)
theorem mem_mkRhoB {k : Str → Option NameKind} {r : List Str} : ∀ {ks : List Bool} {ns : List Str} {xs : List V} {vs : List Value} (m : Str → Option Value), kindB k ks ns = true → ns.length = xs.length → (ns ++ r).Nodup → RVs F vs xs → (∀ n ∈ r, m n = none) →
    ∀ p ∈ mkRhoB ks ns xs r, LkO F (bindL k (ns.zip vs) m p.1) p.2 := fun {ks ns xs vs} m hk => by
  refine kindB_ind (P := fun ks ns => ∀ (xs : List V) (vs : List Value) (m : Str → Option Value), ns.length = xs.length → (ns ++ r).Nodup → RVs F vs xs → (∀ n ∈ r, m n = none) → ∀ p ∈ mkRhoB ks ns xs r, LkO F (bindL k (ns.zip vs) m p.1) p.2) ?_ ?_ ?_ ks ns hk xs vs m
  · intro xs vs m _ _ _ hm p hp
    obtain ⟨n, hn, rfl⟩ := List.mem_map.mp hp
    show LkO F (m n) none
    rw [hm n hn]; exact .none
  · intro ks n ns hk ih xs vs m hl hnd h hm p hp
    cases h with
    | nil => cases hl
    | @cons v x vs xs hv t =>
      have hl' := Nat.succ.inj hl
      have hnd := List.nodup_cons.mp hnd
      show LkO F (bindL k (ns.zip vs) (if _ then _ else _) p.1) p.2
      rw [if_pos hk]
      rcases List.mem_cons.mp hp with rfl | hp
      · show LkO F (bindL k (ns.zip vs) _ n) (some x)
        rw [bindL_not (.inl (by rw [zip_names (hl'.trans t.length.symm)]; exact fun q => hnd.1 (List.mem_append_left _ q))), if_pos rfl]
        exact .some hv
      · exact ih xs vs _ hl' hnd.2 t (fun y hy => (if_neg fun (q : y = n) => hnd.1 (q ▸ List.mem_append_right _ hy)).trans (hm y hy)) p hp
  · intro ks n ns hk ih xs vs m hl hnd h hm p hp
    cases h with
    | nil => cases hl
    | @cons v x vs xs hv t =>
      show LkO F (bindL k (ns.zip vs) (if _ then _ else _) p.1) p.2
      rw [if_neg (by rw [hk]; decide)]
      exact ih xs vs _ (Nat.succ.inj hl) (List.nodup_cons.mp hnd).2 t hm p hp
theorem initB_spec {k : Str → Option NameKind} {c : Str} (hc : k c = some .cell) : ∀ {ks : List Bool} {ns : List Str} {xs : List V} {vs : List Value} (m : Str → Option Value), kindB k ks ns = true → ns.length = xs.length → ns.Nodup → RVs F vs xs → m c = none →
    LkO F (bindC k (ns.zip vs) m c) (initB ks ns xs c) := fun {ks ns xs vs} m hk => by
  refine kindB_ind (P := fun ks ns => ∀ (xs : List V) (vs : List Value) (m : Str → Option Value), ns.length = xs.length → ns.Nodup → RVs F vs xs → m c = none → LkO F (bindC k (ns.zip vs) m c) (initB ks ns xs c)) ?_ ?_ ?_ ks ns hk xs vs m
  · intro xs vs m _ _ _ hm
    show LkO F (m c) none
    rw [hm]; exact .none
  · intro ks n ns hk ih xs vs m hl hnd h hm
    cases h with
    | nil => cases hl
    | @cons v x vs xs hv t =>
      show LkO F (bindC k (ns.zip vs) (if _ then _ else _) c) _
      rw [if_pos hk]
      exact ih xs vs _ (Nat.succ.inj hl) (List.nodup_cons.mp hnd).2 t hm
  · intro ks n ns hk ih xs vs m hl hnd h hm
    cases h with
    | nil => cases hl
    | @cons v x vs xs hv t =>
      have hl' := Nat.succ.inj hl
      show LkO F (bindC k (ns.zip vs) (if _ then _ else _) c) (if n = c then some x else _)
      rw [if_neg (by rw [hk]; decide)]
      by_cases hnc : n = c
      · rw [if_pos hnc, bindC_not (by rw [zip_names (hl'.trans t.length.symm), ← hnc]; exact (List.nodup_cons.mp hnd).1), if_pos hnc.symm]
        exact .some hv
      · rw [if_neg hnc]
        exact ih xs vs _ hl' (List.nodup_cons.mp hnd).2 t ((if_neg fun q => hnc q.symm).trans hm)
theorem mkRhoB_names {k : Str → Option NameKind} {ks : List Bool} {ns : List Str} {xs : List V} {r : List Str} (hk : kindB k ks ns = true) (hl : ns.length = xs.length) : (mkRhoB ks ns xs r).map (·.1) = namesB ks ns ++ r := by
  refine kindB_ind (P := fun ks ns => ∀ xs : List V, ns.length = xs.length → (mkRhoB ks ns xs r).map (·.1) = namesB ks ns ++ r) ?_ ?_ ?_ ks ns hk xs hl
  · exact fun xs _ => (List.map_map ..).trans (List.map_id r)
  · intro ks n ns _ ih xs hl
    cases xs with
    | nil => cases hl
    | cons x xs => exact congrArg (n :: ·) (ih xs (Nat.succ.inj hl))
  · intro ks n ns _ ih xs hl
    cases xs with
    | nil => cases hl
    | cons x xs => exact ih xs (Nat.succ.inj hl)
theorem kindB_mem {k : Str → Option NameKind} {ks : List Bool} {ns : List Str} (hk : kindB k ks ns = true) : ∀ n ∈ ns, k n = some .local ∨ (k n = some .cell ∧ (false, n) ∈ ks.zip ns) := by
  refine kindB_ind (P := fun ks ns => ∀ n ∈ ns, k n = some .local ∨ (k n = some .cell ∧ (false, n) ∈ ks.zip ns)) (fun _ h => nomatch h) ?_ ?_ ks ns hk
  · exact fun ks n ns hk ih x hx => (List.mem_cons.mp hx).elim (fun e => .inl (e ▸ hk)) fun hx => (ih x hx).imp id fun q => ⟨q.1, .tail _ q.2⟩
  · exact fun ks n ns hk ih x hx => (List.mem_cons.mp hx).elim (fun e => .inr ⟨e ▸ hk, e ▸ .head _⟩) fun hx => (ih x hx).imp id fun q => ⟨q.1, .tail _ q.2⟩
end
theorem zip_unzip' {α β : Type} : ∀ (l : List (α × β)), (l.map (·.1)).zip (l.map (·.2)) = l
  | [] => rfl
  | (a, b) :: l => congrArg ((a, b) :: ·) (zip_unzip' l)
theorem lookup_isSome {β : Type} : ∀ {l : List (Str × β)} {n : Str}, n ∈ l.map (·.1) → (l.lookup n).isSome = true
  | (n', v') :: l, n, h => by
    show (match n == n' with | true => some v' | false => l.lookup n).isSome = true
    cases e : n == n' with
    | true => rfl
    | false => exact lookup_isSome ((List.mem_cons.mp h).resolve_left (ne_of_beq_false e))
section
variable {G : Glob} {fr : List Env} {A : Around} {F : Fz} {H : Hp} {E : Value → Fz → Hp → Prop} {E' : Addr → Value → Fz → Hp → Prop} {Q : V → Fz → Hp → Prop}
theorem Rep.newCells {R : Hp} {s : Shared} (hR : Rep G fr F R s) : ∀ (cells : List (Str × Addr)) (f : Str → Option V) (H0 : Hp), (∀ p ∈ cells, F p.2 = none ∧ ∃ o, s.heap.get? p.2 = some o ∧ RO G.w F o (.cell (f p.1))) → (cells.map (·.2)).Nodup → (∀ p ∈ cells, p.2 ∉ R.map (·.1)) →
    Rep G fr F (cells.map (fun p => (p.2, AO.cell (f p.1))) ++ R) s
  | [], f, H0, _, _, _ => hR
  | p :: cells, f, H0, h, hnd, hR' => by
    rw [List.map_cons, List.nodup_cons] at hnd
    have ih := Rep.newCells hR cells f H0 (fun q hq => h q (.tail _ hq)) hnd.2 (fun q hq => hR' q (.tail _ hq))
    obtain ⟨h1, o, h2, h3⟩ := h p (.head _)
    rw [List.map_cons, List.cons_append]
    refine ⟨ih.gok, ih.base, ih.fz, fun q hq => ?_, ?_, fun e he => ⟨(ih.frs e he).1, let ⟨L, ρ, a, b⟩ := (ih.frs e he).2; ⟨L, ρ, a, .tail _ b⟩⟩, ih.gens, ih.os⟩
    · rcases List.mem_cons.mp hq with rfl | hq
      · exact ⟨h1, o, h2, h3⟩
      · exact ih.own q hq
    · rw [List.map_cons, List.nodup_cons]
      refine ⟨fun q => ?_, ih.nd⟩
      rw [List.map_append, List.mem_append] at q
      rcases q with q | q
      · rw [List.map_map] at q
        exact hnd.1 q
      · exact hR' p (.head _) q
theorem code_cells {a : Addr} {fo : Obj} {name qual : Str} {params : Arguments} {scope : Scope} {dV kV doc pm cdv ct : Value} {an : Option Addr} {body : List Stmt} {xs : List V} (hf : F a = some fo)
    (hd : fo.data = .func (fnX name qual params body scope [] dV kV doc pm an cdv ct)) (hcd : CodeF F cdv qual)
    (ks : List Bool) (ns rest cns : List Str) {inits : List (Option V)} (hn : ns.length = xs.length) (hnd : (ns ++ rest).Nodup) (hndB : (namesB ks ns ++ rest).Nodup) (hbind : ∀ vs : List Value, vs.length = xs.length → bindArgs (fnX name qual params body scope [] dV kV doc pm an cdv ct) ⟨vs, []⟩ = pure (ns.zip vs))
    (hkind : kindB (fun x => scope.names.lookup x) ks ns = true) (hcm : ((ks.zip ns).all fun p => p.1 || cns.contains p.2) = true) (hcn : ∀ n, (cellsFrom n scope.names []).map (·.1) = cns) (hcnd : cns.Nodup) (hck : (cns.all fun x => decide (scope.names.lookup x = some .cell)) = true) (hin : cns.map (initB ks ns xs) = inits)
    (hroom : A.depth < recursionLimit) (hE : ∀ L cl, Leaves G fr A (envX qual scope L a cdv cl) (E' L) E)
    (h : ∀ L cs A', cs.length = cns.length → Deep A A' (envX qual scope L a cdv (cns.zip cs)) → Ex G (envX qual scope L a cdv (cns.zip cs) :: fr) A' F ((L, .ns (mkRhoB ks ns xs rest)) :: (cs.zip (inits.map AO.cell) ++ H)) (execs body (envX qual scope L a cdv (cns.zip cs))) (Ret L Q) (E' L))
    {K : Fz} (m : F.le K) {vs : List Value} (hvs : RVs K vs xs) {R : Hp} {s : Shared} (hR : Rep G fr K (H ++ R) s)
    (hco : scope.isCoroutine = false := by rfl) (hgen : scope.isGenerator = false := by rfl) (hk : scope.kind = .function := by rfl) :
    codeAny G.M A (.call (.ref a) ⟨vs, []⟩) (fun r s' => match r with | .ok (.ret v) => PQ G fr K R (VQ Q) v s' | .ok _ => False | .error e => PQ G fr K R (fun e => Dn (E e)) e s') s := by
  have hlen := hvs.length
  have hz : (ns.zip vs).map (·.1) = ns := zip_names (by lia)
  refine codeAny_call_cells hroom (hR.fz _ _ (m _ _ hf)) hd hR.glob.2.2 ((hcd.mono m).crec hR.fz) rfl (hbind vs hlen) rfl (fun x hx => ?_) (fun s₁ x => ?_) hco hgen hk
  · have hx' := (List.of_mem_zip hx).1
    rcases kindB_mem hkind x.1 hx' with q | ⟨q, q'⟩
    · exact .inl q
    · refine .inr ⟨q, lookup_isSome ?_⟩
      rw [hcn]
      have := List.all_eq_true.mp hcm _ q'
      simpa using this
  · have henv : callEnvC (fnX name qual params body scope [] dV kV doc pm an cdv ct) s.heap.objs.size a = envX qual scope s.heap.objs.size a cdv (cns.zip ((cellsFrom (s.heap.objs.size + 1) scope.names []).map (·.2))) := by
      rw [← hcn (s.heap.objs.size + 1), zip_unzip']; rfl
    have hcells : cns.zip ((cellsFrom (s.heap.objs.size + 1) scope.names []).map (·.2)) = cellsFrom (s.heap.objs.size + 1) scope.names [] := by rw [← hcn (s.heap.objs.size + 1), zip_unzip']
    obtain ⟨⟨⟨h₁, tk, rfl⟩, hns, hkeep, hfresh⟩, hcell, hapart, habove⟩ := x
    rw [henv]
    have hns' : h₁.Ns s.heap.objs.size (bindL (fun x => scope.names.lookup x) (ns.zip vs) fun _ => none) := hns
    have hcell' : ∀ n c, (n, c) ∈ cellsFrom (s.heap.objs.size + 1) scope.names [] → h₁.IsCell c (bindC (fun x => scope.names.lookup x) (ns.zip vs) (fun _ => none) n) := fun n c hm => hcell n c (lookup_mem (l := cellsFrom (s.heap.objs.size + 1) scope.names []) (by rw [hcn]; exact hcnd) hm)
    have habove' : ∀ n c, (n, c) ∈ cellsFrom (s.heap.objs.size + 1) scope.names [] → s.heap.objs.size < c := habove
    have hapart' : (cellsFrom (s.heap.objs.size + 1) scope.names []).Pairwise fun x y => x.2 ≠ y.2 := hapart
    have hkeep' : ∀ b o, s.heap.get? b = some o → h₁.get? b = some o := hkeep
    have fresh : ∀ env ∈ fr, env.frame ≠ some s.heap.objs.size := fun env he e => by
      obtain ⟨L, ρ, q, m⟩ := (hR.frs env he).2
      obtain ⟨_, o, g, _⟩ := hR.own _ m
      rw [Option.some.inj (q.symm.trans e)] at g
      exact absurd (Heap.lt_size g) (Nat.lt_irrefl _)
    have gone : ∀ c, s.heap.objs.size ≤ c → s.heap.get? c = none := fun c hc => by
      cases q : s.heap.get? c with
      | none => rfl
      | some o => exact absurd (Heap.lt_size q) (Nat.not_lt.mpr hc)
    have r0 : Rep G fr K (H ++ R) { s with heap := h₁, toks := tk } := hR.keeps (tk := tk) (dr := s.drawn) hkeep'
    have r1 : Rep G fr K ((cellsFrom (s.heap.objs.size + 1) scope.names []).map (fun p => (p.2, AO.cell (initB ks ns xs p.1))) ++ (H ++ R)) { s with heap := h₁, toks := tk } := by
      refine r0.newCells _ (initB ks ns xs) [] (fun p hp => ?_) ?_ fun p hp => ?_
      · have hs := habove' p.1 p.2 hp
        obtain ⟨o, ho, hdd⟩ := hcell' p.1 p.2 hp
        refine ⟨(hR.fresh (gone _ (by lia))).1, o, ho, ?_⟩
        have hkc : scope.names.lookup p.1 = some .cell := of_decide_eq_true (List.all_eq_true.mp hck p.1 (by rw [← hcn (s.heap.objs.size + 1)]; exact List.mem_map_of_mem hp))
        have q := initB_spec (F := K) hkc (fun _ => none) hkind hn (List.nodup_append.mp hnd).1 hvs rfl
        generalize initB ks ns xs p.1 = z at q ⊢
        generalize bindC (fun x => scope.names.lookup x) (ns.zip vs) (fun _ => none) p.1 = y at q hdd
        cases q with
        | none => exact hdd
        | some h2 => exact ⟨_, hdd, h2⟩
      · exact List.pairwise_map.mpr hapart'
      · exact (hR.fresh (gone _ (Nat.le_of_lt (habove' p.1 p.2 hp)))).2
    have r2 : Rep G (envX qual scope s.heap.objs.size a cdv (cns.zip ((cellsFrom (s.heap.objs.size + 1) scope.names []).map (·.2))) :: fr) K ((s.heap.objs.size, AO.ns (mkRhoB ks ns xs rest)) :: ((cellsFrom (s.heap.objs.size + 1) scope.names []).map (fun p => (p.2, AO.cell (initB ks ns xs p.1))) ++ (H ++ R))) { s with heap := h₁, toks := tk } := by
      obtain ⟨o, es, ep, ho, hdd, hkk, hff⟩ := hns'
      refine ⟨r1.gok, r1.base, r1.fz, fun q hq => ?_, ?_, fun env he => ?_, r1.gens, r1.os⟩
      · rcases List.mem_cons.mp hq with rfl | hq
        · refine ⟨(hR.fresh (none_at_size _)).1, o, ho, es, ep, hdd, hkk, by rw [mkRhoB_names hkind hn]; exact hndB, fun p hp => ?_⟩
          have q := mem_mkRhoB (F := K) (fun _ => none) hkind hn hnd hvs (fun _ _ => rfl) p hp
          generalize hz : bindL (fun x => scope.names.lookup x) (ns.zip vs) (fun _ => none) p.1 = z at q
          generalize p.2 = y at q ⊢
          cases q with
          | none => trivial
          | some h2 => exact ⟨_, (hff _).trans hz, h2⟩
        · exact r1.own q hq
      · rw [List.map_cons, List.nodup_cons]
        refine ⟨fun q => ?_, r1.nd⟩
        rw [List.map_append, List.mem_append] at q
        rcases q with q | q
        · rw [List.map_map] at q
          obtain ⟨p, hp, e⟩ := List.mem_map.mp q
          have := habove' p.1 p.2 hp
          have e' : p.2 = s.heap.objs.size := e
          rw [e'] at this
          exact Nat.lt_irrefl _ this
        · exact (hR.fresh (none_at_size _)).2 q
      · rcases List.mem_cons.mp he with rfl | he
        · exact ⟨hk, _, _, rfl, .head _⟩
        · exact ⟨(r1.frs env he).1, let ⟨L, ρ, a, b⟩ := (r1.frs env he).2; ⟨L, ρ, a, .tail _ b⟩⟩
    have e3 : (cellsFrom (s.heap.objs.size + 1) scope.names []).map (fun p => (p.2, AO.cell (initB ks ns xs p.1))) = ((cellsFrom (s.heap.objs.size + 1) scope.names []).map (·.2)).zip (inits.map AO.cell) := by
      rw [← hin, ← hcn (s.heap.objs.size + 1)]
      generalize cellsFrom (s.heap.objs.size + 1) scope.names [] = l
      induction l with
      | nil => rfl
      | cons p l ih => simp only [List.map_cons, List.zip_cons_cons, ih]
    rw [e3, ← List.append_assoc, ← List.cons_append] at r2
    refine wpAny_mono (h s.heap.objs.size ((cellsFrom (s.heap.objs.size + 1) scope.names []).map (·.2)) _ (by rw [List.length_map, ← hcn (s.heap.objs.size + 1), List.length_map]) (deep A _) K m R _ r2) (fun f s' hq => ?_) fun e s' q => wpAny_mono (hE _ _ fresh K R e s' q) (fun _ _ x => x) fun _ _ x => x
    obtain ⟨F', H', l', r', fv, hfv, F1, m1, ρ, H2, hrem, q⟩ := hq
    have r3 : Rep G fr F' (H2 ++ R) s' := (r'.pop.perm (hrem.perm.append_right R)).drop fresh
    refine ⟨F', H2, l', r3, _, ?_, F1, m1, q⟩
    cases hfv with
    | next => exact .none
    | brk => exact .none
    | cont => exact .none
    | ret hx => exact hx
theorem call_cells {a : Addr} {fo : Obj} {name qual : Str} {params : Arguments} {scope : Scope} {dV kV doc pm cdv ct : Value} {an : Option Addr} {body : List Stmt} {xs : List V} (hf : F a = some fo)
    (hd : fo.data = .func (fnX name qual params body scope [] dV kV doc pm an cdv ct)) (hcd : CodeF F cdv qual)
    (ks : List Bool) (ns rest cns : List Str) {inits : List (Option V)} (hn : ns.length = xs.length) (hnd : (ns ++ rest).Nodup) (hndB : (namesB ks ns ++ rest).Nodup) (hbind : ∀ vs : List Value, vs.length = xs.length → bindArgs (fnX name qual params body scope [] dV kV doc pm an cdv ct) ⟨vs, []⟩ = pure (ns.zip vs))
    (hkind : kindB (fun x => scope.names.lookup x) ks ns = true) (hcm : ((ks.zip ns).all fun p => p.1 || cns.contains p.2) = true) (hcn : ∀ n, (cellsFrom n scope.names []).map (·.1) = cns) (hcnd : cns.Nodup) (hck : (cns.all fun x => decide (scope.names.lookup x = some .cell)) = true) (hin : cns.map (initB ks ns xs) = inits)
    (hroom : A.depth < recursionLimit) (hE : ∀ L cl, Leaves G fr A (envX qual scope L a cdv cl) (E' L) E)
    (h : ∀ L cs A', cs.length = cns.length → Deep A A' (envX qual scope L a cdv (cns.zip cs)) → Ex G (envX qual scope L a cdv (cns.zip cs) :: fr) A' F ((L, .ns (mkRhoB ks ns xs rest)) :: (cs.zip (inits.map AO.cell) ++ H)) (execs body (envX qual scope L a cdv (cns.zip cs))) (Ret L Q) (E' L))
    (hco : scope.isCoroutine = false := by rfl) (hgen : scope.isGenerator = false := by rfl) (hk : scope.kind = .function := by rfl) : Cl G fr A F H (.ref a) xs Q E := fun K m v vs hv hvs R s hR => by
  obtain rfl := hv.i_ref
  exact wpAny_call (code_cells hf hd hcd ks ns rest cns hn hnd hndB hbind hkind hcm hcn hcnd hck hin hroom hE h m hvs hR hco hgen hk)
end
noncomputable def tabsH (tabs : List (Addr × Addr)) : Hp := tabs.map fun q => (q.2, AO.raw (tabObj #[]))
noncomputable def topG (prog : Program) (w : World) (s₁ : Shared) (tabs : List (Addr × Addr)) (mg mb : Str → Option Value) : Glob := { prog, w, F0 := (ghostOf s₁.heap tabs).get?, os := s₁.os, mg, mb }
theorem ints_rv {F : Fz} {vs : List Value} {zs : List Int} (h : IntsAre vs zs) : RVs F vs (zs.map .int) := by
  induction h with
  | nil => exact .nil
  | cons => rename_i ih; exact .cons .int ih
theorem grown_all {h : Heap} : ∀ {tabs : List (Addr × Addr)}, (∀ q ∈ tabs, GrownAt q.2 h) → GrownAll tabs h
  | [], _ => trivial
  | q :: _, k => ⟨k q (.head _), grown_all fun q hq => k q (.tail _ hq)⟩
theorem law_top {prog : Program} {w : World} {s₁ : Shared} {cw : ClaimW} {cl : Str → Option Addr} {mean : ExcName → Option Value} {args : List WData} {tabs : List (Addr × Addr)} {mg mb : Str → Option Value} {fa a : Addr} {vs : List Value} {zs : List Int}
    (hT : TabsAt tabs s₁.heap) (hnd : (tabs.map (·.2)).Nodup) (hr : ∀ a x, cw.raises a x = false) (hpost : cw.post args (.bool true) args = true) (hg : s₁.gens = #[]) (hL : s₁.heap.IsList a vs.toArray) (hI : IntsAre vs zs) (gok : GOk (topG prog w s₁ tabs mg mb))
    (h : ∀ R s, Rep (topG prog w s₁ tabs mg mb) [] (ghostOf s₁.heap tabs).get? (tabsH tabs ++ R) s → ∀ xs, RVs (ghostOf s₁.heap tabs).get? xs [.lst (zs.map .int)] →
      codeAny (model prog w) callerA (.call (.ref fa) ⟨xs, []⟩) (fun r s' => match r with
        | .ok (.ret v) => PQ (topG prog w s₁ tabs mg mb) [] (ghostOf s₁.heap tabs).get? R (VQ fun x _ H' => x = .bool true ∧ ∀ q ∈ tabs, ∃ ps, (q.2, AO.raw (tabObj ps)) ∈ H') v s'
        | .ok _ => False
        | .error e => PQ (topG prog w s₁ tabs mg mb) [] (ghostOf s₁.heap tabs).get? R (fun e => Dn (No e)) e s') s) :
    wpAny (model prog w) callerA (call (.ref fa) [.ref a]) (fun v s' => GoodWG cw cl mean args s₁ (.ok (.ret v)) s') (fun e s' => GoodWG cw cl mean args s₁ (.error e) s') s₁ := by
  have gn : ∀ q ∈ tabs, (ghostOf s₁.heap tabs).get? q.2 = none := fun q hq => hideAll_none _ (List.mem_map_of_mem hq)
  have rep : Rep (topG prog w s₁ tabs mg mb) [] (ghostOf s₁.heap tabs).get? (tabsH tabs ++ []) s₁ := by
    refine ⟨gok, fun _ _ e => e, fun a o e => of_hideAll _ e, fun p hp => ?_, ?_, (fun _ h => nomatch h), hg, rfl⟩
    · rw [List.append_nil] at hp
      obtain ⟨q, hq, rfl⟩ := List.mem_map.mp hp
      exact ⟨gn q hq, _, (hT q hq).2, rfl⟩
    · rw [List.append_nil]
      unfold tabsH
      rw [List.map_map]
      exact hnd
  have hl : RVs (ghostOf s₁.heap tabs).get? [.ref a] [.lst (zs.map .int)] := by
    obtain ⟨o, ho, hc, n, hd⟩ := hL
    have hr := ints_rv (F := (ghostOf s₁.heap tabs).get?) hI
    refine .cons (.lst (o := o) (vs := vs) (n := n) ?_ hc hd hr.length hr.get) .nil
    refine ghost_ne ho fun hm => ?_
    obtain ⟨q, hq, rfl⟩ := List.mem_map.mp hm
    rw [(hT q hq).2] at ho
    cases ho
    cases hc
  refine wpAny_call (codeAny_mono (kn_post (cl := cl) (mean := mean) (args := args) hT hr (codeAny_mono (h [] s₁ rep _ hl) fun r s' hq => ?_)) fun r s' hq => ?_)
  · cases r with
    | error e => exact (noPQ (v := e) hq).elim
    | ok f =>
      cases f with
      | ret v =>
        obtain ⟨F', H', le, r', x, hx, _, _, e, ht⟩ := hq
        subst e
        cases hx
        refine ⟨⟨.inl ⟨_, .bool true, [], rfl, fun _ => hr _ _, .bool true, hpost, fun _ => ⟨.nil, (fun _ h => nomatch h)⟩⟩, fun b o e => r'.fz b o (le b o e), r'.os, r'.gens⟩, ?_⟩
        exact grown_all fun q hq => by
          obtain ⟨ps, hm⟩ := ht q hq
          obtain ⟨o, ho, hro⟩ := r'.get hm
          exact ⟨ps, by rw [ho]; exact congrArg some hro⟩
      | _ => exact hq.elim
  · cases r with
    | error e => exact hq
    | ok f =>
      have hv : ∃ v, f = .ret v := by
        rcases hq.1 with ⟨v, _, _, q, _⟩ | ⟨_, _, _, q, _⟩
        · cases q; exact ⟨_, rfl⟩
        · cases q
      obtain ⟨v, rfl⟩ := hv
      exact hq
theorem len0 {α : Type} {l : List α} (h : l.length = 0) : l = [] := List.length_eq_zero_iff.mp h
theorem lenC {α : Type} {l : List α} {n : Nat} (h : l.length = n + 1) : ∃ a t, l = a :: t ∧ t.length = n := by
  cases l with
  | nil => cases h
  | cons a t => exact ⟨a, t, rfl, Nat.succ.inj h⟩
theorem len1 {α : Type} {l : List α} (h : l.length = 1) : ∃ a, l = [a] := let ⟨a, _, e, h⟩ := lenC h; ⟨a, by rw [e, len0 h]⟩
theorem len2 {α : Type} {l : List α} (h : l.length = 2) : ∃ a b, l = [a, b] := let ⟨a, _, e, h⟩ := lenC h; let ⟨b, e'⟩ := len1 h; ⟨a, b, by rw [e, e']⟩
theorem len3 {α : Type} {l : List α} (h : l.length = 3) : ∃ a b c, l = [a, b, c] := let ⟨a, _, e, h⟩ := lenC h; let ⟨b, c, e'⟩ := len2 h; ⟨a, b, c, by rw [e, e']⟩
theorem len4 {α : Type} {l : List α} (h : l.length = 4) : ∃ a b c d, l = [a, b, c, d] := let ⟨a, _, e, h⟩ := lenC h; let ⟨b, c, d, e'⟩ := len3 h; ⟨a, b, c, d, by rw [e, e']⟩
theorem len5 {α : Type} {l : List α} (h : l.length = 5) : ∃ a b c d e, l = [a, b, c, d, e] := let ⟨a, _, e, h⟩ := lenC h; let ⟨b, c, d, f, e'⟩ := len4 h; ⟨a, b, c, d, f, by rw [e, e']⟩
theorem len6 {α : Type} {l : List α} (h : l.length = 6) : ∃ a b c d e f, l = [a, b, c, d, e, f] := let ⟨a, _, e, h⟩ := lenC h; let ⟨b, c, d, f, g, e'⟩ := len5 h; ⟨a, b, c, d, f, g, by rw [e, e']⟩
theorem nm2 {ρ : List (Str × Option V)} {x y : Str} (h : ρ.map (·.1) = [x, y]) : ∃ a b, ρ = [(x, a), (y, b)] := by
  obtain ⟨p, q, rfl⟩ := len2 (l := ρ) (by rw [← List.length_map (f := fun p : Str × Option V => p.1), h]; rfl)
  simp only [List.map_cons, List.map_nil, List.cons.injEq, and_true] at h
  exact ⟨p.2, q.2, by rw [← h.1, ← h.2]⟩
inductive LstIs (H : Hp) : V → List V → Prop where
  | lst {l : List V} : LstIs H (.lst l) l
  | own {a : Addr} {l : List V} (h : Has H a (.list l)) : LstIs H (.ref a) l
section
variable {G : Glob} {fr : List Env} {A : Around} {env : Env} {F : Fz} {H H' : Hp} {E : Value → Fz → Hp → Prop} {Q : V → Fz → Hp → Prop}
theorem LstIs.is {R : Hp} {s : Shared} {x : V} {l : List V} {v : Value} (h : LstIs H x l) (hR : Rep G fr F (H ++ R) s) (hv : RV F v x) : ∃ a vs, v = .ref a ∧ s.heap.IsList a vs ∧ RVs F vs.toList l := by
  cases h with
  | lst => exact hv.e_lst (P := fun v => ∃ a vs, v = .ref a ∧ s.heap.IsList a vs ∧ RVs F vs.toList l) fun a vs n o h hc hd hl hr => ⟨a, vs.toArray, rfl, ⟨o, hR.fz _ _ h, hc, n, hd⟩, RVs.of hl hr⟩
  | own h =>
    obtain ⟨o, ho, vs, n, rfl, hr⟩ := hR.has h
    exact hv.e_ref (P := fun v => ∃ a vs, v = .ref a ∧ s.heap.IsList a vs ∧ RVs F vs.toList l) ⟨_, vs, rfl, ⟨_, ho, rfl, n, rfl⟩, hr⟩
theorem RV.isTup {R : Hp} {s : Shared} {l : List V} {v : Value} (hv : RV F v (.tup l)) (hR : Rep G fr F (H ++ R) s) : ∃ a vs, v = .ref a ∧ IsTup s.heap a vs ∧ RVs F vs.toList l := by
  exact hv.e_tup (P := fun v => ∃ a vs, v = .ref a ∧ IsTup s.heap a vs ∧ RVs F vs.toList l) fun a vs n h hl hr => ⟨a, vs.toArray, rfl, ⟨_, hR.fz _ _ h, rfl, n, rfl⟩, RVs.of hl hr⟩
theorem RVs.atA {vs : Array Value} {l : List V} (h : RVs F vs.toList l) {i : Nat} {x : V} (e : l[i]? = some x) : ∃ v, vs[i]? = some v ∧ RV F v x := by
  obtain ⟨v, h1, h2⟩ := h.at e
  exact ⟨v, by simpa using h1, h2⟩

theorem Ev_Subscript {value slice pos} (h : Ev G fr A F H (eval value env) (fun o F1 H1 => Ev G fr A F1 H1 (eval slice env) (fun i F2 H2 => Op2 G fr A F2 H2 (subscriptTail value slice) o i Q E) E) E) :
    Ev G fr A F H (eval (.Subscript value slice pos) env) Q E := fun K m R s hR =>
  Subscript_ (h.go m hR (.refl K) fun a x F1 K1 H1 s1 l1 m1 r1 hx h1 => h1.go m1 r1 l1 fun b y F2 K2 H2 s2 l2 m2 r2 hy h2 => (h2 K2 m2 a b (hx.mono l2) hy).last r2 (l1.trans l2))
noncomputable def notSlice : Expr → Bool
  | .Slice .. => false
  | _ => true
theorem sub_of {slice : Expr} {o i : Value} (h : notSlice slice = true) : subscripted slice false o i = operate [o, i] (getItem o i) := by
  cases slice <;> first | rfl | cases h
theorem sub_lst {value slice : Expr} {x y : V} {l : List V} {i : Int} (hl : LstIs H x l) (h0 : 0 ≤ i) (hi : i < 2 ^ 63) (he : l[i.toNat]? = some y) (h : Q y F H) (hs : notSlice slice = true := by rfl) :
    Op2 G fr A F H (subscriptTail value slice) x (.int i) Q E := fun K m vo vi ho hi' R s hR => by
  obtain ⟨a, vs, rfl, hL, hr⟩ := hl.is hR ho
  refine hi'.e_int (P := fun vi => wpAny _ _ (subscriptTail value slice _ vi) _ _ _) fun t => ?_
  obtain ⟨v, h1, h2⟩ := hr.atA he
  exact tail_any hL.typeIs slot_list_getitem.lookup (wpAny_getItem_list hL h0 hi h1 (vret hR h2 m h)) (sub_of hs)
theorem sub_lstN {value slice : Expr} {x y : V} {l : List V} {k : Nat} (hl : LstIs H x l) (hi : k < 2 ^ 63) (he : l[k]? = some y) (h : Q y F H) (hs : notSlice slice = true := by rfl) :
    Op2 G fr A F H (subscriptTail value slice) x (.int k) Q E :=
  sub_lst hl (Int.natCast_nonneg k) (by lia) (by rw [Int.toNat_natCast]; exact he) h hs
theorem sub_tup {value slice : Expr} {y : V} {l : List V} {i : Int} (h0 : 0 ≤ i) (hi : i < 2 ^ 63) (he : l[i.toNat]? = some y) (h : Q y F H) (hs : notSlice slice = true := by rfl) :
    Op2 G fr A F H (subscriptTail value slice) (.tup l) (.int i) Q E := fun K m vo vi ho hi' R s hR => by
  obtain ⟨a, vs, rfl, hL, hr⟩ := ho.isTup hR
  refine hi'.e_int (P := fun vi => wpAny _ _ (subscriptTail value slice _ vi) _ _ _) fun t => ?_
  obtain ⟨v, h1, h2⟩ := hr.atA he
  have e := hr.toArr
  have hlt : i.toNat < l.length := (List.getElem?_eq_some_iff.mp he).1
  refine tail_any hL.typeIs slot_tuple_getitem.lookup (PyProof.Rows.getItem_tuple (j := i.toNat) hL (by lia) hi ?_ h1 (vret hR h2 m h)) (sub_of hs)
  unfold seqIndex?
  simp only [if_neg (Int.not_lt.mpr h0)]
  rw [if_pos (by simp; lia)]
theorem sub_str {value slice : Expr} {x : Str} {i : Int} {c : Nat} (h0 : 0 ≤ i) (hi : i < 2 ^ 63) (he : x.cps[i.toNat]? = some c) (h : Q (.str ⟨#[c]⟩) F H) (hs : notSlice slice = true := by rfl) :
    Op2 G fr A F H (subscriptTail value slice) (.str x) (.int i) Q E := fun K m vo vi ho hi' R s hR => by
  refine ho.e_str (P := fun vo => wpAny _ _ (subscriptTail value slice vo vi) _ _ _) fun t => hi'.e_int (P := fun vi => wpAny _ _ (subscriptTail value slice _ vi) _ _ _) fun u => ?_
  have hlt : i.toNat < x.cps.size := (Array.getElem?_eq_some_iff.mp he).1
  refine tail_any (typeIs_str _ _ _) PySem.F.slot_str_getitem.lookup (PySem.P.getItem_str (c := c) (by rw [decide_eq_false (by lia), decide_eq_false (by lia)]; rfl) ?_ (vret (hR.toks _) .str m h)) (sub_of hs)
  have : seqIndex? i x.length = some i.toNat := by
    unfold seqIndex?
    simp only [if_neg (Int.not_lt.mpr h0)]
    rw [if_pos (by
      have : x.length = x.cps.size := rfl
      simp only [Bool.and_eq_true, decide_eq_true_eq]
      lia)]
  rw [this]
  exact he

noncomputable def EvP (G : Glob) (fr : List Env) (A : Around) (env : Env) (F : Fz) (H : Hp) (e : Option Expr) (Q : Option Int → Fz → Hp → Prop) (E : Value → Fz → Hp → Prop) : Prop :=
  match e with
  | none => Q none F H
  | some e => Ev G fr A F H (eval e env) (fun x F1 H1 => ∃ i, x = .int i ∧ Q (some i) F1 H1) E
theorem EvP_none {Q : Option Int → Fz → Hp → Prop} (h : Q none F H) : EvP G fr A env F H none Q E := h
theorem EvP_some {e : Expr} {Q : Option Int → Fz → Hp → Prop} (h : Ev G fr A F H (eval e env) (fun x F1 H1 => ∃ i, x = .int i ∧ Q (some i) F1 H1) E) : EvP G fr A env F H (some e) Q E := h
theorem EvP.seq {e : Option Expr} {Q : Option Int → Fz → Hp → Prop} {R : Hp} {s : Shared} {K K₀ : Fz} (h : EvP G fr A env F H e Q E) (m : F.le K) (hR : Rep G fr K (H ++ R) s) (le : K₀.le K) {P : Value → Shared → Prop}
    (k : ∀ o F1 K1 H1 s1, K.le K1 → Fz.le F1 K1 → Rep G fr K1 (H1 ++ R) s1 → Q (o.map (·.1)) F1 H1 → P (partValue o) s1) : wpAny G.M A (evalPart e env) P (PQ G fr K₀ R fun e => Dn (E e)) s := by
  cases e with
  | none => exact wpAny_pure (k none F K H s (.refl K) m hR h)
  | some e =>
    refine Ev.go (show Ev _ _ _ _ _ _ _ _ from h) m hR le fun v x F1 K1 H1 s1 l1 m1 r1 hx hq => ?_
    obtain ⟨i, rfl, q⟩ := hq
    exact hx.e_int (P := fun v => P v s1) fun t => k (some (i, t)) F1 K1 H1 s1 l1 m1 r1 q
theorem Ev_slice_str {value : Expr} {lower upper : Option Expr} {p pos} (h : Ev G fr A F H (eval value env) (fun o F1 H1 => ∃ x, o = .str x ∧ x.length ≤ sizeLine ∧ EvP G fr A env F1 H1 lower (fun l F2 H2 => EvP G fr A env F2 H2 upper (fun u F3 H3 => Q (.str (Txt.slice x l u)) F3 H3) E) E) E) :
    Ev G fr A F H (eval (.Subscript value (.Slice lower upper none p) pos) env) Q E := fun K m R s hR => by
    refine Subscript_ (h.go m hR (.refl K) fun v _ F1 K1 H1 s1 l1 m1 r1 hx hq => ?_)
    obtain ⟨x, rfl, hsz, h1⟩ := hq
    refine wpAny_Slice (h1.seq m1 r1 l1 fun o1 F2 K2 H2 s2 l2 m2 r2 h2 => h2.seq m2 r2 (l1.trans l2) fun o2 F3 K3 H3 s3 l3 m3 r3 q => wpAny_pure ?_)
    refine hx.e_str (P := fun v => wpAny _ _ (subscriptTail value _ v _) _ _ _) fun t => ?_
    refine tail_any (typeIs_str _ _ _) PySem.F.slot_str_getitem.lookup (wpAny_getItem_str_slice (l := o1) (u := o2) (st := none) ⟨_, Heap.get?_push_size _ rfl, rfl, rfl⟩ rfl (post_val_or_str ⟨Nat.le_trans (Txt.slice_le x _ _) hsz, fun t' k => ?_⟩)) rfl
    exact ⟨K3, H3, l1.trans (l2.trans l3), r3.keeps (tk := k) (dr := s3.drawn) fun b o e => Heap.get?_push_of_some _ e, _, .str, F3, m3, q⟩

noncomputable def slIdx (lo hi st : Option Int) (n : Nat) : List Nat := sliceRange (sliceBounds lo hi st n).1 (sliceBounds lo hi st n).2.1 (sliceBounds lo hi st n).2.2
noncomputable def slV (l : List V) (lo hi st : Option Int) : List V := (slIdx lo hi st l.length).filterMap (l[·]?)
theorem RVs.pick {vs : List Value} {l : List V} (h : RVs F vs l) (is : List Nat) : RVs F (is.filterMap (vs[·]?)) (is.filterMap (l[·]?)) := by
  induction is with
  | nil => exact .nil
  | cons i is ih =>
    cases hv : vs[i]? with
    | none =>
      have : l[i]? = none := by rw [List.getElem?_eq_none_iff, ← h.length, ← List.getElem?_eq_none_iff]; exact hv
      simp only [List.filterMap_cons, hv, this]
      exact ih
    | some v =>
      have hi : i < vs.length := by
        rcases Nat.lt_or_ge i vs.length with q | q
        · exact q
        · rw [List.getElem?_eq_none q] at hv; cases hv
      have hi' : i < l.length := by rw [← h.length]; exact hi
      have hl : l[i]? = some l[i] := List.getElem?_eq_getElem hi'
      simp only [List.filterMap_cons, hv, hl]
      exact .cons (h.get i v _ hv hl) ih
theorem slicePick_rv {vs : Array Value} {l : List V} (h : RVs F vs.toList l) (lo hi st : Option Int) : RVs F (slicePick vs lo hi st).toList (slV l lo hi st) := by
  have e := h.toArr
  unfold slicePick slV slIdx
  rw [e]
  have := h.pick (sliceRange (sliceBounds lo hi st l.length).1 (sliceBounds lo hi st l.length).2.1 (sliceBounds lo hi st l.length).2.2)
  simpa using this
theorem isPart (o : Option (Int × Tok)) : IsPart (partValue o) (o.map (·.1)) := by
  cases o with
  | none => exact .none
  | some p => exact .int _ _
theorem Ev_slice_lst {value : Expr} {lower upper step : Option Expr} {p pos} (h : Ev G fr A F H (eval value env) (fun o F1 H1 => EvP G fr A env F1 H1 lower (fun lo F2 H2 => EvP G fr A env F2 H2 upper (fun hi F3 H3 => EvP G fr A env F3 H3 step (fun st F4 H4 => ∃ l, LstIs H4 o l ∧ l.length ≤ sizeLine ∧ st ≠ some 0 ∧ Q (.lst (slV l lo hi st)) F4 H4) E) E) E) E) :
    Ev G fr A F H (eval (.Subscript value (.Slice lower upper step p) pos) env) Q E := fun K m R s hR => by
  refine Subscript_ (h.go m hR (.refl K) fun v o F1 K1 H1 s1 l1 m1 r1 hx h1 => wpAny_Slice (h1.seq m1 r1 l1 fun o1 F2 K2 H2 s2 l2 m2 r2 h2 => h2.seq m2 r2 (l1.trans l2) fun o2 F3 K3 H3 s3 l3 m3 r3 h3 => h3.seq m3 r3 (l1.trans (l2.trans l3)) fun o3 F4 K4 H4 s4 l4 m4 r4 hq => ?_))
  obtain ⟨l, hl, hsz, h0, q⟩ := hq
  obtain ⟨a, vs, rfl, hL, hr⟩ := hl.is r4 (hx.mono (l2.trans (l3.trans l4)))
  have e := hr.toArr
  have k1 : ∀ b o, s4.heap.get? b = some o → (s4.heap.push { cls := .type "slice", data := .fields #[partValue o1, partValue o2, partValue o3] }).get? b = some o := fun b o e => Heap.get?_push_of_some _ e
  have hL' := hL.push { cls := .type "slice", data := .fields #[partValue o1, partValue o2, partValue o3] }
  have hsub : ∃ ops, subscripted (.Slice lower upper step p) false (.ref a) (.ref s4.heap.objs.size) = operate ops (getItem (.ref a) (.ref s4.heap.objs.size)) := by
    cases step with
    | none => exact ⟨_, rfl⟩
    | some e => exact ⟨_, rfl⟩
  obtain ⟨ops, hsub⟩ := hsub
  refine tail_any hL'.typeIs slot_list_getitem.lookup (wpAny_getItem_list_slice hL' ⟨_, Heap.get?_push_size _ rfl, rfl, rfl⟩ (isPart o1) (isPart o2) (isPart o3) h0 ?_ (by rw [e]; exact hsz)) hsub
  have r5 := r4.keeps (tk := s4.toks) (dr := s4.drawn) k1
  obtain ⟨le, r6⟩ := r5.newF (tk := s4.toks) (dr := s4.drawn) (D := (s4.heap.push { cls := .type "slice", data := .fields #[partValue o1, partValue o2, partValue o3] }).objs.size) (fun b o e => Heap.get?_push_of_some { cls := .type "list", data := .seq (slicePick vs (o1.map (·.1)) (o2.map (·.1)) (o3.map (·.1))) } e) (none_at_size _) (Heap.get?_push_size _ rfl)
  have hp := slicePick_rv hr (o1.map (·.1)) (o2.map (·.1)) (o3.map (·.1))
  exact ⟨_, H4, (l1.trans (l2.trans (l3.trans l4))).trans le, r6, _, .lst (vs := (slicePick vs (o1.map (·.1)) (o2.map (·.1)) (o3.map (·.1))).toList) (Fz.add_self _ _ _) rfl rfl hp.length (hp.mono le).get, F4, m4.trans le, q⟩

variable {x y : Str}
theorem ss {K : Fz} {P : Value → Value → Prop} (k : ∀ t u, P (.str x t) (.str y u)) : ∀ a b, RV K a (.str x) → RV K b (.str y) → P a b := fun _ b ha hb => ha.e_str (P := fun a => P a b) fun t => hb.e_str (k t)
theorem add_ss (hs : x.length + y.length ≤ sizeLine) (h : Q (.str (x ++ y)) F H) : Op2 G fr A F H (binaryOp .Add) (.str x) (.str y) Q E := fun K m => ss fun t u R s hR => PySem.SB.add (fun t' k => vret (hR.toks _) .str m h) hs
theorem iadd_ss (hs : x.length + y.length ≤ sizeLine) (h : Q (.str (x ++ y)) F H) : Op2 G fr A F H (inplaceOp .Add) (.str x) (.str y) Q E := fun K m => ss fun t u R s hR => PySem.SB.iadd (fun t' k => vret (hR.toks _) .str m h) hs
theorem eq_ss (h : Q (.bool (x.cps.toList == y.cps.toList)) F H) : Op2 G fr A F H (compareOp .Eq) (.str x) (.str y) Q E := fun K m => ss fun t u R s hR => PySem.P.eq_str (vret hR .bool m h)
theorem ne_ss (h : Q (.bool (x.cps.toList != y.cps.toList)) F H) : Op2 G fr A F H (compareOp .NotEq) (.str x) (.str y) Q E := fun K m => ss fun t u R s hR => PySem.P.ne_str (vret hR .bool m h)
theorem len_s (hl : x.length < 2 ^ 63) (h : Q (.int x.length) F H) : Cl G fr A F H (.blt "len") [.str x] Q E := cl_b1 fun K m v hv => hv.e_str (P := fun v => EvAt _ _ _ _ _ (call _ [v]) _ _) fun t R s hR => PySem.P.len_str (by lia) (vret (hR.toks _) .int m h)
theorem len_lst {z : V} {l : List V} (hz : LstIs H z l) (hl : l.length < 2 ^ 63) (h : Q (.int l.length) F H) : Cl G fr A F H (.blt "len") [z] Q E := cl_b1 fun K m v h1 R s hR => by
    obtain ⟨a, vs, rfl, hL, hr⟩ := hz.is hR h1
    have e := hr.toArr
    refine call_len_list hL (by rw [e]; exact_mod_cast hl) ?_
    rw [e]
    exact vret (hR.toks _) .int m h
theorem isNot_none {z : V} (h : Q (.bool (!z.isN)) F H) : Op2 G fr A F H (compareOp .IsNot) z .none Q E := fun K m a b ha hb => hb.e_none (P := fun b => EvAt _ _ _ _ _ (compareOp _ a b) _ _) fun R s hR => by
  refine PySem.isNot_none ?_
  rw [RV.isN ha]
  exact vret hR .bool m h
end
section
variable {G : Glob} {fr : List Env} {A : Around} {env : Env} {F : Fz} {H : Hp} {E : Value → Fz → Hp → Prop}
noncomputable def Tests (G : Glob) (fr : List Env) (A : Around) (env : Env) (F : Fz) (H : Hp) (ifs : List Expr) (Q : Bool → Fz → Hp → Prop) (E : Value → Fz → Hp → Prop) : Prop :=
  match ifs with
  | [] => Q true F H
  | [c] => Tp G fr A F H (isTrue c env (eval c env)) Q E
  | _ => False
theorem Tests_nil {Q : Bool → Fz → Hp → Prop} (h : Q true F H) : Tests G fr A env F H [] Q E := h
inductive Off (C : Addr) (nms : List Str) (Q : Fz → Hp → Prop) (F : Fz) (H : Hp) : Prop where
  | intro (ρ : List (Str × Option V)) (H' : Hp) (hr : Rem H C (.ns ρ) H') (hn : ρ.map (·.1) = nms) (h : Q F H')
structure Turns (G : Glob) (fr : List Env) (A : Around) (cenv : Addr → Env) (nms : List Str) (target elt : Expr) (ifs : List Expr) (l : List V) (I : Nat → List V → Fz → Hp → Prop) : Prop where
  turn : ∀ k y acc F2 H2 C ρ, l[k]? = some y → I k acc F2 H2 → ρ.map (·.1) = nms → ∀ Qn : List V → Fz → Hp → Prop, (∀ acc' F3 H3, I (k + 1) acc' F3 H3 → Qn acc' F3 H3) →
    As G fr A (cenv C) F2 ((C, .ns ρ) :: H2) target y (fun F3 H3 => Tests G fr A (cenv C) F3 H3 ifs (fun b F4 H4 =>
      if b then Ev G fr A F4 H4 (eval elt (cenv C)) (fun z F5 H5 => Off C nms (Qn (acc ++ [z])) F5 H5) No else Off C nms (Qn acc) F4 H4) No) No
theorem comp_core {elt target iter : Expr} {ifs : List Expr} {scope : Scope} {cl : List (Str × Addr)} {pos : Pos} {l : List V} {F1 K1 : Fz} {H1 R : Hp} {s1 : Shared} {x : Value} {y : V} {I : Nat → List V → Fz → Hp → Prop} {nms : List Str} {E0 : Value → Shared → Prop} {P : Value → Addr → Result → Shared → Prop}
    (m1 : F1.le K1) (hy : RV K1 x y) (r1 : Rep G fr K1 (H1 ++ R) s1) (itr : Iterable G A y l) (hsz : l.length ≤ sizeLine) (h0 : I 0 [] F1 H1) (T : Turns G fr A (fun C => compEnvC scope cl C env) nms target elt ifs l I)
    (hkind : scope.kind = .function) (hcell : ∀ z ∈ scope.names, z.2 ≠ .cell) (hnd : nms.Nodup) (ht : ∀ it v, letOwnedTupleGo target it v = pure ())
    (fin : ∀ D C acc F2 K2 H2 ρ s', (∀ e ∈ fr, e.frame ≠ some C) → K1.le K2 → Fz.le F2 K2 → I l.length acc F2 H2 → acc.length ≤ l.length → Rep G fr K2 ((C, AO.ns ρ) :: (D, AO.list acc) :: (H2 ++ R)) s' → P (.ref D) C (.ok .next) s') :
    wpAny G.M A (pyIter x) (fun it s₂ => wpAny G.M A (newList []) (fun acc s₃ => wpAny G.M A (newFunctionEnv scope env.globals cl [] env.qual none .none (some env)) (fun cenv s₄ =>
      codeAny G.M A (.compStart (.ListComp elt [⟨target, iter, ifs, 0⟩] scope pos) 0 it acc { cenv with scope := relabel scope env }) (P acc cenv.locals) s₄) E0 s₃) E0 s₂) E0 s1 := by
  refine itr K1 s1 x r1.fz hy fun it h' o J hit0 hkp hit hro Pi => ?_
  have r2 : Rep G fr K1 ((it, J 0) :: (H1 ++ R)) { s1 with heap := h' } := r1.new (tk := s1.toks) (dr := s1.drawn) hkp hit0 hit hro
  refine wpAny_newObj_type ?_
  have r3 := r2.new (D := h'.objs.size) (x := AO.list []) (tk := s1.toks) (dr := s1.drawn) (fun b o e => Heap.get?_push_of_some { cls := .type "list", data := .seq ([] : List Value).toArray } e) (none_at_size _) (Heap.get?_push_size _ rfl) ⟨#[], 0, rfl, .nil⟩
  refine wpAny_newFunctionEnv hcell (by intro y hy; simp at hy) (fun h₁ hns₁ hsb₁ => ?_) hkind
  generalize hH2 : (h'.push { cls := .type "list", dict := none, data := .seq ([] : List Value).toArray }) = H2 at hns₁ hsb₁ r3
  have r4 : Rep G fr K1 ((H2.objs.size, AO.ns (nms.map fun n => (n, none))) :: (h'.objs.size, AO.list []) :: (it, J 0) :: (H1 ++ R)) { s1 with heap := h₁, toks := s1.toks + ([] : List (Str × Value)).length } := by
    obtain ⟨o, es, ep, ho, hd, hk, hf⟩ := hns₁
    refine r3.new (s := { s1 with heap := H2 }) (D := H2.objs.size) (tk := s1.toks + ([] : List (Str × Value)).length) (dr := s1.drawn) (fun b o e => hsb₁.extBut b o (Nat.ne_of_lt (Heap.lt_size e)) (Heap.get?_push_of_some _ e)) (none_at_size _) ho ⟨es, ep, hd, hk, ?_, fun p hp => ?_⟩
    · rw [List.map_map]
      have : ((fun x : Str × Option V => x.1) ∘ fun n => (n, none)) = id := rfl
      rw [this, List.map_id]
      exact hnd
    · obtain ⟨n, _, rfl⟩ := List.mem_map.mp hp
      trivial
  have hfrC : ∀ e ∈ fr, e.frame ≠ some H2.objs.size := fun e he q => by
    obtain ⟨L, ρ, q', m⟩ := (r3.frs e he).2
    obtain ⟨_, o, g, _⟩ := r3.own _ m
    rw [Option.some.inj (q'.symm.trans q)] at g
    exact absurd (Heap.lt_size g) (Nat.lt_irrefl _)
  generalize hC : H2.objs.size = C at r4 hfrC
  generalize hD : h'.objs.size = D at r4
  generalize hs4 : ({ s1 with heap := h₁, toks := s1.toks + ([] : List (Str × Value)).length } : Shared) = s4 at r4
  have goal : codeAny G.M A (.compLoop (.ListComp elt [⟨target, iter, ifs, 0⟩] scope pos) 0 (.ref it) (.ref D) (compEnvC scope cl C env)) (P (.ref D) C) s4 := by
    refine codeAny_compLoop_tests (I := fun n s => ∃ k acc F2 K2 H2 ρ, n + k = l.length ∧ acc.length ≤ k ∧ K1.le K2 ∧ Fz.le F2 K2 ∧ ρ.map (·.1) = nms ∧ Rep G fr K2 ((C, AO.ns ρ) :: (D, AO.list acc) :: (it, J k) :: (H2 ++ R)) s ∧ I k acc F2 H2)
      (fun n s hI => ?_) l.length ⟨0, [], F1, K1, H1, nms.map fun n => (n, none), by lia, Nat.le_refl _, .refl K1, m1, ?_, r4, h0⟩ (ht _)
    · obtain ⟨k, acc, F2, K2, H2, ρ, hnk, hak, l2, m2, hρ, r, hI⟩ := hI
      have hro : ∃ o, s.heap.get? it = some o ∧ RO G.w K2 o (J k) := (r.own (it, _) (.tail _ (.tail _ (.head _)))).2
      cases hv : l[k]? with
      | none =>
        have hk : l.length ≤ k := pick.mp hv
        have hkl : k = l.length := by lia
        subst hkl
        refine Pi.fin s K2 l2 hro r.fz fun h'' he => ?_
        have r5 : Rep G fr K2 ((it, J l.length) :: (C, AO.ns ρ) :: (D, AO.list acc) :: (H2 ++ R)) s := r.perm (((List.Perm.swap _ _ _).cons _).trans (.swap ..))
        have r6 : Rep G fr K2 ((C, AO.ns ρ) :: (D, AO.list acc) :: (H2 ++ R)) { s with heap := h'' } := by
          have d := r5.dropNot (Pi.notNs _)
          have nit : ∀ p ∈ (C, AO.ns ρ) :: (D, AO.list acc) :: (H2 ++ R), p.1 ≠ it := fun p hp q => (List.nodup_cons.mp r5.nd).1 (mem_keys hp q)
          have fit : K2 it = none := (r5.own _ (.head _)).1
          exact ⟨d.gok, d.base, fun b o e => he b o (fun q => by subst q; rw [fit] at e; cases e) (d.fz b o e), fun p hp => let ⟨n, o, g, rr⟩ := d.own p hp; ⟨n, o, he _ _ (nit p hp) g, rr⟩, d.nd, d.frs, d.gens, d.os⟩
        exact fin D C acc F2 K2 H2 ρ _ hfrC l2 m2 hI hak r6
      | some y =>
        have hk : k < l.length := by
          rcases Nat.lt_or_ge k l.length with q | q
          · exact q
          · rw [List.getElem?_eq_none q] at hv; cases hv
        refine Pi.item k y s K2 l2 hro r.fz hv fun v h'' o tk rv ho hro' hs => ?_
        have r5 : Rep G fr K2 ((it, J k) :: (C, AO.ns ρ) :: (D, AO.list acc) :: (H2 ++ R)) s := r.perm (((List.Perm.swap _ _ _).cons _).trans (.swap ..))
        have r6 := r5.upd (h' := h'') (tk := tk) (dr := s.drawn) (o' := o) (x' := J (k + 1)) hs.extBut ho hro' (fun hq => by obtain ⟨ρ, q⟩ := hq; exact absurd q (Pi.notNs k ρ))
        have r7 : Rep G fr K2 (((C, AO.ns ρ) :: H2) ++ ((D, AO.list acc) :: (it, J (k + 1)) :: R)) { s with heap := h'', toks := tk } := by
          refine r6.perm ?_
          show List.Perm _ ((C, AO.ns ρ) :: (H2 ++ ((D, AO.list acc) :: (it, J (k + 1)) :: R)))
          refine (List.Perm.swap _ _ _).trans (List.Perm.cons _ ?_)
          refine (List.Perm.swap _ _ _).trans ?_
          refine List.Perm.trans ?_ List.perm_middle.symm
          refine List.Perm.cons _ ?_
          exact List.perm_middle.symm
        have back : ∀ {F3 H3 acc' s'}, Rep G fr F3 (H3 ++ ((D, AO.list acc') :: (it, J (k + 1)) :: R)) s' → ∀ {ρ' H4}, Rem H3 C (.ns ρ') H4 → Rep G fr F3 ((C, AO.ns ρ') :: (D, AO.list acc') :: (it, J (k + 1)) :: (H4 ++ R)) s' := fun {F3 H3 acc' s'} r {ρ' H4} hr => by
          refine r.perm ((hr.perm.append_right _).trans ?_)
          show List.Perm ((C, AO.ns ρ') :: (H4 ++ ((D, AO.list acc') :: (it, J (k + 1)) :: R))) _
          refine List.Perm.cons _ ?_
          refine List.perm_middle.trans (List.Perm.cons _ ?_)
          exact List.perm_middle
        have noE : ∀ e s', PQ G fr K2 ((D, AO.list acc) :: (it, J (k + 1)) :: R) (fun e => Dn (No e)) e s' → notedBy G.M A (compEnvC scope cl C env) (fun e s' => P (.ref D) C (.error e) s') e s' := fun e _ q => (noPQ (v := e) q).elim
        refine wpAny_mono ((T.turn k y acc F2 H2 C ρ hv hI hρ (I (k + 1)) (fun _ _ _ q => q) K2 m2 v rv).seq r7 (.refl K2) (P := fun _ s₂ => wpAny G.M A (forIn ifs true fun c r => if r = true then do let ok ← isTrue c (compEnvC scope cl C env) (eval c (compEnvC scope cl C env)); pure (ForInStep.yield ok) else pure (ForInStep.yield r)) (fun ok s₃ =>
            if ok = true then wpAny G.M A (eval elt (compEnvC scope cl C env)) (fun x s₄ =>
              wpAny G.M A (call (.builtin "list.append") [.ref D, x]) (fun _ s₅ => ∃ m, m < n ∧ ∃ k acc F2 K2 H2 ρ, m + k = l.length ∧ acc.length ≤ k ∧ K1.le K2 ∧ Fz.le F2 K2 ∧ ρ.map (·.1) = nms ∧ Rep G fr K2 ((C, AO.ns ρ) :: (D, AO.list acc) :: (it, J k) :: (H2 ++ R)) s₅ ∧ I k acc F2 H2) (PQ G fr K2 ((D, AO.list acc) :: (it, J (k + 1)) :: R) fun e => Dn (No e)) s₄) (PQ G fr K2 ((D, AO.list acc) :: (it, J (k + 1)) :: R) fun e => Dn (No e)) s₃
            else ∃ m, m < n ∧ ∃ k acc F2 K2 H2 ρ, m + k = l.length ∧ acc.length ≤ k ∧ K1.le K2 ∧ Fz.le F2 K2 ∧ ρ.map (·.1) = nms ∧ Rep G fr K2 ((C, AO.ns ρ) :: (D, AO.list acc) :: (it, J k) :: (H2 ++ R)) s₃ ∧ I k acc F2 H2) (PQ G fr K2 ((D, AO.list acc) :: (it, J (k + 1)) :: R) fun e => Dn (No e)) s₂) fun _ K3 H3 s3 l3 r3' hq => ?_) (fun _ s₂ h₂ => wpAny_mono h₂ (fun ok s₃ h₃ => ?_) noE) noE
        · obtain ⟨F3, m3, q⟩ := hq
          have after : ∀ (b : Bool) F4 K4 H4 s4, K3.le K4 → Fz.le F4 K4 → Rep G fr K4 (H4 ++ ((D, AO.list acc) :: (it, J (k + 1)) :: R)) s4 → (if b then Ev G fr A F4 H4 (eval elt (compEnvC scope cl C env)) (fun z F5 H5 => Off C nms (I (k + 1) (acc ++ [z])) F5 H5) No else Off C nms (I (k + 1) acc) F4 H4) →
              if b = true then wpAny G.M A (eval elt (compEnvC scope cl C env)) (fun x s₄ =>
              wpAny G.M A (call (.builtin "list.append") [.ref D, x]) (fun _ s₅ => ∃ m, m < n ∧ ∃ k acc F2 K2 H2 ρ, m + k = l.length ∧ acc.length ≤ k ∧ K1.le K2 ∧ Fz.le F2 K2 ∧ ρ.map (·.1) = nms ∧ Rep G fr K2 ((C, AO.ns ρ) :: (D, AO.list acc) :: (it, J k) :: (H2 ++ R)) s₅ ∧ I k acc F2 H2) (PQ G fr K2 ((D, AO.list acc) :: (it, J (k + 1)) :: R) fun e => Dn (No e)) s₄) (PQ G fr K2 ((D, AO.list acc) :: (it, J (k + 1)) :: R) fun e => Dn (No e)) s4
            else ∃ m, m < n ∧ ∃ k acc F2 K2 H2 ρ, m + k = l.length ∧ acc.length ≤ k ∧ K1.le K2 ∧ Fz.le F2 K2 ∧ ρ.map (·.1) = nms ∧ Rep G fr K2 ((C, AO.ns ρ) :: (D, AO.list acc) :: (it, J k) :: (H2 ++ R)) s4 ∧ I k acc F2 H2 := by
            intro b F4 K4 H4 s4 l4 m4 r4' q
            cases b with
            | true =>
              refine (show Ev _ _ _ _ _ _ _ _ from q).go m4 r4' (l3.trans l4) fun x z F5 K5 H5 s5 l5 m5 r5' hz hq => ?_
              obtain ⟨ρ', H6, hrem, hρ', q⟩ := hq
              have r8 := back r5' hrem
              have r9 : Rep G fr K5 ((D, AO.list acc) :: ((C, AO.ns ρ') :: (it, J (k + 1)) :: (H6 ++ R))) s5 := r8.perm (.swap ..)
              have ap : EvAt G fr A K5 [(D, AO.list acc)] (call (.builtin "list.append") [.ref D, x]) (fun v F6 H6' => H6' = [(D, AO.list (acc ++ [z]))]) No :=
                append (F := K5) .hd (by lia) rfl K5 (.refl K5) (.builtin "list.append") [.ref D, x] .blt (.cons .ref (.cons hz .nil))
              refine wpAny_mono (EvAt.go (R := (C, AO.ns ρ') :: (it, J (k + 1)) :: (H6 ++ R)) ap r9 (.refl K5) (P := fun _ s₅ => ∃ m, m < n ∧ ∃ k acc F2 K2 H2 ρ, m + k = l.length ∧ acc.length ≤ k ∧ K1.le K2 ∧ Fz.le F2 K2 ∧ ρ.map (·.1) = nms ∧ Rep G fr K2 ((C, AO.ns ρ) :: (D, AO.list acc) :: (it, J k) :: (H2 ++ R)) s₅ ∧ I k acc F2 H2)
                fun v _ _ K6 H6' s6 l6 _ r10 _ e2 => ?_) (fun _ _ x => x) (fun e _ q => (noPQ (v := e) q).elim)
              subst e2
              exact ⟨n - 1, by lia, k + 1, acc ++ [z], F5, K6, H6, ρ', by lia, by simp; lia, l2.trans (l3.trans (l4.trans (l5.trans l6))), m5.trans l6, hρ', r10.perm (.swap ..), q⟩
            | false =>
              obtain ⟨ρ', H6, hrem, hρ', q⟩ := q
              exact ⟨n - 1, by lia, k + 1, acc, F4, K4, H6, ρ', by lia, by lia, l2.trans (l3.trans l4), m4, hρ', back r4' hrem, q⟩
          match ifs, q with
          | [], q => exact wpAny_tests_nil (after true F3 K3 H3 s3 (.refl K3) m3 r3' q)
          | [c], q => exact wpAny_tests_one ((show Tp _ _ _ _ _ _ _ _ from q).seq m3 r3' l3 fun b F4 K4 H4 s4 l4 m4 r4' q => after b F4 K4 H4 s4 l4 m4 r4' q)
          | _ :: _ :: _, q => exact q.elim
        · cases ok with
          | true => exact wpAny_mono (show wpAny _ _ _ _ _ _ from h₃) (fun x s₄ h₄ => wpAny_mono h₄ (fun _ _ x => x) noE) noE
          | false => exact h₃
    · rw [List.map_map]
      have : ((fun x : Str × Option V => x.1) ∘ fun n => (n, none)) = id := rfl
      rw [this, List.map_id]
  have e1 : ({ newEnv scope C env.globals cl env.qual none .none (some env) builtinsNs with scope := relabel scope env } : Env) = compEnvC scope cl C env := rfl
  subst hC hD hs4
  exact codeAny_compStart_list goal (Pi.self 0 _ K1 (r4.own (it, _) (.tail _ (.tail _ (.head _)))).2 goal)
theorem Rep.other {s : Shared} {h' : Heap} {C : Addr} {x : AO} (r : Rep G fr F ((C, x) :: H) s) (hfr : ∀ e ∈ fr, e.frame ≠ some C) (hs : Heap.SameBut C s.heap h') : Rep G fr F H { s with heap := h' } := by
  have d := r.drop hfr
  have fC : F C = none := (r.own _ (.head _)).1
  have nC : ∀ p ∈ H, p.1 ≠ C := fun p hp q => (List.nodup_cons.mp r.nd).1 (mem_keys hp q)
  exact ⟨d.gok, d.base, fun b o e => hs.extBut b o (fun q => by subst q; rw [fC] at e; cases e) (d.fz b o e), fun p hp => let ⟨n, o, g, rr⟩ := d.own p hp; ⟨n, o, hs.extBut _ _ (nC p hp) g, rr⟩, d.nd, d.frs, d.gens, d.os⟩
theorem names_ok {scope : Scope} (h : (scope.names.all fun x => (x.2 != .local) || decide (scope.names.lookup x.1 = some .local)) = true) : ∀ x ∈ scope.names, x.2 = .local → scope.names.lookup x.1 = some .local := fun x hx hl => by
  have := List.all_eq_true.mp h x hx
  rw [hl] at this
  simpa using this
theorem Ev_ListComp {elt target iter : Expr} {ifs : List Expr} {scope : Scope} {cl : List (Str × Addr)} {pos : Pos} {Q : V → Fz → Hp → Prop} (nms : List Str)
    (hclos : closureFor scope env = pure cl)
    (h : Ev G fr A F H (eval iter env) (fun y F1 H1 => ∃ l, Iterable G A y l ∧ l.length ≤ sizeLine ∧ ∃ I : Nat → List V → Fz → Hp → Prop, I 0 [] F1 H1 ∧ Turns G fr A (fun C => compEnvC scope cl C env) nms target elt ifs l I ∧
      ∀ acc F2 H2, I l.length acc F2 H2 → Q (.lst acc) F2 H2) E)
    (hnd : nms.Nodup) (hcell : (scope.names.all fun x => x.2 != .cell) = true := by rfl) (hkind : scope.kind = .function := by rfl) (hnames : (scope.names.all fun x => (x.2 != .local) || decide (scope.names.lookup x.1 = some .local)) = true := by rfl)
    (hs : ∀ x, foldedSetIterable iter env x = pure x := by intro _; rfl) (ht : ∀ it v, letOwnedTupleGo target it v = pure () := by intro _ _; rfl) :
    Ev G fr A F H (eval (.ListComp elt [⟨target, iter, ifs, 0⟩] scope pos) env) Q E := fun K m R s hR => by
  rw [eval_ListComp]
  refine wpAny_comprehension_free (use := none) rfl hs hclos hkind (names_ok hnames) (h.go m hR (.refl K) fun x y F1 K1 H1 s1 l1 m1 r1 hy hq => ?_)
  obtain ⟨l, itr, hsz, I, h0, T, fin⟩ := hq
  refine comp_core m1 hy r1 itr hsz h0 T hkind (fun z hz => by simpa using List.all_eq_true.mp hcell z hz) hnd ht fun D C acc F2 K2 H2 ρ s' hfr l2 m2 hI hak r => ?_
  obtain ⟨o, ho, hro⟩ := (r.own _ (.head _)).2
  obtain ⟨ms, hn, _, _⟩ := nsOf ho hro
  refine ⟨ms, hn, fun h' hs' => ?_⟩
  obtain ⟨K3, l3, r3, hv⟩ := list_freeze (H := H2) (R := R) (r.other hfr hs')
  exact ⟨K3, H2, l1.trans (l2.trans l3), r3, _, hv, F2, m2.trans l3, fin acc F2 H2 hI⟩
theorem Ex_Assign_ListComp {elt target iter : Expr} {ifs : List Expr} {scope : Scope} {cl : List (Str × Addr)} {pos py spos : Pos} {y : Str} {Q : FV → Fz → Hp → Prop} (nms : List Str)
    (hclos : closureFor scope env = pure cl)
    (h : Ev G fr A F H (eval iter env) (fun x F1 H1 => ∃ l, Iterable G A x l ∧ l.length ≤ sizeLine ∧ ∃ I : Nat → List V → Fz → Hp → Prop, I 0 [] F1 H1 ∧ Turns G fr A (fun C => compEnvC scope cl C env) nms target elt ifs l I ∧
      ∀ acc F2 H2, I l.length acc F2 H2 → Store env y (.lst acc) F2 H2 (Q .next)) E)
    (hnd : nms.Nodup) (hsw : swapsWith (.ListComp elt [⟨target, iter, ifs, 0⟩] scope pos) (some (.Name y py)) spos.line env = pure true := by rfl) (hcell : (scope.names.all fun x => x.2 != .cell) = true := by rfl) (hkind : scope.kind = .function := by rfl) (hnames : (scope.names.all fun x => (x.2 != .local) || decide (scope.names.lookup x.1 = some .local)) = true := by rfl)
    (hk : env.scope.kind = .function := by rfl) (hl : env.kindOf y = some .local := by rfl)
    (hs : ∀ x, foldedSetIterable iter env x = pure x := by intro _; rfl) (ht : ∀ it v, letOwnedTupleGo target it v = pure () := by intro _ _; rfl) :
    Ex G fr A F H (exec (.Assign [.Name y py] (.ListComp elt [⟨target, iter, ifs, 0⟩] scope pos) spos) env) Q E := fun K m R s hR => by
  rw [exec_Assign_Name_used _ _ _ _ hsw]
  refine wpAny_bind (wpAny_standAt (wpAny_bind ?_))
  show wpAny _ A (do let _ ← comprehension (.ListComp elt [⟨target, iter, ifs, 0⟩] scope pos) scope env _ (newList []) false (eval iter env) (some (assign (.Name y py) env))) _ _ s
  refine wpAny_bind (wpAny_mono (wpAny_comprehension_free (use := some (assign (.Name y py) env)) (Q := fun _ s' => PQ G fr K R (FQ Q) .next s') rfl hs hclos hkind (names_ok hnames)
    (h.go m hR (.refl K) fun x y' F1 K1 H1 s1 l1 m1 r1 hy hq => ?_)) (fun _ s' hq => wpAny_pure (wpAny_pure hq)) fun _ _ e => e)
  obtain ⟨l, itr, hsz, I, h0, T, fin⟩ := hq
  refine comp_core m1 hy r1 itr hsz h0 T hkind (fun z hz => by simpa using List.all_eq_true.mp hcell z hz) hnd ht fun D C acc F2 K2 H2 ρ s' hfr l2 m2 hI hak r => ?_
  obtain ⟨K3, l3, r3, hv⟩ := list_freeze (H := (C, AO.ns ρ) :: H2) (R := R) (r.perm (.swap ..))
  have l13 := l1.trans (l2.trans l3)
  show wpAny _ A (assign (.Name y py) env (.ref D)) _ _ s'
  refine wpAny_mono (wpAny_assign_Name (TpAt.seq (R := (C, AO.ns ρ) :: R) (P := fun _ s'' => ∃ m, s''.heap.Ns C m ∧ ∀ h', Heap.SameBut C s''.heap h' → PQ G fr K R (FQ Q) .next { s'' with heap := h' })
    (store (G := G) (fr := fr) (A := A) (E := E) (m2.trans l3) hv (fin acc F2 H2 hI) hk hl) (r3.perm List.perm_middle.symm) (.refl K3) fun _ K4 H4 s4 l4 r4 hq => ?_)) (fun _ _ x => x) fun e s5 hq => ?_
  · obtain ⟨F4, m4, q⟩ := hq
    have r5 : Rep G fr K4 ((C, AO.ns ρ) :: (H4 ++ R)) s4 := r4.perm List.perm_middle
    obtain ⟨o, ho, hro⟩ := (r5.own _ (.head _)).2
    obtain ⟨ms, hn, _, _⟩ := nsOf ho hro
    exact ⟨ms, hn, fun h' hs' => upPQ (l13.trans l4) (fret (r5.other hfr hs') .next m4 q)⟩
  · obtain ⟨K5, H5, l5, r5, q⟩ := hq
    exact ⟨K5, H5, l13.trans l5, (r5.perm List.perm_middle).drop hfr, q⟩
end
section
variable {G : Glob} {fr : List Env} {A : Around} {env : Env} {F : Fz} {H H' : Hp} {E : Value → Fz → Hp → Prop} {Q : V → Fz → Hp → Prop} {i j : Int}
theorem mod_ii (hj : j ≠ 0) (h : Q (.int (i.fmod j)) F H) : Op2 G fr A F H (binaryOp .Mod) (.int i) (.int j) Q E := fun K m => ii fun t u R s hR => PySem.AutoIntOps.mod_1 (by simpa using hj) (vret (hR.toks _) .int m h)
theorem Ex_AugAssign {ρ : List (Str × Option V)} {x : Str} {y : V} {pos' op value pos} {Q : FV → Fz → Hp → Prop} (hm : Has H env.locals (.ns ρ)) (hx : Lk ρ x y)
    (h : Ev G fr A F H (eval value env) (fun z F1 H1 => Op2 G fr A F1 H1 (inplaceOp op) y z (fun r F2 H2 => Store env x r F2 H2 (Q .next)) E) E)
    (hk : env.scope.kind = .function := by rfl) (hl : env.kindOf x = some .local := by rfl) : Ex G fr A F H (exec (.AugAssign (.Name x pos') op value pos) env) Q E := fun K m R s hR => by
  obtain ⟨o, ho, r⟩ := hR.has hm
  obtain ⟨ms, hn, nd, hp⟩ := nsOf ho r
  obtain ⟨v, hv, hr⟩ := hp _ hx.mem
  refine wpAny_AugAssign_Name (wpAny_loadName_local hk hl hn hv (h.go m hR (.refl K) fun b z F1 K1 H1 s1 l1 m1 r1 hz h1 => (h1 K1 m1 v b (hr.mono l1) hz).go r1 l1 fun c q F2 K2 H2 s2 l2 m2 r2 hq hqq => ?_))
  exact (store m2 hq hqq hk hl).seq r2 (l1.trans l2) fun _ K3 H3 s3 l3 r3 hq => by
    obtain ⟨F3, m3, q⟩ := hq
    exact upPQ (l1.trans (l2.trans l3)) (fret r3 .next m3 q)
theorem range1 (h : Q (.rng 0 i 1) F H) : Cl G fr A F H (.typ "range") [.int i] Q E := cl_t1 fun K m v hv => by
    refine hv.e_int (P := fun v => EvAt _ _ _ _ _ (call _ [v]) _ _) fun t R s hR => ?_
    refine call_range_1 ?_
    obtain ⟨le, r⟩ := hR.newF (tk := s.toks + 1 + 1) (dr := s.drawn) (fun b o e => Heap.get?_push_of_some { cls := .type "range", data := .fields #[.int 0 s.toks, .int i _, .int 1 (s.toks + 1)] } e) (none_at_size s.heap) (Heap.get?_push_size s.heap rfl)
    exact ⟨_, H, le, r, _, .rng (Fz.add_self _ _ _), F, m.trans le, h⟩
theorem rngV_n (n : Nat) : rngV 0 n 1 = (List.range n).map fun (k : Nat) => .int k := by
  have e : (Builtin.Range.rangeSize 0 n 1).toNat = n := by
    unfold Builtin.Range.rangeSize
    simp
    split <;> lia
  unfold rngV
  rw [e]
  simp
theorem small_n {n : Nat} (h : n < 2 ^ 62) : Builtin.Range.small 0 n 1 = true := by
  have e : Builtin.Range.rangeSize 0 n 1 = n := by
    unfold Builtin.Range.rangeSize
    simp
    try lia
  unfold Builtin.Range.small
  rw [e]
  simp [Builtin.Range.rangeFitsLong]
  lia
theorem RVs.set {vs : List Value} {l : List V} {v : Value} {y : V} (h : RVs F vs l) (n : Nat) (hv : RV F v y) : RVs F (vs.set n v) (l.set n y) := by
  induction h generalizing n with
  | nil => exact .nil
  | cons h t ih =>
    cases n with
    | zero => exact .cons hv t
    | succ n => exact .cons h (ih n)
theorem Ex_Assign_item {o i' : Expr} {pos' value pos} {Q : FV → Fz → Hp → Prop}
    (h : Ev G fr A F H (eval value env) (fun y F1 H1 => Ev G fr A F1 H1 (eval o env) (fun x F2 H2 => Ev G fr A F2 H2 (eval i' env) (fun z F3 H3 => ∃ a l k H4, x = .ref a ∧ z = .int k ∧ 0 ≤ k ∧ k < l.length ∧ l.length < 2 ^ 63 ∧ Upd H3 a (.list l) (.list (l.set k.toNat y)) H4 ∧ Q .next F3 H4) E) E) E)
    (hs : swapsWith value (some (.Subscript o i' pos')) pos.line env = pure false := by rfl) : Ex G fr A F H (exec (.Assign [.Subscript o i' pos'] value pos) env) Q E := fun K m R s hR => by
  refine wpAny_Assign_Subscript (h.go m hR (.refl K) fun v y F1 K1 H1 s1 l1 m1 r1 hy h1 => h1.go m1 r1 l1 fun ov x F2 K2 H2 s2 l2 m2 r2 hx h2 => h2.go m2 r2 (l1.trans l2) fun iv z F3 K3 H3 s3 l3 m3 r3 hz hq => ?_) hs
  obtain ⟨a, l, k, H4, rfl, rfl, k0, k1, k2, hu, q⟩ := hq
  obtain rfl := hx.i_ref
  refine hz.e_int (P := fun iv => wpAny _ _ (setItem _ iv _) _ _ _) fun t => ?_
  obtain ⟨ob, ho, items, n, rfl, hr⟩ := r3.get hu.mem
  have e := hr.toArr
  refine ki_setAt ho k0 (by lia) (by rw [e]; exact k1) ?_
  have g := Heap.get?_update_self (Obj.mapSeq (·.setIfInBounds k.toNat v)) ho rfl
  refine ⟨K3, H4, l1.trans (l2.trans l3), r3.upd' (tk := s3.toks) (dr := s3.drawn) hu (Heap.SameBut.update ..).extBut g ⟨items.setIfInBounds k.toNat v, n, ?_, ?_⟩ notNs_list, .next, .next, F3, m3, q⟩
  · simp [Obj.mapSeq]
  · rw [Array.toList_setIfInBounds]
    exact hr.set k.toNat (hy.mono (l2.trans l3))
end
section
variable {G : Glob} {fr : List Env} {A : Around} {env : Env} {F : Fz} {H H' : Hp} {E : Value → Fz → Hp → Prop} {Q : V → Fz → Hp → Prop}
theorem Ev_Attribute {value : Expr} {attr : Str} {pos : Pos} (h : Ev G fr A F H (eval value env) (fun x F1 H1 => Op1 G fr A F1 H1 (fun v => getAttr v attr true) x Q E) E)
    (he : eval (.Attribute value attr pos) env = (do
      let o ← eval value env
      standAt pos.atName
      let r ← holding [o] (getAttr o attr true)
      letTemporaryGo value o r
      pure r) := by with_unfolding_all rfl) : Ev G fr A F H (eval (.Attribute value attr pos) env) Q E := fun K m R s hR =>
  Attribute_any_ (h.go m hR (.refl K) fun v x F1 K1 H1 s1 l1 m1 r1 hx h1 => (h1 K1 m1 v hx).last r1 l1) he
noncomputable def noBlt : V → Prop
  | .blt _ => False
  | _ => True
theorem noBlt.handed {v : Value} {y : V} (h : noBlt y) (hv : RV F v y) : handedOut v = pure v := by
  cases hv <;> first | rfl | exact h.elim
theorem get_exc {x D : Addr} {c : String} {args : List V} {tb : Option Addr} {cx : Bool} {ρ : List (Str × V)} {name : Str} {y : V} (hx : Has H x (.exc "Exception" args tb (some D) cx)) (hD : Has H D (.attrs ρ)) (hy : ρ.lookup name = some y) (hn : noBlt y) (hB : typeLookup (.type "Exception") name = pure none) (h : Q y F H) :
    Op1 G fr A F H (fun v => getAttr v name true) (.ref x) Q E := fun K m v hv R s hR => by
  obtain rfl := hv.i_ref
  obtain ⟨o, ho, vs, a, v5, hc, hd, hdt, _⟩ := hR.has hx
  obtain ⟨oD, hoD, es, ep, hed, hk, hu, hf⟩ := hR.has hD
  have := hf name
  rw [hy] at this
  obtain ⟨v, hv, hr⟩ := this
  exact exc_get ho hc hd hdt ⟨oD, es, ep, hoD, hed, hk, fun _ => rfl⟩ hv hB (hn.handed hr) (vret (hR.toks _) hr m h)
noncomputable def SetA (G : Glob) (fr : List Env) (A : Around) (F : Fz) (H : Hp) (attr : Str) (x y : V) (Q : Fz → Hp → Prop) (E : Value → Fz → Hp → Prop) : Prop := ∀ K, F.le K → ∀ a v, RV K a x → RV K v y → TpAt G fr A K H (setAttr a attr v) (fun _ => Dn Q) E
theorem Ex_Assign_Attr {o : Expr} {attr : Str} {pos' value pos} {Q : FV → Fz → Hp → Prop}
    (h : Ev G fr A F H (eval value env) (fun y F1 H1 => Ev G fr A F1 H1 (eval o env) (fun x F2 H2 => SetA G fr A F2 H2 attr x y (Q .next) E) E) E)
    (hs : swapsWith value (some (.Attribute o attr pos')) pos.line env = pure false := by rfl) : Ex G fr A F H (exec (.Assign [.Attribute o attr pos'] value pos) env) Q E := fun K m R s hR =>
  plainObj_wpAny_Assign_Attribute (h.go m hR (.refl K) fun v y F1 K1 H1 s1 l1 m1 r1 hy h1 => h1.go m1 r1 l1 fun a x F2 K2 H2 s2 l2 m2 r2 hx h2 =>
    (h2 K2 m2 a v hx (hy.mono l2)).seq r2 (l1.trans l2) fun _ K3 H3 s3 l3 r3 hq => by
      obtain ⟨F3, m3, q⟩ := hq
      exact upPQ (l1.trans (l2.trans l3)) (fret r3 .next m3 q)) hs
theorem lookup_cons' {ρ : List (Str × V)} {name n : Str} {y : V} : ((name, y) :: ρ).lookup n = if n = name then some y else ρ.lookup n := by
  by_cases e : n = name
  · subst e; simp [List.lookup]
  · have hne : (n == name) = false := beq_eq_false_iff_ne.mpr e
    simp [List.lookup, hne, e]
theorem attrs_of {w : World} {h : Heap} {D : Addr} {ρ : List (Str × V)} {m : Str → Option Value} {name : Str} {v : Value} {y : V} (hn : h.Ns1 D (fun z => if z = name then some v else m z)) (hv : RV F v y) (hm : ∀ n, match ρ.lookup n with | none => m n = none | some x => ∃ v, m n = some v ∧ RV F v x) :
    ∃ o, h.get? D = some o ∧ RO w F o (.attrs ((name, y) :: ρ)) := by
  obtain ⟨o, es, ep, ho, hd, hk, hu, hf⟩ := hn
  refine ⟨o, ho, es, ep, hd, hk, hu, fun n => ?_⟩
  rw [lookup_cons', hf n]
  dsimp only
  by_cases e : n = name
  · rw [if_pos e, if_pos e]; exact ⟨v, rfl, hv⟩
  · rw [if_neg e, if_neg e]; exact hm n
theorem set_exc {x D : Addr} {args : List V} {tb : Option Addr} {cx : Bool} {ρ : List (Str × V)} {name : Str} {y : V} {Q : Fz → Hp → Prop} (hx : Has H x (.exc "Exception" args tb (some D) cx)) (hD : Upd H D (.attrs ρ) (.attrs ((name, y) :: ρ)) H') (hsz : ρ.length + 1 ≤ sizeLine) (hB : typeLookup (.type "Exception") name = pure none) (h : Q F H') :
    SetA G fr A F H name (.ref x) y Q E := fun K m a v ha hv R s hR => by
  obtain rfl := ha.i_ref
  obtain ⟨o, ho, vs, a, v5, hc, hd, hdt, _⟩ := hR.has hx
  obtain ⟨oD, hoD, es, ep, hed, hk, hu, hf⟩ := hR.get hD.mem
  have hn1 : s.heap.Ns1 D (fun n => nsFind es n) := ⟨oD, es, ep, hoD, hed, hk, hu, fun _ => rfl⟩
  refine exc_set ho hc fun tk P E' A' hP => excset_more (ns := ρ.map (·.1)) ho hc hd hdt hB hn1 (fun n hne => ?_) (by rw [List.length_map]; exact hsz) fun h' tk' hn' hs' => hP _ ?_
  · have := hf n
    cases q : ρ.lookup n with
    | none => rw [q] at this; exact absurd this hne
    | some z =>
      have : ∀ {l : List (Str × V)} {n : Str} {z : V}, l.lookup n = some z → n ∈ l.map (·.1) := by
        intro l
        induction l with
        | nil => intro n z h; cases h
        | cons p l ih =>
          intro n z h
          rw [lookup_cons'] at h
          by_cases e : n = p.1
          · exact e ▸ .head _
          · rw [if_neg e] at h; exact .tail _ (ih h)
      exact this q
  · obtain ⟨o', ho', r'⟩ := attrs_of (w := G.w) hn' hv hf
    exact ⟨K, H', .refl K, hR.upd' (tk := tk') (dr := s.drawn) hD hs'.extBut ho' r' notNs_attrs, F, m, h⟩
theorem Rep.adopt {s : Shared} {D : Addr} {o : Obj} {x : AO} (h : Rep G fr F H s) (hF : F D = none) (hH : D ∉ H.map (·.1)) (ho : s.heap.get? D = some o) (r : RO G.w F o x) : Rep G fr F ((D, x) :: H) s :=
  ⟨h.gok, h.base, h.fz, fun p hp => by
    cases hp with
    | head => exact ⟨hF, o, ho, r⟩
    | tail _ hp => exact h.own p hp, List.nodup_cons.mpr ⟨hH, h.nd⟩, fun e he => ⟨(h.frs e he).1, let ⟨L, ρ, a, b⟩ := (h.frs e he).2; ⟨L, ρ, a, .tail _ b⟩⟩, h.gens, h.os⟩
theorem set_exc_first {x : Addr} {args : List V} {name : Str} {y : V} {H1 : Hp} {cx : Bool} {Q : Fz → Hp → Prop} (hx : Rem H x (.exc "Exception" args none none cx) H1) (hB : typeLookup (.type "Exception") name = pure none)
    (h : ∀ D, Q F ((D, .attrs [(name, y)]) :: (x, .exc "Exception" args none (some D) cx) :: H1)) :
    SetA G fr A F H name (.ref x) y Q E := fun K m a v ha hv R s hR => by
  obtain rfl := ha.i_ref
  have r1 := hR.perm (hx.perm.append_right R)
  obtain ⟨_, o, ho, hro⟩ := r1.own _ (.head _)
  obtain ⟨vs, a, v5, hc, hd, hdt, h0, ha, h1, h5, h5s, hcx⟩ := id hro
  refine exc_set ho hc fun tk P E' A' hP => excset_first ho hc hd hdt hB fun h' tk' D hD hx' hn' hk => hP _ ?_
  have r2 : Rep G fr K ((x, .exc "Exception" args none (some D) cx) :: (H1 ++ R)) { s with heap := h', toks := tk' } :=
    Rep.upd (dr := s.drawn) (x := .exc "Exception" args none none cx) (x' := .exc "Exception" args none (some D) cx) r1 (fun b o hb e => hk b o hb e) hx' ⟨vs, a, v5, hc, rfl, hdt, h0, ha, h1, h5, h5s, hcx⟩ (fun hq => by obtain ⟨_, e⟩ := hq; cases e)
  obtain ⟨o', ho', r'⟩ := attrs_of (w := G.w) (F := K) (ρ := []) hn' hv (fun n => rfl)
  have fr1 := r1.fresh hD
  exact ⟨K, _, .refl K, r2.adopt fr1.1 fr1.2 ho' r', F, m, h D⟩
theorem exc_new0 (h : ∀ a, Q (.ref a) F ((a, .exc "Exception" [] none none true) :: H)) : Cl G fr A F H (.typ "Exception") [] Q E := cl_t0 fun K m R s hR => by
  refine wpAny_call_exc PySem.F.excCall_Exception fun h' e hm => ?_
  obtain ⟨hk, hn, t, he, ht, hto⟩ := hm
  obtain ⟨le, r1⟩ := hR.newF (tk := s.toks) (dr := s.drawn) hk ht hto
  have fr1 := hR.fresh hn
  have hne : e ≠ t := fun q => by
    subst q
    rw [he] at hto
    exact absurd (congrArg Obj.cls (Option.some.inj hto)) (by simp)
  have r2 := Rep.adopt (x := .exc "Exception" [] none none true) r1 (by unfold Fz.add; rw [if_neg hne]; exact fr1.1) fr1.2 he ⟨_, t, _, rfl, rfl, rfl, rfl, .tup (vs := []) (l := []) (Fz.add_self _ _ _) rfl (fun i v x e => by simp at e), rfl, rfl, (fun q => absurd q (by decide)), fun _ => rfl⟩
  exact ⟨_, _, le, r2, _, .ref, F, m.trans le, h e⟩
theorem Ev_Dict0 {pos} (h : ∀ a, Q (.ref a) F ((a, .dict []) :: H)) : Ev G fr A F H (eval (.Dict [] [] pos) env) Q E := fun K m R s hR =>
  wpAny_Dict_empty ⟨K, (s.heap.objs.size, .dict []) :: H, .refl K, hR.new (x := .dict []) (tk := s.toks) (dr := s.drawn) (fun b o e => Heap.get?_push_of_some _ e) (none_at_size _) (Heap.get?_push_size _ rfl) ⟨#[], 0, rfl, .nil⟩, _, .ref, F, m, h _⟩
theorem RD.length {w : World} {es : List DictEntry} {l : List (V × V)} (h : RD w F es l) : es.length = l.length := by
  induction h with
  | nil => rfl
  | cons _ _ _ ih => simp [ih]
theorem clear {a : Addr} {l : List (V × V)} (hu : Upd H a (.dict l) (.dict []) H') (hl : l.length ≤ sizeLine) (h : Q .none F H') : Cl G fr A F H (.blt "dict.clear") [.ref a] Q E := cl_b1 fun K m v hv R s hR => by
    obtain rfl := hv.i_ref
    obtain ⟨o, ho, es, n, rfl, hr⟩ := hR.get hu.mem
    have hes : es.size ≤ sizeLine := by have := hr.length; simp at this; lia
    refine wpAny_call_entry PySem.F.slot_dict_clear ⟨_, ho, rfl⟩ PySem.F.entry_dict_clear ?_ (PySem.F.args_dict_clear_1 _)
    unfold Builtin.«dict.clear»
    refine wpAny_bind ?_
    unfold Builtin.Dict.noArgs
    refine wpAny_bind (wpAny_notOrdered_dict ⟨_, ho, rfl⟩ ?_)
    show wpAny _ _ (pure a) _ _ s
    refine wpAny_pure ?_
    refine wpAny_bind (wpAny_dictEntries ho rfl ?_)
    refine wpAny_bind ?_
    unfold bearsInstanceDictMark
    refine wpAny_bind (wpAny_load ho (wpAny_pure ?_))
    refine wpAny_bind (wpAny_updateDictKeys (hz := hes) ho rfl ?_)
    have g := Heap.get?_update_self (Obj.mapDictKeys fun _ => #[]) ho (Obj.isFreed_of_dict (Obj.data_mapDictKeys rfl _))
    have r2 : Rep G fr K (H' ++ R) { s with heap := s.heap.update a (Obj.mapDictKeys fun _ => #[]) } := hR.upd' (tk := s.toks) (dr := s.drawn) hu (Heap.SameBut.update ..).extBut g ⟨#[], n + 1, rfl, .nil⟩ notNs_dict
    split
    · exact wpAny_bind (wpAny_letGo (wpAny_pure ⟨.none, rfl, K, H', .refl K, r2, _, .none, F, m, h⟩))
    · exact wpAny_bind (wpAny_pure (wpAny_pure ⟨.none, rfl, K, H', .refl K, r2, _, .none, F, m, h⟩))
inductive PatF (F : Fz) (p : Addr) : Prop where
  | intro (o : Obj) (fs items : Array Value) (c : Addr) (oc : Obj) (n : Nat) (t3 t6 : Tok) (h1 : F p = some o) (h2 : o.cls = .type "re.Pattern") (h3 : o.dict = none) (h4 : o.data = .fields fs) (h5 : fs.getD 6 .none = .int 0 t6) (h6 : fs.getD 5 .none = .ref c) (h7 : fs.getD 2 .none = .int 3 t3)
    (h8 : F c = some oc) (h9 : oc.data = .seq items n) (h10 : Code (wordsOf items)) (h11 : Sre.header (wordsOf items) = (1, 5))
theorem PatF.mono {F F' : Fz} {p : Addr} (le : F.le F') (h : PatF F p) : PatF F' p := by
  obtain ⟨o, fs, items, c, oc, n, t3, t6, h1, h2, h3, h4, h5, h6, h7, h8, h9, h10, h11⟩ := h
  exact ⟨o, fs, items, c, oc, n, t3, t6, le _ _ h1, h2, h3, h4, h5, h6, h7, le _ _ h8, h9, h10, h11⟩
noncomputable def BoundF (F : Fz) (b p : Addr) : Prop := F b = some (boundM "re.Pattern.match" (.ref p)) ∧ PatF F p
theorem BoundF.mono {F F' : Fz} {b p : Addr} (le : F.le F') (h : BoundF F b p) : BoundF F' b p := ⟨le _ _ h.1, h.2.mono le⟩
theorem BoundF.ok {b p : Addr} (h : BoundF F b p) : KOk F (.ref b) := .meth h.1 rfl rfl
theorem get_match {p : Addr} (hp : PatF F p) (h : ∀ b F', F.le F' → BoundF F' b p → Q (.ref b) F' H) : Op1 G fr A F H (fun v => getAttr v "match" true) (.ref p) Q E := fun K m v hv R s hR => by
  obtain rfl := hv.i_ref
  obtain ⟨o, fs, items, c, oc, n, t3, t6, h1, h2, h3, h4, _⟩ := id hp
  refine pat_match (hR.fz _ _ (m _ _ h1)) h2 h3 h4 ?_
  obtain ⟨le, r⟩ := hR.newF (tk := s.toks + 1) (dr := s.drawn) (fun b o e => Heap.get?_push_of_some (boundM "re.Pattern.match" (.ref p)) e) (none_at_size _) (Heap.get?_push_size _ rfl)
  exact ⟨_, H, le, r, _, .ref, _, .refl _, h _ _ (m.trans le) ⟨Fz.add_self _ _ _, hp.mono (m.trans le)⟩⟩
inductive MatchF (F : Fz) (m : Addr) (T : Str) (st hd : Nat) (s0 s1 s2 : Option (Nat × Nat)) : Prop where
  | intro (tk : Tok) (pat : Value) (lim : Nat) (li : Int) (u : Addr) (h1 : F m = some (matchObj (.str T tk) pat st lim li u)) (h2 : F u = some { cls := .type "tuple", data := .seq (spanTup st hd s0 s1 s2).toArray })
theorem MatchF.mono {F F' : Fz} {m : Addr} {T : Str} {st hd : Nat} {s0 s1 s2 : Option (Nat × Nat)} (le : F.le F') (h : MatchF F m T st hd s0 s1 s2) : MatchF F' m T st hd s0 s1 s2 := let ⟨a, b, c, d, e, h1, h2⟩ := h; ⟨a, b, c, d, e, le _ _ h1, le _ _ h2⟩
theorem MatchF.ty {m : Addr} {T : Str} {st hd : Nat} {s0 s1 s2 : Option (Nat × Nat)} (h : MatchF F m T st hd s0 s1 s2) : TyIs F H (.ref m) "re.Match" := let ⟨a, b, c, d, e, h1, h2⟩ := h; .frz h1 rfl rfl
theorem match_num {b p : Addr} {T : Str} {i : Nat} (hb : BoundF F b p) (hi : i < T.cps.size) (hT : T.cps.size ≤ Sre.maxRepeat)
    (hnone : intAt T.cps T.cps.size (signAt T.cps T.cps.size i) = none → Q .none F H)
    (hsome : ∀ p, intAt T.cps T.cps.size (signAt T.cps T.cps.size i) = some p → ∀ m F', F.le F' → MatchF F' m T i (expEnd T.cps T.cps.size (fracEnd T.cps T.cps.size p)) (some (i, p)) ((fracAt T.cps T.cps.size p).map fun e => (p, e)) ((expAt T.cps T.cps.size (fracEnd T.cps T.cps.size p)).map fun e => (fracEnd T.cps T.cps.size p, e)) → Q (.ref m) F' H) :
    Cl G fr A F H (.ref b) [.str T, .int i] Q E := fun K m v vs hv hvs => by
      obtain rfl := hv.i_ref
      refine hvs.e2 (P := fun vs => EvAt _ _ _ _ _ (call _ vs) _ _) fun x y hx hy => hx.e_str (P := fun x => EvAt _ _ _ _ _ (call _ [x, y]) _ _) fun t => hy.e_int (P := fun y => EvAt _ _ _ _ _ (call _ [_, y]) _ _) fun u' R s hR => ?_
      obtain ⟨hb, o, fs, items, c, oc, n, t3, t6, h1, h2, h3, h4, h5, h6, h7, h8, h9, h10, h11⟩ := BoundF.mono m hb
      refine call_match (hR.fz _ _ hb) (hR.fz _ _ h1) h2 h4 fun A' => match_run (hR.fz _ _ h1) h4 h5 h6 h7 (hR.fz _ _ h8) h9 h10 h11 hi hT (fun hn => ⟨_, rfl, K, H, .refl K, hR, _, .none, F, m, hnone hn⟩) fun p hp h' hk u v li n1 n2 n3 hu hv => ?_
      obtain ⟨le1, r1⟩ := hR.newF (tk := s.toks) (dr := s.drawn) hk n1 hu
      have f2 : (K.add u { cls := .type "tuple", data := .seq (spanTup i (expEnd T.cps T.cps.size (fracEnd T.cps T.cps.size p)) (some (i, p)) ((fracAt T.cps T.cps.size p).map fun e => (p, e)) ((expAt T.cps T.cps.size (fracEnd T.cps T.cps.size p)).map fun e => (fracEnd T.cps T.cps.size p, e))).toArray }) v = none := by
        unfold Fz.add; rw [if_neg (fun q => n3 q.symm)]; exact (hR.fresh n2).1
      obtain ⟨o', ho', le2, r2⟩ := Rep.freeze (x := .raw _) (Rep.adopt (x := .raw (matchObj (.str T _) (.ref _) i T.cps.size li u)) r1 f2 (hR.fresh n2).2 hv rfl) (fun _ e => nomatch e)
      have ho'' : o' = matchObj (.str T _) (.ref _) i T.cps.size li u := ho'
      subst ho''
      exact ⟨_, rfl, _, H, le1.trans le2, r2, _, .ref, _, .refl _, hsome p hp v _ (m.trans (le1.trans le2)) ⟨_, _, _, _, u, Fz.add_self _ _ _, le2 _ _ (Fz.add_self _ _ _)⟩⟩
noncomputable def grp? (T : Str) : Option (Nat × Nat) → V
  | none => .none
  | some (x, y) => .str ⟨T.cps.extract x y⟩
theorem grp_rv {T : Str} {b : Tok} {sp : Option (Nat × Nat)} : RV F (grpV T b sp) (grp? T sp) := by
  cases sp with
  | none => exact .none
  | some p => exact .str
theorem groups {m : Addr} {T : Str} {st hd : Nat} {s0 s1 s2 : Option (Nat × Nat)} (hm : MatchF F m T st hd s0 s1 s2) (hT : T.cps.size ≤ sizeLine) (h : Q (.tup [grp? T s0, grp? T s1, grp? T s2]) F H) : Cl G fr A F H (.blt "re.Match.groups") [.ref m] Q E := cl_b1 fun K m v hv R s hR => by
    obtain rfl := hv.i_ref
    obtain ⟨tk, pat, lim, li, u, h1, h2⟩ := hm.mono m
    refine wpAny_call_entry slot_groups ⟨_, hR.fz _ _ h1, rfl⟩ entry_groups (groups_run (hR.fz _ _ h1) (hR.fz _ _ h2) hT fun a b c tk' => ⟨_, rfl, ?_⟩) (args_groups _)
    obtain ⟨le, r⟩ := hR.newF (tk := tk') (dr := s.drawn) (fun b' o e => Heap.get?_push_of_some { cls := .type "tuple", data := .seq #[grpV T a s0, grpV T b s1, grpV T c s2] } e) (none_at_size s.heap) (Heap.get?_push_size s.heap (o := { cls := .type "tuple", data := .seq #[grpV T a s0, grpV T b s1, grpV T c s2] }) rfl)
    exact ⟨_, H, le, r, _, .tup (vs := [grpV T a s0, grpV T b s1, grpV T c s2]) (Fz.add_self _ _ _) rfl (RVs.get (.cons grp_rv (.cons grp_rv (.cons grp_rv .nil)))), F, m.trans le, h⟩
theorem mend {m : Addr} {T : Str} {st hd : Nat} {s0 s1 s2 : Option (Nat × Nat)} (hm : MatchF F m T st hd s0 s1 s2) (h : Q (.int hd) F H) : Cl G fr A F H (.blt "re.Match.end") [.ref m] Q E := cl_b1 fun K m v hv R s hR => by
    obtain rfl := hv.i_ref
    obtain ⟨tk, pat, lim, li, u, h1, h2⟩ := hm.mono m
    exact wpAny_call_entry slot_end ⟨_, hR.fz _ _ h1, rfl⟩ entry_end (end_run (hR.fz _ _ h1) (hR.fz _ _ h2) fun a tk' => ⟨_, rfl, vret (hR.toks _) .int m h⟩) (args_end _)
end
section
variable {G : Glob} {fr : List Env} {A : Around} {env : Env} {F : Fz} {H H' : Hp} {E : Value → Fz → Hp → Prop}
inductive StoreC (env : Env) (x : Str) (y : V) (F : Fz) (H : Hp) (Q : Fz → Hp → Prop) : Prop where
  | intro (c : Addr) (z : Option V) (H' : Hp) (hc : env.cells.lookup x = some c) (hu : Upd H c (.cell z) (.cell (some y)) H') (h : Q F H')
theorem StoreC.mk {env : Env} {x : Str} {y : V} {Q : Fz → Hp → Prop} {c : Addr} {z : Option V} {H' : Hp} (hc : env.cells.lookup x = some c) (hu : Upd H c (.cell z) (.cell (some y)) H') (h : Q F H') : StoreC env x y F H Q := ⟨c, z, H', hc, hu, h⟩
theorem notNs_cell {z z' : Option V} : (∃ ρ, AO.cell z = .ns ρ) → ∃ ρ, AO.cell z' = .ns ρ := fun h => by obtain ⟨_, q⟩ := h; cases q
theorem storeC {K : Fz} {x : Str} {v : Value} {y : V} {Q : Fz → Hp → Prop} (m : F.le K) (hv : RV K v y) (h : StoreC env x y F H Q) (hk : env.scope.kind = .function := by rfl) (hl : env.kindOf x = some .cell := by rfl) : TpAt G fr A K H (storeName env x v) (fun _ => Dn Q) E := fun R s hR => by
  obtain ⟨c, z, H', hc, hu, h⟩ := h
  obtain ⟨o, ho, r⟩ := hR.get hu.mem
  have hcell : ∃ v₀, s.heap.IsCell c v₀ := by
    cases z with
    | none => exact ⟨none, o, ho, r⟩
    | some z => obtain ⟨v, e, _⟩ := r; exact ⟨some v, o, ho, e⟩
  obtain ⟨v₀, hcell⟩ := hcell
  refine wpAny_storeName_cell hk hl hc hcell fun h' hc' hs' => ?_
  obtain ⟨o', ho', hd'⟩ := hc'
  exact ⟨K, H', .refl K, hR.upd' (tk := s.toks) (dr := s.drawn) hu hs'.extBut ho' ⟨v, hd', hv⟩ notNs_cell, F, m, h⟩
noncomputable def Sto (G : Glob) (fr : List Env) (A : Around) (env : Env) (F : Fz) (H : Hp) (x : Str) (y : V) (Q : Fz → Hp → Prop) (E : Value → Fz → Hp → Prop) : Prop := ∀ K, F.le K → ∀ v, RV K v y → TpAt G fr A K H (storeName env x v) (fun _ => Dn Q) E
theorem Sto_l {x : Str} {y : V} {Q : Fz → Hp → Prop} (h : Store env x y F H Q) (hk : env.scope.kind = .function := by rfl) (hl : env.kindOf x = some .local := by rfl) : Sto G fr A env F H x y Q E := fun K m v hv => store m hv h hk hl
theorem Sto_c {x : Str} {y : V} {Q : Fz → Hp → Prop} (h : StoreC env x y F H Q) (hk : env.scope.kind = .function := by rfl) (hl : env.kindOf x = some .cell := by rfl) : Sto G fr A env F H x y Q E := fun K m v hv => storeC m hv h hk hl
theorem Ex_Assign_NameC {x : Str} {pos' value pos} {Q : FV → Fz → Hp → Prop} (h : Ev G fr A F H (eval value env) (fun y F1 H1 => StoreC env x y F1 H1 (Q .next)) E)
    (hs : swapsWith value (some (.Name x pos')) pos.line env = pure false := by rfl) (hk : env.scope.kind = .function := by rfl) (hl : env.kindOf x = some .cell := by rfl) :
    Ex G fr A F H (exec (.Assign [.Name x pos'] value pos) env) Q E := fun K m R s hR =>
  wpAny_Assign_Name (h.go m hR (.refl K) fun v y F1 K1 H1 s1 l1 m1 r1 hy q =>
    (storeC m1 hy q hk hl).seq r1 l1 fun _ K2 H2 s2 l2 r2 hq => by
      obtain ⟨F2, m2, q⟩ := hq
      exact upPQ (l1.trans l2) (fret r2 .next m2 q)) hs
noncomputable def tabOf (l : List (Nat × Nat × Addr)) : Array Value := (l.flatMap fun t => [rawInt t.1, rawInt t.2.1, .ref t.2.2]).toArray
theorem tab_triples : ∀ l : List (Nat × Nat × Addr), TriplesOk (tabOf l).toList
  | [] => trivial
  | t :: l => tab_triples l
noncomputable def tabFind (pos : Pos) : List (Nat × Nat × Addr) → Option Addr
  | [] => none
  | t :: l => if t.1 = pos.line ∧ t.2.1 = pos.col then some t.2.2 else tabFind pos l
theorem tab_among (pos : Pos) : ∀ l : List (Nat × Nat × Addr), codeAmong pos (tabOf l).toList = (tabFind pos l).map .ref
  | [] => rfl
  | t :: l => by
    have e : codeAmong pos (tabOf (t :: l)).toList = if ((t.1 : Int) == (pos.line : Int) && (t.2.1 : Int) == (pos.col : Int)) then some (.ref t.2.2) else codeAmong pos (tabOf l).toList := rfl
    have e2 : tabFind pos (t :: l) = if t.1 = pos.line ∧ t.2.1 = pos.col then some t.2.2 else tabFind pos l := rfl
    rw [e, tab_among pos l, e2]
    by_cases h : t.1 = pos.line ∧ t.2.1 = pos.col
    · rw [if_pos h, if_pos (by simp [h.1, h.2])]; rfl
    · rw [if_neg h, if_neg]
      intro q
      rw [Bool.and_eq_true, beq_iff_eq, beq_iff_eq] at q
      exact h ⟨by exact_mod_cast q.1, by exact_mod_cast q.2⟩
theorem tab_snoc (l : List (Nat × Nat × Addr)) (x y : Nat) (c : Addr) : tabOf l ++ #[rawInt x, rawInt y, .ref c] = tabOf (l ++ [(x, y, c)]) := by
  unfold tabOf
  rw [List.flatMap_append]
  simp
noncomputable def CodeOk (F : Fz) (c P : Addr) : Prop := ∀ h : Heap, (∀ a o, F a = some o → h.get? a = some o) → CodeHd h c P
theorem CodeOk.mono {F F' : Fz} {c P : Addr} (le : F.le F') (h : CodeOk F c P) : CodeOk F' c P := fun hp k => h hp fun a o e => k a o (le a o e)
noncomputable def BOk (G : Glob) (P : Addr) : Prop := mainGlobals ≠ P ∧ ∀ h : Heap, (∀ a o, G.F0 a = some o → h.get? a = some o) → h.BuiltinsAt G.mg P
inductive FnF (F : Fz) (f : Addr) (name qual : Str) (params : Arguments) (body : List Stmt) (scope : Scope) (clos : List (Str × Addr)) : Prop where
  | intro (doc pm : Value) (c : Addr) (ctv : Value) (h1 : F f = some (fnMade name qual params body scope clos doc pm c ctv)) (h2 : CodeF F (.ref c) qual)
inductive LamF (F : Fz) (f : Addr) (name qual : Str) (params : Arguments) (body : Expr) (scope : Scope) (clos : List (Str × Addr)) : Prop where
  | intro (pm : Value) (c : Addr) (ctv : Value) (h1 : F f = some (kla_obj name qual params body scope clos pm c ctv)) (h2 : CodeF F (.ref c) qual)
theorem FnF.mono {F F' : Fz} {f : Addr} {name qual : Str} {params : Arguments} {body : List Stmt} {scope : Scope} {clos : List (Str × Addr)} (le : F.le F') (h : FnF F f name qual params body scope clos) : FnF F' f name qual params body scope clos := let ⟨a, b, c, d, e, g⟩ := h; ⟨a, b, c, d, le _ _ e, g.mono le⟩
theorem LamF.mono {F F' : Fz} {f : Addr} {name qual : Str} {params : Arguments} {body : Expr} {scope : Scope} {clos : List (Str × Addr)} (le : F.le F') (h : LamF F f name qual params body scope clos) : LamF F' f name qual params body scope clos := let ⟨b, c, d, e, g⟩ := h; ⟨b, c, d, le _ _ e, g.mono le⟩
theorem FnF.ok {f : Addr} {name qual : Str} {params : Arguments} {body : List Stmt} {scope : Scope} {clos : List (Str × Addr)} (h : FnF F f name qual params body scope clos) : KOk F (.ref f) := let ⟨a, b, c, d, e, g⟩ := h; .fn e rfl
theorem LamF.ok {f : Addr} {name qual : Str} {params : Arguments} {body : Expr} {scope : Scope} {clos : List (Str × Addr)} (h : LamF F f name qual params body scope clos) : KOk F (.ref f) := let ⟨b, c, d, e, g⟩ := h; .fn e rfl
theorem made {R : Hp} {s : Shared} {P : Addr} {l : List (Nat × Nat × Addr)} {x y : Nat} {H1 : Hp} {h' : Heap} {tk : Nat} {o : Obj} {c' : Addr} {qual : Str} (ho : o.isFreed = false) (hR : Rep G fr F (H ++ R) s) (hrem : Rem H P (.raw (tabObj (tabOf l))) H1)
    (he : Heap.ExtBut P s.heap h') (h1 : s.heap.objs.size ≤ c') (h2 : c' < h'.objs.size) (hc : h'.CodeRec (.ref c') qual) (hP : h'.get? P = some (tabObj (tabOf l ++ #[rawInt x, rawInt y, .ref c']))) :
    ∃ F', F.le F' ∧ F' h'.objs.size = some o ∧ CodeF F' (.ref c') qual ∧ Rep G fr F' (((P, .raw (tabObj (tabOf (l ++ [(x, y, c')])))) :: H1) ++ R) { s with heap := h'.push o, toks := tk } := by
  rw [tab_snoc] at hP
  have r1 := hR.perm (hrem.perm.append_right R)
  have r2 : Rep G fr F ((P, .raw (tabObj (tabOf (l ++ [(x, y, c')])))) :: (H1 ++ R)) { s with heap := h' } := Rep.upd (tk := s.toks) (dr := s.drawn) (x := .raw (tabObj (tabOf l))) (x' := .raw (tabObj (tabOf (l ++ [(x, y, c')])))) r1 he hP rfl (fun hq => by obtain ⟨_, e⟩ := hq; cases e)
  obtain ⟨c, oc, vs, t, e1, e2, e3, e4⟩ := hc
  cases e1
  have gone : s.heap.get? c' = none := by
    cases q : s.heap.get? c' with
    | none => rfl
    | some o => exact absurd (Heap.lt_size q) (Nat.not_lt.mpr h1)
  have n1 := r1.fresh gone
  obtain ⟨o', ho', le1, r3⟩ := Rep.freeze (x := .raw oc) (r2.adopt n1.1 n1.2 e2 rfl) (fun _ e => nomatch e)
  have ho'' : o' = oc := ho'
  subst ho''
  obtain ⟨le2, r4⟩ := r3.newF (h' := h'.push o) (tk := tk) (dr := s.drawn) (fun b o e => Heap.get?_push_of_some _ e) (none_at_size _) (Heap.get?_push_size _ ho)
  refine ⟨_, le1.trans le2, Fz.add_self _ _ _, ⟨c', o', vs, t, rfl, le2 _ _ (Fz.add_self _ _ _), e3, e4⟩, r4⟩
theorem Ex_FunctionDef {name : Str} {params : Arguments} {body : List Stmt} {scope : Scope} {pos : Pos} {c P : Addr} {l : List (Nat × Nat × Addr)} {H1 : Hp} {clos : List (Str × Addr)} {Q : FV → Fz → Hp → Prop}
    (hcode : env.code = .ref c) (hC : CodeOk F c P) (hB : BOk G P) (hrem : Rem H P (.raw (tabObj (tabOf l))) H1) (hnew : tabFind pos l = none) (hcl : closureFor scope env = pure clos)
    (h : ∀ f c' F', F.le F' → FnF F' f name (qualnameIn env name name) params body scope clos → Sto G fr A env F' ((P, .raw (tabObj (tabOf (l ++ [(pos.line, pos.col, c')])))) :: H1) name (.ref f) (Q .next) E)
    (hd0 : params.defaults = [] := by rfl) (hk0 : params.kw_defaults = [] := by rfl) (ha : annTrees params none env = [] := by rfl) (hg : env.globals = mainGlobals := by rfl) :
    Ex G fr A F H (exec (.FunctionDef name params body [] none [] scope none name pos) env) Q E := fun K m R s hR => by
  have hP : s.heap.get? P = some (tabObj (tabOf l)) := by
    obtain ⟨_, o, ho, hro⟩ := (hR.perm (hrem.perm.append_right R)).own _ (.head _)
    have hro' : o = tabObj (tabOf l) := hro
    subst hro'; exact ho
  refine nestDef_K hd0 hk0 ha (makeFunction_K (mg := G.mg) hcl hg hR.glob.1 hcode ((hC.mono m) _ hR.fz) hP (tab_triples l) (by rw [tab_among, hnew]; rfl) hB.1 (hB.2 _ fun a o e => hR.fz a o (hR.base a o e)) fun c' ctv doc h' tk he h1 h2 hc hP' => ?_)
  obtain ⟨F', le, hf, hcf, r⟩ := made (o := fnMade name (qualnameIn env name name) params body scope clos doc ((G.mg "__name__").getD .none) c' ctv) (tk := tk) rfl hR hrem he h1 h2 hc hP'
  exact (h h'.objs.size c' F' (m.trans le) ⟨doc, _, c', ctv, hf, hcf⟩ F' (.refl F') _ .ref).seq r le fun _ K2 H2 s2 l2 r2 hq => by
    obtain ⟨F2, m2, q⟩ := hq
    exact upPQ (le.trans l2) (fret r2 .next m2 q)
theorem Ev_Lambda {params : Arguments} {body : Expr} {scope : Scope} {pos : Pos} {c P : Addr} {l : List (Nat × Nat × Addr)} {H1 : Hp} {clos : List (Str × Addr)} {Q : V → Fz → Hp → Prop}
    (hcode : env.code = .ref c) (hC : CodeOk F c P) (hB : BOk G P) (hrem : Rem H P (.raw (tabObj (tabOf l))) H1) (hnew : tabFind pos l = none) (hcl : closureFor scope env = pure clos)
    (h : ∀ f c' F', F.le F' → LamF F' f "<lambda>" (env.qual ++ "<lambda>") params body scope clos → Q (.ref f) F' ((P, .raw (tabObj (tabOf (l ++ [(pos.line, pos.col, c')])))) :: H1))
    (hdef : defaultsOf params env = ([], []) := by rfl) (hg : env.globals = mainGlobals := by rfl) :
    Ev G fr A F H (eval (.Lambda params body scope pos) env) Q E := fun K m R s hR => by
  have hP : s.heap.get? P = some (tabObj (tabOf l)) := by
    obtain ⟨_, o, ho, hro⟩ := (hR.perm (hrem.perm.append_right R)).own _ (.head _)
    have hro' : o = tabObj (tabOf l) := hro
    subst hro'; exact ho
  refine kla_eval hdef (kla_makeFunction (mg := G.mg) hcl hg hR.glob.1 hcode ((hC.mono m) _ hR.fz) hP (tab_triples l) (by rw [tab_among, hnew]; rfl) hB.1 (hB.2 _ fun a o e => hR.fz a o (hR.base a o e)) fun c' ctv h' tk he h1 h2 hc hP' => ?_)
  obtain ⟨F', le, hf, hcf, r⟩ := made (o := kla_obj "<lambda>" (env.qual ++ "<lambda>") params body scope clos ((G.mg "__name__").getD .none) c' ctv) (tk := tk) rfl hR hrem he h1 h2 hc hP'
  exact ⟨F', _, le, r, _, .ref, F', .refl F', h h'.objs.size c' F' (m.trans le) ⟨_, c', ctv, hf, hcf⟩⟩
end
section
variable {G : Glob} {fr : List Env} {A : Around} {F : Fz} {H : Hp} {E : Value → Fz → Hp → Prop} {E' : Addr → Value → Fz → Hp → Prop} {Q : V → Fz → Hp → Prop}
theorem call_fn {a : Addr} {name qual : Str} {params : Arguments} {scope : Scope} {cl : List (Str × Addr)} {body : List Stmt} {xs : List V} (hf : FnF F a name qual params body scope cl)
    (ns rest : List Str) (hn : ns.length = xs.length) (hnd : (ns ++ rest).Nodup) (hbind : ∀ doc pm c ctv, ∀ vs : List Value, vs.length = xs.length → bindArgs (fnX name qual params body scope cl .none .none doc pm none c ctv) ⟨vs, []⟩ = pure (ns.zip vs))
    (hcell : (scope.names.all fun x => x.2 != .cell) = true) (hloc : (ns.all fun x => decide (scope.names.lookup x = some .local)) = true)
    (hroom : A.depth < recursionLimit) (hE : ∀ L c, Leaves G fr A (envX qual scope L a c cl) (E' L) E)
    (h : ∀ L A' c, Deep A A' (envX qual scope L a c cl) → Ex G (envX qual scope L a c cl :: fr) A' F ((L, .ns (mkRho ns xs rest)) :: H) (execs body (envX qual scope L a c cl)) (Ret L Q) (E' L))
    (hco : scope.isCoroutine = false := by rfl) (hgen : scope.isGenerator = false := by rfl) (hk : scope.kind = .function := by rfl) :
    Cl G fr A F H (.ref a) xs Q E := by
  obtain ⟨doc, pm, c, ctv, hf, hc⟩ := hf
  exact call_def hf rfl hc ns rest hn hnd (hbind doc pm _ ctv) hcell hloc hroom (fun L => hE L _) (fun L A' hD => h L A' _ hD) hco hgen hk
inductive RetE (L : Addr) (Q : V → Fz → Hp → Prop) (x : V) (F : Fz) (H : Hp) : Prop where
  | intro (ρ : List (Str × Option V)) (H' : Hp) (hr : Rem H L (.ns ρ) H') (h : Q x F H')
theorem call_lam {a : Addr} {name qual : Str} {params : Arguments} {scope : Scope} {cl : List (Str × Addr)} {body : Expr} {xs : List V} (hf : LamF F a name qual params body scope cl)
    (ns : List Str) (hn : ns.length = xs.length) (hnd : ns.Nodup) (hbind : ∀ pm c ctv, ∀ vs : List Value, vs.length = xs.length → bindArgs (kla_fn name qual params body scope cl pm c ctv) ⟨vs, []⟩ = pure (ns.zip vs))
    (hcell : (scope.names.all fun x => x.2 != .cell) = true) (hloc : (ns.all fun x => decide (scope.names.lookup x = some .local)) = true)
    (hroom : A.depth < recursionLimit) (hE : ∀ L c, Leaves G fr A (envX qual scope L a c cl) (E' L) E)
    (h : ∀ L A' c, Deep A A' (envX qual scope L a c cl) → Ev G (envX qual scope L a c cl :: fr) A' F ((L, .ns (mkRho ns xs [])) :: H) (eval body (envX qual scope L a c cl)) (RetE L Q) (E' L))
    (hco : scope.isCoroutine = false := by rfl) (hgen : scope.isGenerator = false := by rfl) (hk : scope.kind = .function := by rfl) :
    Cl G fr A F H (.ref a) xs Q E := fun K m v vs hv hvs R s hR => by
  obtain rfl := hv.i_ref
  obtain ⟨pm, c, ctv, hf, hc⟩ := hf.mono m
  have hlen := hvs.length
  refine wpAny_call (kla_callFunE hroom (hR.fz _ _ hf) rfl hco hgen rfl (hc.crec hR.fz) ?_)
  rw [hbind pm _ ctv vs hlen]
  refine wpAny_pure (wpAny_newFunctionEnv (fun x hx => by simpa using List.all_eq_true.mp hcell x hx) (fun x hx => of_decide_eq_true (List.all_eq_true.mp hloc _ (List.of_mem_zip hx).1)) (fun h₀ hns₀ hsb => ⟨hR.glob.2.2.fresh _ hsb, ?_⟩) hk)
  have hk₀ : ∀ b o, s.heap.get? b = some o → h₀.get? b = some o := fun b o e => hsb.extBut b o (Nat.ne_of_lt (Heap.lt_size e)) (Heap.get?_push_of_some _ e)
  have nd1 : ((ns.zip vs).reverse.map (·.1)).Nodup := by
    rw [List.map_reverse, (List.reverse_perm _).nodup_iff, zip_names (by lia)]
    exact hnd
  have fresh : ∀ env ∈ fr, env.frame ≠ some s.heap.objs.size := fun env he e => by
    obtain ⟨L, ρ, q, m⟩ := (hR.frs env he).2
    obtain ⟨_, o, g, _⟩ := hR.own _ m
    rw [Option.some.inj (q.symm.trans e)] at g
    exact absurd (Heap.lt_size g) (Nat.lt_irrefl _)
  have r1 : Rep G (envX qual scope s.heap.objs.size a (.ref c) cl :: fr) K (((s.heap.objs.size, AO.ns (mkRho ns xs [])) :: H) ++ R) { s with heap := h₀, toks := s.toks + (ns.zip vs).length } := by
    obtain ⟨o, es, ep, ho, hdd, hkk, hff⟩ := hns₀
    have := hR.new (D := s.heap.objs.size) (x := AO.ns (mkRho ns xs [])) (tk := s.toks + (ns.zip vs).length) (dr := s.drawn) hk₀ (none_at_size _) ho ⟨es, ep, hdd, hkk, by rw [mkRho_names hn, List.append_nil]; exact hnd, fun p hp => by
      rcases mem_mkRho hn hvs p hp with ⟨h1, h2⟩ | ⟨x, v, h1, h2, h3⟩
      · cases h1
      · rw [h1]
        exact ⟨v, (hff _).trans (lookup_mem nd1 (List.mem_reverse.mpr h2)), h3⟩⟩
    exact ⟨this.gok, this.base, this.fz, this.own, this.nd, fun env he => by
      rcases List.mem_cons.mp he with rfl | he
      · exact ⟨hk, _, _, rfl, .head _⟩
      · exact this.frs env he, this.gens, this.os⟩
  refine kla_codeExpr (wpAny_mono (h s.heap.objs.size _ (.ref c) (deep A _) K m R _ r1) (fun f s' hq => ?_) fun e s' q => wpAny_mono (hE _ _ fresh K R e s' q) (fun _ _ x => x) fun _ _ x => x)
  obtain ⟨F', H', l', r', x, hx, F1, m1, ρ, H2, hrem, q⟩ := hq
  exact ⟨F', H2, l', (r'.pop.perm (hrem.perm.append_right R)).drop fresh, _, hx, F1, m1, q⟩
end
section
variable {G : Glob} {fr : List Env} {A : Around} {env : Env} {F : Fz} {H H' : Hp} {E : Value → Fz → Hp → Prop} {Q : V → Fz → Hp → Prop} {i j : Int}
theorem tr_none {Q : Bool → Fz → Hp → Prop} (h : Q false F H) : Tr G fr A F H .none Q E := fun K m a ha R s hR => by
  obtain rfl := ha.i_none
  have e : truthy .none = pure false := by first | rfl | (unfold truthy; rfl)
  rw [e]; exact wpAny_pure (tret (Q := Q) hR m h)
theorem tr_str {x : Str} {Q : Bool → Fz → Hp → Prop} (hx : (x.length : Int) < 2 ^ 63) (h : Q ((x.length : Int) != 0) F H) : Tr G fr A F H (.str x) Q E := fun K m a ha => ha.e_str (P := fun a => TpAt _ _ _ _ _ (truthy a) _ _) fun t R s hR => PySem.P.truthy_str (by lia) (tret (Q := Q) (hR.toks _) m h)
theorem RVs.isEmpty {vs : Array Value} {l : List V} (h : RVs F vs.toList l) : vs.isEmpty = l.isEmpty := by
  have e := h.toArr
  cases l with
  | nil => simpa using e
  | cons y l =>
    have : vs.size ≠ 0 := by rw [e]; simp
    simpa using this
theorem tr_list {a : Addr} {l : List V} {Q : Bool → Fz → Hp → Prop} (hm : Has H a (.list l)) (hl : (l.length : Int) < 2 ^ 63) (h : Q (!l.isEmpty) F H) : Tr G fr A F H (.ref a) Q E := fun K m v hv R s hR => by
  obtain ⟨o, ho, items, n, rfl, hr⟩ := hR.has hm
  obtain rfl := hv.i_ref
  refine wpAny_truthy_list ⟨_, ho, rfl, n, rfl⟩ (by rw [hr.toArr]; exact hl) ?_
  rw [hr.isEmpty]
  exact tret (Q := Q) (hR.toks _) m h
theorem Ev_or {a b : Expr} {pos : Pos} (h : Ev G fr A F H (eval a env) (fun x F1 H1 => Tr G fr A F1 H1 x (fun t F2 H2 => if t then Q x F2 H2 else Ev G fr A F2 H2 (eval b env) Q E) E) E) : Ev G fr A F H (eval (.BoolOp .Or [a, b] pos) env) Q E := fun K m R s hR => by
  rw [arm_eval_BoolOp]
  show wpAny G.M A (do let v ← eval a env; standAt pos; let t ← holding [v] (truthy v); match BoolOp.Or, t with | .And, false | .Or, true => pure v | _, _ => boolOp pos .Or [eval b env]) _ _ s
  refine wpAny_bind (h.go m hR (.refl K) fun v x F1 K1 H1 s1 l1 m1 r1 hx h1 => wpAny_bind (wpAny_standAt (wpAny_bind (wpAny_holding ((h1 K1 m1 v hx).seq r1 l1 fun t K2 H2 s2 l2 r2 hq => ?_)))))
  obtain ⟨F2, m2, q⟩ := hq
  cases t with
  | true => exact wpAny_pure ⟨K2, H2, l1.trans l2, r2, x, hx.mono l2, F2, m2, q⟩
  | false => exact (show Ev _ _ _ _ _ _ _ _ from q).last m2 r2 (l1.trans l2)
theorem str_int (h : Q (.str (toString i)) F H) (hi : i.natAbs < 4611686018427387904) : Cl G fr A F H (.typ "str") [.int i] Q E := cl_t1 fun K m v hv => hv.e_int (P := fun v => EvAt _ _ _ _ _ (call _ [v]) _ _) fun t R s hR => by
    exact str_of_int_fit (N := 4611686018427387904) (by split <;> lia) (by decide) fun _ => vret (hR.toks _) .str m h
theorem int_str {x : Str} {n : Int} (hn : PySem.intText? x = some n) (hl : x.length ≤ 640) (h : Q (.int n) F H) : Cl G fr A F H (.typ "int") [.str x] Q E := cl_t1 fun K m v hv => hv.e_str (P := fun v => EvAt _ _ _ _ _ (call _ [v]) _ _) fun t R s hR => by
    exact KIN.call_text hn hl (vret (hR.toks _) .int m h)
theorem strs_of {vs : List Value} {xs : List Str} (h : RVs F vs (xs.map .str)) : ∃ l, vs = strValues l ∧ l.map (·.1) = xs := by
  induction xs generalizing vs with
  | nil => cases h; exact ⟨[], rfl, rfl⟩
  | cons x xs ih =>
    refine h.ec (P := fun vs => ∃ l, vs = strValues l ∧ l.map (·.1) = x :: xs) fun v vs h1 h2 => ?_
    obtain ⟨l, e1, e2⟩ := ih h2
    exact h1.e_str (P := fun v => ∃ l, v :: vs = strValues l ∧ l.map (·.1) = x :: xs) fun t => ⟨(x, t) :: l, by rw [e1]; rfl, by simp [e2]⟩
theorem join_s {x : Str} {xs : List Str} (hok : JoinOk x xs = true) (h : Q (.str (Txt.join x xs)) F H) : Cl G fr A F H (.blt "str.join") [.str x, .lst (xs.map .str)] Q E := cl_b2 fun K m v w hv hw => by
        refine hv.e_str (P := fun v => EvAt _ _ _ _ _ (call _ [v, w]) _ _) fun t => hw.e_lst (P := fun w => EvAt _ _ _ _ _ (call _ [_, w]) _ _) fun a vs n o ha hc hd hlen hr R s hR => ?_
        obtain ⟨l, rfl, hl⟩ := strs_of (RVs.of hlen hr)
        exact PySem.SC.join ⟨o, hR.fz _ _ ha, hc, n, hd⟩ hl hok fun t' k => vret (hR.toks _) .str m h
open Builtin Builtin.Str in
theorem occ_full (x sub : Str) (hi : Nat) : ∀ (l : List Nat) (k f : Nat), (forIn l ((#[k] : Array Nat), f) (StrLaws.occBody x sub hi 1)).run.fst = #[k]
  | [], _, _ => rfl
  | a :: l, k, f => by
    rw [List.forIn_cons]
    unfold StrLaws.occBody
    rw [if_neg (by simp)]
    exact occ_full x sub hi l k f
open Builtin Builtin.Str in
theorem occ_first (x sub : Str) (hi k free : Nat) (hk : k + sub.length ≤ hi ∧ subAt x sub k = true) : ∀ (pre post : List Nat), (∀ i ∈ pre, ¬ (i + sub.length ≤ hi ∧ subAt x sub i = true)) → free ≤ k → (forIn (pre ++ k :: post) ((#[] : Array Nat), free) (StrLaws.occBody x sub hi 1)).run.fst = #[k]
  | [], post, _, hf => by
    rw [List.nil_append, List.forIn_cons]
    unfold StrLaws.occBody
    rw [if_pos ⟨⟨⟨by simp, hf⟩, hk.1⟩, hk.2⟩]
    exact occ_full x sub hi post k _
  | a :: pre, post, hp, hf => by
    rw [List.cons_append, List.forIn_cons]
    unfold StrLaws.occBody
    rw [if_neg fun q => hp a (.head _) ⟨q.1.2, q.2⟩]
    exact occ_first x sub hi k free hk pre post (fun i hi => hp i (.tail _ hi)) hf
open Builtin Builtin.Str in
theorem occ_at {x sub : Str} {lo k : Nat} (hlo : lo ≤ k) (hk : k + sub.length ≤ x.length ∧ subAt x sub k = true) (hn : ∀ i, lo ≤ i → i < k → subAt x sub i = false) : occurrences x sub lo x.length 1 = [k] := by
  rw [StrLaws.occ_eq]
  have e : List.range' lo (x.length + 1 - lo) = List.range' lo (k - lo) ++ k :: List.range' (k + 1) (x.length - k) := by
    have h1 : x.length + 1 - lo = (k - lo) + ((x.length - k) + 1) := by lia
    rw [h1, ← List.range'_append_1, List.range'_succ]
    have h2 : lo + (k - lo) = k := by lia
    rw [h2]
  rw [e, occ_first x sub x.length k lo hk _ _ (fun i hi => ?_) hlo]
  rw [List.mem_range'] at hi
  obtain ⟨j, hj, rfl⟩ := hi
  intro q
  rw [hn _ (by lia) (by lia)] at q
  exact absurd q.2 (by simp)
theorem index_from {x y : Str} {lo k : Nat} (hlo : lo ≤ k) (hk : k + y.length ≤ x.length ∧ Builtin.Str.subAt x y k = true) (hn : ∀ i, lo ≤ i → i < k → Builtin.Str.subAt x y i = false) (h : Q (.int k) F H) : Cl G fr A F H (.blt "str.index") [.str x, .str y, .int lo] Q E := cl_b3 fun K m a b c ha hb hc => by
        refine ha.e_str (P := fun a => EvAt _ _ _ _ _ (call _ [a, b, c]) _ _) fun t => hb.e_str (P := fun b => EvAt _ _ _ _ _ (call _ [_, b, c]) _ _) fun u => hc.e_int (P := fun c => EvAt _ _ _ _ _ (call _ [_, _, c]) _ _) fun v R s hR => ?_
        have hg : Gives (Builtin.«str.index» ⟨[.str x t, .str y u, .int lo v], []⟩) (.int k) := by
          show Gives (match Builtin.Str.occurrences x y (PySem.fromIndex x.length lo) (min x.length x.length) 1 with | i :: _ => retInt i | [] => (do rule "str.index.not-found"; raiseError "ValueError" "substring not found")) _
          have e : PySem.fromIndex x.length lo = lo := by unfold PySem.fromIndex; split <;> lia
          rw [Nat.min_self, e, occ_at hlo hk hn]
          exact .of_eq rfl
        exact call_gives PySem.F.slot_str_index (typeIs_str _ _ _) PySem.F.entry_str_index (PySem.F.args_str_index_3 _ _ _) hg (vret (hR.toks _) .int m h)
theorem RVs.take {vs : List Value} {l : List V} (h : RVs F vs l) : ∀ k, RVs F (vs.take k) (l.take k) := by
  induction h with
  | nil => intro k; simp; exact .nil
  | cons h t ih => intro k; cases k with
    | zero => exact .nil
    | succ k => exact .cons h (ih k)
theorem RVs.drop {vs : List Value} {l : List V} (h : RVs F vs l) : ∀ k, RVs F (vs.drop k) (l.drop k) := by
  induction h with
  | nil => intro k; simp; exact .nil
  | cons h t ih => intro k; cases k with
    | zero => exact .cons h t
    | succ k => exact ih k

theorem insert {a : Addr} {l : List V} {x : V} {z : Int} {k : Nat} (hzk : z = k) (hk : k ≤ l.length) (hu : Upd H a (.list l) (.list (l.take k ++ x :: l.drop k)) H') (hl : l.length ≤ sizeLine) (h : Q .none F H') : Cl G fr A F H (.blt "list.insert") [.ref a, .int z, x] Q E := cl_b3 fun K m a' b v ha hb h3 => by
        refine ha.e_ref (P := fun a => EvAt _ _ _ _ _ (call _ [a, b, v]) _ _) (hb.e_int (P := fun b => EvAt _ _ _ _ _ (call _ [_, b, v]) _ _) fun tk R s hR => ?_)
        obtain ⟨o, ho, items, n, rfl, hr⟩ := hR.get hu.mem
        have e := hr.toArr
        have hkk : k ≤ 16777216 := Nat.le_trans hk hl
        have hfit : ¬(!Builtin.List.listFitsIndex z) = true := by unfold Builtin.List.listFitsIndex; simp; lia
        have hz : items.size ≤ sizeLine := by rw [e]; exact hl
        have hM := @PySem.AutoListH.list_insert_list_int_val_1 a items n z tk v hfit hz
        refine call_meets PySem.F.slot_list_insert ⟨_, ho, rfl⟩ PySem.F.entry_list_insert (PySem.F.args_list_insert_3 _ _ _) hM ⟨ho, ?_⟩
        have g := Heap.get?_update_self (Obj.mapSeq fun xs => have k' := if z < 0 then (z + ((xs.size : Nat) : Int)).toNat else min z.toNat xs.size; (xs.extract 0 k').push v ++ xs.extract k') ho rfl
        refine ⟨K, H', .refl K, hR.upd' (tk := s.toks) (dr := s.drawn) hu (Heap.SameBut.update ..).extBut g ⟨_, _, rfl, ?_⟩ notNs_list, _, .none, F, m, h⟩
        show RVs K ((items.extract 0 (if z < 0 then (z + ((items.size : Nat) : Int)).toNat else min z.toNat items.size)).push v ++ items.extract (if z < 0 then (z + ((items.size : Nat) : Int)).toNat else min z.toNat items.size)).toList (l.take k ++ x :: l.drop k)
        have hk' : (if z < 0 then (z + ((items.size : Nat) : Int)).toNat else min z.toNat items.size) = k := by
          rw [if_neg (by lia), e]; lia
        rw [hk']
        have e1 : ((items.extract 0 k).push v ++ items.extract k).toList = items.toList.take k ++ v :: items.toList.drop k := by
          rw [Array.toList_append, Array.toList_push, Array.toList_extract, Array.toList_extract]
          simp [List.extract, List.take_of_length_le]
        rw [e1]
        exact (hr.take k).append (.cons h3 (hr.drop k))
end
section
variable {G : Glob} {fr : List Env} {A : Around} {env : Env} {F : Fz} {H H' : Hp} {E : Value → Fz → Hp → Prop} {Q : V → Fz → Hp → Prop} {i j : Int}
theorem mul_one {a : Addr} {y : V} {n : Nat} {H1 : Hp} (hn : n ≤ 2 ^ 24) (hr : Rem H a (.list [y]) H1) (h : ∀ b, Q (.ref b) F ((b, .list (List.replicate n y)) :: H1)) : Op2 G fr A F H (binaryOp .Mult) (.ref a) (.int n) Q E := fun K m v w hv hw R s hR => by
  obtain rfl := hv.i_ref
  generalize hz : ((n : Nat) : Int) = z at hw
  refine hw.e_int (P := fun w => wpAny _ _ (binaryOp _ _ w) _ _ _) fun tk => ?_
  have r1 := hR.perm (hr.perm.append_right R)
  obtain ⟨_, o, ho, items, k, rfl, hrv⟩ := r1.own _ (.head _)
  have e := hrv.toArr
  obtain ⟨v0, rfl⟩ : ∃ v0, items = #[v0] := by
    match items, e with
    | ⟨[v0]⟩, _ => exact ⟨v0, rfl⟩
  have hv0 : RV K v0 y := by cases hrv with | cons h _ => exact h
  have hrep : List.foldl (fun x1 x2 : Array Value => x1 ++ x2) #[] (List.replicate (if (#[v0] : Array Value).isEmpty = true then 0 else z.toNat) #[v0]) = (List.replicate n v0).toArray := by
    have : z.toNat = n := by lia
    rw [if_neg (by simp), this]
    have key : ∀ (m : Nat) (acc : Array Value), List.foldl (fun x1 x2 : Array Value => x1 ++ x2) acc (List.replicate m #[v0]) = acc ++ (List.replicate m v0).toArray := by
      intro m
      induction m with
      | zero => intro acc; simp
      | succ m ih => intro acc; rw [List.replicate_succ, List.foldl_cons, ih, List.replicate_succ]; apply Array.ext'; simp
    rw [key]; simp
  have hsz1 : (#[v0] : Array Value).size * z.toNat ≤ 2 ^ 24 := by simp; lia
  refine wpAny_binaryOp_repeat_ref (T := "list") (U := "int") (by decide) ⟨_, ho, rfl⟩ (fun s' => typeIs_int s' z tk) noFill_list_mul PySem.F.fills_int_mul PySem.F.slot_int_rmul repeat_list PySem.F.slot_int_index.lookup
    (call_meets PySem.F.slot_int_rmul (typeIs_int s z tk) PySem.F.entry_int_rmul (PySem.F.args_int_rmul_2 _ _) (int___rmul___int_list z tk a #[v0] k)
      ⟨ho, rfl, ⟨_, ho, rfl⟩, call_meets PySem.F.slot_list_mul ⟨_, ho, rfl⟩ PySem.F.entry_list_mul (PySem.F.args_list_mul_2 _ _)
        (AutoListH.list___mul___list_int_3 a #[v0] k z tk (by simp [Builtin.List.listFitsIndex]; lia) (by lia) (by simp [Builtin.List.listTooLong, sizeLine]; lia))
        ⟨ho, ?_⟩⟩)
  rw [hrep]
  have r2 := (r1.dropNot (fun _ e => nomatch e)).new (tk := s.toks) (dr := s.drawn) (x := .list (List.replicate n y)) (fun b o e => Heap.get?_push_of_some { cls := .type "list", data := .seq (List.replicate n v0).toArray } e) (none_at_size _) (Heap.get?_push_size _ rfl) ⟨_, 0, rfl, by
    show RVs K (List.replicate n v0) (List.replicate n y)
    clear r1 hrep hsz1 hR h hn hz
    induction n with
    | zero => exact .nil
    | succ n ih => exact .cons hv0 ih⟩
  exact ⟨K, _, .refl K, r2, _, .ref, F, m, h _⟩
theorem list_rng {n : Nat} (hh : A.handled = none) (hn : n ≤ 2 ^ 24) (h : Q (.lst ((List.range n).map fun (k : Nat) => .int k)) F H) : Cl G fr A F H (.typ "list") [.rng 0 n 1] Q E := cl_t1 fun K m v hv => by
      refine hv.e_rng (P := fun v => EvAt _ _ _ _ _ (call _ [v]) _ _) fun r t u v ha R s hR => ?_
      have hsz : Builtin.Range.rangeSize 0 n 1 = n := by
        unfold Builtin.Range.rangeSize
        simp
        try lia
      refine call_list_range hh (hR.fz _ _ ha) (small_n (by lia)) hsz hn fun h' tk acc' c' hk ho hit => ?_
      have hrv : RVs K acc'.toList ((List.range n).map fun (k : Nat) => V.int k) := by
        refine RVs.of (by simp [hit.1]) fun q v x h1 h2 => ?_
        have h1' : acc'[q]? = some v := by rw [← Array.getElem?_toList]; exact h1
        obtain ⟨t, rfl⟩ := hit.2 q v h1'
        rw [List.getElem?_map] at h2
        have hq : q < n := by
          rcases Nat.lt_or_ge q n with w | w
          · exact w
          · rw [List.getElem?_eq_none (by simpa using w)] at h2; cases h2
        rw [List.getElem?_range hq] at h2
        cases h2
        have : (0 : Int) + (q : Int) * 1 = q := by lia
        rw [this]; exact .int
      obtain ⟨le, r⟩ := hR.newF (tk := tk) (dr := s.drawn) hk (none_at_size _) ho
      exact ⟨_, H, le, r, _, .lst (vs := acc'.toList) (n := c') (Fz.add_self _ _ _) rfl rfl hrv.length (hrv.mono le).get, F, m.trans le, h⟩
theorem RF.mono {F F' : Fz} {f : Flow} {x : FV} (le : F.le F') (h : RF F f x) : RF F' f x := by
  cases h with
  | next => exact .next
  | brk => exact .brk
  | cont => exact .cont
  | ret h => exact .ret (h.mono le)
end
mutual
inductive VD : V → PyData → Prop where
  | none : VD .none .none
  | bool {b : Bool} : VD (.bool b) (.bool b)
  | int {i : Int} : VD (.int i) (.int i)
  | str {x : Str} : VD (.str x) (.str x)
  | tup {l : List V} {ds : List PyData} (h : VDs l ds) : VD (.tup l) (.tuple ds)
  | lst {l : List V} {ds : List PyData} (h : VDs l ds) : VD (.lst l) (.list ds)
inductive VDs : List V → List PyData → Prop where
  | nil : VDs [] []
  | cons {x : V} {d : PyData} {l : List V} {ds : List PyData} (h : VD x d) (t : VDs l ds) : VDs (x :: l) (d :: ds)
end
theorem reads_of {F : Fz} {h : Heap} (k : ∀ a o, F a = some o → h.get? a = some o) {x : V} {d : PyData} {v : Value} (hd : VD x d) : RV F v x → ∃ as, Reads h v d as := by
  revert v
  refine VD.rec (motive_1 := fun x d _ => ∀ {v : Value}, RV F v x → ∃ as, Reads h v d as) (motive_2 := fun l ds _ => ∀ {vs : List Value}, RVs F vs l → ∃ as, ReadsAll h vs ds as) ?_ ?_ ?_ ?_ ?_ ?_ ?_ ?_ hd
  · exact fun hv => hv.e_none (P := fun v => ∃ as, Reads h v _ as) ⟨_, .none⟩
  · exact fun hv => hv.e_bool (P := fun v => ∃ as, Reads h v _ as) ⟨_, .bool _⟩
  · exact fun hv => hv.e_int (P := fun v => ∃ as, Reads h v _ as) fun _ => ⟨_, .int _ _⟩
  · exact fun hv => hv.e_str (P := fun v => ∃ as, Reads h v _ as) fun _ => ⟨_, .str _ _⟩
  · exact fun _ ih _ hv => hv.e_tup (P := fun v => ∃ as, Reads h v _ as) fun a vs n ha hl hr => (ih (RVs.of hl hr)).elim fun as q => ⟨_, .tuple (k _ _ ha) rfl rfl q⟩
  · exact fun _ ih _ hv => hv.e_lst (P := fun v => ∃ as, Reads h v _ as) fun a vs n o ha hc hd hl hr => (ih (RVs.of hl hr)).elim fun as q => ⟨_, .list (k _ _ ha) hc hd q⟩
  · exact fun hv => hv.e0 (P := fun vs => ∃ as, ReadsAll h vs _ as) ⟨_, .nil⟩
  · exact fun _ _ i1 i2 _ hv => hv.ec (P := fun vs => ∃ as, ReadsAll h vs _ as) fun v vs g1 g2 => (i1 g1).elim fun as r1 => (i2 g2).elim fun bs r2 => ⟨_, .cons r1 r2⟩
theorem VD.noDict {x : V} {d : PyData} (hd : VD x d) : d.hasDict = false := by
  refine VD.rec (motive_1 := fun x d _ => d.hasDict = false) (motive_2 := fun l ds _ => PyData.hasDictAll ds = false) ?_ ?_ ?_ ?_ ?_ ?_ ?_ ?_ hd
  all_goals intros
  · rfl
  · rfl
  · rfl
  · rfl
  · assumption
  · assumption
  · rfl
  · rename_i q1 q2
    show (_ || _) = false
    rw [q1, q2]; rfl
section
variable {G : Glob} {fr : List Env} {A : Around} {env : Env} {F : Fz} {H H' : Hp} {E : Value → Fz → Hp → Prop} {Q : V → Fz → Hp → Prop}
theorem repr_tup {l : List V} {d : PyData} (hd : VD (.tup l) d) (hs : d.showable = true) (hl : d.leavesShort 13 = true) (hb : d.bulk ≤ 2 ^ 20) (hg : A.guards = some []) (hu : A.units + (d.depth + 1) < cLine) (h : Q (.str d.shown) F H) : Cl G fr A F H (.blt "repr") [.tup l] Q E := cl_b1 fun K m v hv => by
  refine fun R s hR => ?_
  obtain ⟨as, r⟩ := reads_of hR.fz hd hv
  revert r
  refine hv.e_tup (P := fun v => Reads s.heap v d as → wpAny _ _ (call _ [v]) _ _ _) fun a vs n ha _ _ r => ?_
  exact repr_of_reads' r hs (PyData.noDict_hsm hd.noDict) hg hu (fun _ _ e => e) (fun h' u tk hk => vret (hR.keeps (tk := tk) (dr := s.drawn) hk) .str m h) (PyData.shown_fits_bulk (B := 13) (by lia) (by lia) hl hb)
end
theorem VD.uniq {x : V} {d : PyData} (h : VD x d) : ∀ {d' : PyData}, VD x d' → d = d' := by
  refine VD.rec (motive_1 := fun x d _ => ∀ {d' : PyData}, VD x d' → d = d') (motive_2 := fun l ds _ => ∀ {ds' : List PyData}, VDs l ds' → ds = ds') ?_ ?_ ?_ ?_ ?_ ?_ ?_ ?_ h
  · intro _ h'; cases h'; rfl
  · intro _ _ h'; cases h'; rfl
  · intro _ _ h'; cases h'; rfl
  · intro _ _ h'; cases h'; rfl
  · intro _ _ _ ih _ h'; cases h' with | tup g => exact congrArg PyData.tuple (ih g)
  · intro _ _ _ ih _ h'; cases h' with | lst g => exact congrArg PyData.list (ih g)
  · intro _ h'; cases h'; rfl
  · intro _ _ _ _ _ _ i1 i2 _ h'
    cases h' with
    | cons g1 g2 => rw [i1 g1, i2 g2]
noncomputable def Rp (x : V) (b dp : Nat) : Prop := ∃ d, VD x d ∧ d.showable = true ∧ d.leavesShort 13 = true ∧ d.bulk ≤ b ∧ d.depth ≤ dp
noncomputable def Rps (l : List V) (b dp : Nat) : Prop := ∃ ds, VDs l ds ∧ PyData.showableAll ds = true ∧ PyData.leavesShortAll 13 ds = true ∧ PyData.bulkAll ds ≤ b ∧ PyData.depthAll ds ≤ dp
theorem Rps.nil {b dp : Nat} : Rps [] b dp := ⟨[], .nil, rfl, rfl, Nat.zero_le _, Nat.zero_le _⟩
theorem Rps.cons {x : V} {l : List V} {b b1 b2 dp : Nat} (h : Rp x b1 dp) (t : Rps l b2 dp) (hb : b1 + 1 + b2 ≤ b) : Rps (x :: l) b dp := by
  obtain ⟨d, h1, h2, h3, h4, h5⟩ := h
  obtain ⟨ds, g1, g2, g3, g4, g5⟩ := t
  exact ⟨d :: ds, .cons h1 g1, by show (_ && _) = true; rw [h2, g2]; rfl, by show (_ && _) = true; rw [h3, g3]; rfl, Nat.le_trans (Nat.add_le_add (Nat.add_le_add_right h4 1) g4) hb, Nat.max_le.mpr ⟨h5, g5⟩⟩
theorem Rp.tup {l : List V} {b dp : Nat} (h : Rps l b dp) : Rp (.tup l) b (dp + 1) :=
  let ⟨ds, g1, g2, g3, g4, g5⟩ := h
  ⟨.tuple ds, .tup g1, g2, g3, g4, Nat.succ_le_succ g5⟩
theorem Rp.lst {l : List V} {b dp : Nat} (h : Rps l b dp) : Rp (.lst l) b (dp + 1) :=
  let ⟨ds, g1, g2, g3, g4, g5⟩ := h
  ⟨.list ds, .lst g1, g2, g3, g4, Nat.succ_le_succ g5⟩
theorem Rp.none {b dp : Nat} : Rp .none b dp := ⟨.none, .none, rfl, rfl, Nat.zero_le _, Nat.zero_le _⟩
theorem Rp.bool {t : Bool} {b dp : Nat} : Rp (.bool t) b dp := ⟨.bool t, .bool, rfl, rfl, Nat.zero_le _, Nat.zero_le _⟩
theorem Rp.int {i : Int} {b dp : Nat} (h1 : i.natAbs.log2 < 1920) (h2 : (PyData.shown (.int i)).length ≤ 13) : Rp (.int i) b dp := ⟨.int i, .int, decide_eq_true h1, decide_eq_true h2, Nat.zero_le _, Nat.zero_le _⟩
theorem Rp.str {x : Str} {b dp : Nat} (h1 : (x.cps.toList.all fun c => decide (c < 16 ^ 8)) = true) (h2 : x.cps.size ≤ b) : Rp (.str x) b dp := ⟨.str x, .str, rfl, h1, h2, Nat.zero_le _⟩
theorem Rp.mono {x : V} {b b' dp dp' : Nat} (h : Rp x b dp) (hb : b ≤ b') (hd : dp ≤ dp') : Rp x b' dp' := let ⟨d, h1, h2, h3, h4, h5⟩ := h; ⟨d, h1, h2, h3, Nat.le_trans h4 hb, Nat.le_trans h5 hd⟩
theorem Rp.num {i : Int} {b dp : Nat} (h : i.natAbs < 10 ^ 12) : Rp (.int i) b dp := by
  refine Rp.int ?_ ?_
  · generalize i.natAbs = n at *
    rcases Nat.eq_zero_or_pos n with q | q
    · subst q; decide
    · have h1 : n < 2 ^ 40 := Nat.lt_of_lt_of_le h (by decide)
      have := (Nat.log2_lt (n := n) (k := 40) (by lia)).mpr h1
      lia
  · have h1 := int_text_length_le10 (a := i) (k := 12) (by lia) h
    simp only [PyData.shown]
    rw [PySem.ofString_length]
    exact h1
theorem repr_rp {G : Glob} {fr : List Env} {A : Around} {F : Fz} {H : Hp} {E : Value → Fz → Hp → Prop} {Q : V → Fz → Hp → Prop} {l : List V} {b dp : Nat} (hx : Rp (.tup l) b dp) (hb : b ≤ 2 ^ 20) (hg : A.guards = some []) (hu : A.units + (dp + 1) < cLine)
    (h : ∀ t : Str, (∀ d, VD (.tup l) d → d.shown = t) → Q (.str t) F H) : Cl G fr A F H (.blt "repr") [.tup l] Q E := by
  obtain ⟨d, h1, h2, h3, h4, h5⟩ := hx
  exact repr_tup h1 h2 h3 (by lia) hg (by lia) (h d.shown fun d' hd' => by rw [VD.uniq hd' h1])
theorem slV_rev (l : List V) : slV l none none (some (-1)) = l.reverse := by
  unfold slV slIdx
  rw [krv_bounds]
  show (sliceRange ((l.length : Int) - 1) (-1) (-1)).filterMap (l[·]?) = _
  rw [krv_sliceRange, krv_range, List.filterMap_reverse]
  have := krv_all l.toArray
  simp at this
  rw [this]
noncomputable def StoresM (env : Env) : List Bool → List Str → List V → Fz → Hp → (Fz → Hp → Prop) → Prop
  | true :: bs, x :: xs, y :: ys, F, H, Q => Store env x y F H fun F1 H1 => StoresM env bs xs ys F1 H1 Q
  | false :: bs, x :: xs, y :: ys, F, H, Q => StoreC env x y F H fun F1 H1 => StoresM env bs xs ys F1 H1 Q
  | [], [], [], F, H, Q => Q F H
  | _, _, _, _, _, _ => False
noncomputable abbrev kindsM (env : Env) : List Bool → List Str → Bool := kindB env.kindOf
section
variable {G : Glob} {fr : List Env} {A : Around} {env : Env} {F : Fz} {H H' : Hp} {E : Value → Fz → Hp → Prop} {Q : V → Fz → Hp → Prop}
theorem StoresM.loc {bs : List Bool} {x : Str} {y : V} {xs : List Str} {ys : List V} {Q : Fz → Hp → Prop} (h : Store env x y F H fun F1 H1 => StoresM env bs xs ys F1 H1 Q) : StoresM env (true :: bs) (x :: xs) (y :: ys) F H Q := h
theorem StoresM.cel {bs : List Bool} {x : Str} {y : V} {xs : List Str} {ys : List V} {Q : Fz → Hp → Prop} (h : StoreC env x y F H fun F1 H1 => StoresM env bs xs ys F1 H1 Q) : StoresM env (false :: bs) (x :: xs) (y :: ys) F H Q := h
theorem StoresM.nil {Q : Fz → Hp → Prop} (h : Q F H) : StoresM env [] [] [] F H Q := h
theorem assignAllM (hk : env.scope.kind = .function) {bs : List Bool} {es : List Expr} {xs : List Str} {ys : List V} {vs : List Value} {F K : Fz} {H : Hp} {Q : Fz → Hp → Prop} (m : F.le K) (hn : namesOf? es = some xs) (hl : kindsM env bs xs = true) (hv : RVs K vs ys) (h : StoresM env bs xs ys F H Q) :
    TpAt G fr A K H (assignInOrder ((assignEach es env).map (·.2)) vs) (fun _ => Dn Q) E := by
  refine namesOf_ind (P := fun es xs => ∀ (bs : List Bool) (ys : List V) (vs : List Value) (F K : Fz) (H : Hp), F.le K → kindsM env bs xs = true → RVs K vs ys → StoresM env bs xs ys F H Q → TpAt G fr A K H (assignInOrder ((assignEach es env).map (·.2)) vs) (fun _ => Dn Q) E) ?_ ?_ es xs hn bs ys vs F K H m hl hv h
  · intro bs ys vs F K H m hl hv h
    cases bs with
    | cons b bs => cases b <;> cases hl
    | nil =>
      cases hv with
      | nil => exact fun R s hR => wpAny_pure (tret (Q := fun _ => Q) hR m h)
      | cons => exact h.elim
  · intro x pos es xs ih bs ys vs F K H m hl hv h R s hR
    have fin : ∀ (bs : List Bool) (v : Value) (y : V) (vs : List Value) (ys : List V), RVs K vs ys → kindB env.kindOf bs xs = true → TpAt G fr A K H (storeName env x v) (fun _ => Dn fun F2 H2 => StoresM env bs xs ys F2 H2 Q) E → wpAny G.M A (assignInOrder ((assignEach (.Name x pos :: es) env).map (·.2)) (v :: vs)) (PQ G fr K R fun _ => Dn Q) (PQ G fr K R fun e => Dn (E e)) s := by
      intro bs v y vs ys h2 hl sto
      show wpAny _ _ (do holding vs (assign (.Name x pos) env v); assignInOrder ((assignEach es env).map (·.2)) vs) _ _ s
      refine wpAny_bind (wpAny_holding (wpAny_assign_Name (sto.seq hR (.refl K) fun _ K2 H2 s2 l2 r2 hq => ?_)))
      obtain ⟨F2, m2, q⟩ := hq
      exact (ih bs ys vs F2 K2 H2 m2 hl (h2.mono l2) q).last r2 l2
    cases bs with
    | nil => cases hl
    | cons b bs =>
      cases hv with
      | nil => cases b <;> exact h.elim
      | @cons v y vs ys h1 h2 =>
        cases b with
        | true => exact fin bs v y vs ys h2 (and_r hl) (store m h1 (show Store _ _ _ _ _ _ from h) hk (of_decide_eq_true (and_l hl)))
        | false => exact fin bs v y vs ys h2 (and_r hl) (storeC m h1 (show StoreC _ _ _ _ _ _ from h) hk (of_decide_eq_true (and_l hl)))
theorem As_TupleM (bs : List Bool) {es : List Expr} {k pos} {xs : List Str} {ys : List V} {Q : Fz → Hp → Prop} (hh : A.handled = none) (hn : namesOf? es = some xs) (hl : kindsM env bs xs = true) (hlen : xs.length = ys.length) (h : StoresM env bs xs ys F H Q)
    (hk : env.scope.kind = .function := by rfl) : As G fr A env F H (.Tuple es k pos) (.tup ys) Q E := fun K m v hv => by
  refine hv.e_tup (P := fun v => TpAt _ _ _ _ _ (assign _ _ v) _ _) fun a vs n ha hlv hr R s hR => ?_
  obtain ⟨e1, e2⟩ := assignEach_names (env := env) hn
  refine assign_Tuple_tuple (items := vs.toArray) hh ⟨_, hR.fz _ _ ha, rfl, n, rfl⟩ (by rw [e1]; simp; lia) e2 fun h' he => ?_
  exact (assignAllM hk m hn hl (RVs.of hlv hr) h) R _ (hR.keeps (tk := s.toks) (dr := s.drawn) (extBut_keeps he))
theorem Ex_Assign_TupleM (bs : List Bool) {es : List Expr} {k pos' value pos} {xs : List Str} {Q : FV → Fz → Hp → Prop} (hh : A.handled = none) (hn : namesOf? es = some xs) (hl : kindsM env bs xs = true)
    (h : Ev G fr A F H (eval value env) (fun y F1 H1 => ∃ ys, y = .tup ys ∧ xs.length = ys.length ∧ StoresM env bs xs ys F1 H1 (Q .next)) E)
    (hs : swapsWithSole [.Tuple es k pos'] value pos.line env = pure false := by rfl) (hw : swappedStores [.Tuple es k pos'] value env = pure none := by rfl) (hk : env.scope.kind = .function := by rfl) :
    Ex G fr A F H (exec (.Assign [.Tuple es k pos'] value pos) env) Q E := fun K m R s hR => by
  have he : exec (.Assign [.Tuple es k pos'] value pos) env = (do
    standAt pos
    if ← swapsWithSole [.Tuple es k pos'] value pos.line env then do
      evalThenUse value env fun v => assignAll v ((assignEach [.Tuple es k pos'] env).map (·.2))
      pure .next
    else do
      let v ← eval value env
      assignStores env v (← swappedStores [.Tuple es k pos'] value env) ((assignEach [.Tuple es k pos'] env).map (·.2))) := rfl
  rw [he, hs, hw]
  refine wpAny_bind (wpAny_standAt (wpAny_bind (wpAny_pure ?_)))
  simp only [Bool.false_eq_true, if_false]
  refine wpAny_bind (h.go m hR (.refl K) fun v y F1 K1 H1 s1 l1 m1 r1 hy hq => wpAny_bind (wpAny_pure ?_))
  obtain ⟨ys, rfl, hlen, q⟩ := hq
  show wpAny _ _ (do assignAll v [assign (.Tuple es k pos') env]; pure Flow.next) _ _ s1
  refine wpAny_bind ?_
  show wpAny _ _ (assign (.Tuple es k pos') env v) _ _ s1
  exact (As_TupleM (G := G) (fr := fr) (E := E) bs hh hn hl hlen q hk K1 m1 v hy).seq r1 l1 fun _ K2 H2 s2 l2 r2 hq => wpAny_pure (by obtain ⟨F2, m2, q⟩ := hq; exact upPQ (l1.trans l2) (fret r2 .next m2 q))
end
section
variable {G : Glob} {fr : List Env} {A : Around} {env : Env} {F : Fz} {H : Hp} {E : Value → Fz → Hp → Prop}
noncomputable def MapTurn (G : Glob) (fr : List Env) (A : Around) (cenv : Addr → Env) (nms : List Str) (target elt : Expr) (l : List V) (F1 : Fz) (H1 : Hp) (f : Nat → V) : Prop :=
  ∀ k y C ρ, l[k]? = some y → ρ.map (·.1) = nms → As G fr A (cenv C) F1 ((C, .ns ρ) :: H1) target y (fun F3 H3 => Ev G fr A F3 H3 (eval elt (cenv C)) (fun z F5 H5 => F5 = F1 ∧ Off C nms (fun _ H6 => z = f k ∧ H6 = H1) F5 H5) No) No
theorem map_turns {cenv : Addr → Env} {nms : List Str} {target elt : Expr} {l : List V} {F1 : Fz} {H1 : Hp} {f : Nat → V} (h : MapTurn G fr A cenv nms target elt l F1 H1 f) :
    Turns G fr A cenv nms target elt [] l (fun j acc F4 H4 => F4 = F1 ∧ acc = (List.range j).map f ∧ H4 = H1) := ⟨by
  rintro k y acc F2 H2 C ρ hy ⟨rfl, rfl, rfl⟩ hρ Qn hn K m v hv R s hR
  refine wpAny_mono (h k y C ρ hy hρ K m v hv R s hR) (fun _ _ hq => ?_) fun _ _ e => e
  obtain ⟨K1, H4, l4, r4, F3, m3, q⟩ := hq
  refine ⟨K1, H4, l4, r4, F3, m3, ?_⟩
  show Ev _ _ _ _ _ _ _ _
  refine q.mono (fun z F4 H4 hq => ?_) fun _ _ _ e => e
  obtain ⟨rfl, ρ', H5, hr, hnn, e1, e2⟩ := hq
  exact ⟨ρ', H5, hr, hnn, hn _ _ _ ⟨rfl, by rw [List.range_succ, List.map_append, e1]; rfl, e2⟩⟩⟩
theorem Ev_map {elt target iter : Expr} {scope : Scope} {cl : List (Str × Addr)} {pos : Pos} {Q : V → Fz → Hp → Prop} (nms : List Str)
    (hclos : closureFor scope env = pure cl)
    (h : Ev G fr A F H (eval iter env) (fun y F1 H1 => ∃ l, Iterable G A y l ∧ l.length ≤ sizeLine ∧ ∃ f : Nat → V, MapTurn G fr A (fun C => compEnvC scope cl C env) nms target elt l F1 H1 f ∧ Q (.lst ((List.range l.length).map f)) F1 H1) E)
    (hnd : nms.Nodup) (hcell : (scope.names.all fun x => x.2 != .cell) = true := by rfl) (hkind : scope.kind = .function := by rfl) (hnames : (scope.names.all fun x => (x.2 != .local) || decide (scope.names.lookup x.1 = some .local)) = true := by rfl)
    (hs : ∀ x, foldedSetIterable iter env x = pure x := by intro _; rfl) (ht : ∀ it v, letOwnedTupleGo target it v = pure () := by intro _ _; rfl) :
    Ev G fr A F H (eval (.ListComp elt [⟨target, iter, [], 0⟩] scope pos) env) Q E :=
  Ev_ListComp nms hclos (h.mono (fun y F1 H1 hq => by
    obtain ⟨l, h1, h2, f, h3, h4⟩ := hq
    exact ⟨l, h1, h2, _, ⟨rfl, rfl, rfl⟩, map_turns h3, fun acc F2 H2 e => by obtain ⟨rfl, rfl, rfl⟩ := e; exact h4⟩) fun _ _ _ e => e) hnd hcell hkind hnames hs ht
theorem Ex_Assign_map {elt target iter : Expr} {scope : Scope} {cl : List (Str × Addr)} {pos py spos : Pos} {y : Str} {Q : FV → Fz → Hp → Prop} (nms : List Str)
    (hclos : closureFor scope env = pure cl)
    (h : Ev G fr A F H (eval iter env) (fun x F1 H1 => ∃ l, Iterable G A x l ∧ l.length ≤ sizeLine ∧ ∃ f : Nat → V, MapTurn G fr A (fun C => compEnvC scope cl C env) nms target elt l F1 H1 f ∧ Store env y (.lst ((List.range l.length).map f)) F1 H1 (Q .next)) E)
    (hnd : nms.Nodup) (hsw : swapsWith (.ListComp elt [⟨target, iter, [], 0⟩] scope pos) (some (.Name y py)) spos.line env = pure true := by rfl) (hcell : (scope.names.all fun x => x.2 != .cell) = true := by rfl) (hkind : scope.kind = .function := by rfl) (hnames : (scope.names.all fun x => (x.2 != .local) || decide (scope.names.lookup x.1 = some .local)) = true := by rfl)
    (hk : env.scope.kind = .function := by rfl) (hl : env.kindOf y = some .local := by rfl)
    (hs : ∀ x, foldedSetIterable iter env x = pure x := by intro _; rfl) (ht : ∀ it v, letOwnedTupleGo target it v = pure () := by intro _ _; rfl) :
    Ex G fr A F H (exec (.Assign [.Name y py] (.ListComp elt [⟨target, iter, [], 0⟩] scope pos) spos) env) Q E :=
  Ex_Assign_ListComp nms hclos (h.mono (fun x F1 H1 hq => by
    obtain ⟨l, h1, h2, f, h3, h4⟩ := hq
    exact ⟨l, h1, h2, _, ⟨rfl, rfl, rfl⟩, map_turns h3, fun acc F2 H2 e => by obtain ⟨rfl, rfl, rfl⟩ := e; exact h4⟩) fun _ _ _ e => e) hnd hsw hcell hkind hnames hk hl hs ht
end
noncomputable def tbH : Option Addr → Hp
  | none => []
  | some t => [(t, .tb)]
section
variable {G : Glob} {fr : List Env} {A : Around} {F K : Fz} {H R : Hp} {s : Shared} {E : Value → Fz → Hp → Prop}
theorem Rep.slots (h : Rep G fr K H s) {h' : Heap} (hs : Heap.SlotsOnly (fr.filterMap (·.frame)) s.heap h') : Rep G fr K H { s with heap := h' } := by
  have fin : ∀ b ∈ fr.filterMap (·.frame), ∃ ρ, (b, AO.ns ρ) ∈ H := fun b hb => by
    obtain ⟨env, he, e⟩ := List.mem_filterMap.mp hb
    obtain ⟨L, ρ, e', m⟩ := (h.frs env he).2
    rw [e] at e'
    cases e'
    exact ⟨ρ, m⟩
  refine ⟨h.gok, h.base, fun a o e => ?_, fun p hp => ?_, h.nd, h.frs, h.gens, h.os⟩
  · refine (hs.2.1 a fun hm => ?_).trans (h.fz a o e)
    obtain ⟨ρ, m⟩ := fin a hm
    rw [(h.own _ m).1] at e
    cases e
  · obtain ⟨n, o, g, r⟩ := h.own p hp
    by_cases hm : p.1 ∈ fr.filterMap (·.frame)
    · obtain ⟨ρ, m⟩ := fin _ hm
      have hpe : p = (p.1, AO.ns ρ) := by
        have := h.nd
        obtain ⟨a, x⟩ := p
        have key : ∀ {H : Hp}, (H.map (·.1)).Nodup → (a, x) ∈ H → (a, AO.ns ρ) ∈ H → x = AO.ns ρ := by
          intro H
          induction H with
          | nil => intro _ q; cases q
          | cons q H ih =>
            intro nd h1 h2
            rw [List.map_cons, List.nodup_cons] at nd
            rcases List.mem_cons.mp h1 with e1 | e1 <;> rcases List.mem_cons.mp h2 with e2 | e2
            · rw [← e1] at e2; exact (Prod.mk.inj e2).2.symm
            · subst e1; exact absurd (mem_keys e2 rfl) nd.1
            · subst e2; exact absurd (mem_keys e1 rfl) nd.1
            · exact ih nd.2 e1 e2
        rw [key this hp m]
      obtain ⟨sl, g'⟩ := hs.2.2 p.1 o g
      rw [hpe] at r ⊢
      obtain ⟨es, ep, e1, e2, e3, e4⟩ := r
      exact ⟨n, _, g', es, ep, e1, e2, e3, e4⟩
    · exact ⟨n, o, (hs.2.1 _ hm).trans g, r⟩
theorem Rep.funFrames (h : Rep G fr K H s) : s.heap.FunFrames { objs := #[] } fr := by
  have : ∀ l : List Env, (∀ e ∈ l, e ∈ fr) → s.heap.FunFrames { objs := #[] } l := by
    intro l
    induction l with
    | nil => intro _; trivial
    | cons env l ih =>
      intro hl
      obtain ⟨hk, L, ρ, hf, m⟩ := h.frs env (hl env (.head _))
      obtain ⟨_, o, g, es, ep, hd, _⟩ := h.own _ m
      exact ⟨by rw [hk]; decide, ⟨L, o, hf, by first | rfl | simp [Heap.get?], g, fun vs q => by rw [hd] at q; cases q⟩, ih fun e he => hl e (.tail _ he)⟩
  exact this fr fun _ h => h
theorem notNs_exc {c : String} {args : List V} {tb : Option Addr} {d : Option Addr} {cx : Bool} {X : AO} : (∃ ρ, AO.exc c args tb d cx = .ns ρ) → ∃ ρ, X = .ns ρ := fun h => by obtain ⟨_, q⟩ := h; cases q
theorem notNs_tb {X : AO} : (∃ ρ, AO.tb = .ns ρ) → ∃ ρ, X = .ns ρ := fun h => by obtain ⟨_, q⟩ := h; cases q
theorem RO.excSet {w : World} {o : Obj} {c : String} {args : List V} {tb : Option Addr} {d : Option Addr} {cx : Bool} (h : RO w K o (.exc c args tb d cx)) (t : Addr) : RO w K (o.mapFields (·.setIfInBounds 1 (.ref t))) (.exc c args (some t) d cx) := by
  obtain ⟨vs, a, v5, e1, e2, e3, e4, e5, e6, e7, e8, e9⟩ := h
  have hsz : 1 < vs.size := (Array.getElem?_eq_some_iff.mp e6).1
  obtain ⟨oc, od, odt, osl⟩ := o
  obtain rfl : odt = .fields vs := e3
  refine ⟨vs.setIfInBounds 1 (.ref t), a, v5, e1, e2, rfl, ?_, e5, ?_, ?_, e8, fun q => ?_⟩
  · rw [Array.getElem?_setIfInBounds_ne (by decide)]; exact e4
  · rw [Array.getElem?_setIfInBounds_self]; simp [hsz]
  · rw [Array.getElem?_setIfInBounds_ne (by decide)]; exact e7
  · rw [Array.getElem?_setIfInBounds_ne (by decide)]; exact e9 q
theorem entry {env : Env} {outer : List Env} (hfr : A.frames = some (env :: outer)) {x : Addr} {c : String} {args : List V} {tb : Option Addr} {d : Option Addr} {cx : Bool} {L : Addr} {head : Value} {had : Bool} (hf : env.frame = some L) :
    TpAt G (env :: outer) A K ((x, .exc c args tb d cx) :: H) (do let a ← frameOf env; let pl ← entryPlaceOf L had; let b ← EntryCells.newEntry head a .none (rawInt L) .none pl; setField (.ref x) 1 b)
      (fun _ K' H' => K' = K ∧ ∃ t, H' = (x, .exc c args (some t) d cx) :: (t, .tb) :: H) E := fun R s hR => by
  refine wpAny_bind (wpAny_frameOf_fun hfr hR.funFrames hf fun h₁ hs₁ => ?_)
  have r1 := hR.slots hs₁
  refine wpAny_bind (wpAny_entryPlaceOf fun pl hpl => ?_)
  unfold EntryCells.newEntry newFields
  refine wpAny_bind (wpAny_newObj_type ?_ (hpl.sizeOk5 _ _ _ _ _))
  have r2 := r1.new (D := h₁.objs.size) (x := .tb) (tk := s.toks) (dr := s.drawn) (fun b o e => Heap.get?_push_of_some { cls := .type "traceback", dict := none, data := .fields ([head, .ref L, .none, rawInt L, .none] ++ (if pl.isEmpty then List.replicate 6 Value.none else pl)).toArray } e) (none_at_size _) (Heap.get?_push_size _ rfl) ⟨_, rfl, rfl, by simp only [List.size_toArray, List.length_append, List.length_cons, List.length_nil]; lia⟩
  have r3 := r2.perm (H' := (x, .exc c args tb d cx) :: (h₁.objs.size, .tb) :: (H ++ R)) (.swap ..)
  obtain ⟨_, o, ho, hro⟩ := r3.own _ (.head _)
  obtain ⟨vs, a, v5, e1, e2, e3, e4, e5, e6, e7⟩ := id hro
  have hsz : 1 < vs.size := (Array.getElem?_eq_some_iff.mp e6).1
  refine wpAny_setField ho e3 hsz ?_
  have g := Heap.get?_update_self (Obj.mapFields (·.setIfInBounds 1 (Value.ref h₁.objs.size))) ho (Obj.isFreed_of_fields (Obj.data_mapFields e3 _))
  exact ⟨K, _, .refl K, r3.upd (tk := s.toks) (dr := s.drawn) (Heap.SameBut.update ..).extBut g (hro.excSet _) notNs_exc, rfl, _, rfl⟩
theorem note {env : Env} {outer : List Env} (hfr : A.frames = some (env :: outer)) {x : Addr} {c : String} {args : List V} {tb : Option Addr} {d : Option Addr} {cx : Bool} :
    TpAt G (env :: outer) A K ((x, .exc c args tb d cx) :: (tbH tb ++ H)) (noteFrame (.ref x) env) (fun _ K' H' => K' = K ∧ ∃ t, H' = (x, .exc c args (some t) d cx) :: (t, .tb) :: H) E := fun R s hR => by
  obtain ⟨_, L, _, hf, _⟩ := hR.frs env (.head _)
  obtain ⟨_, o, ho, hro⟩ := hR.own _ (.head _)
  obtain ⟨vs, a, v5, e1, e2, e3, e4, e5, e6, e7⟩ := id hro
  unfold noteFrame
  simp only [hf]
  refine wpAny_bind (wpAny_field ho e3 e6 ?_)
  cases tb with
  | none =>
    rw [if_neg (by decide)]
    exact entry hfr hf R s hR
  | some t =>
    rw [if_pos (show ((some t).elim Value.none Value.ref != Value.none) = true from by simp)]
    have r1 : Rep G (env :: outer) K ((t, .tb) :: (x, .exc c args (some t) d cx) :: (H ++ R)) s := hR.perm (.swap ..)
    obtain ⟨_, ot, hot, ts, t1, t2, t3⟩ := r1.own _ (.head _)
    refine wpAny_bind (wpAny_field hot t2 (x := ts[3]) (Array.getElem?_eq_getElem t3) ?_)
    by_cases hb : (ts[3] == rawInt L) = true
    · rw [if_pos hb]
      exact wpAny_pure ⟨K, _, .refl K, hR, rfl, t, rfl⟩
    · rw [if_neg hb]
      refine wpAny_bind (wpAny_setField hot t2 t3 ?_)
      have g := Heap.get?_update_self (Obj.mapFields (·.setIfInBounds 3 Value.none)) hot (Obj.isFreed_of_fields (Obj.data_mapFields t2 _))
      have r2 : Rep G (env :: outer) K ((t, .tb) :: (x, .exc c args (some t) d cx) :: (H ++ R)) { s with heap := s.heap.update t (Obj.mapFields (·.setIfInBounds 3 Value.none)) } :=
        r1.upd (x' := .tb) (tk := s.toks) (dr := s.drawn) (Heap.SameBut.update ..).extBut g ⟨_, by rw [Obj.cls_mapFields]; exact t1, Obj.data_mapFields t2 _, by simpa using t3⟩ notNs_tb
      exact entry hfr hf R _ (r2.dropNot fun _ q => nomatch q)
theorem flight {x t : Addr} {c : String} {args : List V} {d : Option Addr} {cx : Bool} {f : Option Addr} :
    TpAt G fr A K ((x, .exc c args (some t) d cx) :: (t, .tb) :: H) (setFlight (.ref x) f) (fun _ K' H' => K' = K ∧ H' = (x, .exc c args (some t) d cx) :: (t, .tb) :: H) E := fun R s hR => by
  obtain ⟨_, o, ho, hro⟩ := hR.own _ (.head _)
  obtain ⟨vs, a, v5, e1, e2, e3, e4, e5, e6, e7⟩ := id hro
  unfold setFlight
  refine wpAny_bind (wpAny_field ho e3 e6 ?_)
  have hb : ((some t).elim Value.none Value.ref != Value.none) = true := by simp
  rw [if_pos hb]
  have r1 : Rep G fr K ((t, .tb) :: (x, .exc c args (some t) d cx) :: (H ++ R)) s := hR.perm (.swap ..)
  obtain ⟨_, ot, hot, ts, t1, t2, t3⟩ := r1.own _ (.head _)
  refine wpAny_setField hot t2 t3 ?_
  have g := Heap.get?_update_self (Obj.mapFields (·.setIfInBounds 3 (f.elim Value.none fun f => rawInt f))) hot (Obj.isFreed_of_fields (Obj.data_mapFields t2 _))
  have r2 : Rep G fr K ((t, .tb) :: (x, .exc c args (some t) d cx) :: (H ++ R)) { s with heap := s.heap.update t (Obj.mapFields (·.setIfInBounds 3 (f.elim Value.none fun f => rawInt f))) } :=
    r1.upd (x' := .tb) (tk := s.toks) (dr := s.drawn) (Heap.SameBut.update ..).extBut g ⟨_, by rw [Obj.cls_mapFields]; exact t1, Obj.data_mapFields t2 _, by simpa using t3⟩ notNs_tb
  exact ⟨K, _, .refl K, r2.perm (.swap ..), rfl, rfl⟩
noncomputable def Thr0 (P : Addr → String → List V → Bool → Fz → Hp → Prop) : Value → Fz → Hp → Prop := fun e F H => ∃ x c args tb cx H1, e = .ref x ∧ H.Perm ((x, .exc c args tb none cx) :: (tbH tb ++ H1)) ∧ P x c args cx F H1
noncomputable abbrev Thr (P : Addr → String → List V → Fz → Hp → Prop) : Value → Fz → Hp → Prop := Thr0 fun x c args _ F H => P x c args F H
section
variable {P Q : Addr → String → List V → Bool → Fz → Hp → Prop} {e : Value}
theorem Thr0.mk {x : Addr} {c : String} {args : List V} {cx : Bool} {H1 : Hp} (hr : Rem H x (.exc c args none none cx) H1) (p : P x c args cx F H1) : Thr0 P (.ref x) F H := ⟨x, c, args, none, cx, H1, rfl, hr.perm, p⟩
theorem Thr0.mono (h : Thr0 P e F H) (k : ∀ x c a b F1 H1, P x c a b F1 H1 → Q x c a b F1 H1) : Thr0 Q e F H := let ⟨x, c, a, tb, cx, H1, h1, h2, h3⟩ := h; ⟨x, c, a, tb, cx, H1, h1, h2, k _ _ _ _ _ _ h3⟩
theorem thr_no (h : Thr0 (fun _ _ _ _ _ _ => False) e F H) : False := let ⟨_, _, _, _, _, _, _, _, h3⟩ := h; h3
end
theorem noted_thr2 {A' : Around} {env : Env} {outer : List Env} (hfr : A.frames = some (env :: outer)) {P : Addr → String → List V → Bool → Fz → Hp → Prop} {e : Value} (hq : PQ G (env :: outer) K R (fun e => Dn (Thr0 P e)) e s) :
    notedBy G.M A env (cameBackBy G.M A' env (PQ G (env :: outer) K R fun e => Dn (Thr0 P e))) e s := by
  obtain ⟨K1, H1, l1, r1, F1, m1, x, c, args, tb, cx, H2, rfl, hp, p⟩ := hq
  have r1 : Rep G (env :: outer) K1 (((x, .exc c args tb none cx) :: (tbH tb ++ H2)) ++ R) s := r1.perm (hp.append_right R)
  refine wpAny_mono (note hfr (E := No) R s r1) (fun _ s2 hq => ?_) fun e s2 q => (noPQ (v := e) q).elim
  obtain ⟨K2, H3, l2, r2, rfl, t, rfl⟩ := hq
  obtain ⟨_, o, ho, hro⟩ := r2.own _ (.head _)
  obtain ⟨vs, a, v5, e1, e2, e3, e4, e5, e6, e7⟩ := id hro
  show wpAny G.M A' (do
    if (← field (.ref x) 1) == .none then unsupported "frame.own-activation:exception-without-traceback"
    setFlight (.ref x) env.frame) _ _ s2
  refine wpAny_bind (wpAny_field ho e3 e6 ?_)
  rw [if_neg (show ¬ ((some t).elim Value.none Value.ref == Value.none) = true from by simp)]
  refine wpAny_mono (flight (E := No) R s2 r2) (fun _ s3 hq => ?_) fun e s2 q => (noPQ (v := e) q).elim
  obtain ⟨K3, H3, l3, r3, rfl, rfl⟩ := hq
  exact ⟨K3, _, l1, r3, F1, m1, x, c, args, some t, cx, H2, rfl, .refl _, p⟩
theorem leaves_thr {env : Env} {L : Addr} (hfr : A.frames = some fr) (hL : env.frame = some L) {P : Addr → String → List V → Bool → Fz → Hp → Prop} :
    Leaves G fr A env (Thr0 fun x c args b F H => ∃ ρ H', Rem H L (.ns ρ) H' ∧ P x c args b F H') (Thr0 P) := fun fresh K R e s hq => by
  obtain ⟨K1, H1, l1, r1, F1, m1, x, c, args, tb, cx, H2, rfl, hp, ρ, H3, hrem, p⟩ := hq
  have r1 : Rep G (env :: fr) K1 (((x, .exc c args tb none cx) :: (tbH tb ++ H2)) ++ R) s := r1.perm (hp.append_right R)
  have hfr' : (A.deeper env).frames = some (env :: fr) := Around.frames_deeper hfr
  unfold leaving
  refine wpAny_bind (wpAny_mono (note hfr' (E := No) R s r1) (fun _ s2 hq => ?_) fun e s2 q => (noPQ (v := e) q).elim)
  obtain ⟨K2, H4, l2, r2, rfl, t, rfl⟩ := hq
  refine wpAny_mono (flight (E := No) R s2 r2) (fun _ s3 hq => ?_) fun e s2 q => (noPQ (v := e) q).elim
  obtain ⟨K3, H5, l3, r3, rfl, rfl⟩ := hq
  have hr3 : Rem ((x, AO.exc c args (some t) none cx) :: (t, AO.tb) :: H2) L (.ns ρ) ((x, AO.exc c args (some t) none cx) :: (t, AO.tb) :: H3) := .tl (.tl hrem)
  have r4 : Rep G fr K3 (((x, AO.exc c args (some t) none cx) :: (t, AO.tb) :: H3) ++ R) s3 := (r3.pop.perm (hr3.perm.append_right R)).drop fun e he q => fresh e he (q.trans hL.symm)
  exact ⟨K3, _, l1, r4, F1, m1, x, c, args, some t, cx, H3, rfl, .refl _, p⟩
end
section
variable {G : Glob} {fr : List Env} {A : Around} {env : Env} {F K : Fz} {H R : Hp} {s : Shared} {E : Value → Fz → Hp → Prop} {Q : V → Fz → Hp → Prop}
theorem stop_new1 {y : V} (h : ∀ x, Q (.ref x) F ((x, .exc "StopIteration" [y] none none true) :: H)) : Cl G fr A F H (.typ "StopIteration") [y] Q E := cl_t1 fun K m v hv R s hR => by
  refine stop_call fun h' e hm => ?_
  obtain ⟨hk, hn, t, he, ht, hto⟩ := hm
  obtain ⟨le, r1⟩ := hR.newF (tk := s.toks) (dr := s.drawn) hk ht hto
  have fr1 := hR.fresh hn
  have hne : e ≠ t := fun q => by
    subst q
    rw [he] at hto
    exact absurd (congrArg Obj.cls (Option.some.inj hto)) (by simp)
  have r2 := Rep.adopt (x := .exc "StopIteration" [y] none none true) r1 (by unfold Fz.add; rw [if_neg hne]; exact fr1.1) fr1.2 he
    ⟨_, t, v, rfl, rfl, rfl, rfl, .tup (vs := [v]) (l := [y]) (Fz.add_self _ _ _) rfl (RVs.get (.cons (hv.mono le) .nil)), rfl, rfl, fun _ => hv.mono le, fun _ => rfl⟩
  exact ⟨_, _, le, r2, _, .ref, F, m.trans le, h e⟩
theorem raise_any {M : Model} {x : Sem Value} {E : Value → Shared → Prop} {Q : Flow → Shared → Prop} (hh : A.handled = none)
    (h : wpAny M A x (fun v s₁ => ∃ c, ExcRaiseFacts c ∧ ∃ e o vs, v = .ref e ∧ s₁.heap.get? e = some o ∧ o.cls = .type c ∧ o.data = .fields vs ∧ vs[1]? = some .none ∧ E (.ref e) s₁) E s) :
    wpAny M A (raiseStmt env (some x) none) Q E s := by
  unfold raiseStmt
  refine wpAny_bind (wpAny_mono h (fun v s₁ h₁ => ?_) fun _ _ x => x)
  obtain ⟨c, F, e, o, vs, rfl, he, hc, hd, h1, hE⟩ := h₁
  obtain ⟨hp, g, d, tk, os⟩ := s₁
  have hsub := F.isExc
  have hmeta := F.plainMeta
  obtain ⟨oc, od, odt, osl⟩ := o
  obtain rfl : oc = .type c := hc
  obtain rfl : odt = .fields vs := hd
  repeat (first | refine wpAny_loadPart he ?_ | wp_step)
  rw [h1]
  refine wpAny_pure ?_
  rw [if_neg (by decide)]
  refine wpAny_pure ?_
  unfold raiseNew
  refine wpAny_bind (wpAny_handled ?_)
  rw [hh]
  first
    | exact wpAny_throw hE
    | exact wpAny_bind (wpAny_pure (wpAny_throw hE))
theorem Ex_Raise {e : Expr} {pos : Pos} {Q : FV → Fz → Hp → Prop} (hh : A.handled = none)
    (h : Ev G fr A F H (eval e env) (fun v F1 H1 => ∃ x c args cx, v = .ref x ∧ Has H1 x (.exc c args none none cx) ∧ ExcRaiseFacts c ∧ E (.ref x) F1 H1) E) : Ex G fr A F H (exec (.Raise (some e) none pos) env) Q E := fun K m R s hR => by
  rw [arm_exec_Raise]
  show wpAny G.M A (do standAt pos; raiseStmt env (some (do let v ← eval e env; standAt pos; pure v)) none) _ _ s
  refine wpAny_bind (wpAny_standAt ?_)
  have key : wpAny G.M A (do let v ← eval e env; standAt pos; pure v) (fun v s₁ => ∃ c, ExcRaiseFacts c ∧ ∃ e o vs, v = .ref e ∧ s₁.heap.get? e = some o ∧ o.cls = .type c ∧ o.data = .fields vs ∧ vs[1]? = some .none ∧ PQ G fr K R (fun e => Dn (E e)) (.ref e) s₁) (PQ G fr K R fun e => Dn (E e)) s := by
    refine wpAny_bind (h.go m hR (.refl K) fun v x F1 K1 H1 s1 l1 m1 r1 hx hq => wpAny_bind (wpAny_standAt (wpAny_pure ?_)))
    obtain ⟨x, c, args, cx, rfl, hm, hf, q⟩ := hq
    obtain rfl := hx.i_ref
    obtain ⟨o, ho, vs, a, v5, e1, e2, e3, e4, e5, e6, e7⟩ := r1.has hm
    exact ⟨c, hf, x, o, vs, rfl, ho, e1, e3, e6, K1, H1, l1, r1, F1, m1, q⟩
  refine raise_any hh key
end
noncomputable def Hd (G : Glob) (fr : List Env) (A : Around) (env : Env) (F : Fz) (H : Hp) (x : Addr) (hs : List ExceptHandler) (Q : FV → Fz → Hp → Prop) (E : Value → Fz → Hp → Prop) : Prop := ∀ K, F.le K → TpAt G fr A K H (handleBy (.ref x) env hs) (FQ Q) E
structure Cat (c T : String) (b : Bool) : Prop where
  exc : isSubtype (.type T) (.type "BaseException") = pure true
  nt : isSubtype (.type ((Manifest.find? T).elim "type" fun x => x.metatype)) (.type "tuple") = pure false
  sub : isSubtype (.type c) (.type T) = pure b
inductive Drp : Hp → Hp → Prop where
  | nil {H : Hp} : Drp H H
  | cons {H H1 H2 : Hp} {a : Addr} {x : AO} (hr : Rem H a x H1) (hx : ∀ ρ, x ≠ .ns ρ) (t : Drp H1 H2) : Drp H H2
theorem Rep.drp {G : Glob} {fr : List Env} {K : Fz} {H H' R : Hp} {s : Shared} (d : Drp H H') (r : Rep G fr K (H ++ R) s) : Rep G fr K (H' ++ R) s := by
  induction d with
  | nil => exact r
  | cons hr hx _ ih => exact ih ((r.perm (hr.perm.append_right R)).dropNot hx)
theorem Drp.one {H H1 : Hp} {a : Addr} {x : AO} (hr : Rem H a x H1) (hx : ∀ ρ, x ≠ .ns ρ) : Drp H H1 := .cons hr hx .nil
theorem Drp.two {H H1 H2 : Hp} {a b : Addr} {x y : AO} (hr : Rem H a x H1) (hx : ∀ ρ, x ≠ .ns ρ) (hs : Rem H1 b y H2) (hy : ∀ ρ, y ≠ .ns ρ) : Drp H H2 := .cons hr hx (.cons hs hy .nil)
inductive Unb (env : Env) (n : Str) (F : Fz) (H : Hp) (Q : Fz → Hp → Prop) : Prop where
  | intro (ρ ρ' : List (Str × Option V)) (H' : Hp) (hu : Upd H env.locals (.ns ρ) (.ns ρ') H') (hs : SetL ρ n none ρ') (h : Q F H')
section
variable {G : Glob} {fr outer : List Env} {A : Around} {env : Env} {F K : Fz} {H R : Hp} {s : Shared} {E : Value → Fz → Hp → Prop} {Q : FV → Fz → Hp → Prop} {P PB : Addr → String → List V → Bool → Fz → Hp → Prop}
theorem pass {what : String} {x t : Addr} {c : String} {args : List V} {d : Option Addr} {cx : Bool} {α : Type} {Q' : α → Shared → Prop} {E' : Value → Shared → Prop} (hR : Rep G fr K (((x, .exc c args (some t) d cx) :: (t, .tb) :: H) ++ R) s)
    (h : ∀ s', Rep G fr K (((x, .exc c args (some t) d cx) :: (t, .tb) :: H) ++ R) s' → E' (.ref x) s') : wpAny G.M A (PySem.passOn what (.ref x) env : Sem α) Q' E' s := by
  obtain ⟨_, o, ho, hro⟩ := hR.own _ (.head _)
  obtain ⟨vs, a, v5, e1, e2, e3, e4, e5, e6, e7⟩ := id hro
  unfold PySem.passOn
  refine wpAny_bind (wpAny_field ho e3 e6 ?_)
  rw [if_neg (show ¬ ((some t).elim Value.none Value.ref == Value.none) = true from by simp)]
  refine wpAny_bind (wpAny_mono (flight (E := No) R s hR) (fun _ s3 hq => ?_) fun e s2 q => (noPQ (v := e) q).elim)
  obtain ⟨K3, H3, l3, r3, rfl, rfl⟩ := hq
  exact wpAny_throw (h s3 r3)
theorem Ex_Try {body : List Stmt} {h₀ : ExceptHandler} {hs : List ExceptHandler} {pos : Pos} (hfr : A.frames = some (env :: outer))
    (h : Ex G (env :: outer) A F H (execs body env) Q (Thr0 PB))
    (hd : ∀ x c args t cx F1 H1, PB x c args cx F1 H1 → Hd G (env :: outer) A env F1 ((x, .exc c args (some t) none cx) :: (t, .tb) :: H1) x (h₀ :: hs) Q E) :
    Ex G (env :: outer) A F H (exec (.Try body (h₀ :: hs) [] [] pos) env) Q E := fun K m R s hR => by
  refine wpAny_Try_except (wpAny_mono (h K m R s hR) (fun f s₁ hq => ?_) fun e s₁ hq => ?_)
  · cases f with
    | next => exact wpAny_execs_nil hq
    | brk => exact hq
    | cont => exact hq
    | ret v => exact hq
  · obtain ⟨K1, H1, l1, r1, F1, m1, x, c, args, tb, cx, H2, rfl, hp, p⟩ := hq
    have r1 : Rep G (env :: outer) K1 (((x, .exc c args tb none cx) :: (tbH tb ++ H2)) ++ R) s₁ := r1.perm (hp.append_right R)
    refine wpAny_mono (note hfr (E := No) R s₁ r1) (fun _ s2 hq => ?_) fun e s2 q => (noPQ (v := e) q).elim
    obtain ⟨K2, H3, l2, r2, rfl, t, rfl⟩ := hq
    refine wpAny_mono (flight (E := No) R s2 r2) (fun _ s3 hq => ?_) fun e s2 q => (noPQ (v := e) q).elim
    obtain ⟨K3, H4, l3, r3, rfl, rfl⟩ := hq
    exact (hd x c args t cx F1 H2 p K3 m1).last r3 l1
theorem Rep.isExc {x : Addr} {c : String} {args : List V} {tb d : Option Addr} {cx : Bool} (hR : Rep G fr K (H ++ R) s) (hx : Has H x (.exc c args tb d cx)) : s.TypeIs (.ref x) c := by
  obtain ⟨o, ho, vs, a, v5, e1, _⟩ := hR.has hx
  exact ⟨o, ho, e1⟩
theorem Hd_yes {x t : Addr} {c T : String} {args : List V} {cx : Bool} {n : Str} {npos pos : Pos} {b₀ : Stmt} {suite : List Stmt} {rest : List ExceptHandler} (hfr : A.frames = some (env :: outer)) (hg : G.mg n = none) (hb : G.mb n = some (.type T)) (cat : Cat c T true)
    (h : Ex G (env :: outer) (A.mark (some (.ref x))) F ((x, .exc c args (some t) none cx) :: (t, .tb) :: H) (execs (b₀ :: suite) env) Q (Thr0 P)) (hk : env.scope.kind = .function := by rfl) (hkn : env.kindOf n = some .globalImplicit := by rfl) (hgl : env.globals = mainGlobals := by rfl) (hbl : env.builtins = builtinsNs := by rfl) (hd : (n == ("__debug__" : Str)) = false := by decide) :
    Hd G (env :: outer) A env F ((x, .exc c args (some t) none cx) :: (t, .tb) :: H) x (.ExceptHandler (some (.Name n npos)) none (b₀ :: suite) pos :: rest) Q (Thr0 P) := fun K m R s hR => by
  refine wpAny_handleBy_builtin (b := true) cat.exc cat.nt cat.sub (Name_function_global hk hkn (loadGlobal_builtin (by rw [hgl]; exact hR.glob.1) hg (by rw [hbl]; exact hR.glob.2.1) hb ⟨rfl, hR.isExc .hd, ?_⟩) hd)
  rw [if_pos rfl]
  refine wpAny_mono (flight (E := No) R s hR) (fun _ s3 hq => ?_) fun e s2 q => (noPQ (v := e) q).elim
  obtain ⟨K3, H3, l3, r3, rfl, rfl⟩ := hq
  exact wpAny_mono (h K3 m R s3 r3) (fun _ _ q => q) fun e s4 q => noted_thr2 (A := A.mark (some (.ref x))) (A' := A) hfr q
theorem Ex_Finally {body : List Stmt} {f₀ : Stmt} {fs : List Stmt} {pos : Pos} (hfr : A.frames = some (env :: outer))
    (h : Ex G (env :: outer) A F H (execs body env) (fun fv F1 H1 => Ex G (env :: outer) A F1 H1 (execs (f₀ :: fs) env) (fun g F2 H2 => g = .next ∧ Q fv F2 H2) No) (Thr0 PB))
    (hx : ∀ x c args t cx F1 H1, PB x c args cx F1 H1 → Ex G (env :: outer) (A.mark (some (.ref x))) F1 ((x, .exc c args (some t) none cx) :: (t, .tb) :: H1) (execs (f₀ :: fs) env) (fun g F2 H2 => g = .next ∧ ∃ H3, H2 = (x, .exc c args (some t) none cx) :: (t, .tb) :: H3 ∧ P x c args cx F2 H3) No) :
    Ex G (env :: outer) A F H (exec (.Try body [] [] (f₀ :: fs) pos) env) Q (Thr0 P) := fun K m R s hR => by
  have raised : ∀ e s₁, PQ G (env :: outer) K R (fun e => Dn (Thr0 PB e)) e s₁ → FinallyRaised G.prog G.w A (PQ G (env :: outer) K R fun e => Dn (Thr0 P e)) env (f₀ :: fs) (PQ G (env :: outer) K R (FQ Q)) e s₁ := fun e s₁ hq => by
    obtain ⟨K1, H1, l1, r1, F1, m1, x, c, args, tb, cx, H2, rfl, hp, p⟩ := hq
    have r1 : Rep G (env :: outer) K1 (((x, .exc c args tb none cx) :: (tbH tb ++ H2)) ++ R) s₁ := r1.perm (hp.append_right R)
    refine ⟨ref_ne_byPass x, wpAny_mono (note hfr (E := No) R s₁ r1) (fun _ s2 hq => ?_) fun e s2 q => (noPQ (v := e) q).elim⟩
    obtain ⟨K2, H3, l2, r2, rfl, t, rfl⟩ := hq
    refine wpAny_mono (flight (E := No) R s2 r2) (fun _ s3 hq => ?_) fun e s2 q => (noPQ (v := e) q).elim
    obtain ⟨K3, H4, l3, r3, rfl, rfl⟩ := hq
    refine wpAny_mono (hx x c args t cx F1 H2 p K3 m1 R s3 r3) (fun g s4 hq => ?_) fun e s2 q => (noPQ (α := Value) (v := e) q).elim
    obtain ⟨K4, H4, l4, r4, gv, hg, F4, m4, e, H5, rfl, q⟩ := hq
    subst e
    cases hg
    exact pass r4 fun s5 r5 => ⟨K4, _, l1.trans l4, r5, F4, m4, x, c, args, some t, cx, H5, rfl, .refl _, q⟩
  refine wpAny_Try_finally (wpAny_mono (h K m R s hR) (fun f s₁ hq => ?_) fun e s₁ hq => ?_)
  · obtain ⟨K1, H1, l1, r1, fv, hf, F1, m1, q⟩ := hq
    have fin : wpAny G.M A (execs (f₀ :: fs) env) (fun g s' => match g with | .next => PQ G (env :: outer) K R (FQ Q) f s' | g => PQ G (env :: outer) K R (FQ Q) g s') (notedBy G.M A env (cameBackBy G.M A env (PQ G (env :: outer) K R fun e => Dn (Thr0 P e)))) s₁ := by
      refine wpAny_mono (q K1 m1 R s₁ r1) (fun g s' hg => ?_) fun e s₁ q => (noPQ (α := Value) (v := e) q).elim
      obtain ⟨K2, H2, l2, r2, gv, hg, F2, m2, e, q⟩ := hg
      subst e
      cases hg
      exact ⟨K2, H2, l1.trans l2, r2, fv, hf.mono l2, F2, m2, q⟩
    cases f with
    | next => exact wpAny_execs_nil fin
    | brk => exact fin
    | cont => exact fin
    | ret v => exact fin
  · have hq0 := hq
    obtain ⟨K1, H1, l1, r1, F1, m1, x, c, args, tb, cx, H2, rfl, hp, p⟩ := hq
    have r1 : Rep G (env :: outer) K1 (((x, .exc c args tb none cx) :: (tbH tb ++ H2)) ++ R) s₁ := r1.perm (hp.append_right R)
    refine wpAny_mono (note hfr (E := No) R s₁ r1) (fun _ s2 hq => ?_) fun e s2 q => (noPQ (v := e) q).elim
    obtain ⟨K2, H3, l2, r2, rfl, t, rfl⟩ := hq
    exact raised _ _ ⟨K2, _, l1, r2, F1, m1, x, c, args, some t, cx, H2, rfl, .refl _, p⟩
theorem RO.excFrom {w : World} {o : Obj} {c : String} {args : List V} {tb : Option Addr} {d : Option Addr} {cx : Bool} (h : RO w K o (.exc c args tb d cx)) (hx : Addr) : RO w K (((o.mapFields (·.setIfInBounds 3 .none)).mapFields (·.setIfInBounds 4 (.bool true))).mapFields (·.setIfInBounds 2 (.ref hx))) (.exc c args tb d false) := by
  obtain ⟨vs, a, v5, e1, e2, e3, e4, e5, e6, e7, e8, e9⟩ := h
  obtain ⟨oc, od, odt, osl⟩ := o
  obtain rfl : odt = .fields vs := e3
  refine ⟨((vs.setIfInBounds 3 .none).setIfInBounds 4 (.bool true)).setIfInBounds 2 (.ref hx), a, v5, e1, e2, rfl, ?_, e5, ?_, ?_, e8, fun q => nomatch q⟩
  · rw [Array.getElem?_setIfInBounds_ne (by decide), Array.getElem?_setIfInBounds_ne (by decide), Array.getElem?_setIfInBounds_ne (by decide)]; exact e4
  · rw [Array.getElem?_setIfInBounds_ne (by decide), Array.getElem?_setIfInBounds_ne (by decide), Array.getElem?_setIfInBounds_ne (by decide)]; exact e6
  · rw [Array.getElem?_setIfInBounds_ne (by decide), Array.getElem?_setIfInBounds_ne (by decide), Array.getElem?_setIfInBounds_ne (by decide)]; exact e7
theorem Ex_RaiseNone {e : Expr} {k cpos pos} {x' : Addr} {c : String} (hh : A.handled = some (.ref x')) (hf : ExcRaiseFacts c)
    (h : Ev G fr A F H (eval e env) (fun v F1 H1 => ∃ x args H2 c' args' tb' d', v = .ref x ∧ Rem H1 x (.exc c args none none true) H2 ∧ Has H2 x' (.exc c' args' tb' d' true) ∧ ∃ H3, Drp ((x, .exc c args none none false) :: H2) H3 ∧ Thr0 P (.ref x) F1 H3) (Thr0 P)) :
    Ex G fr A F H (exec (.Raise (some e) (some (.Constant .none k cpos)) pos) env) Q (Thr0 P) := fun K m R s hR => by
  rw [arm_exec_Raise]
  show wpAny G.M A (do standAt pos; raiseStmt env (some (do let v ← eval e env; standAt pos; pure v)) (some (do let v ← eval (.Constant .none k cpos) env; standAt pos; pure v))) _ _ s
  refine wpAny_bind (wpAny_standAt (raise_from_none hf hh ?_))
  refine wpAny_bind (h.go m hR (.refl K) fun v x F1 K1 H1 s1 l1 m1 r1 hx hq => wpAny_bind (wpAny_standAt (wpAny_pure ?_)))
  obtain ⟨x, args, H2, c', args', tb', d', rfl, hr, hm, H3, hdr, q⟩ := hq
  obtain rfl := hx.i_ref
  have r2 : Rep G fr K1 ((x, .exc c args none none true) :: (H2 ++ R)) s1 := r1.perm (hr.perm.append_right R)
  obtain ⟨_, o, ho, hro⟩ := r2.own _ (.head _)
  obtain ⟨vs, a, v5, e1, e2, e3, e4, e5, e6, e7, e8, e9⟩ := id hro
  have hmem : (x', AO.exc c' args' tb' d' true) ∈ H2 ++ R := List.mem_append_left _ hm.mem
  obtain ⟨_, oh, hoh, vh, ah, vh5, f1, f2, f3, f4, f5, f6, f7, f8, f9⟩ := r2.own _ (.tail _ hmem)
  have hne : x ≠ x' := fun q => (List.nodup_cons.mp r2.nd).1 (mem_keys hmem q.symm)
  refine wpAny_bind (wpAny_Constant_none (wpAny_bind (wpAny_standAt (wpAny_pure ⟨rfl, x, o, vs, oh, vh, rfl, ho, e1, e3, e6, (Array.getElem?_eq_some_iff.mp e7).1, hne, hoh, f3, f9 rfl, fun h' hs' ho' => ?_⟩))))
  have r3 : Rep G fr K1 (((x, .exc c args none none false) :: H2) ++ R) { s1 with heap := h' } := r2.upd (x' := .exc c args none none false) (tk := s1.toks) (dr := s1.drawn) hs'.extBut ho' (hro.excFrom _) notNs_exc
  exact ⟨K1, _, l1, r3.drp hdr, F1, m1, q⟩
theorem Rep.exc {h' : Heap} {tk : Nat} {e t : Addr} {X : String} {vs : List Value} {l : List V} {v5 : Value} (hR : Rep G fr K H s) (hk : ∀ b o, s.heap.get? b = some o → h'.get? b = some o) (hn : s.heap.get? e = none)
    (he : h'.get? e = some { cls := .type X, data := .fields #[.ref t, .none, .none, .none, .bool false, v5] }) (ht : s.heap.get? t = none) (hto : h'.get? t = some { cls := .type "tuple", data := .seq vs.toArray }) (hv : RVs K vs l) (h5 : X = "StopIteration" → RV K v5 (l.headD .none)) :
    ∃ K', K.le K' ∧ Rep G fr K' ((e, .exc X l none none true) :: H) { s with heap := h', toks := tk } := by
  obtain ⟨le, r1⟩ := hR.newF (tk := tk) (dr := s.drawn) hk ht hto
  have fr1 := hR.fresh hn
  have hne : e ≠ t := fun q => by
    subst q
    rw [he] at hto
    exact absurd (congrArg Obj.data (Option.some.inj hto)) (by simp)
  exact ⟨_, le, Rep.adopt (x := .exc X l none none true) r1 (by unfold Fz.add; rw [if_neg hne]; exact fr1.1) fr1.2 he
    ⟨_, t, v5, rfl, rfl, rfl, rfl, .tup (vs := vs) (l := l) (Fz.add_self _ _ _) hv.length (hv.mono le).get, rfl, rfl, fun q => (h5 q).mono le, fun _ => rfl⟩⟩
theorem raise_words {α : Type} {M : Model} {X msg : String} {Q : α → Shared → Prop} {E' : Value → Shared → Prop} (hp : PlainExc X) (hh : A.handled = none)
    (h : ∀ h' tk e t v5 u, (∀ b o, s.heap.get? b = some o → h'.get? b = some o) → s.heap.get? e = none → h'.get? e = some { cls := .type X, data := .fields #[.ref t, .none, .none, .none, .bool false, v5] } → s.heap.get? t = none → h'.get? t = some { cls := .type "tuple", data := .seq [.str msg u].toArray } → E' (.ref e) { s with heap := h', toks := tk }) :
    wpAny M A (raiseErrorWords X msg : Sem α) Q E' s := by
  unfold raiseErrorWords
  refine wpAny_bind (wpAny_mkText (wpAny_bind ?_))
  unfold newExc newTuple
  refine wpAny_bind (wpAny_newObj_type ?_)
  refine wpAny_bind (m := firstArgMember _ _) (wpAny_of_eq (a := Value.none) (by simp only [firstArgMember, hp.first]; rfl) ?_)
  rw [hp.own]
  refine wpAny_newObj_type ?_
  unfold raiseNew
  refine wpAny_bind (wpAny_handled ?_)
  rw [hh]
  first
    | refine wpAny_throw ?_
    | refine wpAny_bind (wpAny_pure (wpAny_throw ?_))
  exact h _ _ _ s.heap.objs.size _ _ (fun b o hb => Heap.get?_push_of_some _ (Heap.get?_push_of_some _ hb)) (Heap.get?_none_of_le (by simp)) (Heap.get?_push_size _ rfl) (none_at_size _) (Heap.get?_push_of_some _ (Heap.get?_push_size _ rfl))
theorem raise_made' {α : Type} {M : Model} {X msg : String} {Q : α → Shared → Prop} {E' : Value → Shared → Prop} (hp : PlainExc X) (hh : A.handled = none) (hm : (msg : Str).length ≤ sizeLine)
    (h : ∀ h' tk e t v5 u, (∀ b o, s.heap.get? b = some o → h'.get? b = some o) → s.heap.get? e = none → h'.get? e = some { cls := .type X, data := .fields #[.ref t, .none, .none, .none, .bool false, v5] } → s.heap.get? t = none → h'.get? t = some { cls := .type "tuple", data := .seq [.str msg u].toArray } → E' (.ref e) { s with heap := h', toks := tk }) :
    wpAny M A (raiseErrorMade X msg : Sem α) Q E' s := by
  unfold raiseErrorMade
  refine wpAny_bind (wpAny_mkStr (wpAny_bind ?_) hm)
  unfold newExc newTuple
  refine wpAny_bind (wpAny_newObj_type ?_)
  refine wpAny_bind (m := firstArgMember _ _) (wpAny_of_eq (a := Value.none) (by simp only [firstArgMember, hp.first]; rfl) ?_)
  rw [hp.own]
  refine wpAny_newObj_type ?_
  unfold raiseNew
  refine wpAny_bind (wpAny_handled ?_)
  rw [hh]
  first
    | refine wpAny_throw ?_
    | refine wpAny_bind (wpAny_pure (wpAny_throw ?_))
  exact h _ _ _ s.heap.objs.size _ _ (fun b o hb => Heap.get?_push_of_some _ (Heap.get?_push_of_some _ hb)) (Heap.get?_none_of_le (by simp)) (Heap.get?_push_size _ rfl) (none_at_size _) (Heap.get?_push_of_some _ (Heap.get?_push_size _ rfl))
theorem sub_str_out {value slice : Expr} {x : Str} {i : Nat} {Q : V → Fz → Hp → Prop} (hh : A.handled = none) (hi : x.cps.size ≤ i) (h : ∀ e m, E (.ref e) F ((e, .exc "IndexError" [.str m] none none true) :: H)) (hs : notSlice slice = true := by rfl) :
    Op2 G fr A F H (subscriptTail value slice) (.str x) (.int i) Q E := fun K m vo vi ho hi' R s hR => by
  refine ho.e_str (P := fun vo => wpAny _ _ (subscriptTail value slice vo vi) _ _ _) fun t => hi'.e_int (P := fun vi => wpAny _ _ (subscriptTail value slice _ vi) _ _ _) fun u => ?_
  have post : ∀ (msg : String) h' tk e t v5 u, (∀ b o, s.heap.get? b = some o → h'.get? b = some o) → s.heap.get? e = none → h'.get? e = some { cls := .type "IndexError", data := .fields #[.ref t, .none, .none, .none, .bool false, v5] } → s.heap.get? t = none → h'.get? t = some { cls := .type "tuple", data := .seq [.str msg u].toArray } →
      PQ G fr K R (fun e => Dn (E e)) (.ref e) { s with heap := h', toks := tk } := fun msg h' tk e t v5 u hk hn he ht hto => by
    obtain ⟨K', le, r⟩ := Rep.exc (tk := tk) (l := [.str (msg : Str)]) hR hk hn he ht hto (.cons .str .nil) (fun q => absurd q (by decide))
    exact ⟨K', (e, .exc "IndexError" [.str (msg : Str)] none none true) :: H, le, r, F, m.trans le, h e _⟩
  refine tail_any (typeIs_str _ _ _) PySem.F.slot_str_getitem.lookup (wpAny_getItem_slot (typeIs_str _ _ _) (by decide) PySem.F.slot_str_getitem (wpAny_call_entry PySem.F.slot_str_getitem (typeIs_str _ _ _) PySem.F.entry_str_getitem ?_ (PySem.F.args_str_getitem_2 _ _))) (sub_of hs)
  show wpAny _ _ (if (decide ((i : Int) < -(2 ^ 63 : Int)) || decide ((i : Int) ≥ 2 ^ 63)) = true then _ else
          match (seqIndex? i x.length).bind (x.cps[·]?) with
          | some c => _
          | none => _) _ _ _
  have hnone : (seqIndex? (i : Int) x.length).bind (x.cps[·]?) = none := by
    have hl : x.length = x.cps.size := rfl
    have : seqIndex? (i : Int) x.length = none := by
      unfold seqIndex?
      simp only [if_neg (Int.not_lt.mpr (Int.natCast_nonneg i))]
      rw [if_neg (by simp only [Bool.and_eq_true, decide_eq_true_eq]; lia)]
    rw [this]; rfl
  rw [hnone]
  by_cases hb : (decide ((i : Int) < -(2 ^ 63 : Int)) || decide ((i : Int) ≥ 2 ^ 63)) = true
  · rw [if_pos hb]
    refine wpAny_bind (wpAny_rule ?_)
    refine wpAny_bind (wpAny_of_eq (show PySem.typeNameOf (.int (i : Int) u) = pure "int" by kernel_rfl) ?_)
    exact wpAny_bind (raise_made' (msg := "cannot fit 'int' into an index-sized integer") plainExc_IndexError hh (by decide) (post _))
  · rw [if_neg hb]
    exact wpAny_bind (wpAny_rule (raise_words plainExc_IndexError hh (post _)))
end
inductive Is (y : V) (F : Fz) (H : Hp) : V → Fz → Hp → Prop where
  | mk : Is y F H y F H
inductive IsL (ys : List V) (F : Fz) (H : Hp) : List V → Fz → Hp → Prop where
  | mk : IsL ys F H ys F H
noncomputable def calmFns : List Str := ["len", "int", "str", "abs", "divmod", "repr", "range", "type", "isinstance", "sum", "max", "min"]
noncomputable def calmMeths : List Str := ["index", "find", "startswith", "get", "lower", "split", "join"]
noncomputable def calm : Nat → Expr → Bool
  | 0, _ => false
  | n + 1, e => match e with
    | .Name .. => true
    | .Constant .. => true
    | .BinOp l _ r _ => calm n l && calm n r
    | .UnaryOp _ x _ => calm n x
    | .Subscript v s _ => calm n v && calm n s
    | .Slice l u s _ => l.all (calm n) && u.all (calm n) && s.all (calm n)
    | .Attribute v _ _ => calm n v
    | .Tuple es _ _ => es.all (calm n)
    | .Call (.Name f _) as ks _ => calmFns.contains f && as.all (calm n) && ks.isEmpty
    | .Call (.Attribute o m _) as ks _ => calmMeths.contains m && calm n o && as.all (calm n) && ks.isEmpty
    | _ => false
section
variable {G : Glob} {fr : List Env} {A : Around} {env : Env} {F : Fz} {H : Hp} {E : Value → Fz → Hp → Prop} {Q : V → Fz → Hp → Prop} {x y : V}
theorem Ev.is {t : Sem Value} (h : Ev G fr A F H t (Is x F H) No) (k : Q x F H) : Ev G fr A F H t Q E := h.mono (fun _ _ _ q => by cases q; exact k) fun _ _ _ e => e.elim
theorem Evs.is {t : Sem (List Value)} {xs : List V} {Q : List V → Fz → Hp → Prop} (h : Evs G fr A F H t (IsL xs F H) No) (k : Q xs F H) : Evs G fr A F H t Q E := fun K m R s hR =>
  wpAny_mono (h K m R s hR) (fun _ _ q => by obtain ⟨F1, H1, l, r, x, hx, F2, m2, q⟩ := q; cases q; exact ⟨F1, H, l, r, xs, hx, F, m2, k⟩) fun e _ q => (noPQ (v := e) q).elim
theorem Ev_BinOp' {l op r pos} (h1 : Ev G fr A F H (eval l env) (Is x F H) No) (h2 : Ev G fr A F H (eval r env) (Is y F H) No) (h : Op2 G fr A F H (binaryOp op) x y Q E) (hc : (calm 8 l && calm 8 r) = true := by rfl) : Ev G fr A F H (eval (.BinOp l op r pos) env) Q E := Ev_BinOp (h1.is (h2.is h))
theorem Ev_UnaryOp' {op e pos} (h1 : Ev G fr A F H (eval e env) (Is x F H) No) (h : Op1 G fr A F H (unaryOp op) x Q E) (hc : calm 8 e = true := by rfl) : Ev G fr A F H (eval (.UnaryOp op e pos) env) Q E := Ev_UnaryOp (h1.is h)
theorem Ev_Subscript' {value slice pos} (h1 : Ev G fr A F H (eval value env) (Is x F H) No) (h2 : Ev G fr A F H (eval slice env) (Is y F H) No) (h : Op2 G fr A F H (subscriptTail value slice) x y Q E) (hc : (calm 8 value && calm 8 slice) = true := by rfl) : Ev G fr A F H (eval (.Subscript value slice pos) env) Q E := Ev_Subscript (h1.is (h2.is h))
theorem Ev_Attribute' {value : Expr} {attr : Str} {pos : Pos} (h1 : Ev G fr A F H (eval value env) (Is x F H) No) (h : Op1 G fr A F H (fun v => getAttr v attr true) x Q E) (hc : calm 8 value = true := by rfl)
    (he : eval (.Attribute value attr pos) env = (do
      let o ← eval value env
      standAt pos.atName
      let r ← holding [o] (getAttr o attr true)
      letTemporaryGo value o r
      pure r) := by with_unfolding_all rfl) : Ev G fr A F H (eval (.Attribute value attr pos) env) Q E := Ev_Attribute (h1.is h) he
theorem It_Compare1' {l op r pos whole} {Q : Bool → Fz → Hp → Prop} (h1 : Ev G fr A F H (eval l env) (Is x F H) No) (h2 : Ev G fr A F H (eval r env) (Is y F H) No) (h : Op2 G fr A F H (compareOp op) x y (fun z F3 H3 => ∃ c, z = .bool c ∧ Q c F3 H3) E)
    (hc : (calm 8 l && calm 8 r) = true := by rfl) (hm : behindInMarks op r = false := by with_unfolding_all rfl) : Tp G fr A F H (isTrue (.Compare l [op] [r] pos) env whole) Q E := It_Compare1 (h1.is (h2.is h)) hm
theorem Evs_nil' {pos} : Evs G fr A F H (spliced (backTo pos (starEach [] env))) (IsL [] F H) No := Evs_nil .mk
theorem Evs_cons' {e : Expr} {rest : List Expr} {pos} {xs : List V} (h1 : Ev G fr A F H (eval e env) (Is x F H) No) (h2 : Evs G fr A F H (spliced (backTo pos (starEach rest env))) (IsL xs F H) No)
    (he : starEach (e :: rest) env = (false, eval e env) :: starEach rest env := by rfl) : Evs G fr A F H (spliced (backTo pos (starEach (e :: rest) env))) (IsL (x :: xs) F H) No := Evs_cons (h1.is (h2.is .mk)) he
theorem Ev_Call' {func e : Expr} {rest : List Expr} {pos} {xs : List V} (h1 : Ev G fr A F H (eval func env) (Is x F H) No) (hk : KOk F x) (h2 : Evs G fr A F H (spliced (backTo pos (starEach (e :: rest) env))) (IsL xs F H) No) (h : Cl G fr A F H x xs Q E) (hc : (e :: rest).all (calm 8) = true := by rfl)
    (he : eval (.Call func (e :: rest) [] pos) env = (do callWith pos (← eval func env) [] (backTo pos (starEach (e :: rest) env)) (backToKw pos (keywordEach [] env))) := by rfl)
    (hs : starEach (e :: rest) env = (false, eval e env) :: starEach rest env := by rfl) (hplain : (backTo pos (starEach rest env)).any (·.1) = false := by rfl) :
    Ev G fr A F H (eval (.Call func (e :: rest) [] pos) env) Q E := Ev_Call (h1.is ⟨hk, h2.is h⟩) he hs hplain
theorem Ev_Tuple' {elts : List Expr} {k pos} {xs : List V} (h1 : Evs G fr A F H (spliced (backTo pos (starEach elts env))) (IsL xs F H) No) (hl : xs.length ≤ sizeLine) (h : Q (.tup xs) F H) (hc : elts.all (calm 8) = true := by rfl) : Ev G fr A F H (eval (.Tuple elts k pos) env) Q E := Ev_Tuple (h1.is ⟨hl, h⟩)
inductive MArgs (G : Glob) (fr : List Env) (A : Around) (env : Env) (F : Fz) (H : Hp) (pos : Pos) (args : List Expr) (x : V) (Q : V → Fz → Hp → Prop) (E : Value → Fz → Hp → Prop) (id : String) : Prop where
  | mk {xs : List V} (h1 : Evs G fr A F H (spliced (backTo pos (starEach args env))) (IsL xs F H) No) (h : Cl G fr A F H (.blt id) (x :: xs) Q E)
theorem Ev_method' {o : Expr} {name : Str} {apos pos : Pos} {args : List Expr} (h1 : Ev G fr A F H (eval o env) (Is x F H) No)
    (h : ∃ T id, PlainAttrs T ∧ Slot T name id ∧ typeOf (.builtin id) = pure (.type "method_descriptor") ∧ TyIs F H x T ∧ MArgs G fr A env F H pos args x Q E id) (hc : (calm 8 o && args.all (calm 8)) = true := by rfl)
    (hbase : attributeBase o name env (eval o env) = eval o env := by rfl)
    (hfew : ((backTo pos (starEach args env)).all (fun x => !x.1) && (backToKw pos (keywordEach [] env)).all (fun x => x.1.isSome)
      && decide (args.length + ([] : List Keyword).length + (if ([] : List Keyword).isEmpty then 0 else 1) < 30)) = true := by rfl)
    (hline : (apos.endLine == pos.line) = true := by rfl)
    (hargs : ∀ f (Q : Args → Shared → Prop) E s, wpAny G.M A (spliced (backTo pos (starEach args env))) (fun vs s' => Q ⟨vs, []⟩ s') E s → wpAny G.M A (evalArgs f true (backTo pos (starEach args env)) []) Q E s := by intro _ _ _ _ h; first | exact evalArgs_plain h | exact Mine.evalArgs_nil' h)
    (hplain : (backTo pos (starEach args env)).any (·.1) = false := by rfl) :
    Ev G fr A F H (eval (.Call (.Attribute o name apos) args [] pos) env) Q E := by
  refine Ev_method (h1.is ?_) hbase hfew hline hargs hplain
  obtain ⟨T, id, a, b, c, d, e⟩ := h
  obtain ⟨h1, h⟩ := e
  exact ⟨T, id, a, b, c, d, h1.is h⟩
end
noncomputable def word (T : Str) (i : Nat) (w : Str) : Bool := (Txt.slice T (some i) (some (i + (w.length : Int)))).cps.toList == w.cps.toList
noncomputable def chr (c : Nat) (w : Str) : Bool := (⟨#[c]⟩ : Str).cps.toList == w.cps.toList
theorem len_le {x y : Nat} {T : Str} : (⟨T.cps.extract x y⟩ : Str).length ≤ T.cps.size := by
  show (T.cps.extract x y).size ≤ _
  rw [Array.size_extract]; lia
theorem ext_app {T : Str} {i j k : Nat} (h1 : i ≤ j) (h2 : j ≤ k) : (⟨T.cps.extract i j⟩ : Str) ++ (⟨T.cps.extract j k⟩ : Str) = ⟨T.cps.extract i k⟩ := by
  show (⟨T.cps.extract i j ++ T.cps.extract j k⟩ : Str) = _
  rw [Array.extract_append_extract]
  congr 2 <;> lia
structure Nothing (T : Str) (i c : Nat) : Prop where
  str : chr c "\"" = false
  obj : chr c "{" = false
  arr : chr c "[" = false
  null : (chr c "n" && word T i "null") = false
  tru : (chr c "t" && word T i "true") = false
  fls : (chr c "f" && word T i "false") = false
  num : intAt T.cps T.cps.size (signAt T.cps T.cps.size i) = none
  nan : (chr c "N" && word T i "NaN") = false
  inf : (chr c "I" && word T i "Infinity") = false
  ninf : (chr c "-" && word T i "-Infinity") = false
noncomputable def Win (T : Str) (i : Nat) (w : List Nat) : Prop := ∀ j c, w[j]? = some c → T.cps[i + j]? = some c
theorem Win.lt {T : Str} {i : Nat} {w : List Nat} (h : Win T i w) (hw : w ≠ []) : i + w.length ≤ T.cps.size := by
  have hl : 0 < w.length := List.length_pos_iff.mpr hw
  have := h (w.length - 1) _ (List.getElem?_eq_getElem (by lia))
  rcases Nat.lt_or_ge (i + (w.length - 1)) T.cps.size with q | q
  · lia
  · rw [Array.getElem?_eq_none q] at this; cases this
theorem Win.app {T : Str} {i : Nat} {a b : List Nat} (h : Win T i (a ++ b)) : Win T i a ∧ Win T (i + a.length) b := by
  constructor
  · intro j c hj
    refine h j c ?_
    rw [List.getElem?_append_left]
    · exact hj
    · rcases Nat.lt_or_ge j a.length with q | q
      · exact q
      · rw [List.getElem?_eq_none q] at hj; cases hj
  · intro j c hj
    rw [Nat.add_assoc]
    refine h (a.length + j) c ?_
    rw [List.getElem?_append_right (by lia)]
    rw [show a.length + j - a.length = j by lia]
    exact hj
theorem Win.cons {T : Str} {i a : Nat} {b : List Nat} (h : Win T i (a :: b)) : T.cps[i]? = some a ∧ Win T (i + 1) b :=
  ⟨h 0 a rfl, (Win.app (a := [a]) (b := b) h).2⟩
theorem Win.ext {T : Str} {i : Nat} {w : List Nat} (h : Win T i w) (hi : i ≤ T.cps.size) : ⟨T.cps.extract i (i + w.length)⟩ = (⟨w.toArray⟩ : Str) := by
  congr 1
  apply Array.ext'
  rw [Array.toList_extract, List.extract, Nat.add_sub_cancel_left]
  apply List.ext_getElem?
  intro j
  rw [List.getElem?_take]
  rcases Nat.lt_or_ge j w.length with q | q
  · rw [if_pos q, List.getElem?_drop, Array.getElem?_toList, List.getElem?_eq_getElem q]
    exact h j _ (List.getElem?_eq_getElem q)
  · rw [if_neg (by lia), List.getElem?_eq_none q]
theorem slice_ext {T : Str} {i j : Nat} (h : i ≤ j) (hj : j ≤ T.cps.size) : Txt.slice T (some (i : Int)) (some (j : Int)) = ⟨T.cps.extract i j⟩ := by
  have e := slice_closes (x := T) (i := i) (j := j) ⟨by lia, by lia, by simp; lia⟩
  rw [beq_iff_eq] at e
  rw [e]
  congr 1
  apply Array.ext'
  rw [Array.toList_extract, List.extract]
  have : ((j : Int) - (i : Int)).toNat = j - i := by lia
  rw [this, Int.toNat_natCast]
theorem Win.slice {T : Str} {i : Nat} {w : List Nat} (h : Win T i w) (hi : i + w.length ≤ T.cps.size) {j : Int} (hj : j = (i : Int) + w.length) : Txt.slice T (some (i : Int)) (some j) = ⟨w.toArray⟩ := by
  have e : j = ((i + w.length : Nat) : Int) := by lia
  rw [e, slice_ext (by lia) hi, h.ext (by lia)]
theorem getD_of {T : Str} {i c : Nat} (h : T.cps[i]? = some c) : i < T.cps.size ∧ T.cps.getD i 0 = c := by
  have hi : i < T.cps.size := by
    rcases Nat.lt_or_ge i T.cps.size with q | q
    · exact q
    · rw [Array.getElem?_eq_none q] at h; cases h
  exact ⟨hi, by simp [Array.getD_eq_getD_getElem?, h]⟩
noncomputable def digL : List Nat → Nat
  | [] => 0
  | c :: r => if dig c then 1 + digL r else 0
noncomputable def sgnL : List Nat → Nat
  | [] => 0
  | c :: _ => if c = 45 then 1 else 0
noncomputable def intL : List Nat → Option Nat
  | [] => none
  | c :: r => if c = 48 then some 1 else if 49 ≤ c ∧ c ≤ 57 then some (1 + digL r) else none
noncomputable def fracL : List Nat → Nat
  | [] => 0
  | c :: r => if c = 46 then (if digL r = 0 then 0 else 1 + digL r) else 0
noncomputable def esgnL : List Nat → Nat
  | [] => 0
  | c :: _ => if c = 45 ∨ c = 43 then 1 else 0
noncomputable def expL : List Nat → Nat
  | [] => 0
  | c :: r => if c = 101 ∨ c = 69 then (if digL (r.drop (esgnL r)) = 0 then 0 else 1 + esgnL r + digL (r.drop (esgnL r))) else 0
noncomputable def numL (l : List Nat) : Option (Nat × Nat × Nat) := match intL (l.drop (sgnL l)) with
  | none => none
  | some k => some (sgnL l + k, fracL (l.drop (sgnL l + k)), expL (l.drop (sgnL l + k + fracL (l.drop (sgnL l + k)))))
section
variable {T : Array Nat}
theorem drop_cases (p : Nat) : (T.toList.drop p = [] ∧ T.size ≤ p) ∨ ∃ c, T.toList.drop p = c :: T.toList.drop (p + 1) ∧ p < T.size ∧ T.getD p 0 = c := by
  rcases Nat.lt_or_ge p T.size with h | h
  · refine .inr ⟨T[p], ?_, h, ?_⟩
    · rw [List.drop_eq_getElem_cons (by simpa using h)]; simp
    · simp [Array.getD, h]
  · exact .inl ⟨List.drop_eq_nil_of_le (by simpa using h), h⟩
theorem many_dig : ∀ (n p : Nat), n = T.size - p → many dig T n p = digL (T.toList.drop p)
  | 0, p, h => by
    rcases drop_cases (T := T) p with ⟨e, _⟩ | ⟨c, e, hp, _⟩
    · rw [e]; rfl
    · lia
  | n + 1, p, h => by
    rcases drop_cases (T := T) p with ⟨e, _⟩ | ⟨c, e, hp, hc⟩
    · lia
    · have m : many dig T (n + 1) p = if dig (T.getD p 0) then 1 + many dig T n (p + 1) else 0 := rfl
      rw [m, e, hc, many_dig n (p + 1) (by lia)]
      rfl
theorem digs_L (p : Nat) : digs T T.size p = digL (T.toList.drop p) := many_dig _ p rfl
theorem sign_L (p : Nat) : signAt T T.size p = p + sgnL (T.toList.drop p) := by
  unfold signAt
  rcases drop_cases (T := T) p with ⟨e, _⟩ | ⟨c, e, hp, hc⟩
  · rw [e, if_neg (by lia)]; rfl
  · rw [e, hc]
    simp only [sgnL]
    by_cases h : c = 45
    · rw [if_pos ⟨hp, h⟩, if_pos h]
    · rw [if_neg (fun q => h q.2), if_neg h]; rfl
theorem int_L (p : Nat) : intAt T T.size p = (intL (T.toList.drop p)).map (p + ·) := by
  unfold intAt
  rcases drop_cases (T := T) p with ⟨e, _⟩ | ⟨c, e, hp, hc⟩
  · rw [e, if_neg (by lia), if_neg (by lia)]; rfl
  · rw [e, hc, digs_L]
    simp only [intL]
    by_cases h : c = 48
    · rw [if_pos ⟨hp, h⟩, if_pos h]; rfl
    · rw [if_neg (fun q => h q.2), if_neg h]
      by_cases h2 : 49 ≤ c ∧ c ≤ 57
      · rw [if_pos ⟨hp, h2⟩, if_pos h2]; simp; lia
      · rw [if_neg (fun q => h2 q.2), if_neg h2]; rfl
theorem frac_L (p : Nat) : fracAt T T.size p = if fracL (T.toList.drop p) = 0 then none else some (p + fracL (T.toList.drop p)) := by
  unfold fracAt
  rcases drop_cases (T := T) p with ⟨e, _⟩ | ⟨c, e, hp, hc⟩
  · rw [e, if_neg (by lia)]; rfl
  · rw [e, hc, digs_L]
    have d : fracL (c :: List.drop (p + 1) T.toList) = if c = 46 then (if digL (List.drop (p + 1) T.toList) = 0 then 0 else 1 + digL (List.drop (p + 1) T.toList)) else 0 := rfl
    by_cases h : c = 46
    · rw [if_pos h] at d
      by_cases h2 : digL (T.toList.drop (p + 1)) = 0
      · rw [if_pos h2] at d
        rw [d, if_neg (by lia)]; rfl
      · rw [if_neg h2] at d
        rw [d, if_pos ⟨hp, h, by lia⟩, if_neg (by lia)]
        congr 1; lia
    · rw [if_neg h] at d
      rw [d, if_neg (fun q => h q.2.1)]; rfl
theorem esgn_L (p : Nat) : expSign T T.size p = p + esgnL (T.toList.drop p) := by
  unfold expSign
  rcases drop_cases (T := T) p with ⟨e, _⟩ | ⟨c, e, hp, hc⟩
  · rw [e, if_neg (by lia)]; rfl
  · rw [e, hc]
    simp only [esgnL]
    by_cases h : c = 45 ∨ c = 43
    · rw [if_pos ⟨hp, h⟩, if_pos h]
    · rw [if_neg (fun q => h q.2), if_neg h]; rfl
theorem exp_L (p : Nat) : expAt T T.size p = if expL (T.toList.drop p) = 0 then none else some (p + expL (T.toList.drop p)) := by
  unfold expAt
  rcases drop_cases (T := T) p with ⟨e, _⟩ | ⟨c, e, hp, hc⟩
  · rw [e, if_neg (by lia)]; rfl
  · rw [e, hc, esgn_L, digs_L]
    have d : expL (c :: List.drop (p + 1) T.toList) = if c = 101 ∨ c = 69 then (if digL ((List.drop (p + 1) T.toList).drop (esgnL (List.drop (p + 1) T.toList))) = 0 then 0 else 1 + esgnL (List.drop (p + 1) T.toList) + digL ((List.drop (p + 1) T.toList).drop (esgnL (List.drop (p + 1) T.toList)))) else 0 := rfl
    rw [List.drop_drop] at d
    by_cases h : c = 101 ∨ c = 69
    · rw [if_pos h] at d
      by_cases h2 : digL (T.toList.drop (p + 1 + esgnL (T.toList.drop (p + 1)))) = 0
      · rw [if_pos h2] at d
        rw [d, if_neg (by lia)]; rfl
      · rw [if_neg h2] at d
        rw [d, if_pos ⟨hp, h, by lia⟩, if_neg (by lia)]
        congr 1; lia
    · rw [if_neg h] at d
      rw [d, if_neg (fun q => h q.2.1)]; rfl
end
inductive Lx where
  | str | obj | arr
  | null | tru | fls
  | whole (n : Nat) | broken (n : Nat)
  | con (w : Str)
  | stop
noncomputable def preL (w : Str) (l : List Nat) : Bool := w.cps.toList.isPrefixOf l
noncomputable def lexL : List Nat → Lx
  | [] => .stop
  | c :: r =>
    if c = 34 then .str else if c = 123 then .obj else if c = 91 then .arr
    else if preL "null" (c :: r) then .null else if preL "true" (c :: r) then .tru else if preL "false" (c :: r) then .fls
    else match numL (c :: r) with
      | some (n1, n2, n3) => if n2 = 0 ∧ n3 = 0 then .whole n1 else .broken (n1 + n2 + n3)
      | none => if preL "NaN" (c :: r) then .con "NaN" else if preL "Infinity" (c :: r) then .con "Infinity" else if preL "-Infinity" (c :: r) then .con "-Infinity" else .stop
theorem chr_eq {c a : Nat} {w : Str} (hw : w.cps.toList = [a]) : chr c w = decide (c = a) := by
  unfold chr; rw [hw]
  by_cases h : c = a
  · subst h; simp
  · simp [h]
theorem slice_nat {T : Str} {i n : Nat} (hi : i ≤ T.cps.size) : (Txt.slice T (some (i : Int)) (some ((i : Int) + (n : Int)))).cps.toList = (T.cps.toList.drop i).take n := by
  rcases Nat.le_total (i + n) T.cps.size with h | h
  · have := slice_ext (T := T) (i := i) (j := i + n) (by lia) h
    rw [show ((i + n : Nat) : Int) = (i : Int) + (n : Int) by lia] at this
    rw [this]
    show (T.cps.extract i (i + n)).toList = _
    rw [Array.toList_extract, List.extract, Nat.add_sub_cancel_left]
  · have hcl : Txt.slice T (some (i : Int)) (some ((i : Int) + (n : Int))) = Txt.slice T (some (i : Int)) (some ((T.cps.size : Nat) : Int)) := by
      have hs : T.length = T.cps.size := rfl
      unfold Txt.slice
      have : ∀ x : Int, (T.cps.size : Int) ≤ x → Builtin.Str.strSliceIndices (some (i : Int)) (some x) 1 T.length = Builtin.Str.strSliceIndices (some (i : Int)) (some ((T.cps.size : Nat) : Int)) 1 T.length := fun x hx => by
        unfold Builtin.Str.strSliceIndices
        rw [hs]
        have e1 : min x (T.cps.size : Int) = min ((T.cps.size : Nat) : Int) (T.cps.size : Int) := by lia
        simp only [show (1 : Int) > 0 by decide, if_true]
        congr 1
        all_goals first | rfl | (try simp only [e1]) | skip
        all_goals (repeat' split) <;> lia
      rw [this _ (by lia)]
    rw [hcl, slice_ext hi (Nat.le_refl _)]
    show (T.cps.extract i T.cps.size).toList = _
    rw [Array.toList_extract, List.extract]
    rw [List.take_of_length_le (by simp), List.take_of_length_le (by simp; lia)]
theorem word_pre {T : Str} {i : Nat} {w : Str} (hi : i ≤ T.cps.size) : word T i w = preL w (T.cps.toList.drop i) := by
  unfold word preL
  have := slice_nat (T := T) (i := i) (n := w.length) hi
  rw [this]
  have hl : w.length = w.cps.toList.length := by simp [Str.length]
  rw [hl]
  generalize w.cps.toList = l
  generalize T.cps.toList.drop i = m
  induction l generalizing m with
  | nil => rfl
  | cons a l ih =>
    cases m with
    | nil => rfl
    | cons b m =>
      simp only [List.length_cons, List.take_succ_cons, List.isPrefixOf_cons_cons]
      rw [← ih m]
      have : ((b :: List.take l.length m) == (a :: l)) = ((b == a) && (List.take l.length m == l)) := rfl
      rw [this]
      congr 1
      by_cases h : a = b
      · subst h; simp
      · have h' : b ≠ a := fun q => h q.symm
        rw [beq_eq_false_iff_ne.mpr h, beq_eq_false_iff_ne.mpr h']
theorem pre_first {w : Str} {a : Nat} {l' : List Nat} (hw : w.cps.toList = a :: l') {c : Nat} {r : List Nat} (h : preL w (c :: r) = true) : c = a := by
  unfold preL at h
  rw [hw, List.isPrefixOf_cons_cons, Bool.and_eq_true] at h
  exact (beq_iff_eq.mp h.1).symm
theorem cw {T : Str} {i c : Nat} {r : List Nat} {w v : Str} {a : Nat} {l' : List Nat} (hi : i ≤ T.cps.size) (hl : T.cps.toList.drop i = c :: r) (hv : v.cps.toList = [a]) (hw : w.cps.toList = a :: l') : (chr c v && word T i w) = preL w (c :: r) := by
  rw [word_pre hi, hl, chr_eq hv]
  cases h : preL w (c :: r) with
  | false => simp
  | true => have := pre_first hw h; simp [this]
section
variable {T : Str} {i c : Nat}
theorem lex_at (hc : T.cps[i]? = some c) : i ≤ T.cps.size ∧ T.cps.toList.drop i = c :: T.cps.toList.drop (i + 1) := by
  rcases drop_cases (T := T.cps) i with ⟨e, hi⟩ | ⟨c', e, hi, hc'⟩
  · rw [Array.getElem?_eq_none hi] at hc; cases hc
  · have : T.cps.getD i 0 = c := by simp [Array.getD_eq_getD_getElem?, hc]
    rw [hc'] at this
    subst this
    exact ⟨Nat.le_of_lt hi, e⟩
theorem lex_end (hi : T.cps.size ≤ i) : lexL (T.cps.toList.drop i) = .stop := by
  rw [List.drop_eq_nil_of_le (by simpa using hi)]; rfl
theorem lex_str (hc : T.cps[i]? = some c) (h : chr c "\"" = true) : lexL (T.cps.toList.drop i) = .str := by
  rw [chr_eq rfl, decide_eq_true_eq] at h
  rw [(lex_at hc).2]; simp [lexL, h]
theorem lex_obj (hc : T.cps[i]? = some c) (h : chr c "{" = true) : lexL (T.cps.toList.drop i) = .obj := by
  rw [chr_eq rfl, decide_eq_true_eq] at h
  rw [(lex_at hc).2]; simp [lexL, h]
theorem lex_arr (hc : T.cps[i]? = some c) (h : chr c "[" = true) : lexL (T.cps.toList.drop i) = .arr := by
  rw [chr_eq rfl, decide_eq_true_eq] at h
  rw [(lex_at hc).2]; simp [lexL, h]
theorem no_pre {w : Str} {a : Nat} {l' r : List Nat} (hw : w.cps.toList = a :: l') (hne : c ≠ a) : preL w (c :: r) = false := by
  cases q : preL w (c :: r) with
  | false => rfl
  | true => exact absurd (pre_first hw q) hne
theorem lex_null (hc : T.cps[i]? = some c) (h : (chr c "n" && word T i "null") = true) : lexL (T.cps.toList.drop i) = .null := by
  obtain ⟨hi, e⟩ := lex_at hc
  rw [cw hi e rfl rfl] at h
  have hcc := pre_first (w := "null") (a := 110) rfl h
  subst hcc
  rw [e]; simp [lexL, h]
theorem lex_tru (hc : T.cps[i]? = some c) (h : (chr c "t" && word T i "true") = true) : lexL (T.cps.toList.drop i) = .tru := by
  obtain ⟨hi, e⟩ := lex_at hc
  rw [cw hi e rfl rfl] at h
  have hcc := pre_first (w := "true") (a := 116) rfl h
  subst hcc
  rw [e]; simp [lexL, h, no_pre (w := "null") (a := 110) (c := 116) rfl (by decide)]
theorem lex_fls (hc : T.cps[i]? = some c) (h : (chr c "f" && word T i "false") = true) : lexL (T.cps.toList.drop i) = .fls := by
  obtain ⟨hi, e⟩ := lex_at hc
  rw [cw hi e rfl rfl] at h
  have hcc := pre_first (w := "false") (a := 102) rfl h
  subst hcc
  rw [e]; simp [lexL, h, no_pre (w := "null") (a := 110) (c := 102) rfl (by decide), no_pre (w := "true") (a := 116) (c := 102) rfl (by decide)]
theorem lex_rest (hc : c ≠ 34) (h2 : c ≠ 123) (h3 : c ≠ 91) (h4 : c ≠ 110) (h5 : c ≠ 116) (h6 : c ≠ 102) (r : List Nat) : lexL (c :: r) = match numL (c :: r) with
      | some (n1, n2, n3) => if n2 = 0 ∧ n3 = 0 then .whole n1 else .broken (n1 + n2 + n3)
      | none => if preL "NaN" (c :: r) then .con "NaN" else if preL "Infinity" (c :: r) then .con "Infinity" else if preL "-Infinity" (c :: r) then .con "-Infinity" else .stop := by
  have hlx : lexL (c :: r) = if c = 34 then .str else if c = 123 then .obj else if c = 91 then .arr
    else if preL "null" (c :: r) then .null else if preL "true" (c :: r) then .tru else if preL "false" (c :: r) then .fls
    else match numL (c :: r) with
      | some (n1, n2, n3) => if n2 = 0 ∧ n3 = 0 then .whole n1 else .broken (n1 + n2 + n3)
      | none => if preL "NaN" (c :: r) then .con "NaN" else if preL "Infinity" (c :: r) then .con "Infinity" else if preL "-Infinity" (c :: r) then .con "-Infinity" else .stop := rfl
  rw [hlx, if_neg hc, if_neg h2, if_neg h3, if_neg (by rw [no_pre (w := "null") (a := 110) rfl h4]; simp), if_neg (by rw [no_pre (w := "true") (a := 116) rfl h5]; simp), if_neg (by rw [no_pre (w := "false") (a := 102) rfl h6]; simp)]
theorem num_first (hc : T.cps[i]? = some c) {q : Nat} (hq : intAt T.cps T.cps.size (signAt T.cps T.cps.size i) = some q) : c = 45 ∨ (48 ≤ c ∧ c ≤ 57) := by
  obtain ⟨_, e⟩ := lex_at hc
  rw [sign_L, int_L, e] at hq
  unfold sgnL at hq
  by_cases hm : c = 45
  · exact .inl hm
  · simp only [if_neg hm, Nat.add_zero] at hq
    rw [e] at hq
    simp only [intL] at hq
    split at hq
    · lia
    · split at hq
      · lia
      · cases hq
theorem num_none (hc : T.cps[i]? = some c) (hn : intAt T.cps T.cps.size (signAt T.cps T.cps.size i) = none) : numL (c :: T.cps.toList.drop (i + 1)) = none := by
  obtain ⟨_, e⟩ := lex_at hc
  rw [sign_L, int_L, Option.map_eq_none_iff, ← List.drop_drop, e] at hn
  unfold numL
  rw [hn]
theorem lex_num (hc : T.cps[i]? = some c) {q : Nat} (hq : intAt T.cps T.cps.size (signAt T.cps T.cps.size i) = some q) :
    ∃ n, expEnd T.cps T.cps.size (fracEnd T.cps T.cps.size q) = i + n ∧ lexL (T.cps.toList.drop i) = (if (fracAt T.cps T.cps.size q).isSome || (expAt T.cps T.cps.size (fracEnd T.cps T.cps.size q)).isSome then .broken n else .whole n) := by
  have hf := num_first hc hq
  obtain ⟨_, e⟩ := lex_at hc
  rw [e, lex_rest (by lia) (by lia) (by lia) (by lia) (by lia) (by lia)]
  rw [sign_L, int_L, ← List.drop_drop, e] at hq
  cases hk : intL ((c :: T.cps.toList.drop (i + 1)).drop (sgnL (c :: T.cps.toList.drop (i + 1)))) with
  | none => rw [hk] at hq; cases hq
  | some k =>
    rw [hk] at hq
    generalize hn1 : sgnL (c :: T.cps.toList.drop (i + 1)) + k = n1
    have hqn : q = i + n1 := by have h9 : i + sgnL (c :: T.cps.toList.drop (i + 1)) + k = q := Option.some.inj hq; lia
    subst hqn
    have hn : numL (c :: T.cps.toList.drop (i + 1)) = some (n1, fracL (T.cps.toList.drop (i + n1)), expL (T.cps.toList.drop (i + n1 + fracL (T.cps.toList.drop (i + n1))))) := by
      unfold numL
      rw [hk]
      simp only [← e, List.drop_drop]
      simp only [e, hn1, Nat.add_assoc]
    rw [hn]
    generalize hn2 : fracL (T.cps.toList.drop (i + n1)) = n2
    generalize hn3 : expL (T.cps.toList.drop (i + n1 + n2)) = n3
    have hfe : fracEnd T.cps T.cps.size (i + n1) = i + n1 + n2 := by
      show (fracAt T.cps T.cps.size (i + n1)).getD (i + n1) = _
      rw [frac_L, hn2]
      by_cases q : n2 = 0
      · rw [if_pos q, q]; rfl
      · rw [if_neg q]; rfl
    have hee : expEnd T.cps T.cps.size (i + n1 + n2) = i + n1 + n2 + n3 := by
      show (expAt T.cps T.cps.size (i + n1 + n2)).getD (i + n1 + n2) = _
      rw [exp_L, hn3]
      by_cases q : n3 = 0
      · rw [if_pos q, q]; rfl
      · rw [if_neg q]; rfl
    refine ⟨n1 + n2 + n3, by rw [hfe, hee]; lia, ?_⟩
    rw [hfe, frac_L, exp_L, hn2, hn3]
    by_cases z2 : n2 = 0 <;> by_cases z3 : n3 = 0 <;> simp [z2, z3]
theorem lex_con {w v : Str} {a : Nat} {l' : List Nat} (hw : w.cps.toList = a :: l') (hv : v.cps.toList = [a]) (hc : T.cps[i]? = some c) (hn : intAt T.cps T.cps.size (signAt T.cps T.cps.size i) = none) (h : (chr c v && word T i w) = true)
    (hk : w = "NaN" ∧ a = 78 ∨ w = "Infinity" ∧ a = 73 ∨ w = "-Infinity" ∧ a = 45) : lexL (T.cps.toList.drop i) = .con w := by
  obtain ⟨hi, e⟩ := lex_at hc
  rw [cw hi e hv hw] at h
  have hcc := pre_first hw h
  subst hcc
  have hno := num_none hc hn
  rw [e, lex_rest (by lia) (by lia) (by lia) (by lia) (by lia) (by lia), hno]
  rcases hk with ⟨rfl, rfl⟩ | ⟨rfl, rfl⟩ | ⟨rfl, rfl⟩
  · simp [h]
  · simp [h, no_pre (w := "NaN") (a := 78) (c := 73) rfl (by decide)]
  · simp [h, no_pre (w := "NaN") (a := 78) (c := 45) rfl (by decide), no_pre (w := "Infinity") (a := 73) (c := 45) rfl (by decide)]
theorem lex_stop (hc : T.cps[i]? = some c) (hN : Nothing T i c) : lexL (T.cps.toList.drop i) = .stop := by
  obtain ⟨hi, e⟩ := lex_at hc
  have hno := num_none hc hN.num
  have d : ∀ {w : Str} {a : Nat}, w.cps.toList = [a] → chr c w = false → c ≠ a := fun hw q => by rw [chr_eq hw] at q; exact of_decide_eq_false q
  have w1 : (chr c "n" && word T i "null") = preL "null" (c :: T.cps.toList.drop (i + 1)) := cw hi e rfl rfl
  have w2 : (chr c "t" && word T i "true") = preL "true" (c :: T.cps.toList.drop (i + 1)) := cw hi e rfl rfl
  have w3 : (chr c "f" && word T i "false") = preL "false" (c :: T.cps.toList.drop (i + 1)) := cw hi e rfl rfl
  have w4 : (chr c "N" && word T i "NaN") = preL "NaN" (c :: T.cps.toList.drop (i + 1)) := cw hi e rfl rfl
  have w5 : (chr c "I" && word T i "Infinity") = preL "Infinity" (c :: T.cps.toList.drop (i + 1)) := cw hi e rfl rfl
  have w6 : (chr c "-" && word T i "-Infinity") = preL "-Infinity" (c :: T.cps.toList.drop (i + 1)) := cw hi e rfl rfl
  have hlx : lexL (c :: T.cps.toList.drop (i + 1)) = if c = 34 then .str else if c = 123 then .obj else if c = 91 then .arr
    else if preL "null" (c :: T.cps.toList.drop (i + 1)) then .null else if preL "true" (c :: T.cps.toList.drop (i + 1)) then .tru else if preL "false" (c :: T.cps.toList.drop (i + 1)) then .fls
    else match numL (c :: T.cps.toList.drop (i + 1)) with
      | some (n1, n2, n3) => if n2 = 0 ∧ n3 = 0 then .whole n1 else .broken (n1 + n2 + n3)
      | none => if preL "NaN" (c :: T.cps.toList.drop (i + 1)) then .con "NaN" else if preL "Infinity" (c :: T.cps.toList.drop (i + 1)) then .con "Infinity" else if preL "-Infinity" (c :: T.cps.toList.drop (i + 1)) then .con "-Infinity" else .stop := rfl
  rw [e, hlx, if_neg (d (a := 34) rfl hN.str), if_neg (d (a := 123) rfl hN.obj), if_neg (d (a := 91) rfl hN.arr), if_neg (by rw [← w1, hN.null]; simp), if_neg (by rw [← w2, hN.tru]; simp), if_neg (by rw [← w3, hN.fls]; simp), hno]
  simp only [← w4, ← w5, ← w6, hN.nan, hN.inf, hN.ninf, Bool.false_eq_true, if_false]
end
noncomputable def stm (n : Nat) : Option Stmt := PySem.Challenge.pw_dm0199_07.main.body[n]?
noncomputable def sub (s : Option Stmt) (n : Nat) : Option Stmt := match s with
  | some (.FunctionDef _ _ body _ _ _ _ _ _ _) => body[n]?
  | _ => none
inductive FnS (F : Fz) (f : Addr) (st : Option Stmt) (qual : Str) (clos : List (Str × Addr)) : Prop where
  | intro (name : Str) (params : Arguments) (body : List Stmt) (scope : Scope) (pos : Pos) (h1 : st = some (.FunctionDef name params body [] none [] scope none name pos)) (h2 : FnF F f name qual params body scope clos)
theorem FnS.mono {F F' : Fz} {f : Addr} {st : Option Stmt} {qual : Str} {clos : List (Str × Addr)} (le : F.le F') (h : FnS F f st qual clos) : FnS F' f st qual clos := let ⟨a, b, c, d, e, g, k⟩ := h; ⟨a, b, c, d, e, g, k.mono le⟩
theorem FnS.ok {F : Fz} {f : Addr} {st : Option Stmt} {qual : Str} {clos : List (Str × Addr)} (h : FnS F f st qual clos) : KOk F (.ref f) := let ⟨_, _, _, _, _, _, k⟩ := h; k.ok
inductive Cap (F : Fz) (clos : List (Str × Addr)) (x : Str) (y : V) : Prop where
  | intro (c : Addr) (h1 : clos.lookup x = some c) (h2 : CellF F c y)
theorem Cap.mono {F F' : Fz} {clos : List (Str × Addr)} {x : Str} {y : V} (le : F.le F') (h : Cap F clos x y) : Cap F' clos x y := let ⟨c, a, b⟩ := h; ⟨c, a, b.mono le⟩
section
variable {α : Type} {G : Glob} {fr : List Env} {A A' : Around} {env : Env} {F : Fz} {H H' : Hp} {E E' : Value → Fz → Hp → Prop} {P P' : Addr → String → List V → Bool → Fz → Hp → Prop}
theorem Cl.mono {f : V} {xs : List V} {Q Q' : V → Fz → Hp → Prop} (h : Cl G fr A F H f xs Q E) (k : ∀ x F1 H1, Q x F1 H1 → Q' x F1 H1) (e : ∀ x F1 H1, E x F1 H1 → E' x F1 H1) : Cl G fr A F H f xs Q' E' := fun K m v vs hv hvs R s hR =>
  wpAny_mono (h K m v vs hv hvs R s hR) (fun _ _ q => let ⟨F1, H1, l, r, x, hx, F2, m2, q⟩ := q; ⟨F1, H1, l, r, x, hx, F2, m2, k _ _ _ q⟩) fun _ _ q => let ⟨F1, H1, l, r, F2, m2, q⟩ := q; ⟨F1, H1, l, r, F2, m2, e _ _ _ q⟩
theorem Cl.up {F' : Fz} {f : V} {xs : List V} {Q : V → Fz → Hp → Prop} (h : Cl G fr A F H f xs Q E) (le : F.le F') : Cl G fr A F' H f xs Q E := fun K m => h K (le.trans m)
theorem Cl.perm {f : V} {xs : List V} {Q : V → Fz → Hp → Prop} (p : H'.Perm H) (h : Cl G fr A F H f xs Q E) : Cl G fr A F H' f xs Q E := fun K m v vs hv hvs R s hR => h K m v vs hv hvs R s (hR.perm (p.append_right R))
theorem Dn.in {P : Fz → Hp → Prop} (h : P F H) : Dn P F H := ⟨F, .refl F, h⟩
theorem Cl.dn {f : V} {xs : List V} {Q : V → Fz → Hp → Prop} (h : Cl G fr A F H f xs (fun x => Dn (Q x)) E) : Cl G fr A F H f xs Q E := fun K m v vs hv hvs R s hR =>
  wpAny_mono (h K m v vs hv hvs R s hR) (fun _ _ q => let ⟨F1, H1, l, r, x, hx, F2, m2, F3, m3, q⟩ := q; ⟨F1, H1, l, r, x, hx, F3, m3.trans m2, q⟩) fun _ _ q => q
theorem Cl.keep {f : V} {xs : List V} {Q : V → Fz → Hp → Prop} (h : Cl G fr A F H f xs Q E) : Cl G fr A F H f xs (fun x F1 H1 => F.le F1 ∧ Dn (Q x) F1 H1) E := fun K m v vs hv hvs R s hR =>
  wpAny_mono (h K m v vs hv hvs R s hR) (fun _ _ q => let ⟨F1, H1, l, r, x, hx, F2, m2, q⟩ := q; ⟨F1, H1, l, r, x, hx, F1, .refl _, m.trans l, F2, m2, q⟩) fun _ _ q => q
theorem Cl.under {X : Hp} {f : V} {xs : List V} {Q : V → Fz → Hp → Prop} (h : Cl G fr A F H f xs (fun x F1 H1 => Q x F1 (X ++ H1)) (fun e F1 H1 => E e F1 (X ++ H1))) : Cl G fr A F (X ++ H) f xs Q E := fun K m v vs hv hvs R s hR => by
  have p : ∀ H : Hp, ((X ++ H) ++ R).Perm (H ++ (X ++ R)) := fun H => by
    rw [← List.append_assoc]
    exact List.perm_append_comm.append_right R
  exact wpAny_mono (h K m v vs hv hvs (X ++ R) s (hR.perm (p H))) (fun _ _ q => let ⟨F1, H1, l, r, x, hx, F2, m2, q⟩ := q; ⟨F1, X ++ H1, l, r.perm (p H1).symm, x, hx, F2, m2, q⟩) fun _ _ q => let ⟨F1, H1, l, r, F2, m2, q⟩ := q; ⟨F1, X ++ H1, l, r.perm (p H1).symm, F2, m2, q⟩
theorem Thr0.ups {e : Value} {X : Hp} (h : Thr0 (fun x c a b F1 H1 => P x c a b F1 (X ++ H1)) e F H) : Thr0 P e F (X ++ H) := by
  obtain ⟨x, c, a, tb, cx, H1, h1, h2, h3⟩ := h
  refine ⟨x, c, a, tb, cx, X ++ H1, h1, ?_, h3⟩
  refine (List.Perm.append_left X h2).trans (List.perm_middle.trans (List.Perm.cons _ ?_))
  rw [← List.append_assoc, ← List.append_assoc]
  exact List.perm_append_comm.append_right H1
noncomputable abbrev ClD (G : Glob) (fr : List Env) (A : Around) (F : Fz) (H : Hp) (f : V) (xs : List V) (Q : V → Fz → Hp → Prop) (E : Value → Fz → Hp → Prop) : Prop := ∀ env A', Deep A A' env → Cl G (env :: fr) A' F H f xs Q E
theorem Cl.out {Xs : Hp} {f : V} {xs : List V} {Q' Q2 : V → Fz → Hp → Prop} (hD : Deep A A' env) (h : ClD G fr A F H f xs Q' (Thr0 P)) (k : ∀ x F2 H3, Q' x F2 H3 → Q2 x F2 (Xs ++ H3)) (e : ∀ x c a b F2 H3, P x c a b F2 H3 → P' x c a b F2 (Xs ++ H3)) : Cl G (env :: fr) A' F (Xs ++ H) f xs Q2 (Thr0 P') :=
  Cl.under ((h _ _ hD).mono k fun _ _ _ q => Thr0.ups (q.mono e))
theorem Cl.out1 {X : Addr × AO} {f : V} {xs : List V} {Q' Q2 : V → Fz → Hp → Prop} (hD : Deep A A' env) (h : ClD G fr A F H f xs Q' (Thr0 P)) (k : ∀ x F2 H3, Q' x F2 H3 → Q2 x F2 (X :: H3)) (e : ∀ x c a b F2 H3, P x c a b F2 H3 → P' x c a b F2 (X :: H3)) : Cl G (env :: fr) A' F (X :: H) f xs Q2 (Thr0 P') := Cl.out (Xs := [X]) hD h k e
theorem Ex.gen {Q : FV → Fz → Hp → Prop} {t : Sem Flow} (h : ∀ Q' : FV → Fz → Hp → Prop, (∀ x F1 H1, Q x F1 H1 → Q' x F1 H1) → Ex G fr A F H t Q' E) : Ex G fr A F H t Q E := h Q fun _ _ _ q => q
theorem Ex.drp {Q : FV → Fz → Hp → Prop} {t : Sem Flow} (d : Drp H H') (h : Ex G fr A F H' t Q E) : Ex G fr A F H t Q E := fun K m R s hR => h K m R s (hR.drp d)
theorem Ex.drpQ {Q : FV → Fz → Hp → Prop} {t : Sem Flow} (h : Ex G fr A F H t (fun x F1 H1 => ∃ H2, Drp H1 H2 ∧ Q x F1 H2) E) : Ex G fr A F H t Q E := fun K m R s hR =>
  wpAny_mono (h K m R s hR) (fun _ _ q => let ⟨F1, H1, l, r, x, hx, F2, m2, H2, d, q⟩ := q; ⟨F1, H2, l, r.drp d, x, hx, F2, m2, q⟩) fun _ _ q => q
theorem Ex.cut {Q : FV → Fz → Hp → Prop} {t : Sem Flow} (P : FV → Fz → Hp → Prop) (h : Ex G fr A F H t P E) (k : ∀ x F1 H1, P x F1 H1 → Q x F1 H1) : Ex G fr A F H t Q E := h.mono k fun _ _ _ e => e
theorem Tp.test {t : Sem Bool} {Q : Bool → Fz → Hp → Prop} (b : Bool) (h : Tp G fr A F H t (fun x F1 H1 => x = b ∧ F1 = F ∧ H1 = H) E) (k : Q b F H) : Tp G fr A F H t Q E :=
  h.mono (fun x F1 H1 q => by obtain ⟨e1, e2, e3⟩ := q; subst e1 e2 e3; exact k) fun _ _ _ e => e
end
structure Parts where
  po : V
  pa : V
  ps : V
  mb : Addr
  st : V
  pf : V
  pi : V
  pc : V
  oh : V
  oph : V
  mm : V
inductive ScanF (F : Fz) (f : Addr) (p : Parts) : Prop where
  | intro (qual : Str) (clos : List (Str × Addr)) (pat : Addr) (h0 : FnS F f (sub (stm 3) 11) qual clos) (h1 : Cap F clos "parse_object" p.po) (h2 : Cap F clos "parse_array" p.pa) (h3 : Cap F clos "parse_string" p.ps) (h4 : Cap F clos "match_number" (.ref p.mb)) (h5 : Cap F clos "strict" p.st) (h6 : Cap F clos "parse_float" p.pf) (h7 : Cap F clos "parse_int" p.pi) (h8 : Cap F clos "parse_constant" p.pc)
    (h9 : Cap F clos "object_hook" p.oh) (h10 : Cap F clos "object_pairs_hook" p.oph) (h11 : Cap F clos "memo" p.mm) (h12 : Cap F clos "_scan_once" (.ref f)) (hb : BoundF F p.mb pat) (o1 : KOk F p.po) (o2 : KOk F p.pa) (o3 : KOk F p.ps) (o4 : KOk F p.pf) (o5 : KOk F p.pi) (o6 : KOk F p.pc)
noncomputable def gtx (T : Str) : Option (Nat × Nat) → Str
  | none => ""
  | some (x, y) => ⟨T.cps.extract x y⟩
noncomputable def gok (T : Str) : Option (Nat × Nat) → Prop
  | none => True
  | some (x, y) => x < y ∧ y ≤ T.cps.size
theorem gtx_len {T : Str} {o : Option (Nat × Nat)} : (gtx T o).length ≤ T.cps.size := by
  cases o with
  | none => exact Nat.zero_le _
  | some p => exact len_le
local macro_rules | `(tactic| walk_at "has") => `(tactic| repeat (first | (with_reducible exact Has.hd) | (with_reducible apply Has.tl)))
local macro_rules | `(tactic| walk_at "lk") => `(tactic| repeat (first | (with_reducible exact Lk.hd) | (with_reducible apply Lk.tl)))
local macro_rules | `(tactic| walk_at "upd") => `(tactic| repeat (first | (with_reducible exact Upd.hd) | (with_reducible apply Upd.tl)))
local macro_rules | `(tactic| walk_at "set") => `(tactic| repeat (first | (with_reducible exact SetL.hd) | (with_reducible apply SetL.tl)))
local macro_rules | `(tactic| walk_at "rem") => `(tactic| repeat (first | (with_reducible exact Rem.hd) | (with_reducible apply Rem.tl)))
local macro_rules | `(tactic| walk_at "small") => `(tactic| exact Nat.le_of_ble_eq_true rfl)
section
variable {G : Glob} {fr : List Env} {A : Around} {env : Env} {F : Fz} {H : Hp} {E : Value → Fz → Hp → Prop} {T : Str}
theorem tr_grp {o : Option (Nat × Nat)} {Q : Bool → Fz → Hp → Prop} (hT : T.cps.size ≤ 1000000) (ho : gok T o) (h : Q o.isSome F H) : Tr G fr A F H (grp? T o) Q E := by
  cases o with
  | none => exact tr_none h
  | some p =>
    obtain ⟨x, y⟩ := p
    have hl : (T.cps.extract x y).size = y - x := by rw [Array.size_extract]; have := ho.2; lia
    refine tr_str (x := ⟨T.cps.extract x y⟩) ?_ ?_
    · show ((T.cps.extract x y).size : Int) < _
      rw [hl]; have := ho.2; lia
    · have : (((⟨T.cps.extract x y⟩ : Str).length : Int) != 0) = true := by
        show (((T.cps.extract x y).size : Int) != 0) = true
        rw [hl]; have := ho.1; simp; lia
      rw [this]; exact h
theorem or_grp {a : Expr} {o : Option (Nat × Nat)} {k pos' pos} {Q : V → Fz → Hp → Prop} (hT : T.cps.size ≤ 1000000) (ho : gok T o) (h : Ev G fr A F H (eval a env) (fun x F1 H1 => x = grp? T o ∧ Q (.str (gtx T o)) F1 H1) E) : Ev G fr A F H (eval (.BoolOp .Or [a, .Constant (.str (Str.ofString "")) k pos'] pos) env) Q E := by
  refine Ev_or (h.mono (fun x F1 H1 q => ?_) fun _ _ _ e => e)
  obtain ⟨rfl, q⟩ := q
  refine tr_grp hT ho ?_
  cases o with
  | none =>
    refine Bif (fun h => nomatch h) fun _ => ?_
    exact Ev_str q
  | some p => exact Bif (fun _ => q) fun h => nomatch h
theorem wtest {ρ : List (Str × Option V)} {i c n : Nat} {w1 w : Str} {k1 k2 k3 p1 p2 p3 p4 p5 p6 p7 p8 p9 p10 p11 pos whole} (hm : Has H env.locals (.ns ρ)) (h1 : Lk ρ (Str.ofString "nextchar") (.str ⟨#[c]⟩)) (h2 : Lk ρ (Str.ofString "string") (.str T)) (h3 : Lk ρ (Str.ofString "idx") (.int (i : Int))) (hT : T.length ≤ sizeLine) (hn : n = w.length)
    (hk : env.scope.kind = .function := by rfl) (l1 : env.kindOf (Str.ofString "nextchar") = some .local := by rfl) (l2 : env.kindOf (Str.ofString "string") = some .local := by rfl) (l3 : env.kindOf (Str.ofString "idx") = some .local := by rfl) :
    Tp G fr A F H (isTrue (.BoolOp .And [.Compare (.Name (Str.ofString "nextchar") p1) [.Eq] [.Constant (.str w1) k1 p2] p3, .Compare (.Subscript (.Name (Str.ofString "string") p4) (.Slice (some (.Name (Str.ofString "idx") p5)) (some (.BinOp (.Name (Str.ofString "idx") p6) .Add (.Constant (.int (n : Int)) k2 p7) p8)) none p9) p10) [.Eq] [.Constant (.str w) k3 p11] pos] whole) env (eval (.BoolOp .And [.Compare (.Name (Str.ofString "nextchar") p1) [.Eq] [.Constant (.str w1) k1 p2] p3, .Compare (.Subscript (.Name (Str.ofString "string") p4) (.Slice (some (.Name (Str.ofString "idx") p5)) (some (.BinOp (.Name (Str.ofString "idx") p6) .Add (.Constant (.int (n : Int)) k2 p7) p8)) none p9) p10) [.Eq] [.Constant (.str w) k3 p11] pos] whole) env)) (fun b F1 H1 => b = (chr c w1 && word T i w) ∧ F1 = F ∧ H1 = H) E := by
  subst hn
  refine It_BoolOp (It_and (It_Compare1 (Ev_local hm h1 ?_ hk l1)))
  refine Ev_str ?_
  refine eq_ss ?_
  refine ⟨_, rfl, ?_⟩
  refine Bif (fun hq => ?_) fun hq => ?_
  · refine It_and (It_Compare1 (Ev_slice_str (Ev_local hm h2 ?_ hk l2)))
    refine ⟨T, rfl, hT, EvP_some (Ev_local hm h3 ?_ hk l3)⟩
    refine ⟨_, rfl, EvP_some (Ev_BinOp (Ev_local hm h3 ?_ hk l3))⟩
    refine Ev_int ?_
    refine add_ii ?_
    refine ⟨_, rfl, ?_⟩
    refine Ev_str ?_
    refine eq_ss ?_
    refine ⟨_, rfl, ?_⟩
    refine Bif (fun hr => ?_) fun hr => ?_
    · refine It_and_nil ?_
      exact ⟨by rw [show chr c w1 = true from hq]; exact hr.symm, rfl, rfl⟩
    · exact ⟨by rw [show chr c w1 = true from hq]; exact hr.symm, rfl, rfl⟩
  · exact ⟨by rw [show chr c w1 = false from hq]; rfl, rfl, rfl⟩
end
noncomputable def ScQ (G : Glob) (fr : List Env) (A : Around) (F : Fz) (H : Hp) (f : Addr) (p : Parts) (T : Str) (i : Nat) (Q : V → Fz → Hp → Prop) (P : Addr → String → List V → Bool → Fz → Hp → Prop) : Lx → Prop
  | .str => ClD G fr A F H p.ps [.str T, .int ((i : Int) + 1), p.st] Q (Thr0 P)
  | .obj => ClD G fr A F H p.po [.tup [.str T, .int ((i : Int) + 1)], p.st, .ref f, p.oh, p.oph, p.mm] Q (Thr0 P)
  | .arr => ClD G fr A F H p.pa [.tup [.str T, .int ((i : Int) + 1)], .ref f] Q (Thr0 P)
  | .null => Q (.tup [.none, .int ((i : Int) + 4)]) F H
  | .tru => Q (.tup [.bool true, .int ((i : Int) + 4)]) F H
  | .fls => Q (.tup [.bool false, .int ((i : Int) + 5)]) F H
  | .whole n => ClD G fr A F H p.pi [.str ⟨T.cps.extract i (i + n)⟩] (fun x F2 H2 => Q (.tup [x, .int ((i + n : Nat) : Int)]) F2 H2) (Thr0 P)
  | .broken n => ClD G fr A F H p.pf [.str ⟨T.cps.extract i (i + n)⟩] (fun x F2 H2 => Q (.tup [x, .int ((i + n : Nat) : Int)]) F2 H2) (Thr0 P)
  | .con w => ClD G fr A F H p.pc [.str w] (fun x F2 H2 => Q (.tup [x, .int ((i : Int) + (w.length : Nat))]) F2 H2) (Thr0 P)
  | .stop => ∀ x b, P x "StopIteration" [.int i] b F H
theorem cat_ii : Cat "IndexError" "IndexError" true := ⟨by rw [isSubtype_type]; kernel_rfl, by rw [isSubtype_type]; kernel_rfl, by rw [isSubtype_type]; kernel_rfl⟩
structure BtS (G : Glob) : Prop where
  i0 : G.mg (Str.ofString "IndexError") = none
  i1 : G.mb (Str.ofString "IndexError") = some (.type "IndexError")
  s0 : G.mg (Str.ofString "StopIteration") = none
  s1 : G.mb (Str.ofString "StopIteration") = some (.type "StopIteration")
theorem scan {G : Glob} {fr : List Env} {A : Around} {F : Fz} {H : Hp} {f : Addr} {p : Parts} {P : Addr → String → List V → Bool → Fz → Hp → Prop} {Q : V → Fz → Hp → Prop} {T : Str} {i : Nat} (hS : ScanF F f p) (hA : Ok fr A 1) (hT : T.cps.size ≤ 1000000) (bt : BtS G)
    (h : ScQ G fr A F H f p T i Q P (lexL (T.cps.toList.drop i))) : Cl G fr A F H (.ref f) [.str T, .int i] Q (Thr0 P) := by
  obtain ⟨qual, clos, pat, hf, ⟨c1, k1, h1⟩, ⟨c2, k2, h2⟩, ⟨c3, k3, h3⟩, ⟨c4, k4, h4⟩, ⟨c5, k5, h5⟩, ⟨c6, k6, h6⟩, ⟨c7, k7, h7⟩, ⟨c8, k8, h8⟩, ⟨c9, k9, h9⟩, ⟨c10, k10, h10⟩, ⟨c11, k11, h11⟩, ⟨c12, k12, h12⟩, hb, o1, o2, o3, o4, o5, o6⟩ := hS
  obtain ⟨name, params, body, scope, pos, hst, hf⟩ := hf
  cases Option.some.inj hst.symm
  have hTs : T.length ≤ sizeLine := Nat.le_trans (show T.cps.size ≤ 1000000 from hT) (by decide)
  refine Cl.dn ?_
  refine call_fn hf [Str.ofString "string", Str.ofString "idx"] [Str.ofString "nextchar", Str.ofString "m", Str.ofString "integer", Str.ofString "frac", Str.ofString "exp", Str.ofString "res"] rfl (by decide) (fun doc pm c ctv vs hv => ?_) (by rfl) (by rfl) hA.room (fun L c => leaves_thr (L := L) hA.frames rfl) (fun L A' cd hD => ?_)
  · obtain ⟨a, b, rfl⟩ := len2 hv
    rfl
  · simp only [mkRho, List.map]
    have hA := hA.deep hD
    have hh := hA.handled
    obtain ⟨i0, i1, s0, s1⟩ := bt
    refine Ex_cons ?_
    cases hc : T.cps[i]? with
    | none =>
      have hi : T.cps.size ≤ i := by
        rcases Nat.lt_or_ge i T.cps.size with q | q
        · rw [Array.getElem?_eq_getElem q] at hc; cases hc
        · exact q
      rw [lex_end hi] at h
      refine Ex_Try (PB := fun x c a b F1 H1 => c = "IndexError" ∧ b = true ∧ F1 = F ∧ H1 = (L, .ns [(Str.ofString "string", some (.str T)), (Str.ofString "idx", some (.int i)), (Str.ofString "nextchar", none), (Str.ofString "m", none), (Str.ofString "integer", none), (Str.ofString "frac", none), (Str.ofString "exp", none), (Str.ofString "res", none)]) :: H) hA.frames ?_ fun x c a t b F1 H1 hq => ?_
      · refine Ex_cons ?_
        refine Ex_Assign_Name ?_
        refine' Ev_Subscript' ?_ ?_ ?_
        rotate_left 2
        refine Ev_local (by walk_at "has") (by walk_at "lk") ?_
        with_reducible exact Is.mk
        refine Ev_local (by walk_at "has") (by walk_at "lk") ?_
        with_reducible exact Is.mk
        exact sub_str_out hh hi fun e m => Thr0.mk .hd ⟨rfl, rfl, rfl, rfl⟩
      · obtain ⟨rfl, rfl, rfl, rfl⟩ := hq
        refine Hd_yes hA.frames i0 i1 cat_ii ?_
        refine Ex_cons ?_
        refine Ex_RaiseNone rfl owsi_raise ?_
        refine' Ev_Call' ?_ ?_ ?_ ?_
        rotate_left 2
        refine Ev_blt (by assumption) (by assumption) .typ ?_
        with_reducible exact Is.mk
        with_reducible exact KOk.typ
        refine' Evs_cons' ?_ ?_
        rotate_left 2
        refine Ev_local (by walk_at "has") (by walk_at "lk") ?_
        with_reducible exact Is.mk
        exact Evs_nil'
        refine stop_new1 fun x2 => ?_
        exact ⟨x2, _, _, _, _, _, _, rfl, .hd, .hd, _, Drp.two (.tl .hd) (fun _ q => nomatch q) (.tl .hd) (fun _ q => nomatch q), Thr0.mk .hd ⟨_, _, .hd, h x2 false⟩⟩
    | some c =>
      refine Ex_Try (PB := fun _ _ _ _ _ _ => False) hA.frames ?_ fun _ _ _ _ _ _ _ hq => hq.elim
      refine Ex_cons ?_
      refine Ex_Assign_Name ?_
      refine' Ev_Subscript' ?_ ?_ ?_
      rotate_left 2
      refine Ev_local (by walk_at "has") (by walk_at "lk") ?_
      with_reducible exact Is.mk
      refine Ev_local (by walk_at "has") (by walk_at "lk") ?_
      with_reducible exact Is.mk
      refine sub_str (by lia) (by have := (Array.getElem?_eq_some_iff.mp hc).1; lia) (c := c) (by rw [Int.toNat_natCast]; exact hc) ?_
      refine' Store.mk ?u ?v ?_
      case u => walk_at "upd"
      case v => walk_at "set"
      with_reducible refine Then.next ?_
      refine Ex_nil ?_
      with_reducible refine Then.next ?_
      refine Ex_cons ?_
      refine Ex_If ?_
      refine' It_Compare1' ?_ ?_ ?_
      rotate_left 2
      refine Ev_local (by walk_at "has") (by walk_at "lk") ?_
      with_reducible exact Is.mk
      refine Ev_str ?_
      with_reducible exact Is.mk
      refine eq_ss ?_
      refine ⟨_, rfl, ?_⟩
      have thn : ∀ {F1 : Fz} {f : V} {xs : List V} {ρ : List (Str × Option V)} {env : Env} {Q' Q2 : V → Fz → Hp → Prop}, Deep A A' env → F.le F1 → ClD G fr A F H f xs Q' (Thr0 P) → (∀ x F2 H3, Q' x F2 H3 → Q2 x F2 ((L, .ns ρ) :: H3)) → Cl G (env :: fr) A' F1 ((L, .ns ρ) :: H) f xs Q2 (Thr0 fun x c a b F H => ∃ ρ H', Rem H L (.ns ρ) H' ∧ P x c a b F H') :=
        fun hD le h k => (Cl.out1 hD h k fun x c a b F2 H3 q => ⟨_, _, .hd, q⟩).up le
      refine Bif (fun hb1 => ?_) fun hb1 => ?_
      · rw [lex_str hc hb1] at h
        refine Ex_cons ?_
        refine Ex_Return ?_
        refine' Ev_Call' ?_ ?_ ?_ ?_
        rotate_left 2
        refine Ev_freeF (by assumption) (by assumption) ?_
        with_reducible exact Is.mk
        exact o3
        refine' Evs_cons' ?_ ?_
        rotate_left 2
        refine Ev_local (by walk_at "has") (by walk_at "lk") ?_
        with_reducible exact Is.mk
        refine' Evs_cons' ?_ ?_
        rotate_left 2
        refine' Ev_BinOp' ?_ ?_ ?_
        rotate_left 2
        refine Ev_local (by walk_at "has") (by walk_at "lk") ?_
        with_reducible exact Is.mk
        refine Ev_int ?_
        with_reducible exact Is.mk
        refine add_ii ?_
        with_reducible exact Is.mk
        refine' Evs_cons' ?_ ?_
        rotate_left 2
        refine Ev_freeF (by assumption) (by assumption) ?_
        with_reducible exact Is.mk
        exact Evs_nil'
        exact thn hD (.refl F) h fun x F2 H3 q => ⟨_, _, .hd, .in q⟩
      refine Ex_cons ?_
      refine Ex_If ?_
      refine' It_Compare1' ?_ ?_ ?_
      rotate_left 2
      refine Ev_local (by walk_at "has") (by walk_at "lk") ?_
      with_reducible exact Is.mk
      refine Ev_str ?_
      with_reducible exact Is.mk
      refine eq_ss ?_
      refine ⟨_, rfl, ?_⟩
      refine Bif (fun hb2 => ?_) fun hb2 => ?_
      · rw [lex_obj hc hb2] at h
        refine Ex_cons ?_
        refine Ex_Return ?_
        refine' Ev_Call' ?_ ?_ ?_ ?_
        rotate_left 2
        refine Ev_freeF (by assumption) (by assumption) ?_
        with_reducible exact Is.mk
        exact o1
        refine' Evs_cons' ?_ ?_
        rotate_left 2
        refine' Ev_Tuple' ?_ ?_ ?_
        rotate_left 1
        refine' Evs_cons' ?_ ?_
        rotate_left 2
        refine Ev_local (by walk_at "has") (by walk_at "lk") ?_
        with_reducible exact Is.mk
        refine' Evs_cons' ?_ ?_
        rotate_left 2
        refine' Ev_BinOp' ?_ ?_ ?_
        rotate_left 2
        refine Ev_local (by walk_at "has") (by walk_at "lk") ?_
        with_reducible exact Is.mk
        refine Ev_int ?_
        with_reducible exact Is.mk
        refine add_ii ?_
        with_reducible exact Is.mk
        exact Evs_nil'
        exact Nat.le_of_ble_eq_true rfl
        with_reducible exact Is.mk
        refine' Evs_cons' ?_ ?_
        rotate_left 2
        refine Ev_freeF (by assumption) (by assumption) ?_
        with_reducible exact Is.mk
        refine' Evs_cons' ?_ ?_
        rotate_left 2
        refine Ev_freeF (by assumption) (by assumption) ?_
        with_reducible exact Is.mk
        refine' Evs_cons' ?_ ?_
        rotate_left 2
        refine Ev_freeF (by assumption) (by assumption) ?_
        with_reducible exact Is.mk
        refine' Evs_cons' ?_ ?_
        rotate_left 2
        refine Ev_freeF (by assumption) (by assumption) ?_
        with_reducible exact Is.mk
        refine' Evs_cons' ?_ ?_
        rotate_left 2
        refine Ev_freeF (by assumption) (by assumption) ?_
        with_reducible exact Is.mk
        exact Evs_nil'
        exact thn hD (.refl F) h fun x F2 H3 q => ⟨_, _, .hd, .in q⟩
      refine Ex_cons ?_
      refine Ex_If ?_
      refine' It_Compare1' ?_ ?_ ?_
      rotate_left 2
      refine Ev_local (by walk_at "has") (by walk_at "lk") ?_
      with_reducible exact Is.mk
      refine Ev_str ?_
      with_reducible exact Is.mk
      refine eq_ss ?_
      refine ⟨_, rfl, ?_⟩
      refine Bif (fun hb3 => ?_) fun hb3 => ?_
      · rw [lex_arr hc hb3] at h
        refine Ex_cons ?_
        refine Ex_Return ?_
        refine' Ev_Call' ?_ ?_ ?_ ?_
        rotate_left 2
        refine Ev_freeF (by assumption) (by assumption) ?_
        with_reducible exact Is.mk
        exact o2
        refine' Evs_cons' ?_ ?_
        rotate_left 2
        refine' Ev_Tuple' ?_ ?_ ?_
        rotate_left 1
        refine' Evs_cons' ?_ ?_
        rotate_left 2
        refine Ev_local (by walk_at "has") (by walk_at "lk") ?_
        with_reducible exact Is.mk
        refine' Evs_cons' ?_ ?_
        rotate_left 2
        refine' Ev_BinOp' ?_ ?_ ?_
        rotate_left 2
        refine Ev_local (by walk_at "has") (by walk_at "lk") ?_
        with_reducible exact Is.mk
        refine Ev_int ?_
        with_reducible exact Is.mk
        refine add_ii ?_
        with_reducible exact Is.mk
        exact Evs_nil'
        exact Nat.le_of_ble_eq_true rfl
        with_reducible exact Is.mk
        refine' Evs_cons' ?_ ?_
        rotate_left 2
        refine Ev_freeF (by assumption) (by assumption) ?_
        with_reducible exact Is.mk
        exact Evs_nil'
        exact thn hD (.refl F) h fun x F2 H3 q => ⟨_, _, .hd, .in q⟩
      refine Ex_cons ?_
      refine Ex_If ?_
      refine Tp.test (chr c "n" && word T i "null") (wtest .hd (by walk_at "lk") (by walk_at "lk") (by walk_at "lk") hTs (by rfl)) ?_
      refine Bif (fun hw0 => ?_) fun hw0 => ?_
      · rw [lex_null hc hw0] at h
        refine Ex_cons ?_
        refine Ex_Return ?_
        refine' Ev_Tuple' ?_ ?_ ?_
        rotate_left 1
        refine' Evs_cons' ?_ ?_
        rotate_left 2
        refine Ev_none ?_
        with_reducible exact Is.mk
        refine' Evs_cons' ?_ ?_
        rotate_left 2
        refine' Ev_BinOp' ?_ ?_ ?_
        rotate_left 2
        refine Ev_local (by walk_at "has") (by walk_at "lk") ?_
        with_reducible exact Is.mk
        refine Ev_int ?_
        with_reducible exact Is.mk
        refine add_ii ?_
        with_reducible exact Is.mk
        exact Evs_nil'
        exact Nat.le_of_ble_eq_true rfl
        with_reducible refine Then.ret ?_
        with_reducible refine Then.ret ?_
        with_reducible refine Then.ret ?_
        with_reducible refine Then.ret ?_
        with_reducible refine Then.ret ?_
        exact ⟨_, _, .hd, .in h⟩
      refine Ex_cons ?_
      refine Ex_If ?_
      refine Tp.test (chr c "t" && word T i "true") (wtest .hd (by walk_at "lk") (by walk_at "lk") (by walk_at "lk") hTs (by rfl)) ?_
      refine Bif (fun hw1 => ?_) fun hw1 => ?_
      · rw [lex_tru hc hw1] at h
        refine Ex_cons ?_
        refine Ex_Return ?_
        refine' Ev_Tuple' ?_ ?_ ?_
        rotate_left 1
        refine' Evs_cons' ?_ ?_
        rotate_left 2
        refine Ev_bool ?_
        with_reducible exact Is.mk
        refine' Evs_cons' ?_ ?_
        rotate_left 2
        refine' Ev_BinOp' ?_ ?_ ?_
        rotate_left 2
        refine Ev_local (by walk_at "has") (by walk_at "lk") ?_
        with_reducible exact Is.mk
        refine Ev_int ?_
        with_reducible exact Is.mk
        refine add_ii ?_
        with_reducible exact Is.mk
        exact Evs_nil'
        exact Nat.le_of_ble_eq_true rfl
        with_reducible refine Then.ret ?_
        with_reducible refine Then.ret ?_
        with_reducible refine Then.ret ?_
        with_reducible refine Then.ret ?_
        with_reducible refine Then.ret ?_
        with_reducible refine Then.ret ?_
        exact ⟨_, _, .hd, .in h⟩
      refine Ex_cons ?_
      refine Ex_If ?_
      refine Tp.test (chr c "f" && word T i "false") (wtest .hd (by walk_at "lk") (by walk_at "lk") (by walk_at "lk") hTs (by rfl)) ?_
      refine Bif (fun hw2 => ?_) fun hw2 => ?_
      · rw [lex_fls hc hw2] at h
        refine Ex_cons ?_
        refine Ex_Return ?_
        refine' Ev_Tuple' ?_ ?_ ?_
        rotate_left 1
        refine' Evs_cons' ?_ ?_
        rotate_left 2
        refine Ev_bool ?_
        with_reducible exact Is.mk
        refine' Evs_cons' ?_ ?_
        rotate_left 2
        refine' Ev_BinOp' ?_ ?_ ?_
        rotate_left 2
        refine Ev_local (by walk_at "has") (by walk_at "lk") ?_
        with_reducible exact Is.mk
        refine Ev_int ?_
        with_reducible exact Is.mk
        refine add_ii ?_
        with_reducible exact Is.mk
        exact Evs_nil'
        exact Nat.le_of_ble_eq_true rfl
        with_reducible refine Then.ret ?_
        with_reducible refine Then.ret ?_
        with_reducible refine Then.ret ?_
        with_reducible refine Then.ret ?_
        with_reducible refine Then.ret ?_
        with_reducible refine Then.ret ?_
        with_reducible refine Then.ret ?_
        exact ⟨_, _, .hd, .in h⟩
      refine Ex_nil ?_
      with_reducible refine Then.next ?_
      refine Ex_nil ?_
      with_reducible refine Then.next ?_
      refine Ex_nil ?_
      with_reducible refine Then.next ?_
      refine Ex_nil ?_
      with_reducible refine Then.next ?_
      refine Ex_nil ?_
      with_reducible refine Then.next ?_
      refine Ex_nil ?_
      with_reducible refine Then.next ?_
      refine Ex_cons ?_
      refine Ex_Assign_Name ?_
      refine' Ev_Call' ?_ ?_ ?_ ?_
      rotate_left 2
      refine Ev_freeF (by assumption) (by assumption) ?_
      with_reducible exact Is.mk
      exact hb.ok
      refine' Evs_cons' ?_ ?_
      rotate_left 2
      refine Ev_local (by walk_at "has") (by walk_at "lk") ?_
      with_reducible exact Is.mk
      refine' Evs_cons' ?_ ?_
      rotate_left 2
      refine Ev_local (by walk_at "has") (by walk_at "lk") ?_
      with_reducible exact Is.mk
      exact Evs_nil'
      have hi := (Array.getElem?_eq_some_iff.mp hc).1
      refine match_num hb hi (Nat.le_trans hT (by decide)) (fun hno => ?_) fun q hq m F1 l1 hm => ?_
      · refine' Store.mk ?u ?v ?_
        case u => walk_at "upd"
        case v => walk_at "set"
        with_reducible refine Then.next ?_
        refine Ex_cons ?_
        refine Ex_If ?_
        refine' It_Compare1' ?_ ?_ ?_
        rotate_left 2
        refine Ev_local (by walk_at "has") (by walk_at "lk") ?_
        with_reducible exact Is.mk
        refine Ev_none ?_
        with_reducible exact Is.mk
        refine isNot_none ?_
        refine ⟨_, rfl, ?_⟩
        refine Bif (fun hx => ?_) fun hx => ?_
        · cases hx
        refine Ex_cons ?_
        refine Ex_If ?_
        refine Tp.test (chr c "N" && word T i "NaN") (wtest .hd (by walk_at "lk") (by walk_at "lk") (by walk_at "lk") hTs (by rfl)) ?_
        refine Bif (fun hw3 => ?_) fun hw3 => ?_
        · rw [lex_con rfl rfl hc hno hw3 (.inl ⟨rfl, rfl⟩)] at h
          refine Ex_cons ?_
          refine Ex_Return ?_
          refine Ev_Tuple ?_
          refine Evs_cons ?_
          refine' Ev_Call' ?_ ?_ ?_ ?_
          rotate_left 2
          refine Ev_freeF (by assumption) (by assumption) ?_
          with_reducible exact Is.mk
          exact o6
          refine' Evs_cons' ?_ ?_
          rotate_left 2
          refine Ev_str ?_
          with_reducible exact Is.mk
          exact Evs_nil'
          refine thn hD (.refl F) h fun x F2 H2 k => ?_
          refine Evs_cons ?_
          refine' Ev_BinOp' ?_ ?_ ?_
          rotate_left 2
          refine Ev_local (by walk_at "has") (by walk_at "lk") ?_
          with_reducible exact Is.mk
          refine Ev_int ?_
          with_reducible exact Is.mk
          refine add_ii ?_
          refine Evs_nil ?_
          refine ⟨by exact Nat.le_of_ble_eq_true rfl, ?_⟩
          with_reducible refine Then.ret ?_
          with_reducible refine Then.ret ?_
          with_reducible refine Then.ret ?_
          exact ⟨_, _, .hd, .in k⟩
        refine Ex_cons ?_
        refine Ex_If ?_
        refine Tp.test (chr c "I" && word T i "Infinity") (wtest .hd (by walk_at "lk") (by walk_at "lk") (by walk_at "lk") hTs (by rfl)) ?_
        refine Bif (fun hw4 => ?_) fun hw4 => ?_
        · rw [lex_con rfl rfl hc hno hw4 (.inr (.inl ⟨rfl, rfl⟩))] at h
          refine Ex_cons ?_
          refine Ex_Return ?_
          refine Ev_Tuple ?_
          refine Evs_cons ?_
          refine' Ev_Call' ?_ ?_ ?_ ?_
          rotate_left 2
          refine Ev_freeF (by assumption) (by assumption) ?_
          with_reducible exact Is.mk
          exact o6
          refine' Evs_cons' ?_ ?_
          rotate_left 2
          refine Ev_str ?_
          with_reducible exact Is.mk
          exact Evs_nil'
          refine thn hD (.refl F) h fun x F2 H2 k => ?_
          refine Evs_cons ?_
          refine' Ev_BinOp' ?_ ?_ ?_
          rotate_left 2
          refine Ev_local (by walk_at "has") (by walk_at "lk") ?_
          with_reducible exact Is.mk
          refine Ev_int ?_
          with_reducible exact Is.mk
          refine add_ii ?_
          refine Evs_nil ?_
          refine ⟨by exact Nat.le_of_ble_eq_true rfl, ?_⟩
          with_reducible refine Then.ret ?_
          with_reducible refine Then.ret ?_
          with_reducible refine Then.ret ?_
          with_reducible refine Then.ret ?_
          exact ⟨_, _, .hd, .in k⟩
        refine Ex_cons ?_
        refine Ex_If ?_
        refine Tp.test (chr c "-" && word T i "-Infinity") (wtest .hd (by walk_at "lk") (by walk_at "lk") (by walk_at "lk") hTs (by rfl)) ?_
        refine Bif (fun hw5 => ?_) fun hw5 => ?_
        · rw [lex_con rfl rfl hc hno hw5 (.inr (.inr ⟨rfl, rfl⟩))] at h
          refine Ex_cons ?_
          refine Ex_Return ?_
          refine Ev_Tuple ?_
          refine Evs_cons ?_
          refine' Ev_Call' ?_ ?_ ?_ ?_
          rotate_left 2
          refine Ev_freeF (by assumption) (by assumption) ?_
          with_reducible exact Is.mk
          exact o6
          refine' Evs_cons' ?_ ?_
          rotate_left 2
          refine Ev_str ?_
          with_reducible exact Is.mk
          exact Evs_nil'
          refine thn hD (.refl F) h fun x F2 H2 k => ?_
          refine Evs_cons ?_
          refine' Ev_BinOp' ?_ ?_ ?_
          rotate_left 2
          refine Ev_local (by walk_at "has") (by walk_at "lk") ?_
          with_reducible exact Is.mk
          refine Ev_int ?_
          with_reducible exact Is.mk
          refine add_ii ?_
          refine Evs_nil ?_
          refine ⟨by exact Nat.le_of_ble_eq_true rfl, ?_⟩
          with_reducible refine Then.ret ?_
          with_reducible refine Then.ret ?_
          with_reducible refine Then.ret ?_
          with_reducible refine Then.ret ?_
          with_reducible refine Then.ret ?_
          exact ⟨_, _, .hd, .in k⟩
        rw [lex_stop hc ⟨hb1, hb2, hb3, hw0, hw1, hw2, hno, hw3, hw4, hw5⟩] at h
        refine Ex_cons ?_
        refine Ex_Raise hh ?_
        refine' Ev_Call' ?_ ?_ ?_ ?_
        rotate_left 2
        refine Ev_blt (by assumption) (by assumption) .typ ?_
        with_reducible exact Is.mk
        with_reducible exact KOk.typ
        refine' Evs_cons' ?_ ?_
        rotate_left 2
        refine Ev_local (by walk_at "has") (by walk_at "lk") ?_
        with_reducible exact Is.mk
        exact Evs_nil'
        refine stop_new1 fun x2 => ?_
        exact ⟨x2, _, _, _, rfl, .hd, owsi_raise, Thr0.mk .hd ⟨_, _, .hd, h x2 true⟩⟩
      · have hq2 := intAt_lt hq
        have hs2 := signAt_le (T := T.cps) (lim := T.cps.size) (p := i)
        obtain ⟨n, hn, hlx⟩ := lex_num hc hq
        rw [hlx] at h
        have g1 : gok T ((fracAt T.cps T.cps.size q).map fun e => (q, e)) := by
          cases hfr : fracAt T.cps T.cps.size q with
          | none => trivial
          | some e1 => exact fracAt_lt hfr
        have g2 : gok T ((expAt T.cps T.cps.size (fracEnd T.cps T.cps.size q)).map fun e => (fracEnd T.cps T.cps.size q, e)) := by
          cases hex : expAt T.cps T.cps.size (fracEnd T.cps T.cps.size q) with
          | none => trivial
          | some e2 => exact expAt_lt hex
        have t1 : gtx T ((fracAt T.cps T.cps.size q).map fun e => (q, e)) = ⟨T.cps.extract q (fracEnd T.cps T.cps.size q)⟩ := by
          show _ = (⟨T.cps.extract q ((fracAt T.cps T.cps.size q).getD q)⟩ : Str)
          cases fracAt T.cps T.cps.size q with
          | none => exact congrArg Str.mk (by simp; lia : (#[] : Array Nat) = _)
          | some e1 => rfl
        have t2 : gtx T ((expAt T.cps T.cps.size (fracEnd T.cps T.cps.size q)).map fun e => (fracEnd T.cps T.cps.size q, e)) = ⟨T.cps.extract (fracEnd T.cps T.cps.size q) (expEnd T.cps T.cps.size (fracEnd T.cps T.cps.size q))⟩ := by
          show _ = (⟨T.cps.extract (fracEnd T.cps T.cps.size q) ((expAt T.cps T.cps.size (fracEnd T.cps T.cps.size q)).getD (fracEnd T.cps T.cps.size q))⟩ : Str)
          cases expAt T.cps T.cps.size (fracEnd T.cps T.cps.size q) with
          | none => exact congrArg Str.mk (by simp; lia : (#[] : Array Nat) = _)
          | some e1 => rfl
        have b1 : q ≤ fracEnd T.cps T.cps.size q := by
          show q ≤ (fracAt T.cps T.cps.size q).getD q
          cases hfr : fracAt T.cps T.cps.size q with
          | none => exact Nat.le_refl _
          | some e1 => exact Nat.le_of_lt (fracAt_lt hfr).1
        have b2 : fracEnd T.cps T.cps.size q ≤ expEnd T.cps T.cps.size (fracEnd T.cps T.cps.size q) := by
          show _ ≤ (expAt T.cps T.cps.size (fracEnd T.cps T.cps.size q)).getD (fracEnd T.cps T.cps.size q)
          cases hex : expAt T.cps T.cps.size (fracEnd T.cps T.cps.size q) with
          | none => exact Nat.le_refl _
          | some e1 => exact Nat.le_of_lt (expAt_lt hex).1
        have i1 : ((fracAt T.cps T.cps.size q).map fun e => (q, e)).isSome = (fracAt T.cps T.cps.size q).isSome := by cases fracAt T.cps T.cps.size q <;> rfl
        have i2 : ((expAt T.cps T.cps.size (fracEnd T.cps T.cps.size q)).map fun e => (fracEnd T.cps T.cps.size q, e)).isSome = (expAt T.cps T.cps.size (fracEnd T.cps T.cps.size q)).isSome := by cases expAt T.cps T.cps.size (fracEnd T.cps T.cps.size q) <;> rfl
        have z1 : (fracAt T.cps T.cps.size q).isSome = false → fracEnd T.cps T.cps.size q = q := fun hz => by
          show (fracAt T.cps T.cps.size q).getD q = q
          cases hfr : fracAt T.cps T.cps.size q with
          | none => rfl
          | some e1 => rw [hfr] at hz; cases hz
        have z2 : (expAt T.cps T.cps.size (fracEnd T.cps T.cps.size q)).isSome = false → expEnd T.cps T.cps.size (fracEnd T.cps T.cps.size q) = fracEnd T.cps T.cps.size q := fun hz => by
          show (expAt T.cps T.cps.size (fracEnd T.cps T.cps.size q)).getD (fracEnd T.cps T.cps.size q) = fracEnd T.cps T.cps.size q
          cases hex : expAt T.cps T.cps.size (fracEnd T.cps T.cps.size q) with
          | none => rfl
          | some e1 => rw [hex] at hz; cases hz
        rw [← i1, ← i2] at h
        rw [← i1] at z1
        rw [← i2] at z2
        generalize (fracAt T.cps T.cps.size q).map (fun e => (q, e)) = o1' at *
        generalize (expAt T.cps T.cps.size (fracEnd T.cps T.cps.size q)).map (fun e => (fracEnd T.cps T.cps.size q, e)) = o2' at *
        generalize expEnd T.cps T.cps.size (fracEnd T.cps T.cps.size q) = e2 at *
        generalize fracEnd T.cps T.cps.size q = e1 at *
        have h6 := h6.mono l1
        have h7 := h7.mono l1
        have o4 := o4.mono l1
        have o5 := o5.mono l1
        refine' Store.mk ?u ?v ?_
        case u => walk_at "upd"
        case v => walk_at "set"
        with_reducible refine Then.next ?_
        refine Ex_cons ?_
        refine Ex_If ?_
        refine' It_Compare1' ?_ ?_ ?_
        rotate_left 2
        refine Ev_local (by walk_at "has") (by walk_at "lk") ?_
        with_reducible exact Is.mk
        refine Ev_none ?_
        with_reducible exact Is.mk
        refine isNot_none ?_
        refine ⟨_, rfl, ?_⟩
        refine Bif (fun hx => ?_) fun hx => ?_
        · refine Ex_cons ?_
          refine Ex_Assign_Tuple (by assumption) rfl rfl ?_
          refine' Ev_method' ?_ ?_
          rotate_left 1
          refine Ev_local (by walk_at "has") (by walk_at "lk") ?_
          with_reducible exact Is.mk
          refine ⟨"re.Match", _, plainAttrs_Match, slot_groups, type_groups, hm.ty, ?_⟩
          refine' MArgs.mk ?_ ?_
          rotate_left 1
          exact Evs_nil'
          refine groups hm hTs ?_
          refine ⟨_, rfl, rfl, ?_⟩
          refine Stores.cons ?_
          refine' Store.mk ?u ?v ?_
          case u => walk_at "upd"
          case v => walk_at "set"
          refine Stores.cons ?_
          refine' Store.mk ?u ?v ?_
          case u => walk_at "upd"
          case v => walk_at "set"
          refine Stores.cons ?_
          refine' Store.mk ?u ?v ?_
          case u => walk_at "upd"
          case v => walk_at "set"
          refine Stores.nil ?_
          with_reducible refine Then.next ?_
          refine Ex_cons ?_
          refine Ex_If ?_
          refine Tp.test (o1'.isSome || o2'.isSome) ?_ ?_
          · refine It_BoolOp ?_
            refine It_or ?_
            refine It_value ?_
            refine Ev_local (by walk_at "has") (by walk_at "lk") ?_
            refine tr_grp hT g1 ?_
            refine Bif (fun hq => ?_) fun hq => ?_
            · exact ⟨by rw [hq]; rfl, rfl, rfl⟩
            refine It_or ?_
            refine It_value ?_
            refine Ev_local (by walk_at "has") (by walk_at "lk") ?_
            refine tr_grp hT g2 ?_
            refine Bif (fun hr => ?_) fun hr => ?_
            · exact ⟨by rw [hq, hr]; rfl, rfl, rfl⟩
            refine It_or_nil ?_
            exact ⟨by rw [hq, hr]; rfl, rfl, rfl⟩
          refine Bif (fun hx => ?_) fun hx => ?_
          · rw [if_pos hx] at h
            have hn' : e2 = i + n := hn
            subst hn'
            refine Ex_cons ?_
            refine Ex_Assign_Name ?_
            refine Ev_Call ?_
            refine Ev_freeF (by assumption) (by assumption) ?_
            refine ⟨o4, ?_⟩
            refine Evs_cons (Ev_BinOp (Ev_BinOp ?_))
            refine Ev_local .hd (by walk_at "lk") ?_
            refine or_grp hT g1 ?_
            refine Ev_local .hd (by walk_at "lk") ⟨rfl, ?_⟩
            refine add_ss ?_ ?_
            · have h1 := len_le (T := T) (x := i) (y := q)
              have h2 := gtx_len (T := T) (o := o1')
              show _ ≤ 16777216
              lia
            refine or_grp hT g2 ?_
            refine Ev_local .hd (by walk_at "lk") ⟨rfl, ?_⟩
            refine add_ss ?_ ?_
            · have h1 := len_le (T := T) (x := i) (y := q)
              have h2 := gtx_len (T := T) (o := o1')
              have h3 := gtx_len (T := T) (o := o2')
              rw [strLen_append]
              show _ ≤ 16777216
              lia
            rw [t1, t2, ext_app (by lia) b1, ext_app (by lia) b2]
            refine Evs_nil ?_
            refine (thn (Q2 := fun x F2 H2 => ∃ H3, H2 = (L, .ns _) :: H3 ∧ Q (.tup [x, .int ((i + n : Nat) : Int)]) F2 H3) hD l1 h fun x F2 H2 k => ⟨_, rfl, k⟩).keep.mono (fun x F2 H2 k => ?_) fun _ _ _ e => e
            obtain ⟨l2, F3, l3, H3, rfl, k⟩ := k
            have hm := hm.mono l2
            refine' Store.mk ?u ?v ?_
            case u => walk_at "upd"
            case v => walk_at "set"
            with_reducible refine Then.next ?_
            refine Ex_nil ?_
            with_reducible refine Then.next ?_
            refine Ex_cons ?_
            refine Ex_Return ?_
            refine Ev_Tuple ?_
            refine Evs_cons ?_
            refine Ev_local (by walk_at "has") (by walk_at "lk") ?_
            refine Evs_cons ?_
            refine' Ev_method' ?_ ?_
            rotate_left 1
            refine Ev_local (by walk_at "has") (by walk_at "lk") ?_
            with_reducible exact Is.mk
            refine ⟨"re.Match", _, plainAttrs_Match, slot_end, type_end, hm.ty, ?_⟩
            refine' MArgs.mk ?_ ?_
            rotate_left 1
            exact Evs_nil'
            refine mend hm ?_
            refine Evs_nil ?_
            refine ⟨by exact Nat.le_of_ble_eq_true rfl, ?_⟩
            with_reducible refine Then.ret ?_
            with_reducible refine Then.ret ?_
            exact ⟨_, _, .hd, F3, l3, k⟩
          · rw [if_neg (by rw [hx]; simp)] at h
            rw [Bool.or_eq_false_iff] at hx
            have hn' : e2 = i + n := hn
            have hqn : q = i + n := by have := z1 hx.1; have := z2 hx.2; lia
            subst hn'
            subst hqn
            refine Ex_cons ?_
            refine Ex_Assign_Name ?_
            refine' Ev_Call' ?_ ?_ ?_ ?_
            rotate_left 2
            refine Ev_freeF (by assumption) (by assumption) ?_
            with_reducible exact Is.mk
            exact o5
            refine' Evs_cons' ?_ ?_
            rotate_left 2
            refine Ev_local (by walk_at "has") (by walk_at "lk") ?_
            with_reducible exact Is.mk
            exact Evs_nil'
            refine (thn (Q2 := fun x F2 H2 => ∃ H3, H2 = (L, .ns _) :: H3 ∧ Q (.tup [x, .int ((i + n : Nat) : Int)]) F2 H3) hD l1 h fun x F2 H2 k => ⟨_, rfl, k⟩).keep.mono (fun x F2 H2 k => ?_) fun _ _ _ e => e
            obtain ⟨l2, F3, l3, H3, rfl, k⟩ := k
            have hm := hm.mono l2
            refine' Store.mk ?u ?v ?_
            case u => walk_at "upd"
            case v => walk_at "set"
            with_reducible refine Then.next ?_
            refine Ex_nil ?_
            with_reducible refine Then.next ?_
            refine Ex_cons ?_
            refine Ex_Return ?_
            refine Ev_Tuple ?_
            refine Evs_cons ?_
            refine Ev_local (by walk_at "has") (by walk_at "lk") ?_
            refine Evs_cons ?_
            refine' Ev_method' ?_ ?_
            rotate_left 1
            refine Ev_local (by walk_at "has") (by walk_at "lk") ?_
            with_reducible exact Is.mk
            refine ⟨"re.Match", _, plainAttrs_Match, slot_end, type_end, hm.ty, ?_⟩
            refine' MArgs.mk ?_ ?_
            rotate_left 1
            exact Evs_nil'
            refine mend hm ?_
            refine Evs_nil ?_
            refine ⟨by exact Nat.le_of_ble_eq_true rfl, ?_⟩
            with_reducible refine Then.ret ?_
            with_reducible refine Then.ret ?_
            exact ⟨_, _, .hd, F3, l3, k⟩
        · cases hx
noncomputable def fnData (st : Stmt) (pm cd : Value) : FuncData := match st with
  | .FunctionDef name args body _ _ _ scope _ _ _ => { name, qualname := name, params := args, body := .stmts body, scope, globals := mainGlobals, closure := [], defaults := .none, kwdefaults := .none, pyModule := pm, code := cd, builtins := builtinsNs }
  | _ => default
inductive IsDefC (F : Fz) (st : Option Stmt) (a c : Addr) : Prop where
  | intro (s : Stmt) (o : Obj) (pm : Value) (h1 : st = some s) (h2 : F a = some o) (h3 : o.data = .func (fnData s pm (.ref c))) (h4 : CodeF F (.ref c) (fnData s pm (.ref c)).qualname)
noncomputable def IsDef (F : Fz) (st : Option Stmt) (a : Addr) : Prop := ∃ c, IsDefC F st a c
theorem IsDefC.mono {F F' : Fz} {st : Option Stmt} {a c : Addr} (le : F.le F') (h : IsDefC F st a c) : IsDefC F' st a c := let ⟨s, o, pm, h1, h2, h3, h4⟩ := h; ⟨s, o, pm, h1, le _ _ h2, h3, h4.mono le⟩
theorem IsDef.mono {F F' : Fz} {st : Option Stmt} {a : Addr} (le : F.le F') (h : IsDef F st a) : IsDef F' st a := let ⟨c, h⟩ := h; ⟨c, h.mono le⟩
theorem IsDefC.ok {F : Fz} {st : Option Stmt} {a c : Addr} (h : IsDefC F st a c) : KOk F (.ref a) := let ⟨_, _, _, _, h2, h3, _⟩ := h; .fn h2 h3
theorem IsDef.ok {F : Fz} {st : Option Stmt} {a : Addr} (h : IsDef F st a) : KOk F (.ref a) := let ⟨_, h⟩ := h; h.ok
theorem Ex_cellF {G : Glob} {fr : List Env} {A : Around} {F : Fz} {H H1 : Hp} {t : Sem Flow} {Q : FV → Fz → Hp → Prop} {E : Value → Fz → Hp → Prop} {c : Addr} {y : V} (hr : Rem H c (.cell (some y)) H1) (h : ∀ F', F.le F' → CellF F' c y → Ex G fr A F' H1 t Q E) : Ex G fr A F H t Q E := fun K m R s hR => by
  obtain ⟨o, ⟨v, hd, hv⟩, le, r⟩ := Rep.freeze (hR.perm (hr.perm.append_right R)) (fun _ e => nomatch e)
  exact (h _ (m.trans le) ⟨o, v, Fz.add_self _ _ _, hd, hv.mono le⟩).last (.refl _) r le
inductive Cells (F : Fz) : List Addr → List V → Prop where
  | nil : Cells F [] []
  | cons {c : Addr} {y : V} {cs : List Addr} {ys : List V} (h : CellF F c y) (t : Cells F cs ys) : Cells F (c :: cs) (y :: ys)
inductive RemC : Hp → List Addr → List V → Hp → Prop where
  | nil {H : Hp} : RemC H [] [] H
  | cons {H H1 H2 : Hp} {c : Addr} {y : V} {cs : List Addr} {ys : List V} (hr : Rem H c (.cell (some y)) H1) (t : RemC H1 cs ys H2) : RemC H (c :: cs) (y :: ys) H2
theorem RemC.freeze {G : Glob} {fr : List Env} {R : Hp} {s : Shared} {H H1 : Hp} {cs : List Addr} {ys : List V} (hr : RemC H cs ys H1) : ∀ {K : Fz}, Rep G fr K (H ++ R) s → ∃ K', K.le K' ∧ Rep G fr K' (H1 ++ R) s ∧ Cells K' cs ys := by
  induction hr with
  | nil => exact fun r => ⟨_, .refl _, r, .nil⟩
  | cons hr _ ih =>
    intro K r
    obtain ⟨o, ⟨v, hd, hv⟩, le, r1⟩ := Rep.freeze (r.perm (hr.perm.append_right R)) (fun _ e => nomatch e)
    obtain ⟨K2, l2, r2, h2⟩ := ih r1
    exact ⟨K2, le.trans l2, r2, .cons (CellF.mono l2 ⟨o, v, Fz.add_self _ _ _, hd, hv.mono le⟩) h2⟩
theorem Cells.get {F : Fz} {cs : List Addr} {ys : List V} (h : Cells F cs ys) : ∀ (i : Nat) {c : Addr} {y : V}, cs[i]? = some c → ys[i]? = some y → CellF F c y := by
  induction h with
  | nil => intro i c y e; simp at e
  | cons h _ ih =>
    intro i c y e1 e2
    cases i with
    | zero => simp at e1 e2; subst e1 e2; exact h
    | succ i => simp at e1 e2; exact ih i e1 e2
theorem Ex_cells {G : Glob} {fr : List Env} {A : Around} {F : Fz} {H H1 : Hp} {t : Sem Flow} {Q : FV → Fz → Hp → Prop} {E : Value → Fz → Hp → Prop} {cs : List Addr} {ys : List V} (hr : RemC H cs ys H1) (h : ∀ F', F.le F' → Cells F' cs ys → Ex G fr A F' H1 t Q E) : Ex G fr A F H t Q E := fun K m R s hR => by
  obtain ⟨K', le, r, hc⟩ := hr.freeze hR
  exact (h _ (m.trans le) hc).last (.refl _) r le
theorem Has.of_upd {H H' : Hp} {a : Addr} {x x' : AO} (h : Upd H a x x' H') : Has H a x := by
  induction h with
  | hd => exact .hd
  | tl _ ih => exact .tl ih
local macro_rules | `(tactic| walk_at "remc") => `(tactic| repeat (first | (with_reducible exact RemC.nil) | ((with_reducible apply RemC.cons); walk_at "rem")))
inductive OuterF (F : Fz) (g f m : Addr) : Prop where
  | intro (qual : Str) (clos : List (Str × Addr)) (h1 : FnS F g (sub (stm 3) 12) qual clos) (h2 : Cap F clos "_scan_once" (.ref f)) (h3 : Cap F clos "memo" (.ref m))
theorem OuterF.mono {F F' : Fz} {g f m : Addr} (le : F.le F') (h : OuterF F g f m) : OuterF F' g f m := let ⟨a, b, h1, h2, h3⟩ := h; ⟨a, b, h1.mono le, h2.mono le, h3.mono le⟩
theorem OuterF.ok {F : Fz} {g f m : Addr} (h : OuterF F g f m) : KOk F (.ref g) := let ⟨a, b, h1, h2, h3⟩ := h; h1.ok
theorem ScanF.ok {F : Fz} {f : Addr} {p : Parts} (h : ScanF F f p) : KOk F (.ref f) := by obtain ⟨_, _, _, h0, _⟩ := h; exact h0.ok
inductive Emp (m : Addr) (Q : Fz → Hp → Prop) (F : Fz) (H : Hp) : Prop where
  | intro (l : List (V × V)) (H2 : Hp) (hu : Upd H m (.dict l) (.dict []) H2) (hl : l.length ≤ sizeLine) (h : Q F H2)
theorem scan_outer {G : Glob} {fr : List Env} {A : Around} {F : Fz} {H : Hp} {g f m : Addr} {P : Addr → String → List V → Bool → Fz → Hp → Prop} {Q : V → Fz → Hp → Prop} {T i : V} (hO : OuterF F g f m) (hk : KOk F (.ref f)) (hA : Ok fr A 1)
    (h : ClD G fr A F H (.ref f) [T, i] (fun x => Emp m (Q x)) (Thr0 fun x c a b => Emp m (P x c a b))) : Cl G fr A F H (.ref g) [T, i] Q (Thr0 P) := by
  obtain ⟨qual, clos, hf, ⟨c1, k1, h1⟩, ⟨c2, k2, h2⟩⟩ := hO
  obtain ⟨name, params, body, scope, pos, hst, hf⟩ := hf
  cases Option.some.inj hst.symm
  refine Cl.dn ?_
  refine call_fn (E' := fun L => Thr0 fun x c a b F H => ∃ ρ H', Rem H L (.ns ρ) H' ∧ Dn (P x c a b) F H') hf [Str.ofString "string", Str.ofString "idx"] [] rfl (by decide) (fun doc pm c ctv vs hv => ?_) (by rfl) (by rfl) hA.room (fun L c fresh K R e s hq => ?_) (fun L A' cd hD => ?_)
  · obtain ⟨a, b, rfl⟩ := len2 hv
    rfl
  · refine wpAny_mono (leaves_thr (L := L) (P := fun x c a b F H => Dn (P x c a b) F H) hA.frames rfl fresh K R e s hq) (fun _ s' q => ?_) fun e' s' q => ?_
    · obtain ⟨K1, H1, l1, r1, F1, m1, x, c, a, tb, b, H2, e1, e2, F3, l3, q⟩ := q
      exact ⟨K1, H1, l1, r1, F3, l3.trans m1, x, c, a, tb, b, H2, e1, e2, q⟩
    · obtain ⟨K1, H1, l1, r1, F1, m1, x, c, a, tb, b, H2, e1, e2, F3, l3, q⟩ := q
      exact ⟨K1, H1, l1, r1, F3, l3.trans m1, x, c, a, tb, b, H2, e1, e2, q⟩
  · simp only [mkRho, List.map]
    have hA := hA.deep hD
    have hh := hA.handled
    refine Ex_cons ?_
    refine Ex_Finally (PB := fun x c a b F1 H1 => F.le F1 ∧ ∃ H2, H1 = (L, .ns [(Str.ofString "string", some T), (Str.ofString "idx", some i)]) :: H2 ∧ Dn (Emp m (P x c a b)) F1 H2) hA.frames ?_ fun x c a t b F1 H1 hq => ?_
    · refine Ex_cons ?_
      refine Ex_Return ?_
      refine' Ev_Call' ?_ ?_ ?_ ?_
      rotate_left 2
      refine Ev_freeF (by assumption) (by assumption) ?_
      with_reducible exact Is.mk
      exact hk
      refine' Evs_cons' ?_ ?_
      rotate_left 2
      refine Ev_local (by walk_at "has") (by walk_at "lk") ?_
      with_reducible exact Is.mk
      refine' Evs_cons' ?_ ?_
      rotate_left 2
      refine Ev_local (by walk_at "has") (by walk_at "lk") ?_
      with_reducible exact Is.mk
      exact Evs_nil'
      have h0 := (Cl.out1 (X := (L, .ns [(Str.ofString "string", some T), (Str.ofString "idx", some i)])) (Q2 := fun x F2 H2 => ∃ H3, H2 = (L, .ns [(Str.ofString "string", some T), (Str.ofString "idx", some i)]) :: H3 ∧ Emp m (Q x) F2 H3) (P' := fun x c a b F2 H2 => ∃ H3, H2 = (L, .ns [(Str.ofString "string", some T), (Str.ofString "idx", some i)]) :: H3 ∧ Emp m (P x c a b) F2 H3) hD h (fun x F2 H3 q => ⟨_, rfl, q⟩) fun x c a b F2 H3 q => ⟨_, rfl, q⟩)
      intro K mK v vs hv hvs R s hR
      refine wpAny_mono (h0.keep K mK v vs hv hvs R s hR) (fun v1 s1 hq => ?_) fun e s1 hq => ?_
      · obtain ⟨K1, H1, l1, r1, x, hx, F1, m1, le1, F2, m2, H3, rfl, l, H4, hu, hl, q⟩ := hq
        refine ⟨K1, _, l1, r1, x, hx, F1, m1, ?_⟩
        have h2 := h2.mono le1
        show Ex _ _ _ _ _ _ _ _
        refine Ex_cons ?_
        refine Ex_Expr ?_
        refine' Ev_method' ?_ ?_
        rotate_left 1
        refine Ev_freeF (by assumption) (by assumption) ?_
        with_reducible exact Is.mk
        refine ⟨"dict", _, PySem.F.plainAttrs_dict, PySem.F.slot_dict_clear, PySem.F.type_dict_clear, .dict (.tl (Has.of_upd hu)), ?_⟩
        refine' MArgs.mk ?_ ?_
        rotate_left 1
        exact Evs_nil'
        refine clear (.tl hu) hl ?_
        refine ⟨rfl, ?_⟩
        with_reducible refine Then.next ?_
        refine Ex_nil ?_
        exact ⟨rfl, _, _, .hd, F2, m2, q⟩
      · obtain ⟨K1, H1, l1, r1, F1, m1, x, c, a, tb, b, H2, e1, e2, H3, rfl, q⟩ := hq
        exact ⟨K1, H1, l1, r1, K1, .refl _, x, c, a, tb, b, _, e1, e2, mK.trans l1, H3, rfl, F1, m1, q⟩
    · obtain ⟨le1, H2, rfl, F2, m2, l, H4, hu, hl, q⟩ := hq
      have h2 := h2.mono le1
      refine Ex_cons ?_
      refine Ex_Expr ?_
      refine' Ev_method' ?_ ?_
      rotate_left 1
      refine Ev_freeF (by assumption) (by assumption) ?_
      with_reducible exact Is.mk
      refine ⟨"dict", _, PySem.F.plainAttrs_dict, PySem.F.slot_dict_clear, PySem.F.type_dict_clear, .dict (.tl (.tl (.tl (Has.of_upd hu)))), ?_⟩
      refine' MArgs.mk ?_ ?_
      rotate_left 1
      exact Evs_nil'
      refine clear (.tl (.tl (.tl hu))) hl ?_
      refine ⟨rfl, ?_⟩
      with_reducible refine Then.next ?_
      refine Ex_nil ?_
      exact ⟨rfl, _, rfl, _, _, .hd, F2, m2, q⟩
structure CtxA (ρ : List (Str × V)) (p : Parts) : Prop where
  po : ρ.lookup (Str.ofString "parse_object") = some p.po
  pa : ρ.lookup (Str.ofString "parse_array") = some p.pa
  ps : ρ.lookup (Str.ofString "parse_string") = some p.ps
  st : ρ.lookup (Str.ofString "strict") = some p.st
  pf : ρ.lookup (Str.ofString "parse_float") = some p.pf
  pi : ρ.lookup (Str.ofString "parse_int") = some p.pi
  pc : ρ.lookup (Str.ofString "parse_constant") = some p.pc
  oh : ρ.lookup (Str.ofString "object_hook") = some p.oh
  oph : ρ.lookup (Str.ofString "object_pairs_hook") = some p.oph
  mm : ρ.lookup (Str.ofString "memo") = some p.mm
theorem nl1 : typeLookup (.type "Exception") "parse_object" = pure none := by rw [typeLookup_type, builtinLookup_eq_fast]; kernel_rfl
theorem nl2 : typeLookup (.type "Exception") "parse_array" = pure none := by rw [typeLookup_type, builtinLookup_eq_fast]; kernel_rfl
theorem nl3 : typeLookup (.type "Exception") "parse_string" = pure none := by rw [typeLookup_type, builtinLookup_eq_fast]; kernel_rfl
theorem nl4 : typeLookup (.type "Exception") "strict" = pure none := by rw [typeLookup_type, builtinLookup_eq_fast]; kernel_rfl
theorem nl5 : typeLookup (.type "Exception") "parse_float" = pure none := by rw [typeLookup_type, builtinLookup_eq_fast]; kernel_rfl
theorem nl6 : typeLookup (.type "Exception") "parse_int" = pure none := by rw [typeLookup_type, builtinLookup_eq_fast]; kernel_rfl
theorem nl7 : typeLookup (.type "Exception") "parse_constant" = pure none := by rw [typeLookup_type, builtinLookup_eq_fast]; kernel_rfl
theorem nl8 : typeLookup (.type "Exception") "object_hook" = pure none := by rw [typeLookup_type, builtinLookup_eq_fast]; kernel_rfl
theorem nl9 : typeLookup (.type "Exception") "object_pairs_hook" = pure none := by rw [typeLookup_type, builtinLookup_eq_fast]; kernel_rfl
theorem nl10 : typeLookup (.type "Exception") "memo" = pure none := by rw [typeLookup_type, builtinLookup_eq_fast]; kernel_rfl
theorem make {G : Glob} {fr : List Env} {A : Around} {F : Fz} {H1 : Hp} {a c P x D pat m : Addr} {args : List V} {cx : Bool} {ρ : List (Str × V)} {p : Parts} {E : Value → Fz → Hp → Prop} {Q : V → Fz → Hp → Prop} {l0 : List (Nat × Nat × Addr)}
    (hf : IsDefC F (stm 3) a c) (hC : CodeOk F c P) (hB : BOk G P) (hA : Ok fr A 1) (hN : G.mg (Str.ofString "NUMBER_RE") = some (.ref pat)) (hpat : PatF F pat)
    (hρ : CtxA ρ p) (hmm : p.mm = .ref m) (nb : noBlt p.po ∧ noBlt p.pa ∧ noBlt p.ps ∧ noBlt p.st ∧ noBlt p.pf ∧ noBlt p.pi ∧ noBlt p.pc ∧ noBlt p.oh ∧ noBlt p.oph)
    (ok : KOk F p.po ∧ KOk F p.pa ∧ KOk F p.ps ∧ KOk F p.pf ∧ KOk F p.pi ∧ KOk F p.pc) (hl0 : l0 = [])
    (h : ∀ F' g f mb l, F.le F' → OuterF F' g f m → ScanF F' f { p with mb } → Q (.ref g) F' ((P, .raw (tabObj (tabOf l))) :: (x, .exc "Exception" args none (some D) cx) :: (D, .attrs ρ) :: H1)) :
    Cl G fr A F ((P, .raw (tabObj (tabOf l0))) :: (x, .exc "Exception" args none (some D) cx) :: (D, .attrs ρ) :: H1) (.ref a) [.ref x] Q E := by
  subst hl0
  obtain ⟨n1, n2, n3, n4, n5, n6, n7, n8, n9⟩ := nb
  obtain ⟨o1, o2, o3, o5, o6, o7⟩ := ok
  obtain ⟨s, o, pm, hs, hf, hd, hc⟩ := hf
  obtain rfl := Option.some.inj hs.symm
  refine call_cells hf hd hc [true] [Str.ofString "context"] [Str.ofString "scan_once"] [Str.ofString "strict", Str.ofString "parse_string", Str.ofString "parse_object", Str.ofString "parse_int", Str.ofString "parse_float", Str.ofString "parse_constant", Str.ofString "parse_array", Str.ofString "object_pairs_hook", Str.ofString "object_hook", Str.ofString "memo", Str.ofString "match_number", Str.ofString "_scan_once"] rfl (by decide) (by decide) (fun vs hv => ?_) (by rfl) (by rfl) (fun n => rfl) (by decide) (by rfl) rfl hA.room (fun _ _ => leaves_no) (fun L cs A' hcs hD => ?_)
  · obtain ⟨a, rfl⟩ := len1 hv
    rfl
  · obtain ⟨c12, t0, rfl, h0⟩ := lenC hcs
    obtain ⟨c11, t1, rfl, h1⟩ := lenC h0
    obtain ⟨c10, t2, rfl, h2⟩ := lenC h1
    obtain ⟨c9, t3, rfl, h3⟩ := lenC h2
    obtain ⟨c8, t4, rfl, h4⟩ := lenC h3
    obtain ⟨c7, t5, rfl, h5⟩ := lenC h4
    obtain ⟨c6, t6, rfl, h6⟩ := lenC h5
    obtain ⟨c5, t7, rfl, h7⟩ := lenC h6
    obtain ⟨c4, t8, rfl, h8⟩ := lenC h7
    obtain ⟨c3, t9, rfl, h9⟩ := lenC h8
    obtain ⟨c2, t10, rfl, h10⟩ := lenC h9
    obtain ⟨c1, t11, rfl, h11⟩ := lenC h10
    obtain rfl := len0 h11
    have hA := hA.deep hD
    have hh := hA.handled
    simp only [mkRhoB, List.map, initB, List.zip, List.zipWith, List.cons_append, List.nil_append]
    refine Ex_cons ?_
    refine Ex_Assign_NameC ?_
    refine' Ev_Attribute' ?_ ?_
    rotate_left 1
    refine Ev_local (by walk_at "has") (by walk_at "lk") ?_
    with_reducible exact Is.mk
    refine get_exc (c := "") (by walk_at "has") (by walk_at "has") hρ.po n1 nl1 ?_
    refine' StoreC.mk ?l ?u ?_
    case l => rfl
    case u => walk_at "upd"
    with_reducible refine Then.next ?_
    refine Ex_cons ?_
    refine Ex_Assign_NameC ?_
    refine' Ev_Attribute' ?_ ?_
    rotate_left 1
    refine Ev_local (by walk_at "has") (by walk_at "lk") ?_
    with_reducible exact Is.mk
    refine get_exc (c := "") (by walk_at "has") (by walk_at "has") hρ.pa n2 nl2 ?_
    refine' StoreC.mk ?l ?u ?_
    case l => rfl
    case u => walk_at "upd"
    with_reducible refine Then.next ?_
    refine Ex_cons ?_
    refine Ex_Assign_NameC ?_
    refine' Ev_Attribute' ?_ ?_
    rotate_left 1
    refine Ev_local (by walk_at "has") (by walk_at "lk") ?_
    with_reducible exact Is.mk
    refine get_exc (c := "") (by walk_at "has") (by walk_at "has") hρ.ps n3 nl3 ?_
    refine' StoreC.mk ?l ?u ?_
    case l => rfl
    case u => walk_at "upd"
    with_reducible refine Then.next ?_
    refine Ex_cons ?_
    refine Ex_Assign_NameC ?_
    refine' Ev_Attribute' ?_ ?_
    rotate_left 1
    refine Ev_global (by assumption) .ref ?_
    with_reducible exact Is.mk
    refine get_match hpat fun mb F1 l1 hbd => ?_
    have hC := hC.mono l1
    refine' StoreC.mk ?l ?u ?_
    case l => rfl
    case u => walk_at "upd"
    with_reducible refine Then.next ?_
    refine Ex_cons ?_
    refine Ex_Assign_NameC ?_
    refine' Ev_Attribute' ?_ ?_
    rotate_left 1
    refine Ev_local (by walk_at "has") (by walk_at "lk") ?_
    with_reducible exact Is.mk
    refine get_exc (c := "") (by walk_at "has") (by walk_at "has") hρ.st n4 nl4 ?_
    refine' StoreC.mk ?l ?u ?_
    case l => rfl
    case u => walk_at "upd"
    with_reducible refine Then.next ?_
    refine Ex_cons ?_
    refine Ex_Assign_NameC ?_
    refine' Ev_Attribute' ?_ ?_
    rotate_left 1
    refine Ev_local (by walk_at "has") (by walk_at "lk") ?_
    with_reducible exact Is.mk
    refine get_exc (c := "") (by walk_at "has") (by walk_at "has") hρ.pf n5 nl5 ?_
    refine' StoreC.mk ?l ?u ?_
    case l => rfl
    case u => walk_at "upd"
    with_reducible refine Then.next ?_
    refine Ex_cons ?_
    refine Ex_Assign_NameC ?_
    refine' Ev_Attribute' ?_ ?_
    rotate_left 1
    refine Ev_local (by walk_at "has") (by walk_at "lk") ?_
    with_reducible exact Is.mk
    refine get_exc (c := "") (by walk_at "has") (by walk_at "has") hρ.pi n6 nl6 ?_
    refine' StoreC.mk ?l ?u ?_
    case l => rfl
    case u => walk_at "upd"
    with_reducible refine Then.next ?_
    refine Ex_cons ?_
    refine Ex_Assign_NameC ?_
    refine' Ev_Attribute' ?_ ?_
    rotate_left 1
    refine Ev_local (by walk_at "has") (by walk_at "lk") ?_
    with_reducible exact Is.mk
    refine get_exc (c := "") (by walk_at "has") (by walk_at "has") hρ.pc n7 nl7 ?_
    refine' StoreC.mk ?l ?u ?_
    case l => rfl
    case u => walk_at "upd"
    with_reducible refine Then.next ?_
    refine Ex_cons ?_
    refine Ex_Assign_NameC ?_
    refine' Ev_Attribute' ?_ ?_
    rotate_left 1
    refine Ev_local (by walk_at "has") (by walk_at "lk") ?_
    with_reducible exact Is.mk
    refine get_exc (c := "") (by walk_at "has") (by walk_at "has") hρ.oh n8 nl8 ?_
    refine' StoreC.mk ?l ?u ?_
    case l => rfl
    case u => walk_at "upd"
    with_reducible refine Then.next ?_
    refine Ex_cons ?_
    refine Ex_Assign_NameC ?_
    refine' Ev_Attribute' ?_ ?_
    rotate_left 1
    refine Ev_local (by walk_at "has") (by walk_at "lk") ?_
    with_reducible exact Is.mk
    refine get_exc (c := "") (by walk_at "has") (by walk_at "has") hρ.oph n9 nl9 ?_
    refine' StoreC.mk ?l ?u ?_
    case l => rfl
    case u => walk_at "upd"
    with_reducible refine Then.next ?_
    refine Ex_cons ?_
    refine Ex_Assign_NameC ?_
    refine' Ev_Attribute' ?_ ?_
    rotate_left 1
    refine Ev_local (by walk_at "has") (by walk_at "lk") ?_
    with_reducible exact Is.mk
    refine get_exc (c := "") (by walk_at "has") (by walk_at "has") hρ.mm (by rw [hmm]; trivial) nl10 ?_
    refine' StoreC.mk ?l ?u ?_
    case l => rfl
    case u => walk_at "upd"
    with_reducible refine Then.next ?_
    refine Ex_cons ?_
    refine Ex_FunctionDef rfl hC hB (by walk_at "rem") rfl rfl fun f cf F2 l2 hf2 => ?_
    refine Sto_c ?_
    refine' StoreC.mk ?l ?u ?_
    case l => rfl
    case u => walk_at "upd"
    with_reducible refine Then.next ?_
    refine Ex_cons ?_
    refine Ex_FunctionDef rfl (hC.mono l2) hB (by walk_at "rem") rfl rfl fun g cg F3 l3 hf3 => ?_
    refine Sto_l ?_
    refine' Store.mk ?u ?v ?_
    case u => walk_at "upd"
    case v => walk_at "set"
    with_reducible refine Then.next ?_
    refine Ex_cons ?_
    refine Ex_cells (cs := [c12, c11, c10, c9, c8, c7, c6, c5, c4, c3, c2, c1]) (by walk_at "remc") fun F4 l4 ec => ?_
    refine Ex_Return ?_
    refine Ev_local (by walk_at "has") (by walk_at "lk") ?_
    with_reducible refine Then.ret ?_
    have m3 := l3.trans l4
    have m2 := l2.trans m3
    have m1 := l1.trans m2
    exact ⟨_, _, by walk_at "rem", h F4 g f mb _ m1 ⟨_, _, ⟨_, _, _, _, _, rfl, hf3.mono l4⟩, ⟨c1, rfl, ec.get 11 rfl rfl⟩, ⟨c3, rfl, hmm ▸ ec.get 9 rfl rfl⟩⟩
        ⟨_, _, pat, ⟨_, _, _, _, _, rfl, hf2.mono m3⟩, ⟨c10, rfl, ec.get 2 rfl rfl⟩, ⟨c6, rfl, ec.get 6 rfl rfl⟩, ⟨c11, rfl, ec.get 1 rfl rfl⟩, ⟨c2, rfl, ec.get 10 rfl rfl⟩, ⟨c12, rfl, ec.get 0 rfl rfl⟩, ⟨c8, rfl, ec.get 4 rfl rfl⟩, ⟨c9, rfl, ec.get 3 rfl rfl⟩, ⟨c7, rfl, ec.get 5 rfl rfl⟩, ⟨c4, rfl, ec.get 8 rfl rfl⟩, ⟨c5, rfl, ec.get 7 rfl rfl⟩, ⟨c3, rfl, ec.get 9 rfl rfl⟩, ⟨c1, rfl, ec.get 11 rfl rfl⟩, hbd.mono m2, o1.mono m1, o2.mono m1, o3.mono m1, o5.mono m1, o6.mono m1, o7.mono m1⟩⟩
section
variable {p : Program} {loose : List Str} {mean : ExcName → Option Value} {mg mb : Str → Option Value} {s₁ : Shared} {tabs : List (Addr × Addr)} {prog : Program} {w : World} {K : Frag}
theorem gok_of (T : Top p loose mean mg mb s₁.heap) (hT : TabsAt tabs s₁.heap) : GOk (topG prog w s₁ tabs mg mb) := fun h k =>
  ⟨(ghost_ns hT T.g).keeps k, (ghost_ns hT T.b).keeps k, let ⟨mc, h1, h2⟩ := T.nolimit; ⟨mc, (ghost_ns hT h1).keeps k, h2⟩⟩
theorem fz_of (X : K.In s₁.heap) {a : Addr} {o : Obj} (e : K.lookup a = some o) (ha : a ∉ tabs.map (·.2)) : (ghostOf s₁.heap tabs).get? a = some o := ghost_ne (X a o e) ha
theorem bok_of {P : Addr} (X : K.In s₁.heap) (T : Top p loose mean mg mb s₁.heap) (hT : TabsAt tabs s₁.heap) (hP : mainGlobals ≠ P) (hb : ∃ q ∈ tabs, q.2 = P) : BOk (topG prog w s₁ tabs mg mb) P := by
  refine ⟨hP, fun h k => ?_⟩
  obtain ⟨bm, ob, h1, h2, h3, h4, h5, h6⟩ := T.bmain
  have n1 : bm ≠ mainGlobals := fun e => by
    subst e
    obtain ⟨o, es, ep, ho, hd, _⟩ := T.g
    rw [ho] at h3
    cases h3
    rw [hd] at h6
    cases h6
  have n2 : bm ∉ tabs.map (·.2) := fun hm => by
    obtain ⟨q, hq, rfl⟩ := List.mem_map.mp hm
    rw [(hT q hq).2] at h3
    cases h3
    cases h4
  obtain ⟨q, hq, rfl⟩ := hb
  exact ⟨bm, ob, h1, h2, n1, fun e => n2 (List.mem_map.mpr ⟨q, hq, e.symm⟩), k _ _ (ghost_ne h3 n2), h4, h5, h6⟩
theorem code_of {c P : Addr} (X : K.In s₁.heap) (hT : TabsAt tabs s₁.heap) (e : codeHdIn K c P = true) (hc : c ∉ tabs.map (·.2)) : CodeOk (ghostOf s₁.heap tabs).get? c P := fun h k => by
  obtain ⟨o, vs, file, tf, flags, tg, inF, text, tt, h1, r⟩ := codeHd_of_K X e
  exact ⟨o, vs, file, tf, flags, tg, inF, text, tt, k _ _ (ghost_ne h1 hc), r⟩
theorem isdef_of {a c : Addr} {st : Option Stmt} {s : Stmt} {fo co : Obj} {pm : Value} {vs : Array Value} {t : Tok} (X : K.In s₁.heap) (hs : st = some s) (e1 : K.lookup a = some fo) (e2 : K.lookup c = some co) (hd : fo.data = .func (fnData s pm (.ref c))) (hv : co.data = .fields vs) (hq : vs[1]? = some (.str (fnData s pm (.ref c)).qualname t))
    (ha : a ∉ tabs.map (·.2)) (hc : c ∉ tabs.map (·.2)) : IsDefC (ghostOf s₁.heap tabs).get? st a c :=
  ⟨s, fo, pm, hs, fz_of X e1 ha, hd, c, co, vs, t, rfl, fz_of X e2 hc, hv, hq⟩
end
noncomputable def numC : Array Nat := #[14, 4, 0, 1, 4294967295, 17, 0, 24, 6, 0, 1, 16, 45, 1, 7, 5, 16, 48, 15, 22, 20, 13, 5, 22, 49, 57, 0, 24, 10, 0, 4294967295, 13, 5, 22, 48, 57, 0, 1, 15, 2, 0, 17, 1, 23, 20, 0, 1, 17, 2, 16, 46, 24, 10, 1, 4294967295, 13, 5, 22, 48, 57, 0, 1, 17, 3, 18, 23, 37, 0, 1, 17, 4, 13, 6, 16, 101, 16, 69, 0, 24, 11, 0, 1, 13, 6, 16, 45, 16, 43, 0, 1, 24, 10, 1, 4294967295, 13, 5, 22, 48, 57, 0, 1, 17, 5, 18, 1]
theorem code_numC : Code numC := by
  constructor
  case o11 => exact one_lit (C := numC) (pc := 11) (a := 45) rfl rfl
  case o16 => exact one_lit (C := numC) (pc := 16) (a := 48) rfl rfl
  case o21 => exact one_range (C := numC) (pc := 21) (a := 49) (b := 57) (n := 102) rfl rfl rfl rfl rfl rfl rfl
  case o31 => exact one_range (C := numC) (pc := 31) (a := 48) (b := 57) (n := 102) rfl rfl rfl rfl rfl rfl rfl
  case o49 => exact one_lit (C := numC) (pc := 49) (a := 46) rfl rfl
  case o55 => exact one_range (C := numC) (pc := 55) (a := 48) (b := 57) (n := 102) rfl rfl rfl rfl rfl rfl rfl
  case o71 => exact one_two (C := numC) (pc := 71) (a := 101) (b := 69) (n := 102) rfl rfl rfl rfl rfl rfl rfl rfl
  case o82 => exact one_two (C := numC) (pc := 82) (a := 45) (b := 43) (n := 102) rfl rfl rfl rfl rfl rfl rfl rfl
  case o94 => exact one_range (C := numC) (pc := 94) (a := 48) (b := 57) (n := 102) rfl rfl rfl rfl rfl rfl rfl
  all_goals first | rfl | decide
noncomputable def lamOf (st : Option Stmt) : Option (Arguments × Expr × Scope) := match st with
  | some (.Assign _ (.Lambda params body scope _) _) => some (params, body, scope)
  | _ => none
noncomputable def LamS (F : Fz) (f : Addr) (st : Option Stmt) (qual : Str) : Prop := ∃ params body scope, lamOf st = some (params, body, scope) ∧ LamF F f "<lambda>" qual params body scope []
theorem LamS.mono {F F' : Fz} {f : Addr} {st : Option Stmt} {qual : Str} (le : F.le F') (h : LamS F f st qual) : LamS F' f st qual := let ⟨a, b, c, d, e⟩ := h; ⟨a, b, c, d, e.mono le⟩
theorem LamS.ok {F : Fz} {f : Addr} {st : Option Stmt} {qual : Str} (h : LamS F f st qual) : KOk F (.ref f) := let ⟨a, b, c, d, e⟩ := h; e.ok
structure CtxF (F : Fz) (fl fp ft li lf lc : Addr) : Prop where
  l : ∃ q, FnS F fl (sub (stm 6) 0) q []
  p : ∃ q, FnS F fp (sub (stm 6) 1) q []
  t : ∃ q, FnS F ft (sub (stm 6) 2) q []
  i : ∃ q, LamS F li (sub (stm 6) 7) q
  f : ∃ q, LamS F lf (sub (stm 6) 8) q
  c : ∃ q, LamS F lc (sub (stm 6) 9) q
theorem CtxF.mono {F F' : Fz} {fl fp ft li lf lc : Addr} (le : F.le F') (h : CtxF F fl fp ft li lf lc) : CtxF F' fl fp ft li lf lc :=
  ⟨let ⟨q, h⟩ := h.l; ⟨q, h.mono le⟩, let ⟨q, h⟩ := h.p; ⟨q, h.mono le⟩, let ⟨q, h⟩ := h.t; ⟨q, h.mono le⟩, let ⟨q, h⟩ := h.i; ⟨q, h.mono le⟩, let ⟨q, h⟩ := h.f; ⟨q, h.mono le⟩, let ⟨q, h⟩ := h.c; ⟨q, h.mono le⟩⟩
theorem context {G : Glob} {fr : List Env} {A : Around} {F : Fz} {H1 : Hp} {a c P : Addr} {E : Value → Fz → Hp → Prop} {Q : V → Fz → Hp → Prop}
    (hf : IsDefC F (stm 6) a c) (hC : CodeOk F c P) (hB : BOk G P) (hA : Ok fr A 1) (hx0 : G.mg (Str.ofString "Exception") = none) (hx : G.mb (Str.ofString "Exception") = some (.type "Exception"))
    (h : ∀ F' x D m fl fp ft li lf lc l ρ, F.le F' → CtxF F' fl fp ft li lf lc → (∀ mb, CtxA ρ { po := .ref fp, pa := .ref fl, ps := .ref ft, mb, st := .bool true, pf := .ref lf, pi := .ref li, pc := .ref lc, oh := .none, oph := .none, mm := .ref m }) →
      Q (.ref x) F' ((m, .dict []) :: (P, .raw (tabObj (tabOf l))) :: (D, .attrs ρ) :: (x, .exc "Exception" [] none (some D) true) :: H1)) :
    Cl G fr A F ((P, .raw (tabObj (tabOf []))) :: H1) (.ref a) [] Q E := by
  obtain ⟨s, o, pm, hs, hf, hd, hc⟩ := hf
  obtain rfl := Option.some.inj hs.symm
  refine call_def hf hd hc [] [Str.ofString "_law_list", Str.ofString "_law_pair", Str.ofString "_law_text", Str.ofString "context"] rfl (by decide) (fun vs hv => ?_) (by rfl) (by rfl) hA.room (fun _ => leaves_no) (fun L A' hD => ?_)
  · obtain rfl := len0 hv
    rfl
  · simp only [mkRho, List.map]
    have hA := hA.deep hD
    have hh := hA.handled
    refine Ex_cons ?_
    refine Ex_FunctionDef rfl hC hB (by walk_at "rem") rfl rfl fun fl cf F1 l1 hf1 => ?_
    refine Sto_l ?_
    refine' Store.mk ?u ?v ?_
    case u => walk_at "upd"
    case v => walk_at "set"
    with_reducible refine Then.next ?_
    refine Ex_cons ?_
    have hC := hC.mono l1
    refine Ex_FunctionDef rfl hC hB (by walk_at "rem") rfl rfl fun fp cf F2 l2 hf2 => ?_
    refine Sto_l ?_
    refine' Store.mk ?u ?v ?_
    case u => walk_at "upd"
    case v => walk_at "set"
    with_reducible refine Then.next ?_
    refine Ex_cons ?_
    have hC := hC.mono l2
    refine Ex_FunctionDef rfl hC hB (by walk_at "rem") rfl rfl fun ft cf F3 l3 hf3 => ?_
    refine Sto_l ?_
    refine' Store.mk ?u ?v ?_
    case u => walk_at "upd"
    case v => walk_at "set"
    with_reducible refine Then.next ?_
    refine Ex_cons ?_
    refine Ex_Assign_Name ?_
    refine Ev_Call0 ?_
    refine Ev_blt (by assumption) (by assumption) .typ ?_
    refine ⟨.typ, ?_⟩
    have hC := hC.mono l3
    refine exc_new0 fun x => ?_
    refine' Store.mk ?u ?v ?_
    case u => walk_at "upd"
    case v => walk_at "set"
    with_reducible refine Then.next ?_
    refine Ex_cons ?_
    refine Ex_Assign_Attr ?_
    refine Ev_local (by walk_at "has") (by walk_at "lk") ?_
    refine Ev_local (by walk_at "has") (by walk_at "lk") ?_
    refine set_exc_first (by walk_at "rem") nl1 fun D => ?_
    with_reducible refine Then.next ?_
    refine Ex_cons ?_
    refine Ex_Assign_Attr ?_
    refine Ev_local (by walk_at "has") (by walk_at "lk") ?_
    refine Ev_local (by walk_at "has") (by walk_at "lk") ?_
    refine set_exc (by walk_at "has") (by walk_at "upd") (by walk_at "small") nl2 ?_
    with_reducible refine Then.next ?_
    refine Ex_cons ?_
    refine Ex_Assign_Attr ?_
    refine Ev_local (by walk_at "has") (by walk_at "lk") ?_
    refine Ev_local (by walk_at "has") (by walk_at "lk") ?_
    refine set_exc (by walk_at "has") (by walk_at "upd") (by walk_at "small") nl3 ?_
    with_reducible refine Then.next ?_
    refine Ex_cons ?_
    refine Ex_Assign_Attr ?_
    refine Ev_Lambda rfl hC hB (by walk_at "rem") rfl rfl fun li cf F5 l5 hl5 => ?_
    have hC := hC.mono l5
    refine Ev_local (by walk_at "has") (by walk_at "lk") ?_
    refine set_exc (by walk_at "has") (by walk_at "upd") (by walk_at "small") nl6 ?_
    with_reducible refine Then.next ?_
    refine Ex_cons ?_
    refine Ex_Assign_Attr ?_
    refine Ev_Lambda rfl hC hB (by walk_at "rem") rfl rfl fun lf cf F6 l6 hl6 => ?_
    have hC := hC.mono l6
    refine Ev_local (by walk_at "has") (by walk_at "lk") ?_
    refine set_exc (by walk_at "has") (by walk_at "upd") (by walk_at "small") nl5 ?_
    with_reducible refine Then.next ?_
    refine Ex_cons ?_
    refine Ex_Assign_Attr ?_
    refine Ev_Lambda rfl hC hB (by walk_at "rem") rfl rfl fun lc cf F7 l7 hl7 => ?_
    have hC := hC.mono l7
    refine Ev_local (by walk_at "has") (by walk_at "lk") ?_
    refine set_exc (by walk_at "has") (by walk_at "upd") (by walk_at "small") nl7 ?_
    with_reducible refine Then.next ?_
    refine Ex_cons ?_
    refine Ex_Assign_Attr ?_
    refine Ev_bool ?_
    refine Ev_local (by walk_at "has") (by walk_at "lk") ?_
    refine set_exc (by walk_at "has") (by walk_at "upd") (by walk_at "small") nl4 ?_
    with_reducible refine Then.next ?_
    refine Ex_cons ?_
    refine Ex_Assign_Attr ?_
    refine Ev_none ?_
    refine Ev_local (by walk_at "has") (by walk_at "lk") ?_
    refine set_exc (by walk_at "has") (by walk_at "upd") (by walk_at "small") nl8 ?_
    with_reducible refine Then.next ?_
    refine Ex_cons ?_
    refine Ex_Assign_Attr ?_
    refine Ev_none ?_
    refine Ev_local (by walk_at "has") (by walk_at "lk") ?_
    refine set_exc (by walk_at "has") (by walk_at "upd") (by walk_at "small") nl9 ?_
    with_reducible refine Then.next ?_
    refine Ex_cons ?_
    refine Ex_Assign_Attr ?_
    refine Ev_Dict0 fun m => ?_
    refine Ev_local (by walk_at "has") (by walk_at "lk") ?_
    refine set_exc (by walk_at "has") (by walk_at "upd") (by walk_at "small") nl10 ?_
    with_reducible refine Then.next ?_
    refine Ex_cons ?_
    refine Ex_Return ?_
    refine Ev_local (by walk_at "has") (by walk_at "lk") ?_
    with_reducible refine Then.ret ?_
    have m7 := l7
    have m6 := l6.trans m7
    have m5 := l5.trans m6
    have m3 := l3.trans m5
    have m2 := l2.trans m3
    have m1 := l1.trans m2
    refine ⟨_, _, by walk_at "rem", ?_⟩
    exact h F7 x D m fl fp ft li lf lc _ _ m1 ⟨⟨_, _, _, _, _, _, rfl, hf1.mono m2⟩, ⟨_, _, _, _, _, _, rfl, hf2.mono m3⟩, ⟨_, _, _, _, _, _, rfl, hf3.mono m5⟩, ⟨_, _, _, _, rfl, hl5.mono m6⟩, ⟨_, _, _, _, rfl, hl6.mono m7⟩, ⟨_, _, _, _, rfl, hl7⟩⟩ fun mb => ⟨rfl, rfl, rfl, rfl, rfl, rfl, rfl, rfl, rfl, rfl⟩
theorem Cl.down {G : Glob} {fr : List Env} {A A' : Around} {env : Env} {F : Fz} {Xs H : Hp} {f : V} {xs : List V} {Q' Q2 : V → Fz → Hp → Prop} {E : Value → Fz → Hp → Prop} (hD : Deep A A' env) (h : ClD G fr A F H f xs Q' No) (k : ∀ x F2 H3, Q' x F2 H3 → Q2 x F2 (Xs ++ H3)) : Cl G (env :: fr) A' F (Xs ++ H) f xs Q2 E :=
  Cl.under ((h _ _ hD).mono k fun _ _ _ e => e.elim)
theorem Cl.down1 {G : Glob} {fr : List Env} {A A' : Around} {env : Env} {F : Fz} {X : Addr × AO} {H : Hp} {f : V} {xs : List V} {Q' Q2 : V → Fz → Hp → Prop} {E : Value → Fz → Hp → Prop} (hD : Deep A A' env) (h : ClD G fr A F H f xs Q' No) (k : ∀ x F2 H3, Q' x F2 H3 → Q2 x F2 (X :: H3)) : Cl G (env :: fr) A' F (X :: H) f xs Q2 E := Cl.down (Xs := [X]) hD h k
theorem Cl.down2 {G : Glob} {fr : List Env} {A A' : Around} {env : Env} {F : Fz} {X Y : Addr × AO} {H : Hp} {f : V} {xs : List V} {Q' Q2 : V → Fz → Hp → Prop} {E : Value → Fz → Hp → Prop} (hD : Deep A A' env) (h : ClD G fr A F H f xs Q' No) (k : ∀ x F2 H3, Q' x F2 H3 → Q2 x F2 (X :: Y :: H3)) : Cl G (env :: fr) A' F (X :: Y :: H) f xs Q2 E := Cl.down (Xs := [X, Y]) hD h k
theorem lam_whole {G : Glob} {fr : List Env} {A : Around} {F : Fz} {H : Hp} {a : Addr} {q : Str} {E : Value → Fz → Hp → Prop} {Q : V → Fz → Hp → Prop} {t : V} (hf : LamS F a (sub (stm 6) 7) q) (hA : Ok fr A 0) (h : Q (.tup [.str "whole", t]) F H) : Cl G fr A F H (.ref a) [t] Q E := by
  obtain ⟨params, body, scope, hs, hf⟩ := hf
  cases Option.some.inj hs.symm
  refine call_lam hf [Str.ofString "text"] rfl (by decide) (fun pm c ctv vs hv => ?_) (by rfl) (by rfl) hA.room (fun _ _ => leaves_no) (fun L A' c hD => ?_)
  · obtain ⟨a, rfl⟩ := len1 hv
    rfl
  · simp only [mkRho, List.map]
    refine' Ev_Tuple' ?_ ?_ ?_
    rotate_left 1
    refine' Evs_cons' ?_ ?_
    rotate_left 2
    refine Ev_str ?_
    with_reducible exact Is.mk
    refine' Evs_cons' ?_ ?_
    rotate_left 2
    refine Ev_local (by walk_at "has") (by walk_at "lk") ?_
    with_reducible exact Is.mk
    exact Evs_nil'
    exact Nat.le_of_ble_eq_true rfl
    exact ⟨_, _, .hd, h⟩
theorem lam_broken {G : Glob} {fr : List Env} {A : Around} {F : Fz} {H : Hp} {a : Addr} {q : Str} {E : Value → Fz → Hp → Prop} {Q : V → Fz → Hp → Prop} {t : V} (hf : LamS F a (sub (stm 6) 8) q) (hA : Ok fr A 0) (h : Q (.tup [.str "broken", t]) F H) : Cl G fr A F H (.ref a) [t] Q E := by
  obtain ⟨params, body, scope, hs, hf⟩ := hf
  cases Option.some.inj hs.symm
  refine call_lam hf [Str.ofString "text"] rfl (by decide) (fun pm c ctv vs hv => ?_) (by rfl) (by rfl) hA.room (fun _ _ => leaves_no) (fun L A' c hD => ?_)
  · obtain ⟨a, rfl⟩ := len1 hv
    rfl
  · simp only [mkRho, List.map]
    refine' Ev_Tuple' ?_ ?_ ?_
    rotate_left 1
    refine' Evs_cons' ?_ ?_
    rotate_left 2
    refine Ev_str ?_
    with_reducible exact Is.mk
    refine' Evs_cons' ?_ ?_
    rotate_left 2
    refine Ev_local (by walk_at "has") (by walk_at "lk") ?_
    with_reducible exact Is.mk
    exact Evs_nil'
    exact Nat.le_of_ble_eq_true rfl
    exact ⟨_, _, .hd, h⟩
theorem lam_word {G : Glob} {fr : List Env} {A : Around} {F : Fz} {H : Hp} {a : Addr} {q : Str} {E : Value → Fz → Hp → Prop} {Q : V → Fz → Hp → Prop} {t : V} (hf : LamS F a (sub (stm 6) 9) q) (hA : Ok fr A 0) (h : Q (.tup [.str "word", t]) F H) : Cl G fr A F H (.ref a) [t] Q E := by
  obtain ⟨params, body, scope, hs, hf⟩ := hf
  cases Option.some.inj hs.symm
  refine call_lam hf [Str.ofString "text"] rfl (by decide) (fun pm c ctv vs hv => ?_) (by rfl) (by rfl) hA.room (fun _ _ => leaves_no) (fun L A' c hD => ?_)
  · obtain ⟨a, rfl⟩ := len1 hv
    rfl
  · simp only [mkRho, List.map]
    refine' Ev_Tuple' ?_ ?_ ?_
    rotate_left 1
    refine' Evs_cons' ?_ ?_
    rotate_left 2
    refine Ev_str ?_
    with_reducible exact Is.mk
    refine' Evs_cons' ?_ ?_
    rotate_left 2
    refine Ev_local (by walk_at "has") (by walk_at "lk") ?_
    with_reducible exact Is.mk
    exact Evs_nil'
    exact Nat.le_of_ble_eq_true rfl
    exact ⟨_, _, .hd, h⟩
theorem part_text {G : Glob} {fr : List Env} {A : Around} {F : Fz} {H : Hp} {a : Addr} {q : Str} {E : Value → Fz → Hp → Prop} {Q : V → Fz → Hp → Prop} {T : Str} {lo k : Nat} {st : V} (hf : FnS F a (sub (stm 6) 2) q []) (hA : Ok fr A 1) (hT : T.length ≤ sizeLine) (hlo : lo ≤ k) (hk : k + 1 ≤ T.length ∧ Builtin.Str.subAt T "\"" k = true) (hn : ∀ i, lo ≤ i → i < k → Builtin.Str.subAt T "\"" i = false)
    (h : Q (.tup [.tup [.str "text", .str (Txt.slice T (some lo) (some k))], .int ((k : Int) + 1)]) F H) : Cl G fr A F H (.ref a) [.str T, .int lo, st] Q E := by
  obtain ⟨name, params, body, scope, pos, hst, hf⟩ := hf
  cases Option.some.inj hst.symm
  refine call_fn hf [Str.ofString "string", Str.ofString "at", Str.ofString "strict"] [Str.ofString "end"] rfl (by decide) (fun doc pm c ctv vs hv => ?_) (by rfl) (by rfl) hA.room (fun _ _ => leaves_no) (fun L A' cd hD => ?_)
  · obtain ⟨a, b, c, rfl⟩ := len3 hv
    rfl
  · simp only [mkRho, List.map]
    have hA := hA.deep hD
    have hh := hA.handled
    refine Ex_cons ?_
    refine Ex_Assign_Name ?_
    refine' Ev_method' ?_ ?_
    rotate_left 1
    refine Ev_local (by walk_at "has") (by walk_at "lk") ?_
    with_reducible exact Is.mk
    refine ⟨"str", _, PySem.F.plainAttrs_str, PySem.F.slot_str_index, PySem.F.type_str_index, .str, ?_⟩
    refine' MArgs.mk ?_ ?_
    rotate_left 1
    refine' Evs_cons' ?_ ?_
    rotate_left 2
    refine Ev_str ?_
    with_reducible exact Is.mk
    refine' Evs_cons' ?_ ?_
    rotate_left 2
    refine Ev_local (by walk_at "has") (by walk_at "lk") ?_
    with_reducible exact Is.mk
    exact Evs_nil'
    refine index_from hlo hk hn ?_
    refine' Store.mk ?u ?v ?_
    case u => walk_at "upd"
    case v => walk_at "set"
    with_reducible refine Then.next ?_
    refine Ex_cons ?_
    refine Ex_Return ?_
    refine' Ev_Tuple' ?_ ?_ ?_
    rotate_left 1
    refine' Evs_cons' ?_ ?_
    rotate_left 2
    refine' Ev_Tuple' ?_ ?_ ?_
    rotate_left 1
    refine' Evs_cons' ?_ ?_
    rotate_left 2
    refine Ev_str ?_
    with_reducible exact Is.mk
    refine' Evs_cons' ?_ ?_
    rotate_left 2
    refine Ev_slice_str ?_
    refine Ev_local (by walk_at "has") (by walk_at "lk") ?_
    refine ⟨T, rfl, hT, ?_⟩
    refine EvP_some ?_
    refine Ev_local (by walk_at "has") (by walk_at "lk") ?_
    refine ⟨_, rfl, ?_⟩
    refine EvP_some ?_
    refine Ev_local (by walk_at "has") (by walk_at "lk") ?_
    refine ⟨_, rfl, ?_⟩
    with_reducible exact Is.mk
    exact Evs_nil'
    exact Nat.le_of_ble_eq_true rfl
    with_reducible exact Is.mk
    refine' Evs_cons' ?_ ?_
    rotate_left 2
    refine' Ev_BinOp' ?_ ?_ ?_
    rotate_left 2
    refine Ev_local (by walk_at "has") (by walk_at "lk") ?_
    with_reducible exact Is.mk
    refine Ev_int ?_
    with_reducible exact Is.mk
    refine add_ii ?_
    with_reducible exact Is.mk
    exact Evs_nil'
    exact Nat.le_of_ble_eq_true rfl
    with_reducible refine Then.ret ?_
    skip
    skip
    exact ⟨_, _, .hd, h⟩
theorem part_pair {G : Glob} {fr : List Env} {A : Around} {F : Fz} {H : Hp} {a f : Addr} {q : Str} {E : Value → Fz → Hp → Prop} {Q : V → Fz → Hp → Prop} {T : Str} {i i1 i2 : Nat} {x1 x2 e1 e2 y1 y2 y3 y4 : V} (hf : FnS F a (sub (stm 6) 1) q []) (hA : Ok fr A 1) (hi0 : G.mg (Str.ofString "int") = none) (hi : G.mb (Str.ofString "int") = some (.type "int")) (hT : T.length ≤ sizeLine)
    (h1 : PySem.intText? (Txt.slice T (some (i : Int)) (some ((i : Int) + 3))) = some (i1 : Int)) (h2 : PySem.intText? (Txt.slice T (some ((i : Int) + 3)) (some ((i : Int) + 6))) = some (i2 : Int)) (l1 : (Txt.slice T (some (i : Int)) (some ((i : Int) + 3))).length ≤ 640) (l2 : (Txt.slice T (some ((i : Int) + 3)) (some ((i : Int) + 6))).length ≤ 640)
    (hk : KOk F (.ref f))
    (c1 : ClD G fr A F H (.ref f) [.str T, .int i1] (fun x F2 H2 => x = .tup [x1, e1] ∧ F2 = F ∧ H2 = H) No) (c2 : ClD G fr A F H (.ref f) [.str T, .int i2] (fun x F2 H2 => x = .tup [x2, e2] ∧ F2 = F ∧ H2 = H) No)
    (h : Q (.tup [.tup [.str "pair", x1, x2], .int ((i : Int) + 7)]) F H) : Cl G fr A F H (.ref a) [.tup [.str T, .int i], y1, .ref f, y2, y3, y4] Q E := by
  obtain ⟨name, params, body, scope, pos, hst, hf⟩ := hf
  cases Option.some.inj hst.symm
  refine call_fn hf [Str.ofString "pair", Str.ofString "strict", Str.ofString "asking", Str.ofString "hook", Str.ofString "pairs_hook", Str.ofString "memo"] [Str.ofString "string", Str.ofString "at", Str.ofString "first", Str.ofString "_", Str.ofString "second"] rfl (by decide) (fun doc pm c ctv vs hv => ?_) (by rfl) (by rfl) hA.room (fun _ _ => leaves_no) (fun L A' cd hD => ?_)
  · obtain ⟨a, b, c, d, e, f, rfl⟩ := len6 hv
    rfl
  · simp only [mkRho, List.map]
    have hA := hA.deep hD
    have hh := hA.handled
    refine Ex_cons ?_
    refine Ex_Assign_Tuple (by assumption) rfl rfl ?_
    refine Ev_local (by walk_at "has") (by walk_at "lk") ?_
    refine ⟨_, rfl, rfl, ?_⟩
    refine Stores.cons ?_
    refine' Store.mk ?u ?v ?_
    case u => walk_at "upd"
    case v => walk_at "set"
    refine Stores.cons ?_
    refine' Store.mk ?u ?v ?_
    case u => walk_at "upd"
    case v => walk_at "set"
    refine Stores.nil ?_
    with_reducible refine Then.next ?_
    refine Ex_cons ?_
    refine Ex_Assign_Tuple (by assumption) rfl rfl ?_
    refine' Ev_Call' ?_ ?_ ?_ ?_
    rotate_left 2
    refine Ev_local (by walk_at "has") (by walk_at "lk") ?_
    with_reducible exact Is.mk
    exact hk
    refine' Evs_cons' ?_ ?_
    rotate_left 2
    refine Ev_local (by walk_at "has") (by walk_at "lk") ?_
    with_reducible exact Is.mk
    refine' Evs_cons' ?_ ?_
    rotate_left 2
    refine' Ev_Call' ?_ ?_ ?_ ?_
    rotate_left 2
    refine Ev_blt (by assumption) (by assumption) .typ ?_
    with_reducible exact Is.mk
    with_reducible exact KOk.typ
    refine' Evs_cons' ?_ ?_
    rotate_left 2
    refine Ev_slice_str ?_
    refine Ev_local (by walk_at "has") (by walk_at "lk") ?_
    refine ⟨T, rfl, hT, ?_⟩
    refine EvP_some ?_
    refine Ev_local (by walk_at "has") (by walk_at "lk") ?_
    refine ⟨_, rfl, ?_⟩
    refine EvP_some ?_
    refine' Ev_BinOp' ?_ ?_ ?_
    rotate_left 2
    refine Ev_local (by walk_at "has") (by walk_at "lk") ?_
    with_reducible exact Is.mk
    refine Ev_int ?_
    with_reducible exact Is.mk
    refine add_ii ?_
    refine ⟨_, rfl, ?_⟩
    with_reducible exact Is.mk
    exact Evs_nil'
    refine int_str h1 l1 ?_
    with_reducible exact Is.mk
    exact Evs_nil'
    refine Cl.down1 hD c1 fun x F1 H3 q => ?_
    obtain ⟨rfl, rfl, rfl⟩ := q
    refine ⟨_, rfl, rfl, ?_⟩
    refine Stores.cons ?_
    refine' Store.mk ?u ?v ?_
    case u => walk_at "upd"
    case v => walk_at "set"
    refine Stores.cons ?_
    refine' Store.mk ?u ?v ?_
    case u => walk_at "upd"
    case v => walk_at "set"
    refine Stores.nil ?_
    with_reducible refine Then.next ?_
    refine Ex_cons ?_
    refine Ex_Assign_Tuple (by assumption) rfl rfl ?_
    refine' Ev_Call' ?_ ?_ ?_ ?_
    rotate_left 2
    refine Ev_local (by walk_at "has") (by walk_at "lk") ?_
    with_reducible exact Is.mk
    exact hk
    refine' Evs_cons' ?_ ?_
    rotate_left 2
    refine Ev_local (by walk_at "has") (by walk_at "lk") ?_
    with_reducible exact Is.mk
    refine' Evs_cons' ?_ ?_
    rotate_left 2
    refine' Ev_Call' ?_ ?_ ?_ ?_
    rotate_left 2
    refine Ev_blt (by assumption) (by assumption) .typ ?_
    with_reducible exact Is.mk
    with_reducible exact KOk.typ
    refine' Evs_cons' ?_ ?_
    rotate_left 2
    refine Ev_slice_str ?_
    refine Ev_local (by walk_at "has") (by walk_at "lk") ?_
    refine ⟨T, rfl, hT, ?_⟩
    refine EvP_some ?_
    refine' Ev_BinOp' ?_ ?_ ?_
    rotate_left 2
    refine Ev_local (by walk_at "has") (by walk_at "lk") ?_
    with_reducible exact Is.mk
    refine Ev_int ?_
    with_reducible exact Is.mk
    refine add_ii ?_
    refine ⟨_, rfl, ?_⟩
    refine EvP_some ?_
    refine' Ev_BinOp' ?_ ?_ ?_
    rotate_left 2
    refine Ev_local (by walk_at "has") (by walk_at "lk") ?_
    with_reducible exact Is.mk
    refine Ev_int ?_
    with_reducible exact Is.mk
    refine add_ii ?_
    refine ⟨_, rfl, ?_⟩
    with_reducible exact Is.mk
    exact Evs_nil'
    refine int_str h2 l2 ?_
    with_reducible exact Is.mk
    exact Evs_nil'
    refine Cl.down1 hD c2 fun x F2 H3 q => ?_
    obtain ⟨rfl, rfl, rfl⟩ := q
    refine ⟨_, rfl, rfl, ?_⟩
    refine Stores.cons ?_
    refine' Store.mk ?u ?v ?_
    case u => walk_at "upd"
    case v => walk_at "set"
    refine Stores.cons ?_
    refine' Store.mk ?u ?v ?_
    case u => walk_at "upd"
    case v => walk_at "set"
    refine Stores.nil ?_
    with_reducible refine Then.next ?_
    refine Ex_cons ?_
    refine Ex_Return ?_
    refine' Ev_Tuple' ?_ ?_ ?_
    rotate_left 1
    refine' Evs_cons' ?_ ?_
    rotate_left 2
    refine' Ev_Tuple' ?_ ?_ ?_
    rotate_left 1
    refine' Evs_cons' ?_ ?_
    rotate_left 2
    refine Ev_str ?_
    with_reducible exact Is.mk
    refine' Evs_cons' ?_ ?_
    rotate_left 2
    refine Ev_local (by walk_at "has") (by walk_at "lk") ?_
    with_reducible exact Is.mk
    refine' Evs_cons' ?_ ?_
    rotate_left 2
    refine Ev_local (by walk_at "has") (by walk_at "lk") ?_
    with_reducible exact Is.mk
    exact Evs_nil'
    exact Nat.le_of_ble_eq_true rfl
    with_reducible exact Is.mk
    refine' Evs_cons' ?_ ?_
    rotate_left 2
    refine' Ev_BinOp' ?_ ?_ ?_
    rotate_left 2
    refine Ev_local (by walk_at "has") (by walk_at "lk") ?_
    with_reducible exact Is.mk
    refine Ev_int ?_
    with_reducible exact Is.mk
    refine add_ii ?_
    with_reducible exact Is.mk
    exact Evs_nil'
    exact Nat.le_of_ble_eq_true rfl
    with_reducible refine Then.ret ?_
    skip
    skip
    exact ⟨_, _, .hd, h⟩
theorem part_list {G : Glob} {fr : List Env} {A : Around} {F : Fz} {H : Hp} {a f : Addr} {q : Str} {E : Value → Fz → Hp → Prop} {Q : V → Fz → Hp → Prop} {T : Str} {i : Nat} {n : Nat} {at' : Nat → Nat} {x e : Nat → V} (hf : FnS F a (sub (stm 6) 0) q []) (hA : Ok fr A 1) (hi0 : G.mg (Str.ofString "int") = none) (hi : G.mb (Str.ofString "int") = some (.type "int")) (hT : T.cps.size ≤ 1000000) (hn : n ≤ 100)
    (h1 : ∀ k, k < n → PySem.intText? (Txt.slice T (some ((i : Int) + 3 * k)) (some ((i : Int) + 3 * k + 3))) = some (at' k : Int) ∧ (Txt.slice T (some ((i : Int) + 3 * k)) (some ((i : Int) + 3 * k + 3))).length ≤ 640 ∧ ∃ c, T.cps[i + 3 * k]? = some c ∧ chr c "]" = false)
    (h2 : T.cps[i + 3 * n]? = some 93)
    (hk : KOk F (.ref f))
    (c1 : ∀ k, k < n → ClD G fr A F H (.ref f) [.str T, .int (at' k)] (fun y F2 H2 => y = .tup [x k, e k] ∧ F2 = F ∧ H2 = H) No)
    (h : Q (.tup [.lst ((List.range n).map x), .int ((i : Int) + 3 * n + 1)]) F H) : Cl G fr A F H (.ref a) [.tup [.str T, .int i], .ref f] Q E := by
  obtain ⟨name, params, body, scope, pos, hst, hf⟩ := hf
  cases Option.some.inj hst.symm
  have hTl : T.length ≤ sizeLine := Nat.le_trans (show T.cps.size ≤ 1000000 from hT) (by decide)
  refine call_fn hf [Str.ofString "pair", Str.ofString "asking"] [Str.ofString "string", Str.ofString "at", Str.ofString "items", Str.ofString "item", Str.ofString "_"] rfl (by decide) (fun doc pm c ctv vs hv => ?_) (by rfl) (by rfl) hA.room (fun _ _ => leaves_no) (fun L A' cd hD => ?_)
  · obtain ⟨a, b, rfl⟩ := len2 hv
    rfl
  · simp only [mkRho, List.map]
    have hA := hA.deep hD
    have hh := hA.handled
    refine Ex_cons ?_
    refine Ex_Assign_Tuple (by assumption) rfl rfl ?_
    refine Ev_local (by walk_at "has") (by walk_at "lk") ?_
    refine ⟨_, rfl, rfl, ?_⟩
    refine Stores.cons ?_
    refine' Store.mk ?u ?v ?_
    case u => walk_at "upd"
    case v => walk_at "set"
    refine Stores.cons ?_
    refine' Store.mk ?u ?v ?_
    case u => walk_at "upd"
    case v => walk_at "set"
    refine Stores.nil ?_
    with_reducible refine Then.next ?_
    refine Ex_cons ?_
    refine Ex_Assign_Name ?_
    refine Ev_List ?_
    refine Evs_nil ?_
    refine ⟨by exact Nat.le_of_ble_eq_true rfl, ?_⟩
    intro lst
    refine' Store.mk ?u ?v ?_
    case u => walk_at "upd"
    case v => walk_at "set"
    with_reducible refine Then.next ?_
    refine Ex_cons ?_
    refine Ex_While (fun m F3 H3 => F = F3 ∧ ∃ (k : Nat) (o1 o2 : Option V), k ≤ n ∧ m = n - k ∧
      H3 = (lst, .list ((List.range k).map x)) :: (L, .ns [(Str.ofString "pair", some (.tup [.str T, .int i])), (Str.ofString "asking", some (.ref f)), (Str.ofString "string", some (.str T)), (Str.ofString "at", some (.int ((i : Int) + 3 * k))), (Str.ofString "items", some (.ref lst)), (Str.ofString "item", o1), (Str.ofString "_", o2)]) :: H)
      n ⟨rfl, 0, none, none, by lia, by lia, rfl⟩ ?_ noted_no
    rintro m F3 H3 ⟨rfl, k, o1, o2, hkn, rfl, rfl⟩ Qn hn
    have hat : ((i : Int) + 3 * (k : Int)).toNat = i + 3 * k := by lia
    have hlt : (i : Int) + 3 * (k : Int) < 2 ^ 63 := by
      have : i + 3 * n < T.cps.size := by
        rcases Nat.lt_or_ge (i + 3 * n) T.cps.size with q | q
        · exact q
        · rw [Array.getElem?_eq_none q] at h2; cases h2
      lia
    rcases Nat.lt_or_ge k n with hlk | hlk
    · obtain ⟨hit, hil, c, hc, hne⟩ := h1 k hlk
      refine' It_Compare1' ?_ ?_ ?_
      rotate_left 2
      refine' Ev_Subscript' ?_ ?_ ?_
      rotate_left 2
      refine Ev_local (by walk_at "has") (by walk_at "lk") ?_
      with_reducible exact Is.mk
      refine Ev_local (by walk_at "has") (by walk_at "lk") ?_
      with_reducible exact Is.mk
      refine sub_str (by lia) hlt (c := c) (by rw [hat]; exact hc) ?_
      with_reducible exact Is.mk
      refine Ev_str ?_
      with_reducible exact Is.mk
      refine ne_ss ?_
      refine ⟨_, rfl, ?_⟩
      refine Bif (fun _ => ?_) fun hx => ?_
      · refine Ex_cons ?_
        refine Ex_Assign_Tuple (by assumption) rfl rfl ?_
        refine' Ev_Call' ?_ ?_ ?_ ?_
        rotate_left 2
        refine Ev_local (by walk_at "has") (by walk_at "lk") ?_
        with_reducible exact Is.mk
        exact hk
        refine' Evs_cons' ?_ ?_
        rotate_left 2
        refine Ev_local (by walk_at "has") (by walk_at "lk") ?_
        with_reducible exact Is.mk
        refine' Evs_cons' ?_ ?_
        rotate_left 2
        refine' Ev_Call' ?_ ?_ ?_ ?_
        rotate_left 2
        refine Ev_blt (by assumption) (by assumption) .typ ?_
        with_reducible exact Is.mk
        with_reducible exact KOk.typ
        refine' Evs_cons' ?_ ?_
        rotate_left 2
        refine Ev_slice_str ?_
        refine Ev_local (by walk_at "has") (by walk_at "lk") ?_
        refine ⟨T, rfl, hTl, ?_⟩
        refine EvP_some ?_
        refine Ev_local (by walk_at "has") (by walk_at "lk") ?_
        refine ⟨_, rfl, ?_⟩
        refine EvP_some ?_
        refine' Ev_BinOp' ?_ ?_ ?_
        rotate_left 2
        refine Ev_local (by walk_at "has") (by walk_at "lk") ?_
        with_reducible exact Is.mk
        refine Ev_int ?_
        with_reducible exact Is.mk
        refine add_ii ?_
        refine ⟨_, rfl, ?_⟩
        with_reducible exact Is.mk
        exact Evs_nil'
        refine int_str hit hil ?_
        with_reducible exact Is.mk
        exact Evs_nil'
        refine Cl.down2 hD (c1 k hlk) fun y F4 H4 q => ?_
        obtain ⟨rfl, rfl, rfl⟩ := q
        refine ⟨_, rfl, rfl, ?_⟩
        refine Stores.cons ?_
        refine' Store.mk ?u ?v ?_
        case u => walk_at "upd"
        case v => walk_at "set"
        refine Stores.cons ?_
        refine' Store.mk ?u ?v ?_
        case u => walk_at "upd"
        case v => walk_at "set"
        refine Stores.nil ?_
        with_reducible refine Then.next ?_
        refine Ex_cons ?_
        refine Ex_Expr ?_
        refine' Ev_method' ?_ ?_
        rotate_left 1
        refine Ev_local (by walk_at "has") (by walk_at "lk") ?_
        with_reducible exact Is.mk
        refine ⟨"list", _, PySem.F.plainAttrs_list, slot_list_append, type_list_append, .list (by walk_at "has"), ?_⟩
        refine' MArgs.mk ?_ ?_
        rotate_left 1
        refine' Evs_cons' ?_ ?_
        rotate_left 2
        refine Ev_local (by walk_at "has") (by walk_at "lk") ?_
        with_reducible exact Is.mk
        exact Evs_nil'
        refine append (by walk_at "upd") (by simp [sizeLine]; lia) ?_
        refine ⟨rfl, ?_⟩
        with_reducible refine Then.next ?_
        refine Ex_cons ?_
        refine Ex_AugAssign (by walk_at "has") (by walk_at "lk") ?_
        refine Ev_int ?_
        refine iadd_ii ?_
        refine' Store.mk ?u ?v ?_
        case u => walk_at "upd"
        case v => walk_at "set"
        with_reducible refine Then.next ?_
        refine Ex_nil ?_
        with_reducible refine Turn.next ?_
        refine hn (n - (k + 1)) _ _ (by lia) ⟨rfl, k + 1, some (x k), some (e k), by lia, rfl, ?_⟩
        rw [List.range_succ, List.map_append]
        have e3 : (i : Int) + 3 * (k : Int) + 3 = (i : Int) + 3 * ((k + 1 : Nat) : Int) := by lia
        rw [e3]
        rfl
      · exfalso
        have : (chr c "]") = true := by
          unfold chr
          simpa using hx
        rw [this] at hne; cases hne
    · have hkn : k = n := by lia
      subst hkn
      refine' It_Compare1' ?_ ?_ ?_
      rotate_left 2
      refine' Ev_Subscript' ?_ ?_ ?_
      rotate_left 2
      refine Ev_local (by walk_at "has") (by walk_at "lk") ?_
      with_reducible exact Is.mk
      refine Ev_local (by walk_at "has") (by walk_at "lk") ?_
      with_reducible exact Is.mk
      refine sub_str (by lia) hlt (c := 93) (by rw [hat]; exact h2) ?_
      with_reducible exact Is.mk
      refine Ev_str ?_
      with_reducible exact Is.mk
      refine ne_ss ?_
      refine ⟨_, rfl, ?_⟩
      refine Bif (fun hx => ?_) fun _ => ?_
      · exact absurd hx (by decide)
      · with_reducible refine Then.next ?_
        refine Ex_cons ?_
        refine' Ex_freeze (a := lst) (Str.ofString "items") ?r ?u ?l ?s ?_
        case r => walk_at "rem"
        case u => walk_at "upd"
        case l => walk_at "lk"
        case s => walk_at "set"
        refine Ex_Return ?_
        refine' Ev_Tuple' ?_ ?_ ?_
        rotate_left 1
        refine' Evs_cons' ?_ ?_
        rotate_left 2
        refine Ev_local (by walk_at "has") (by walk_at "lk") ?_
        with_reducible exact Is.mk
        refine' Evs_cons' ?_ ?_
        rotate_left 2
        refine' Ev_BinOp' ?_ ?_ ?_
        rotate_left 2
        refine Ev_local (by walk_at "has") (by walk_at "lk") ?_
        with_reducible exact Is.mk
        refine Ev_int ?_
        with_reducible exact Is.mk
        refine add_ii ?_
        with_reducible exact Is.mk
        exact Evs_nil'
        exact Nat.le_of_ble_eq_true rfl
        with_reducible refine Then.ret ?_
        skip
        exact ⟨_, _, .hd, h⟩
inductive Kn where
  | leaf (f : Nat)
  | lst (es : List Nat) (z : Int)
  | pair (a b : Nat) (z : Int)
noncomputable def Kn.V : Kn → Mine.V
  | .leaf f => .tup [.str "leaf", .int f, .int 1]
  | .lst es z => .tup [.str "list", .lst (es.map fun (e : Nat) => .int e), .int z]
  | .pair a b z => .tup [.str "pair", .lst [.int a, .int b], .int z]
noncomputable def Kn.size : Kn → Int
  | .leaf _ => 1
  | .lst _ z => z
  | .pair _ _ z => z
noncomputable def szAt (ks : List Kn) (e : Nat) : Int := (ks[e]?.map Kn.size).getD 0
noncomputable def GoodK (ks : List Kn) (i : Nat) : Kn → Prop
  | .leaf f => f < 17
  | .lst es z => (∀ e ∈ es, e < i) ∧ es.length ≤ 11 ∧ z = 1 + (es.map (szAt ks)).sum ∧ z ≤ 12
  | .pair a b z => a < i ∧ b < i ∧ z = 1 + (szAt ks a + szAt ks b) ∧ z ≤ 12
noncomputable def KnIn (ks : List Kn) : Prop := ∀ (i : Nat) (k : Kn), ks[i]? = some k → GoodK ks i k
theorem szAt_app {ks : List Kn} {k : Kn} {e : Nat} (h : e < ks.length) : szAt (ks ++ [k]) e = szAt ks e := by
  unfold szAt
  rw [List.getElem?_append_left h]
theorem GoodK.app {ks : List Kn} {k k' : Kn} {i : Nat} (hi : i ≤ ks.length) (h : GoodK ks i k) : GoodK (ks ++ [k']) i k := by
  cases k with
  | leaf f => exact h
  | lst es z =>
    obtain ⟨h1, h2, h3, h4⟩ := h
    refine ⟨h1, h2, ?_, h4⟩
    rw [h3]
    congr 2
    refine List.map_congr_left fun e he => ?_
    exact (szAt_app (Nat.lt_of_lt_of_le (h1 e he) hi)).symm
  | pair a b z =>
    obtain ⟨h1, h2, h3, h4⟩ := h
    refine ⟨h1, h2, ?_, h4⟩
    rw [h3, szAt_app (Nat.lt_of_lt_of_le h1 hi), szAt_app (Nat.lt_of_lt_of_le h2 hi)]
theorem KnIn.app {ks : List Kn} {k : Kn} (h : KnIn ks) (hk : GoodK ks ks.length k) : KnIn (ks ++ [k]) := fun i k' hi => by
  rcases Nat.lt_or_ge i ks.length with q | q
  · rw [List.getElem?_append_left q] at hi
    exact (h i k' hi).app (Nat.le_of_lt q)
  · rw [List.getElem?_append_right q] at hi
    have : i - ks.length = 0 := by
      rcases Nat.eq_zero_or_pos (i - ks.length) with w | w
      · exact w
      · rw [List.getElem?_eq_none (by simp; lia)] at hi; cases hi
    have e : i = ks.length := by lia
    subst e
    rw [Nat.sub_self] at hi
    cases hi
    exact hk.app (Nat.le_refl _)
theorem KnIn.pos {ks : List Kn} (h : KnIn ks) : ∀ (i : Nat) (k : Kn), ks[i]? = some k → 1 ≤ k.size := by
  intro i
  induction i using Nat.strongRecOn with
  | _ i ih =>
    intro k hk
    have nn : ∀ e, e < i → 0 ≤ szAt ks e := fun e he => by
      unfold szAt
      cases q : ks[e]? with
      | none => simp
      | some k' => have := ih e he k' q; simp; lia
    cases k with
    | leaf f => exact Int.le_refl _
    | lst es z =>
      obtain ⟨h1, h2, h3, h4⟩ := h i _ hk
      have : 0 ≤ (es.map (szAt ks)).sum := by
        clear h3 h2 hk
        induction es with
        | nil => simp
        | cons e es ih2 =>
          have a1 := nn e (h1 e (.head _))
          have a2 := ih2 (fun e' he => h1 e' (.tail _ he))
          simp; lia
      show 1 ≤ z
      lia
    | pair a b z =>
      obtain ⟨h1, h2, h3, h4⟩ := h i _ hk
      have := nn a h1
      have := nn b h2
      show 1 ≤ z
      lia
theorem insert_perm {ord : List Nat} {n k : Nat} (h : ord.Perm (List.range n)) : (ord.take k ++ n :: ord.drop k).Perm (List.range (n + 1)) := by
  rw [List.range_succ]
  have h1 : (ord.take k ++ n :: ord.drop k).Perm (n :: ord) := by
    have := List.perm_middle (a := n) (l₁ := ord.take k) (l₂ := ord.drop k)
    rw [List.take_append_drop] at this
    exact this
  exact h1.trans ((h.cons n).trans (List.perm_append_singleton n (List.range n)).symm)
theorem knots {G : Glob} {fr : List Env} {A : Around} {F : Fz} {a : Addr} {H : Hp} {E : Value → Fz → Hp → Prop} (hlen0 : G.mg (Str.ofString "len") = none) (hlen : G.mb (Str.ofString "len") = some (.builtin "len")) (hl0 : G.mg (Str.ofString "list") = none) (hl : G.mb (Str.ofString "list") = some (.type "list")) (hr0 : G.mg (Str.ofString "range") = none) (hr : G.mb (Str.ofString "range") = some (.type "range"))
    (hf : IsDef F (stm 7) a) (hA : Ok fr A 1) (fs : List Int) (hfs : fs.length ≤ 26) (hfb : ∀ f ∈ fs, 0 ≤ f ∧ f < 20) {Q : V → Fz → Hp → Prop}
    (h : ∀ (ks : List Kn) (ord : List Nat), KnIn ks → ks.length ≤ 13 → ord.Perm (List.range ks.length) → Q (.tup [.lst ((ks ++ [Kn.lst (List.range ks.length) 0]).map Kn.V), .lst ((ord ++ [ks.length]).map fun (n : Nat) => .int n)]) F H) :
    Cl G fr A F H (.ref a) [.lst (fs.map .int)] Q E := by
  obtain ⟨c, s, o, pm, hs, hf, hd, hc⟩ := hf
  obtain rfl := Option.some.inj hs.symm
  refine call_def hf hd hc [Str.ofString "figures"] [Str.ofString "knots", Str.ofString "order", Str.ofString "at", Str.ofString "figure", Str.ofString "count", Str.ofString "elder", Str.ofString "size", Str.ofString "other", Str.ofString "index"] rfl (by decide) (fun vs hv => ?_) (by rfl) (by rfl) hA.room (fun _ => leaves_no) (fun L A' hD => ?_)
  · obtain ⟨a, rfl⟩ := len1 hv
    rfl
  · simp only [mkRho, List.map]
    have hA := hA.deep hD
    have hh := hA.handled
    refine Ex_cons ?_
    refine Ex_Assign_Name ?_
    refine Ev_List ?_
    refine Evs_nil ?_
    refine ⟨by exact Nat.le_of_ble_eq_true rfl, ?_⟩
    intro ka
    refine' Store.mk ?u ?v ?_
    case u => walk_at "upd"
    case v => walk_at "set"
    with_reducible refine Then.next ?_
    refine Ex_cons ?_
    refine Ex_Assign_Name ?_
    refine Ev_List ?_
    refine Evs_nil ?_
    refine ⟨by exact Nat.le_of_ble_eq_true rfl, ?_⟩
    intro oa
    refine' Store.mk ?u ?v ?_
    case u => walk_at "upd"
    case v => walk_at "set"
    with_reducible refine Then.next ?_
    refine Ex_cons ?_
    refine Ex_Assign_Name ?_
    refine Ev_int ?_
    refine' Store.mk ?u ?v ?_
    case u => walk_at "upd"
    case v => walk_at "set"
    with_reducible refine Then.next ?_
    refine Ex_cons ?_
    refine Ex_While (fun m F3 H3 => F = F3 ∧ ∃ (ks : List Kn) (ord : List Nat) (at' : Nat) (o1 o2 o3 o4 o5 o6 : Option V), KnIn ks ∧ ks.length ≤ 13 ∧ ord.Perm (List.range ks.length) ∧ m = fs.length - at' ∧
      H3 = (oa, .list (ord.map fun (n : Nat) => .int n)) :: (ka, .list (ks.map Kn.V)) :: (L, .ns [(Str.ofString "figures", some (.lst (fs.map .int))), (Str.ofString "knots", some (.ref ka)), (Str.ofString "order", some (.ref oa)), (Str.ofString "at", some (.int at')), (Str.ofString "figure", o1), (Str.ofString "count", o2), (Str.ofString "elder", o3), (Str.ofString "size", o4), (Str.ofString "other", o5), (Str.ofString "index", o6)]) :: H)
      fs.length ⟨rfl, [], [], 0, none, none, none, none, none, none, (fun i k hk => by simp at hk), by simp, .refl _, by lia, rfl⟩ ?_ noted_no
    rintro m F3 H3 ⟨rfl, ks, ord, at', o1, o2, o3, o4, o5, o6, hks, hk13, hord, rfl, rfl⟩ Qn hn
    refine Tp.test (decide (at' < fs.length) && decide (ks.length < 13)) ?_ ?_
    · refine It_BoolOp ?_
      refine It_and ?_
      refine' It_Compare1' ?_ ?_ ?_
      rotate_left 2
      refine Ev_local (by walk_at "has") (by walk_at "lk") ?_
      with_reducible exact Is.mk
      refine' Ev_Call' ?_ ?_ ?_ ?_
      rotate_left 2
      refine Ev_blt (by assumption) (by assumption) .blt ?_
      with_reducible exact Is.mk
      with_reducible exact KOk.blt
      refine' Evs_cons' ?_ ?_
      rotate_left 2
      refine Ev_local (by walk_at "has") (by walk_at "lk") ?_
      with_reducible exact Is.mk
      exact Evs_nil'
      refine len_lst .lst (by simp; lia) ?_
      with_reducible exact Is.mk
      refine lt_ii ?_
      refine ⟨_, rfl, ?_⟩
      refine Bif (fun hq => ?_) fun hq => ?_
      · refine It_and ?_
        refine' It_Compare1' ?_ ?_ ?_
        rotate_left 2
        refine' Ev_Call' ?_ ?_ ?_ ?_
        rotate_left 2
        refine Ev_blt (by assumption) (by assumption) .blt ?_
        with_reducible exact Is.mk
        with_reducible exact KOk.blt
        refine' Evs_cons' ?_ ?_
        rotate_left 2
        refine Ev_local (by walk_at "has") (by walk_at "lk") ?_
        with_reducible exact Is.mk
        exact Evs_nil'
        refine len_list (by walk_at "has") (by simp; lia) ?_
        with_reducible exact Is.mk
        refine Ev_int ?_
        with_reducible exact Is.mk
        refine lt_ii ?_
        refine ⟨_, rfl, ?_⟩
        refine Bif (fun hw => ?_) fun hw => ?_
        · refine It_and_nil ?_
          simp at hq hw
          exact ⟨by simp; lia, rfl, rfl⟩
        · simp at hq hw
          exact ⟨by simp; lia, rfl, rfl⟩
      · simp at hq
        exact ⟨by simp; lia, rfl, rfl⟩
    refine Bif (fun hb => ?_) fun hb => ?_
    · rw [Bool.and_eq_true, decide_eq_true_eq, decide_eq_true_eq] at hb
      obtain ⟨hat, hk12⟩ := hb
      have gf : ∀ j, (hj : j < fs.length) → (fs.map V.int)[j]? = some (.int fs[j]) := fun j hj => by rw [List.getElem?_map, List.getElem?_eq_getElem hj]; rfl
      have hol : ord.length = ks.length := by rw [hord.length_eq]; simp
      refine Ex_cons ?_
      refine Ex_Assign_Name ?_
      refine' Ev_Subscript' ?_ ?_ ?_
      rotate_left 2
      refine Ev_local (by walk_at "has") (by walk_at "lk") ?_
      with_reducible exact Is.mk
      refine Ev_local (by walk_at "has") (by walk_at "lk") ?_
      with_reducible exact Is.mk
      refine sub_lst .lst (by lia) (by lia) (by rw [Int.toNat_natCast]; exact gf at' hat) ?_
      refine' Store.mk ?u ?v ?_
      case u => walk_at "upd"
      case v => walk_at "set"
      with_reducible refine Then.next ?_
      refine Ex_cons ?_
      refine Ex.cut (fun fv F1 H1 => fv = .next ∧ F = F1 ∧ ∃ ord' : List Nat, ord'.Perm (List.range (ks.length + 1)) ∧ H1 = (oa, .list (ord'.map fun (n : Nat) => .int n)) :: (ka, .list (ks.map Kn.V)) :: (L, .ns [(Str.ofString "figures", some (.lst (fs.map .int))), (Str.ofString "knots", some (.ref ka)), (Str.ofString "order", some (.ref oa)), (Str.ofString "at", some (.int at')), (Str.ofString "figure", some (.int fs[at'])), (Str.ofString "count", o2), (Str.ofString "elder", o3), (Str.ofString "size", o4), (Str.ofString "other", o5), (Str.ofString "index", o6)]) :: H) ?_ ?_
      · refine Ex.gen fun Q' hq' => ?_
        refine Ex_If ?_
        refine' It_Compare1' ?_ ?_ ?_
        rotate_left 2
        refine' Ev_BinOp' ?_ ?_ ?_
        rotate_left 2
        refine Ev_local (by walk_at "has") (by walk_at "lk") ?_
        with_reducible exact Is.mk
        refine Ev_int ?_
        with_reducible exact Is.mk
        refine add_ii ?_
        with_reducible exact Is.mk
        refine' Ev_Call' ?_ ?_ ?_ ?_
        rotate_left 2
        refine Ev_blt (by assumption) (by assumption) .blt ?_
        with_reducible exact Is.mk
        with_reducible exact KOk.blt
        refine' Evs_cons' ?_ ?_
        rotate_left 2
        refine Ev_local (by walk_at "has") (by walk_at "lk") ?_
        with_reducible exact Is.mk
        exact Evs_nil'
        refine len_lst .lst (by simp; lia) ?_
        with_reducible exact Is.mk
        refine lt_ii ?_
        refine ⟨_, rfl, ?_⟩
        refine Bif (fun hq => ?_) fun hq => ?_
        · simp at hq
          have hat1 : at' + 1 < fs.length := by lia
          refine Ex_cons ?_
          refine Ex_Expr ?_
          refine' Ev_method' ?_ ?_
          rotate_left 1
          refine Ev_local (by walk_at "has") (by walk_at "lk") ?_
          with_reducible exact Is.mk
          refine ⟨"list", _, PySem.F.plainAttrs_list, PySem.F.slot_list_insert, PySem.F.type_list_insert, .list (by walk_at "has"), ?_⟩
          refine' MArgs.mk ?_ ?_
          rotate_left 1
          refine' Evs_cons' ?_ ?_
          rotate_left 2
          refine' Ev_BinOp' ?_ ?_ ?_
          rotate_left 2
          refine' Ev_Subscript' ?_ ?_ ?_
          rotate_left 2
          refine Ev_local (by walk_at "has") (by walk_at "lk") ?_
          with_reducible exact Is.mk
          refine' Ev_BinOp' ?_ ?_ ?_
          rotate_left 2
          refine Ev_local (by walk_at "has") (by walk_at "lk") ?_
          with_reducible exact Is.mk
          refine Ev_int ?_
          with_reducible exact Is.mk
          refine add_ii ?_
          with_reducible exact Is.mk
          refine sub_lst .lst (by lia) (by lia) (by rw [show ((at' : Int) + 1).toNat = at' + 1 by lia]; exact gf (at' + 1) hat1) ?_
          with_reducible exact Is.mk
          refine' Ev_BinOp' ?_ ?_ ?_
          rotate_left 2
          refine' Ev_Call' ?_ ?_ ?_ ?_
          rotate_left 2
          refine Ev_blt (by assumption) (by assumption) .blt ?_
          with_reducible exact Is.mk
          with_reducible exact KOk.blt
          refine' Evs_cons' ?_ ?_
          rotate_left 2
          refine Ev_local (by walk_at "has") (by walk_at "lk") ?_
          with_reducible exact Is.mk
          exact Evs_nil'
          refine len_list (by walk_at "has") (by simp; lia) ?_
          with_reducible exact Is.mk
          refine Ev_int ?_
          with_reducible exact Is.mk
          refine add_ii ?_
          with_reducible exact Is.mk
          refine mod_ii (by simp; lia) ?_
          with_reducible exact Is.mk
          refine' Evs_cons' ?_ ?_
          rotate_left 2
          refine' Ev_Call' ?_ ?_ ?_ ?_
          rotate_left 2
          refine Ev_blt (by assumption) (by assumption) .blt ?_
          with_reducible exact Is.mk
          with_reducible exact KOk.blt
          refine' Evs_cons' ?_ ?_
          rotate_left 2
          refine Ev_local (by walk_at "has") (by walk_at "lk") ?_
          with_reducible exact Is.mk
          exact Evs_nil'
          refine len_list (by walk_at "has") (by simp; lia) ?_
          with_reducible exact Is.mk
          exact Evs_nil'
          have hb0 := hfb fs[at' + 1] (List.getElem_mem _)
          have hm0 : 0 ≤ fs[at' + 1].fmod ((ord.length : Int) + 1) := Int.fmod_nonneg_of_pos _ (by lia)
          have hm1 : fs[at' + 1].fmod ((ord.length : Int) + 1) < (ord.length : Int) + 1 := Int.fmod_lt_of_pos _ (by lia)
          refine insert (l := ord.map fun (n : Nat) => .int n) (k := (fs[at' + 1].fmod ((ord.length : Int) + 1)).toNat) (by simp; lia) (by simp; lia) (by walk_at "upd") (by simp [sizeLine]; lia) ?_
          refine ⟨rfl, ?_⟩
          with_reducible refine Then.next ?_
          refine Ex_nil ?_
          refine hq' _ _ _ ⟨rfl, rfl, _, insert_perm (k := (fs[at' + 1].fmod ((ord.length : Int) + 1)).toNat) hord, ?_⟩
          rw [List.map_append, List.map_cons, List.map_take, List.map_drop, List.length_map]
        · refine Ex_cons ?_
          refine Ex_Expr ?_
          refine' Ev_method' ?_ ?_
          rotate_left 1
          refine Ev_local (by walk_at "has") (by walk_at "lk") ?_
          with_reducible exact Is.mk
          refine ⟨"list", _, PySem.F.plainAttrs_list, slot_list_append, type_list_append, .list (by walk_at "has"), ?_⟩
          refine' MArgs.mk ?_ ?_
          rotate_left 1
          refine' Evs_cons' ?_ ?_
          rotate_left 2
          refine' Ev_Call' ?_ ?_ ?_ ?_
          rotate_left 2
          refine Ev_blt (by assumption) (by assumption) .blt ?_
          with_reducible exact Is.mk
          with_reducible exact KOk.blt
          refine' Evs_cons' ?_ ?_
          rotate_left 2
          refine Ev_local (by walk_at "has") (by walk_at "lk") ?_
          with_reducible exact Is.mk
          exact Evs_nil'
          refine len_list (by walk_at "has") (by simp; lia) ?_
          with_reducible exact Is.mk
          exact Evs_nil'
          refine append (by walk_at "upd") (by simp [sizeLine]; lia) ?_
          refine ⟨rfl, ?_⟩
          with_reducible refine Then.next ?_
          refine Ex_nil ?_
          refine hq' _ _ _ ⟨rfl, rfl, ord ++ [ks.length], by rw [List.range_succ]; exact hord.append_right _, ?_⟩
          rw [List.map_append, List.length_map]; rfl
      · rintro fv F1 H1 ⟨rfl, rfl, ord', hord', rfl⟩
        have hff := hfb fs[at'] (List.getElem_mem _)
        with_reducible refine Then.next ?_
        refine Ex_cons ?_
        refine Ex_AugAssign (by walk_at "has") (by walk_at "lk") ?_
        refine Ev_int ?_
        refine iadd_ii ?_
        refine' Store.mk ?u ?v ?_
        case u => walk_at "upd"
        case v => walk_at "set"
        with_reducible refine Then.next ?_
        refine Ex_cons ?_
        refine Ex_If ?_
        refine' It_Compare1' ?_ ?_ ?_
        rotate_left 2
        refine Ev_local (by walk_at "has") (by walk_at "lk") ?_
        with_reducible exact Is.mk
        refine Ev_int ?_
        with_reducible exact Is.mk
        refine lt_ii ?_
        refine ⟨_, rfl, ?_⟩
        refine Bif (fun hq => ?_) fun hq => ?_
        · rw [decide_eq_true_eq] at hq
          refine Ex_cons ?_
          refine Ex_Expr ?_
          refine' Ev_method' ?_ ?_
          rotate_left 1
          refine Ev_local (by walk_at "has") (by walk_at "lk") ?_
          with_reducible exact Is.mk
          refine ⟨"list", _, PySem.F.plainAttrs_list, slot_list_append, type_list_append, .list (by walk_at "has"), ?_⟩
          refine' MArgs.mk ?_ ?_
          rotate_left 1
          refine' Evs_cons' ?_ ?_
          rotate_left 2
          refine' Ev_Tuple' ?_ ?_ ?_
          rotate_left 1
          refine' Evs_cons' ?_ ?_
          rotate_left 2
          refine Ev_str ?_
          with_reducible exact Is.mk
          refine' Evs_cons' ?_ ?_
          rotate_left 2
          refine Ev_local (by walk_at "has") (by walk_at "lk") ?_
          with_reducible exact Is.mk
          refine' Evs_cons' ?_ ?_
          rotate_left 2
          refine Ev_int ?_
          with_reducible exact Is.mk
          exact Evs_nil'
          exact Nat.le_of_ble_eq_true rfl
          with_reducible exact Is.mk
          exact Evs_nil'
          skip
          refine append (by walk_at "upd") (by simp [sizeLine]; lia) ?_
          refine ⟨rfl, ?_⟩
          with_reducible refine Then.next ?_
          refine Ex_cons ?_
          refine Ex_Continue ?_
          with_reducible refine Then.cont ?_
          with_reducible refine Then.cont ?_
          with_reducible refine Turn.cont ?_
          refine hn (fs.length - (at' + 2)) _ _ (by lia) ⟨rfl, ks ++ [Kn.leaf fs[at'].toNat], ord', at' + 2, some (.int fs[at']), o2, o3, o4, o5, o6, hks.app (by show fs[at'].toNat < 17; lia), by simp; lia, by simpa using hord', rfl, ?_⟩
          rw [List.map_append]
          have e1 : ((fs[at'].toNat : Nat) : Int) = fs[at'] := by lia
          have e2 : ((at' + 2 : Nat) : Int) = (at' : Int) + 2 := by lia
          simp only [List.map, Kn.V, e1, e2]
        · rw [decide_eq_false_iff_not] at hq
          refine Ex_nil ?_
          with_reducible refine Then.next ?_
          refine Ex_cons ?_
          refine Ex_Assign_Name ?_
          refine Ev.val (fun x => ∃ n : Nat, x = .int n ∧ 2 ≤ n ∧ n ≤ 3) ?_ ?_
          · refine Ev_IfExp ?_
            refine' It_Compare1' ?_ ?_ ?_
            rotate_left 2
            refine Ev_local (by walk_at "has") (by walk_at "lk") ?_
            with_reducible exact Is.mk
            refine Ev_int ?_
            with_reducible exact Is.mk
            refine eq_ii ?_
            refine ⟨_, rfl, ?_⟩
            refine Bif (fun _ => ?_) fun _ => ?_
            · refine Ev_int ?_
              exact ⟨⟨3, rfl, by lia, by lia⟩, rfl, rfl⟩
            · refine Ev_int ?_
              exact ⟨⟨2, rfl, by lia, by lia⟩, rfl, rfl⟩
          rintro _ ⟨count, rfl, hc2, hc3⟩
          refine' Store.mk ?u ?v ?_
          case u => walk_at "upd"
          case v => walk_at "set"
          with_reducible refine Then.next ?_
          refine Ex_cons ?_
          refine Ex_Assign_Name ?_
          refine Ev_List ?_
          refine Evs_nil ?_
          refine ⟨by exact Nat.le_of_ble_eq_true rfl, ?_⟩
          intro ea
          refine' Store.mk ?u ?v ?_
          case u => walk_at "upd"
          case v => walk_at "set"
          with_reducible refine Then.next ?_
          refine Ex_cons ?_
          refine Ex_Assign_Name ?_
          refine Ev_int ?_
          refine' Store.mk ?u ?v ?_
          case u => walk_at "upd"
          case v => walk_at "set"
          with_reducible refine Then.next ?_
          refine Ex_cons ?_
          refine Ex_For noted_no ?_
          refine Ev_slice_lst ?_
          refine Ev_local (by walk_at "has") (by walk_at "lk") ?_
          refine EvP_some ?_
          refine Ev_local (by walk_at "has") (by walk_at "lk") ?_
          refine ⟨_, rfl, ?_⟩
          refine EvP_some ?_
          refine' Ev_BinOp' ?_ ?_ ?_
          rotate_left 2
          refine Ev_local (by walk_at "has") (by walk_at "lk") ?_
          with_reducible exact Is.mk
          refine Ev_local (by walk_at "has") (by walk_at "lk") ?_
          with_reducible exact Is.mk
          refine add_ii ?_
          refine ⟨_, rfl, ?_⟩
          refine EvP_none ?_
          refine ⟨_, .lst, by simp [sizeLine]; lia, nofun, ?_⟩
          refine ⟨_, iter_lst hh, fun j F6 H6 => F = F6 ∧ ∃ (es : List Nat) (z : Int) (p1 p2 : Option V), (∀ e ∈ es, e < ks.length) ∧ z = 1 + (es.map (szAt ks)).sum ∧ z ≤ 12 ∧ (es.length : Int) + 1 ≤ z ∧
            H6 = (ea, .list (es.map fun (n : Nat) => .int n)) :: (oa, .list (ord'.map fun (n : Nat) => .int n)) :: (ka, .list (ks.map Kn.V)) :: (L, .ns [(Str.ofString "figures", some (.lst (fs.map .int))), (Str.ofString "knots", some (.ref ka)), (Str.ofString "order", some (.ref oa)), (Str.ofString "at", some (.int ((at' : Int) + 2))), (Str.ofString "figure", some (.int fs[at'])), (Str.ofString "count", some (.int count)), (Str.ofString "elder", some (.ref ea)), (Str.ofString "size", some (.int z)), (Str.ofString "other", p1), (Str.ofString "index", p2)]) :: H,
            ⟨rfl, [], 1, o5, o6, nofun, by simp, by lia, by simp, rfl⟩, ?_, ?_⟩
          · rintro j y F6 H6 hy ⟨rfl, es, z, p1, p2, hes, hz, hz12, hel, rfl⟩ Qm hm
            obtain ⟨g, rfl⟩ : ∃ g, y = .int g := by
              have hm := List.mem_of_getElem? hy
              unfold slV at hm
              obtain ⟨q, _, hq⟩ := List.mem_filterMap.mp hm
              rw [List.getElem?_map] at hq
              cases hx : fs[q]? with
              | none => rw [hx] at hq; cases hq
              | some g => rw [hx] at hq; cases hq; exact ⟨g, rfl⟩
            refine As_Name ?_
            refine' Store.mk ?u ?v ?_
            case u => walk_at "upd"
            case v => walk_at "set"
            refine Ex_cons ?_
            refine Ex_If ?_
            refine It_value ?_
            refine Ev_local (by walk_at "has") (by walk_at "lk") ?_
            refine tr_list (by walk_at "has") (by simp; lia) ?_
            refine Bif (fun hne => ?_) fun _ => ?_
            · have hk0 : 0 < ks.length := by
                cases ks with
                | nil => simp at hne
                | cons => simp
              have hm0 : 0 ≤ g.fmod ((ks.map Kn.V).length : Int) := Int.fmod_nonneg_of_pos _ (by simp; lia)
              have hm1 : g.fmod ((ks.map Kn.V).length : Int) < ((ks.map Kn.V).length : Int) := Int.fmod_lt_of_pos _ (by simp; lia)
              rw [List.length_map] at hm0 hm1
              obtain ⟨ix, hid⟩ : ∃ n : Nat, g.fmod (ks.length : Int) = n := ⟨(g.fmod (ks.length : Int)).toNat, by lia⟩
              rw [hid] at hm0 hm1
              have hix : ix < ks.length := by lia
              have gk : (ks.map Kn.V)[((ix : Nat) : Int).toNat]? = some (ks[ix].V) := by rw [Int.toNat_natCast, List.getElem?_map, List.getElem?_eq_getElem hix]; rfl
              obtain ⟨w1, w2, hw⟩ : ∃ w1 w2, ks[ix].V = .tup [w1, w2, .int ks[ix].size] := by
                cases ks[ix] with
                | leaf f => exact ⟨_, _, rfl⟩
                | lst es z => exact ⟨_, _, rfl⟩
                | pair a b z => exact ⟨_, _, rfl⟩
              have hsz : szAt ks ix = ks[ix].size := by unfold szAt; rw [List.getElem?_eq_getElem hix]; rfl
              have hsp : 1 ≤ ks[ix].size := hks.pos ix _ (List.getElem?_eq_getElem hix)
              refine Ex_cons ?_
              refine Ex_Assign_Name ?_
              refine' Ev_BinOp' ?_ ?_ ?_
              rotate_left 2
              refine Ev_local (by walk_at "has") (by walk_at "lk") ?_
              with_reducible exact Is.mk
              refine' Ev_Call' ?_ ?_ ?_ ?_
              rotate_left 2
              refine Ev_blt (by assumption) (by assumption) .blt ?_
              with_reducible exact Is.mk
              with_reducible exact KOk.blt
              refine' Evs_cons' ?_ ?_
              rotate_left 2
              refine Ev_local (by walk_at "has") (by walk_at "lk") ?_
              with_reducible exact Is.mk
              exact Evs_nil'
              refine len_list (by walk_at "has") (by simp; lia) ?_
              with_reducible exact Is.mk
              refine mod_ii (by rw [List.length_map]; lia) ?_
              rw [List.length_map, hid]
              refine' Store.mk ?u ?v ?_
              case u => walk_at "upd"
              case v => walk_at "set"
              with_reducible refine Then.next ?_
              refine Ex_cons ?_
              refine Ex_If ?_
              refine' It_Compare1' ?_ ?_ ?_
              rotate_left 2
              refine' Ev_BinOp' ?_ ?_ ?_
              rotate_left 2
              refine Ev_local (by walk_at "has") (by walk_at "lk") ?_
              with_reducible exact Is.mk
              refine' Ev_Subscript' ?_ ?_ ?_
              rotate_left 2
              refine' Ev_Subscript' ?_ ?_ ?_
              rotate_left 2
              refine Ev_local (by walk_at "has") (by walk_at "lk") ?_
              with_reducible exact Is.mk
              refine Ev_local (by walk_at "has") (by walk_at "lk") ?_
              with_reducible exact Is.mk
              refine sub_lst (.own (by walk_at "has")) (by lia) (by lia) gk ?_
              rw [hw]
              with_reducible exact Is.mk
              refine Ev_int ?_
              with_reducible exact Is.mk
              refine sub_tup (by decide) (by decide) rfl ?_
              with_reducible exact Is.mk
              refine add_ii ?_
              with_reducible exact Is.mk
              refine Ev_int ?_
              with_reducible exact Is.mk
              refine le_ii ?_
              refine ⟨_, rfl, ?_⟩
              refine Bif (fun hle => ?_) fun _ => ?_
              · rw [decide_eq_true_eq] at hle
                refine Ex_cons ?_
                refine Ex_Expr ?_
                refine' Ev_method' ?_ ?_
                rotate_left 1
                refine Ev_local (by walk_at "has") (by walk_at "lk") ?_
                with_reducible exact Is.mk
                refine ⟨"list", _, PySem.F.plainAttrs_list, slot_list_append, type_list_append, .list (by walk_at "has"), ?_⟩
                refine' MArgs.mk ?_ ?_
                rotate_left 1
                refine' Evs_cons' ?_ ?_
                rotate_left 2
                refine Ev_local (by walk_at "has") (by walk_at "lk") ?_
                with_reducible exact Is.mk
                exact Evs_nil'
                refine append (by walk_at "upd") (by simp [sizeLine]; lia) ?_
                refine ⟨rfl, ?_⟩
                with_reducible refine Then.next ?_
                refine Ex_cons ?_
                refine Ex_AugAssign (by walk_at "has") (by walk_at "lk") ?_
                refine' Ev_Subscript' ?_ ?_ ?_
                rotate_left 2
                refine' Ev_Subscript' ?_ ?_ ?_
                rotate_left 2
                refine Ev_local (by walk_at "has") (by walk_at "lk") ?_
                with_reducible exact Is.mk
                refine Ev_local (by walk_at "has") (by walk_at "lk") ?_
                with_reducible exact Is.mk
                refine sub_lst (.own (by walk_at "has")) (by lia) (by lia) gk ?_
                rw [hw]
                with_reducible exact Is.mk
                refine Ev_int ?_
                with_reducible exact Is.mk
                refine sub_tup (by decide) (by decide) rfl ?_
                refine iadd_ii ?_
                refine' Store.mk ?u ?v ?_
                case u => walk_at "upd"
                case v => walk_at "set"
                with_reducible refine Then.next ?_
                refine Ex_nil ?_
                with_reducible refine Then.next ?_
                refine Ex_nil ?_
                with_reducible refine Then.next ?_
                refine Ex_nil ?_
                with_reducible refine Turn.next ?_
                refine hm _ _ ⟨rfl, es ++ [ix], z + ks[ix].size, some (.int g), some (.int ix), fun e he => ?_, ?_, hle, by simp; lia, by rw [List.map_append]; rfl⟩
                · rcases List.mem_append.mp he with he | he
                  · exact hes e he
                  · rw [List.mem_singleton] at he; subst he; exact hix
                · rw [List.map_append, List.sum_append, hz]; simp [hsz]; lia
              · refine Ex_nil ?_
                with_reducible refine Then.next ?_
                refine Ex_nil ?_
                with_reducible refine Then.next ?_
                refine Ex_nil ?_
                with_reducible refine Turn.next ?_
                exact hm _ _ ⟨rfl, es, z, some (.int g), some (.int ix), hes, hz, hz12, hel, rfl⟩
            · refine Ex_nil ?_
              with_reducible refine Then.next ?_
              refine Ex_nil ?_
              with_reducible refine Turn.next ?_
              exact hm _ _ ⟨rfl, es, z, some (.int g), p2, hes, hz, hz12, hel, rfl⟩
          · rintro F6 H6 ⟨rfl, es, z, p1, p2, hes, hz, hz12, hel, rfl⟩
            with_reducible refine Then.next ?_
            refine Ex_cons ?_
            refine Ex_AugAssign (by walk_at "has") (by walk_at "lk") ?_
            refine Ev_local (by walk_at "has") (by walk_at "lk") ?_
            refine iadd_ii ?_
            refine' Store.mk ?u ?v ?_
            case u => walk_at "upd"
            case v => walk_at "set"
            with_reducible refine Then.next ?_
            refine Ex_cons ?_
            refine Ex_If ?_
            refine Tp.test ((fs[at'] == 19) && (((es.map fun (n : Nat) => V.int n).length : Int) == 2)) ?_ ?_
            · refine It_BoolOp ?_
              refine It_and ?_
              refine' It_Compare1' ?_ ?_ ?_
              rotate_left 2
              refine Ev_local (by walk_at "has") (by walk_at "lk") ?_
              with_reducible exact Is.mk
              refine Ev_int ?_
              with_reducible exact Is.mk
              refine eq_ii ?_
              refine ⟨_, rfl, ?_⟩
              refine Bif (fun hq => ?_) fun hq => ?_
              · refine It_and ?_
                refine' It_Compare1' ?_ ?_ ?_
                rotate_left 2
                refine' Ev_Call' ?_ ?_ ?_ ?_
                rotate_left 2
                refine Ev_blt (by assumption) (by assumption) .blt ?_
                with_reducible exact Is.mk
                with_reducible exact KOk.blt
                refine' Evs_cons' ?_ ?_
                rotate_left 2
                refine Ev_local (by walk_at "has") (by walk_at "lk") ?_
                with_reducible exact Is.mk
                exact Evs_nil'
                refine len_list (by walk_at "has") (by simp; lia) ?_
                with_reducible exact Is.mk
                refine Ev_int ?_
                with_reducible exact Is.mk
                refine eq_ii ?_
                refine ⟨_, rfl, ?_⟩
                refine Bif (fun hw => ?_) fun hw => ?_
                · refine It_and_nil ?_
                  exact ⟨by rw [hq, hw]; rfl, rfl, rfl⟩
                · exact ⟨by rw [hq, hw]; rfl, rfl, rfl⟩
              · exact ⟨by rw [hq]; rfl, rfl, rfl⟩
            refine Bif (fun hb => ?_) fun hb => ?_
            · rw [Bool.and_eq_true, beq_iff_eq, beq_iff_eq, List.length_map] at hb
              obtain ⟨e1, e2, rfl⟩ : ∃ e1 e2, es = [e1, e2] := by
                match es, hb.2 with
                | [e1, e2], _ => exact ⟨e1, e2, rfl⟩
                | [], h => simp at h
                | [_], h => simp at h
                | _ :: _ :: _ :: _, h => simp at h; lia
              refine Ex_cons ?_
              refine' Ex_freeze (a := ea) (Str.ofString "elder") ?r ?u ?l ?s ?_
              case r => walk_at "rem"
              case u => walk_at "upd"
              case l => walk_at "lk"
              case s => walk_at "set"
              refine Ex_Expr ?_
              refine' Ev_method' ?_ ?_
              rotate_left 1
              refine Ev_local (by walk_at "has") (by walk_at "lk") ?_
              with_reducible exact Is.mk
              refine ⟨"list", _, PySem.F.plainAttrs_list, slot_list_append, type_list_append, .list (by walk_at "has"), ?_⟩
              refine' MArgs.mk ?_ ?_
              rotate_left 1
              refine' Evs_cons' ?_ ?_
              rotate_left 2
              refine' Ev_Tuple' ?_ ?_ ?_
              rotate_left 1
              refine' Evs_cons' ?_ ?_
              rotate_left 2
              refine Ev_str ?_
              with_reducible exact Is.mk
              refine' Evs_cons' ?_ ?_
              rotate_left 2
              refine Ev_local (by walk_at "has") (by walk_at "lk") ?_
              with_reducible exact Is.mk
              refine' Evs_cons' ?_ ?_
              rotate_left 2
              refine Ev_local (by walk_at "has") (by walk_at "lk") ?_
              with_reducible exact Is.mk
              exact Evs_nil'
              exact Nat.le_of_ble_eq_true rfl
              with_reducible exact Is.mk
              exact Evs_nil'
              skip
              refine append (by walk_at "upd") (by simp [sizeLine]; lia) ?_
              refine ⟨rfl, ?_⟩
              with_reducible refine Then.next ?_
              refine Ex_nil ?_
              with_reducible refine Then.next ?_
              refine Ex_nil ?_
              with_reducible refine Turn.next ?_
              refine hn (fs.length - (at' + 2 + count)) _ _ (by lia) ⟨rfl, ks ++ [Kn.pair e1 e2 z], ord', at' + 2 + count, some (.int fs[at']), some (.int count), some (.lst [.int e1, .int e2]), some (.int z), p1, p2, hks.app (⟨hes e1 (by simp), hes e2 (by simp), by rw [hz]; simp, hz12⟩), by simp; lia, by simpa using hord', rfl, ?_⟩
              rw [List.map_append]
              have e2 : ((at' + 2 + count : Nat) : Int) = (at' : Int) + 2 + (count : Int) := by lia
              simp only [List.map, Kn.V, e2]
            · refine Ex_cons ?_
              refine' Ex_freeze (a := ea) (Str.ofString "elder") ?r ?u ?l ?s ?_
              case r => walk_at "rem"
              case u => walk_at "upd"
              case l => walk_at "lk"
              case s => walk_at "set"
              refine Ex_Expr ?_
              refine' Ev_method' ?_ ?_
              rotate_left 1
              refine Ev_local (by walk_at "has") (by walk_at "lk") ?_
              with_reducible exact Is.mk
              refine ⟨"list", _, PySem.F.plainAttrs_list, slot_list_append, type_list_append, .list (by walk_at "has"), ?_⟩
              refine' MArgs.mk ?_ ?_
              rotate_left 1
              refine' Evs_cons' ?_ ?_
              rotate_left 2
              refine' Ev_Tuple' ?_ ?_ ?_
              rotate_left 1
              refine' Evs_cons' ?_ ?_
              rotate_left 2
              refine Ev_str ?_
              with_reducible exact Is.mk
              refine' Evs_cons' ?_ ?_
              rotate_left 2
              refine Ev_local (by walk_at "has") (by walk_at "lk") ?_
              with_reducible exact Is.mk
              refine' Evs_cons' ?_ ?_
              rotate_left 2
              refine Ev_local (by walk_at "has") (by walk_at "lk") ?_
              with_reducible exact Is.mk
              exact Evs_nil'
              exact Nat.le_of_ble_eq_true rfl
              with_reducible exact Is.mk
              exact Evs_nil'
              skip
              refine append (by walk_at "upd") (by simp [sizeLine]; lia) ?_
              refine ⟨rfl, ?_⟩
              with_reducible refine Then.next ?_
              refine Ex_nil ?_
              with_reducible refine Then.next ?_
              refine Ex_nil ?_
              with_reducible refine Turn.next ?_
              refine hn (fs.length - (at' + 2 + count)) _ _ (by lia) ⟨rfl, ks ++ [Kn.lst es z], ord', at' + 2 + count, some (.int fs[at']), some (.int count), some (.lst (es.map fun (n : Nat) => .int n)), some (.int z), p1, p2, hks.app (⟨hes, by lia, hz, hz12⟩), by simp; lia, by simpa using hord', rfl, ?_⟩
              rw [List.map_append]
              have e2 : ((at' + 2 + count : Nat) : Int) = (at' : Int) + 2 + (count : Int) := by lia
              simp only [List.map, Kn.V, e2]
    · with_reducible refine Then.next ?_
      refine Ex_cons ?_
      refine Ex_Expr ?_
      refine Ev_method ?_
      refine Ev_local (by walk_at "has") (by walk_at "lk") ?_
      refine ⟨"list", _, PySem.F.plainAttrs_list, slot_list_append, type_list_append, .list (by walk_at "has"), ?_⟩
      refine Evs_cons ?_
      refine Ev_Tuple ?_
      refine Evs_cons ?_
      refine Ev_str ?_
      refine Evs_cons ?_
      refine' Ev_Call' ?_ ?_ ?_ ?_
      rotate_left 2
      refine Ev_blt (by assumption) (by assumption) .typ ?_
      with_reducible exact Is.mk
      with_reducible exact KOk.typ
      refine' Evs_cons' ?_ ?_
      rotate_left 2
      refine' Ev_Call' ?_ ?_ ?_ ?_
      rotate_left 2
      refine Ev_blt (by assumption) (by assumption) .typ ?_
      with_reducible exact Is.mk
      with_reducible exact KOk.typ
      refine' Evs_cons' ?_ ?_
      rotate_left 2
      refine' Ev_Call' ?_ ?_ ?_ ?_
      rotate_left 2
      refine Ev_blt (by assumption) (by assumption) .blt ?_
      with_reducible exact Is.mk
      with_reducible exact KOk.blt
      refine' Evs_cons' ?_ ?_
      rotate_left 2
      refine Ev_local (by walk_at "has") (by walk_at "lk") ?_
      with_reducible exact Is.mk
      exact Evs_nil'
      refine len_list (by walk_at "has") (by simp; lia) ?_
      with_reducible exact Is.mk
      exact Evs_nil'
      refine range1 ?_
      with_reducible exact Is.mk
      exact Evs_nil'
      refine list_rng hh (by simp; lia) ?_
      refine Evs_cons ?_
      refine Ev_int ?_
      refine Evs_nil ?_
      refine ⟨by exact Nat.le_of_ble_eq_true rfl, ?_⟩
      refine Evs_nil ?_
      skip
      refine append (by walk_at "upd") (by simp [sizeLine]; lia) ?_
      refine ⟨rfl, ?_⟩
      with_reducible refine Then.next ?_
      refine Ex_cons ?_
      refine Ex_Expr ?_
      refine' Ev_method' ?_ ?_
      rotate_left 1
      refine Ev_local (by walk_at "has") (by walk_at "lk") ?_
      with_reducible exact Is.mk
      refine ⟨"list", _, PySem.F.plainAttrs_list, slot_list_append, type_list_append, .list (by walk_at "has"), ?_⟩
      refine' MArgs.mk ?_ ?_
      rotate_left 1
      refine' Evs_cons' ?_ ?_
      rotate_left 2
      refine' Ev_BinOp' ?_ ?_ ?_
      rotate_left 2
      refine' Ev_Call' ?_ ?_ ?_ ?_
      rotate_left 2
      refine Ev_blt (by assumption) (by assumption) .blt ?_
      with_reducible exact Is.mk
      with_reducible exact KOk.blt
      refine' Evs_cons' ?_ ?_
      rotate_left 2
      refine Ev_local (by walk_at "has") (by walk_at "lk") ?_
      with_reducible exact Is.mk
      exact Evs_nil'
      refine len_list (by walk_at "has") (by simp; lia) ?_
      with_reducible exact Is.mk
      refine Ev_int ?_
      with_reducible exact Is.mk
      refine sub_ii ?_
      with_reducible exact Is.mk
      exact Evs_nil'
      have hol : ord.length = ks.length := by rw [hord.length_eq]; simp
      refine append (by walk_at "upd") (by simp [sizeLine]; lia) ?_
      refine ⟨rfl, ?_⟩
      with_reducible refine Then.next ?_
      refine Ex_cons ?_
      refine' Ex_freeze (a := ka) (Str.ofString "knots") ?r ?u ?l ?s ?_
      case r => walk_at "rem"
      case u => walk_at "upd"
      case l => walk_at "lk"
      case s => walk_at "set"
      refine' Ex_freeze (a := oa) (Str.ofString "order") ?r2 ?u2 ?l2 ?s2 ?_
      case r2 => walk_at "rem"
      case u2 => walk_at "upd"
      case l2 => walk_at "lk"
      case s2 => walk_at "set"
      refine Ex_Return ?_
      refine' Ev_Tuple' ?_ ?_ ?_
      rotate_left 1
      refine' Evs_cons' ?_ ?_
      rotate_left 2
      refine Ev_local (by walk_at "has") (by walk_at "lk") ?_
      with_reducible exact Is.mk
      refine' Evs_cons' ?_ ?_
      rotate_left 2
      refine Ev_local (by walk_at "has") (by walk_at "lk") ?_
      with_reducible exact Is.mk
      exact Evs_nil'
      exact Nat.le_of_ble_eq_true rfl
      with_reducible refine Then.ret ?_
      skip
      refine ⟨_, _, by walk_at "rem", ?_⟩
      have := h ks ord hks hk13 hord
      rw [List.map_append, List.map_append] at this
      simp only [List.map_cons, List.map_nil, Kn.V] at this
      simp only [List.length_append, List.length_map, List.length_cons, List.length_nil]
      have e1 : ((ks.length + (0 + 1) : Nat) : Int) - 1 = (ks.length : Int) := by lia
      rw [e1]
      exact this
structure Lv where
  a : Str
  v : V
  b : Str
noncomputable def Lv.V (l : Lv) : Mine.V := .tup [.str l.a, l.v, .str l.b]
noncomputable def leafAt (lv : List Lv) (f : Nat) : Lv := (lv[f]?).getD ⟨⟨#[]⟩, .none, ⟨#[]⟩⟩
noncomputable def blen (lv : List Lv) : Kn → Nat
  | .leaf f => (leafAt lv f).a.length
  | .lst es _ => 2 + 3 * es.length
  | .pair _ _ _ => 8
noncomputable def flen (lv : List Lv) : Kn → Nat
  | .leaf f => (leafAt lv f).a.length + (leafAt lv f).b.length
  | .lst es _ => 2 + 3 * es.length
  | .pair _ _ _ => 8
noncomputable def knAt (ks : List Kn) (i : Nat) : Kn := (ks[i]?).getD (.leaf 0)
noncomputable def offs (fl : Nat → Nat) : List Nat → Nat → Nat
  | [], _ => 0
  | k :: r, j => if k = j then 0 else fl k + offs fl r j
noncomputable def total (fl : Nat → Nat) (l : List Nat) : Nat := (l.map fl).sum
theorem offs_app {fl : Nat → Nat} {pre post : List Nat} {k : Nat} (h : k ∉ pre) : offs fl (pre ++ k :: post) k = total fl pre := by
  induction pre with
  | nil => simp [offs, total]
  | cons x pre ih =>
    rw [List.mem_cons, not_or] at h
    rw [List.cons_append]
    unfold offs
    rw [if_neg (fun q => h.1 q.symm), ih h.2]
    simp [total]
noncomputable def spanV (ks : List Kn) (lv : List Lv) (ord : List Nat) (j : Nat) : V := .tup [.int (1 + offs (fun k => flen lv (knAt ks k)) ord j : Nat), .int ((1 + offs (fun k => flen lv (knAt ks k)) ord j + blen lv (knAt ks j) : Nat))]
noncomputable def Wf (ks : List Kn) (lv : List Lv) : Prop := lv.length = 17 ∧ (∀ l ∈ lv, l.a.length ≤ 20 ∧ l.b.length ≤ 20) ∧ ks.length ≤ 14 ∧ ∀ k ∈ ks, match k with
  | .leaf f => f < 17
  | .lst es _ => es.length ≤ 13 ∧ ∀ e ∈ es, e < ks.length
  | .pair a b _ => a < ks.length ∧ b < ks.length
theorem Wf.leaf {ks : List Kn} {lv : List Lv} (h : Wf ks lv) {f : Nat} (hf : f < 17) : (lv.map Lv.V)[f]? = some (leafAt lv f).V ∧ (leafAt lv f).a.length ≤ 20 ∧ (leafAt lv f).b.length ≤ 20 := by
  have hl : f < lv.length := by rw [h.1]; exact hf
  have e : leafAt lv f = lv[f] := by unfold leafAt; rw [List.getElem?_eq_getElem hl]; rfl
  rw [e]
  refine ⟨by rw [List.getElem?_map, List.getElem?_eq_getElem hl]; rfl, h.2.1 _ (List.getElem_mem _)⟩
theorem Wf.kn {ks : List Kn} {lv : List Lv} (h : Wf ks lv) {i : Nat} (hi : i < ks.length) : (ks.map Kn.V)[i]? = some (knAt ks i).V ∧ knAt ks i ∈ ks := by
  have e : knAt ks i = ks[i] := by unfold knAt; rw [List.getElem?_eq_getElem hi]; rfl
  rw [e]
  exact ⟨by rw [List.getElem?_map, List.getElem?_eq_getElem hi]; rfl, List.getElem_mem _⟩
theorem flen_le {ks : List Kn} {lv : List Lv} (h : Wf ks lv) {i : Nat} (hi : i < ks.length) : blen lv (knAt ks i) ≤ 41 ∧ flen lv (knAt ks i) ≤ 41 := by
  have hm := h.2.2.2 _ (h.kn hi).2
  cases hk : knAt ks i with
  | leaf f =>
    rw [hk] at hm
    have := (h.leaf (f := f) hm).2
    simp only [blen, flen]
    lia
  | lst es z =>
    rw [hk] at hm
    simp only [blen, flen]
    lia
  | pair a b z => simp [blen, flen]
theorem total_le {ks : List Kn} {lv : List Lv} (h : Wf ks lv) : ∀ {l : List Nat}, (∀ k ∈ l, k < ks.length) → total (fun k => flen lv (knAt ks k)) l ≤ 41 * l.length
  | [], _ => by simp [total]
  | k :: l, hl => by
    have h1 := (flen_le h (hl k (.head _))).2
    have h2 := total_le h (l := l) fun k hk => hl k (.tail _ hk)
    simp only [total, List.map_cons, List.sum_cons, List.length_cons] at *
    lia
theorem span_eq {x y y' : Int} (h : y = y') : V.tup [.int x, .int y] = V.tup [.int x, .int y'] := by rw [h]
theorem set_range {n k : Nat} {f g : Nat → V} {y : V} (hk : k < n) (hy : g k = y) (hne : ∀ j, j < n → j ≠ k → g j = f j) : ((List.range n).map f).set k y = (List.range n).map g := by
  apply List.ext_getElem?
  intro j
  rw [List.getElem?_set]
  rcases Nat.lt_or_ge j n with hj | hj
  · rw [List.getElem?_map, List.getElem?_map, List.getElem?_range hj]
    by_cases e : k = j
    · subst e; simp [hy, hj]
    · rw [if_neg e]; simp [hne j hj (fun q => e q.symm)]
  · rw [List.getElem?_eq_none (by simpa using hj), List.getElem?_eq_none (by simpa using hj)]
    by_cases e : k = j
    · lia
    · rw [if_neg e]
theorem places {G : Glob} {fr : List Env} {A : Around} {F : Fz} {a : Addr} {H : Hp} {E : Value → Fz → Hp → Prop} (hlen0 : G.mg (Str.ofString "len") = none) (hlen : G.mb (Str.ofString "len") = some (.builtin "len"))
    (hf : IsDef F (stm 8) a) (hA : Ok fr A 1) {ks : List Kn} {lv : List Lv} {ord : List Nat} (hw : Wf ks lv) (hord : ord.Perm (List.range ks.length)) {Q : V → Fz → Hp → Prop}
    (h : Q (.lst ((List.range ks.length).map (spanV ks lv ord))) F H) :
    Cl G fr A F H (.ref a) [.lst (ks.map Kn.V), .lst (ord.map fun (n : Nat) => .int n), .lst (lv.map Lv.V)] Q E := by
  obtain ⟨c, s, o, pm, hs, hf, hd, hc⟩ := hf
  obtain rfl := Option.some.inj hs.symm
  have hnd : ord.Nodup := hord.nodup_iff.mpr List.nodup_range
  have hmem : ∀ k ∈ ord, k < ks.length := fun k hk => List.mem_range.mp (hord.mem_iff.mp hk)
  have hol : ord.length = ks.length := by rw [hord.length_eq]; simp
  have hk14 := hw.2.2.1
  refine call_def hf hd hc [Str.ofString "knots", Str.ofString "order", Str.ofString "leaves"] [Str.ofString "spans", Str.ofString "at", Str.ofString "index", Str.ofString "kind", Str.ofString "more", Str.ofString "_"] rfl (by decide) (fun vs hv => ?_) (by rfl) (by rfl) hA.room (fun _ => leaves_no) (fun L A' hD => ?_)
  · obtain ⟨a, b, c, rfl⟩ := len3 hv
    rfl
  · simp only [mkRho, List.map]
    have hA := hA.deep hD
    have hh := hA.handled
    refine Ex_cons ?_
    refine Ex_Assign_Name ?_
    refine Ev_BinOp ?_
    refine Ev_List ?_
    refine Evs_cons ?_
    refine Ev_none ?_
    refine Evs_nil ?_
    refine ⟨by exact Nat.le_of_ble_eq_true rfl, ?_⟩
    intro la
    refine' Ev_Call' ?_ ?_ ?_ ?_
    rotate_left 2
    refine Ev_blt (by assumption) (by assumption) .blt ?_
    with_reducible exact Is.mk
    with_reducible exact KOk.blt
    refine' Evs_cons' ?_ ?_
    rotate_left 2
    refine Ev_local (by walk_at "has") (by walk_at "lk") ?_
    with_reducible exact Is.mk
    exact Evs_nil'
    refine len_lst .lst (by simp; lia) ?_
    skip
    refine mul_one (by simp; lia) (by walk_at "rem") fun sa => ?_
    refine' Store.mk ?u ?v ?_
    case u => walk_at "upd"
    case v => walk_at "set"
    with_reducible refine Then.next ?_
    refine Ex_cons ?_
    refine Ex_Assign_Name ?_
    refine Ev_int ?_
    refine' Store.mk ?u ?v ?_
    case u => walk_at "upd"
    case v => walk_at "set"
    with_reducible refine Then.next ?_
    refine Ex_cons ?_
    refine Ex_For noted_no ?_
    refine Ev_local (by walk_at "has") (by walk_at "lk") ?_
    refine ⟨_, iter_lst hh, fun t F2 H2 => F = F2 ∧ ∃ (o1 o2 o3 o4 : Option V), 
      H2 = (sa, .list ((List.range ks.length).map fun j => if j ∈ ord.take t then spanV ks lv ord j else .none)) :: (L, .ns [(Str.ofString "knots", some (.lst (ks.map Kn.V))), (Str.ofString "order", some (.lst (ord.map fun (n : Nat) => .int n))), (Str.ofString "leaves", some (.lst (lv.map Lv.V))), (Str.ofString "spans", some (.ref sa)), (Str.ofString "at", some (.int (1 + total (fun k => flen lv (knAt ks k)) (ord.take t) : Nat))), (Str.ofString "index", o1), (Str.ofString "kind", o2), (Str.ofString "more", o3), (Str.ofString "_", o4)]) :: H,
      ⟨rfl, none, none, none, none, ?_⟩, ?_, ?_⟩
    · have e : ((List.range ks.length).map fun j => if j ∈ ord.take 0 then spanV ks lv ord j else V.none) = List.replicate (ks.map Kn.V).length V.none := by
        simp
        apply List.ext_getElem?
        intro j
        rcases Nat.lt_or_ge j ks.length with hj | hj
        · rw [List.getElem?_map, List.getElem?_range hj, List.getElem?_replicate, if_pos hj]; rfl
        · rw [List.getElem?_eq_none (by simpa using hj), List.getElem?_eq_none (by simpa using hj)]
      rw [e]
      rfl
    · rintro t y F2 H2 hy ⟨rfl, o1, o2, o3, o4, rfl⟩ Qm hm
      rw [List.getElem?_map] at hy
      have ht : t < ord.length := by
        rcases Nat.lt_or_ge t ord.length with q | q
        · exact q
        · rw [List.getElem?_eq_none q] at hy; cases hy
      rw [List.getElem?_eq_getElem ht] at hy
      cases hy
      generalize hkd : ord[t] = k at *
      have hk : k < ks.length := by rw [← hkd]; exact hmem _ (List.getElem_mem _)
      have hsplit : ord = ord.take t ++ k :: ord.drop (t + 1) := by rw [← hkd, List.getElem_cons_drop, List.take_append_drop]
      have hnk : k ∉ ord.take t := by
        intro hm
        rw [hsplit] at hnd
        exact (List.nodup_append.mp hnd).2.2 k hm k (.head _) rfl
      have htk : ord.take (t + 1) = ord.take t ++ [k] := by rw [List.take_succ, List.getElem?_eq_getElem ht, hkd]; rfl
      have htt : total (fun k => flen lv (knAt ks k)) (ord.take (t + 1)) = total (fun k => flen lv (knAt ks k)) (ord.take t) + flen lv (knAt ks k) := by rw [htk]; simp [total]
      have htl : total (fun k => flen lv (knAt ks k)) (ord.take t) ≤ 41 * (ord.take t).length := total_le hw fun k hk => hmem k (List.mem_of_mem_take hk)
      have htl2 : (ord.take t).length ≤ 14 := by rw [List.length_take]; lia
      have hsv : spanV ks lv ord k = .tup [.int (1 + total (fun k => flen lv (knAt ks k)) (ord.take t) : Nat), .int ((1 + total (fun k => flen lv (knAt ks k)) (ord.take t) + blen lv (knAt ks k) : Nat))] := by
        have : offs (fun k => flen lv (knAt ks k)) ord k = total (fun k => flen lv (knAt ks k)) (ord.take t) := by
          conv => lhs; rw [hsplit]
          exact offs_app hnk
        unfold spanV
        rw [this]
      have hset : ∀ y, spanV ks lv ord k = y → ((List.range ks.length).map fun j => if j ∈ ord.take t then spanV ks lv ord j else V.none).set k y = (List.range ks.length).map fun j => if j ∈ ord.take (t + 1) then spanV ks lv ord j else V.none := fun y hy => by
        refine set_range hk ?_ fun j _ hj => ?_
        · rw [htk, if_pos (by simp)]; exact hy
        · rw [htk]
          simp [hj]
      obtain ⟨hkv, hkm⟩ := hw.kn hk
      have hwk := hw.2.2.2 _ hkm
      refine As_Name ?_
      refine' Store.mk ?u ?v ?_
      case u => walk_at "upd"
      case v => walk_at "set"
      refine Ex_cons ?_
      refine Ex_Assign_Tuple (by assumption) rfl rfl ?_
      refine' Ev_Subscript' ?_ ?_ ?_
      rotate_left 2
      refine Ev_local (by walk_at "has") (by walk_at "lk") ?_
      with_reducible exact Is.mk
      refine Ev_local (by walk_at "has") (by walk_at "lk") ?_
      with_reducible exact Is.mk
      refine sub_lstN .lst (by lia) hkv ?_
      cases hkk : knAt ks k with
      | leaf f =>
        rw [hkk] at hwk
        have hwk : f < 17 := hwk
        have hlf := hw.leaf hwk
        refine ⟨_, rfl, rfl, ?_⟩
        refine Stores.cons ?_
        refine' Store.mk ?u ?v ?_
        case u => walk_at "upd"
        case v => walk_at "set"
        refine Stores.cons ?_
        refine' Store.mk ?u ?v ?_
        case u => walk_at "upd"
        case v => walk_at "set"
        refine Stores.cons ?_
        refine' Store.mk ?u ?v ?_
        case u => walk_at "upd"
        case v => walk_at "set"
        refine Stores.nil ?_
        with_reducible refine Then.next ?_
        refine Ex_cons ?_
        refine Ex_If ?_
        refine' It_Compare1' ?_ ?_ ?_
        rotate_left 2
        refine Ev_local (by walk_at "has") (by walk_at "lk") ?_
        with_reducible exact Is.mk
        refine Ev_str ?_
        with_reducible exact Is.mk
        refine eq_ss ?_
        refine ⟨_, rfl, ?_⟩
        refine Bif (fun _ => ?_) fun hx => absurd hx (by decide)
        refine Ex_cons ?_
        refine Ex_Assign_item ?_
        refine' Ev_Tuple' ?_ ?_ ?_
        rotate_left 1
        refine' Evs_cons' ?_ ?_
        rotate_left 2
        refine Ev_local (by walk_at "has") (by walk_at "lk") ?_
        with_reducible exact Is.mk
        refine' Evs_cons' ?_ ?_
        rotate_left 2
        refine' Ev_BinOp' ?_ ?_ ?_
        rotate_left 2
        refine Ev_local (by walk_at "has") (by walk_at "lk") ?_
        with_reducible exact Is.mk
        refine' Ev_Call' ?_ ?_ ?_ ?_
        rotate_left 2
        refine Ev_blt (by assumption) (by assumption) .blt ?_
        with_reducible exact Is.mk
        with_reducible exact KOk.blt
        refine' Evs_cons' ?_ ?_
        rotate_left 2
        refine' Ev_Subscript' ?_ ?_ ?_
        rotate_left 2
        refine' Ev_Subscript' ?_ ?_ ?_
        rotate_left 2
        refine Ev_local (by walk_at "has") (by walk_at "lk") ?_
        with_reducible exact Is.mk
        refine Ev_local (by walk_at "has") (by walk_at "lk") ?_
        with_reducible exact Is.mk
        refine sub_lstN .lst (by lia) hlf.1 ?_
        with_reducible exact Is.mk
        refine Ev_int ?_
        with_reducible exact Is.mk
        refine sub_tup (by decide) (by decide) rfl ?_
        with_reducible exact Is.mk
        exact Evs_nil'
        refine len_s (by lia) ?_
        with_reducible exact Is.mk
        refine add_ii ?_
        with_reducible exact Is.mk
        exact Evs_nil'
        exact Nat.le_of_ble_eq_true rfl
        refine Ev_local (by walk_at "has") (by walk_at "lk") ?_
        refine Ev_local (by walk_at "has") (by walk_at "lk") ?_
        skip
        refine ⟨sa, (List.range ks.length).map fun j => if j ∈ ord.take t then spanV ks lv ord j else .none, _, _, rfl, rfl, by lia, by simp; lia, by simp; lia, by walk_at "upd", ?_⟩
        with_reducible refine Then.next ?_
        refine Ex_cons ?_
        refine Ex_AugAssign (by walk_at "has") (by walk_at "lk") ?_
        refine' Ev_BinOp' ?_ ?_ ?_
        rotate_left 2
        refine' Ev_Call' ?_ ?_ ?_ ?_
        rotate_left 2
        refine Ev_blt (by assumption) (by assumption) .blt ?_
        with_reducible exact Is.mk
        with_reducible exact KOk.blt
        refine' Evs_cons' ?_ ?_
        rotate_left 2
        refine' Ev_Subscript' ?_ ?_ ?_
        rotate_left 2
        refine' Ev_Subscript' ?_ ?_ ?_
        rotate_left 2
        refine Ev_local (by walk_at "has") (by walk_at "lk") ?_
        with_reducible exact Is.mk
        refine Ev_local (by walk_at "has") (by walk_at "lk") ?_
        with_reducible exact Is.mk
        refine sub_lstN .lst (by lia) hlf.1 ?_
        with_reducible exact Is.mk
        refine Ev_int ?_
        with_reducible exact Is.mk
        refine sub_tup (by decide) (by decide) rfl ?_
        with_reducible exact Is.mk
        exact Evs_nil'
        refine len_s (by lia) ?_
        with_reducible exact Is.mk
        refine' Ev_Call' ?_ ?_ ?_ ?_
        rotate_left 2
        refine Ev_blt (by assumption) (by assumption) .blt ?_
        with_reducible exact Is.mk
        with_reducible exact KOk.blt
        refine' Evs_cons' ?_ ?_
        rotate_left 2
        refine' Ev_Subscript' ?_ ?_ ?_
        rotate_left 2
        refine' Ev_Subscript' ?_ ?_ ?_
        rotate_left 2
        refine Ev_local (by walk_at "has") (by walk_at "lk") ?_
        with_reducible exact Is.mk
        refine Ev_local (by walk_at "has") (by walk_at "lk") ?_
        with_reducible exact Is.mk
        refine sub_lstN .lst (by lia) hlf.1 ?_
        with_reducible exact Is.mk
        refine Ev_int ?_
        with_reducible exact Is.mk
        refine sub_tup (by decide) (by decide) rfl ?_
        with_reducible exact Is.mk
        exact Evs_nil'
        refine len_s (by lia) ?_
        with_reducible exact Is.mk
        refine add_ii ?_
        refine iadd_ii ?_
        refine' Store.mk ?u ?v ?_
        case u => walk_at "upd"
        case v => walk_at "set"
        with_reducible refine Then.next ?_
        refine Ex_nil ?_
        with_reducible refine Then.next ?_
        refine Ex_nil ?_
        with_reducible refine Turn.next ?_
        refine hm _ _ ⟨rfl, some (.int k), some (.str "leaf"), some (.int f), some (.int 1), ?_⟩
        rw [Int.toNat_natCast, hset _ (by rw [hsv]; simp only [hkk, blen]; simp), htt]
        simp only [hkk, flen]
        simp [Int.add_assoc]
      | lst es z =>
        rw [hkk] at hwk
        have hwk : es.length ≤ 13 := hwk.1
        refine ⟨_, rfl, rfl, ?_⟩
        refine Stores.cons ?_
        refine' Store.mk ?u ?v ?_
        case u => walk_at "upd"
        case v => walk_at "set"
        refine Stores.cons ?_
        refine' Store.mk ?u ?v ?_
        case u => walk_at "upd"
        case v => walk_at "set"
        refine Stores.cons ?_
        refine' Store.mk ?u ?v ?_
        case u => walk_at "upd"
        case v => walk_at "set"
        refine Stores.nil ?_
        with_reducible refine Then.next ?_
        refine Ex_cons ?_
        refine Ex_If ?_
        refine' It_Compare1' ?_ ?_ ?_
        rotate_left 2
        refine Ev_local (by walk_at "has") (by walk_at "lk") ?_
        with_reducible exact Is.mk
        refine Ev_str ?_
        with_reducible exact Is.mk
        refine eq_ss ?_
        refine ⟨_, rfl, ?_⟩
        refine Bif (fun hx => absurd hx (by decide)) fun _ => ?_
        refine Ex_cons ?_
        refine Ex_Assign_item ?_
        refine' Ev_Tuple' ?_ ?_ ?_
        rotate_left 1
        refine' Evs_cons' ?_ ?_
        rotate_left 2
        refine Ev_local (by walk_at "has") (by walk_at "lk") ?_
        with_reducible exact Is.mk
        refine' Evs_cons' ?_ ?_
        rotate_left 2
        refine' Ev_BinOp' ?_ ?_ ?_
        rotate_left 2
        refine' Ev_BinOp' ?_ ?_ ?_
        rotate_left 2
        refine Ev_local (by walk_at "has") (by walk_at "lk") ?_
        with_reducible exact Is.mk
        refine Ev_int ?_
        with_reducible exact Is.mk
        refine add_ii ?_
        with_reducible exact Is.mk
        refine' Ev_BinOp' ?_ ?_ ?_
        rotate_left 2
        refine Ev_int ?_
        with_reducible exact Is.mk
        refine' Ev_Call' ?_ ?_ ?_ ?_
        rotate_left 2
        refine Ev_blt (by assumption) (by assumption) .blt ?_
        with_reducible exact Is.mk
        with_reducible exact KOk.blt
        refine' Evs_cons' ?_ ?_
        rotate_left 2
        refine Ev_local (by walk_at "has") (by walk_at "lk") ?_
        with_reducible exact Is.mk
        exact Evs_nil'
        refine len_lst .lst (by simp; lia) ?_
        with_reducible exact Is.mk
        refine mul_ii (.of_left (by decide)) ?_
        with_reducible exact Is.mk
        refine add_ii ?_
        with_reducible exact Is.mk
        exact Evs_nil'
        exact Nat.le_of_ble_eq_true rfl
        refine Ev_local (by walk_at "has") (by walk_at "lk") ?_
        refine Ev_local (by walk_at "has") (by walk_at "lk") ?_
        skip
        refine ⟨sa, (List.range ks.length).map fun j => if j ∈ ord.take t then spanV ks lv ord j else .none, _, _, rfl, rfl, by lia, by simp; lia, by simp; lia, by walk_at "upd", ?_⟩
        with_reducible refine Then.next ?_
        refine Ex_cons ?_
        refine Ex_AugAssign (by walk_at "has") (by walk_at "lk") ?_
        refine' Ev_BinOp' ?_ ?_ ?_
        rotate_left 2
        refine Ev_int ?_
        with_reducible exact Is.mk
        refine' Ev_BinOp' ?_ ?_ ?_
        rotate_left 2
        refine Ev_int ?_
        with_reducible exact Is.mk
        refine' Ev_Call' ?_ ?_ ?_ ?_
        rotate_left 2
        refine Ev_blt (by assumption) (by assumption) .blt ?_
        with_reducible exact Is.mk
        with_reducible exact KOk.blt
        refine' Evs_cons' ?_ ?_
        rotate_left 2
        refine Ev_local (by walk_at "has") (by walk_at "lk") ?_
        with_reducible exact Is.mk
        exact Evs_nil'
        refine len_lst .lst (by simp; lia) ?_
        with_reducible exact Is.mk
        refine mul_ii (.of_left (by decide)) ?_
        with_reducible exact Is.mk
        refine add_ii ?_
        refine iadd_ii ?_
        refine' Store.mk ?u ?v ?_
        case u => walk_at "upd"
        case v => walk_at "set"
        with_reducible refine Then.next ?_
        refine Ex_nil ?_
        with_reducible refine Then.next ?_
        refine Ex_nil ?_
        with_reducible refine Turn.next ?_
        refine hm _ _ ⟨rfl, some (.int k), some (.str "list"), some (.lst (es.map fun (n : Nat) => .int n)), some (.int z), ?_⟩
        rw [Int.toNat_natCast, hset _ (by rw [hsv]; simp only [hkk, blen]; refine span_eq ?_; simp only [List.length_map, List.length_cons, List.length_nil]; lia), htt]
        simp only [hkk, flen]
        simp [Int.add_assoc]
      | pair e1 e2 z =>
        rw [hkk] at hwk
        refine ⟨_, rfl, rfl, ?_⟩
        refine Stores.cons ?_
        refine' Store.mk ?u ?v ?_
        case u => walk_at "upd"
        case v => walk_at "set"
        refine Stores.cons ?_
        refine' Store.mk ?u ?v ?_
        case u => walk_at "upd"
        case v => walk_at "set"
        refine Stores.cons ?_
        refine' Store.mk ?u ?v ?_
        case u => walk_at "upd"
        case v => walk_at "set"
        refine Stores.nil ?_
        with_reducible refine Then.next ?_
        refine Ex_cons ?_
        refine Ex_If ?_
        refine' It_Compare1' ?_ ?_ ?_
        rotate_left 2
        refine Ev_local (by walk_at "has") (by walk_at "lk") ?_
        with_reducible exact Is.mk
        refine Ev_str ?_
        with_reducible exact Is.mk
        refine eq_ss ?_
        refine ⟨_, rfl, ?_⟩
        refine Bif (fun hx => absurd hx (by decide)) fun _ => ?_
        refine Ex_cons ?_
        refine Ex_Assign_item ?_
        refine' Ev_Tuple' ?_ ?_ ?_
        rotate_left 1
        refine' Evs_cons' ?_ ?_
        rotate_left 2
        refine Ev_local (by walk_at "has") (by walk_at "lk") ?_
        with_reducible exact Is.mk
        refine' Evs_cons' ?_ ?_
        rotate_left 2
        refine' Ev_BinOp' ?_ ?_ ?_
        rotate_left 2
        refine' Ev_BinOp' ?_ ?_ ?_
        rotate_left 2
        refine Ev_local (by walk_at "has") (by walk_at "lk") ?_
        with_reducible exact Is.mk
        refine Ev_int ?_
        with_reducible exact Is.mk
        refine add_ii ?_
        with_reducible exact Is.mk
        refine' Ev_BinOp' ?_ ?_ ?_
        rotate_left 2
        refine Ev_int ?_
        with_reducible exact Is.mk
        refine' Ev_Call' ?_ ?_ ?_ ?_
        rotate_left 2
        refine Ev_blt (by assumption) (by assumption) .blt ?_
        with_reducible exact Is.mk
        with_reducible exact KOk.blt
        refine' Evs_cons' ?_ ?_
        rotate_left 2
        refine Ev_local (by walk_at "has") (by walk_at "lk") ?_
        with_reducible exact Is.mk
        exact Evs_nil'
        refine len_lst .lst (by simp) ?_
        with_reducible exact Is.mk
        refine mul_ii (.of_left (by decide)) ?_
        with_reducible exact Is.mk
        refine add_ii ?_
        with_reducible exact Is.mk
        exact Evs_nil'
        exact Nat.le_of_ble_eq_true rfl
        refine Ev_local (by walk_at "has") (by walk_at "lk") ?_
        refine Ev_local (by walk_at "has") (by walk_at "lk") ?_
        skip
        refine ⟨sa, (List.range ks.length).map fun j => if j ∈ ord.take t then spanV ks lv ord j else .none, _, _, rfl, rfl, by lia, by simp; lia, by simp; lia, by walk_at "upd", ?_⟩
        with_reducible refine Then.next ?_
        refine Ex_cons ?_
        refine Ex_AugAssign (by walk_at "has") (by walk_at "lk") ?_
        refine' Ev_BinOp' ?_ ?_ ?_
        rotate_left 2
        refine Ev_int ?_
        with_reducible exact Is.mk
        refine' Ev_BinOp' ?_ ?_ ?_
        rotate_left 2
        refine Ev_int ?_
        with_reducible exact Is.mk
        refine' Ev_Call' ?_ ?_ ?_ ?_
        rotate_left 2
        refine Ev_blt (by assumption) (by assumption) .blt ?_
        with_reducible exact Is.mk
        with_reducible exact KOk.blt
        refine' Evs_cons' ?_ ?_
        rotate_left 2
        refine Ev_local (by walk_at "has") (by walk_at "lk") ?_
        with_reducible exact Is.mk
        exact Evs_nil'
        refine len_lst .lst (by simp) ?_
        with_reducible exact Is.mk
        refine mul_ii (.of_left (by decide)) ?_
        with_reducible exact Is.mk
        refine add_ii ?_
        refine iadd_ii ?_
        refine' Store.mk ?u ?v ?_
        case u => walk_at "upd"
        case v => walk_at "set"
        with_reducible refine Then.next ?_
        refine Ex_nil ?_
        with_reducible refine Then.next ?_
        refine Ex_nil ?_
        with_reducible refine Turn.next ?_
        refine hm _ _ ⟨rfl, some (.int k), some (.str "pair"), some (.lst [.int e1, .int e2]), some (.int z), ?_⟩
        rw [Int.toNat_natCast, hset _ (by rw [hsv]; simp only [hkk, blen]; refine span_eq ?_; simp only [List.length_map, List.length_cons, List.length_nil]; lia), htt]
        simp only [hkk, flen]
        simp [Int.add_assoc]
    · rintro F2 H2 ⟨rfl, o1, o2, o3, o4, rfl⟩
      have e : ((List.range ks.length).map fun j => if j ∈ ord.take (ord.map fun (n : Nat) => V.int n).length then spanV ks lv ord j else V.none) = (List.range ks.length).map (spanV ks lv ord) := by
        refine List.map_congr_left fun j hj => ?_
        rw [List.length_map, List.take_length, if_pos (hord.mem_iff.mpr hj)]
      rw [e]
      with_reducible refine Then.next ?_
      refine Ex_cons ?_
      refine' Ex_freeze (a := sa) (Str.ofString "spans") ?r9 ?u9 ?l9 ?s9 ?_
      case r9 => walk_at "rem"
      case u9 => walk_at "upd"
      case l9 => walk_at "lk"
      case s9 => walk_at "set"
      refine Ex_Return ?_
      refine Ev_local (by walk_at "has") (by walk_at "lk") ?_
      with_reducible refine Then.ret ?_
      exact ⟨_, _, .hd, h⟩
noncomputable def d3 (p : Nat) : Str := Txt.slice (Str.ofString (toString ((1000 : Int) + (p : Int)))) (some 1) none
noncomputable def posOf (ks : List Kn) (lv : List Lv) (ord : List Nat) (j : Nat) : Nat := 1 + offs (fun k => flen lv (knAt ks k)) ord j
noncomputable def fullT (ks : List Kn) (lv : List Lv) (ord : List Nat) : Kn → Str
  | .leaf f => (leafAt lv f).a ++ (leafAt lv f).b
  | .lst es _ => "[" ++ Txt.join "" (es.map fun e => d3 (posOf ks lv ord e)) ++ "]"
  | .pair a b _ => "{" ++ Txt.join "" ([a, b].map fun e => d3 (posOf ks lv ord e)) ++ "}"
noncomputable def textT (ks : List Kn) (lv : List Lv) (ord : List Nat) (l : List Nat) : Str := l.foldl (fun t k => t ++ fullT ks lv ord (knAt ks k)) "x"
theorem fold_len {f : Nat → Str} : ∀ (l : List Nat) (t : Str), (∀ k ∈ l, (f k).length ≤ 41) → (l.foldl (fun t k => t ++ f k) t).length ≤ t.length + 41 * l.length
  | [], t, _ => by simp
  | k :: l, t, h => by
    have h1 := h k (.head _)
    have h2 := fold_len l (t ++ f k) fun k hk => h k (.tail _ hk)
    rw [strLen_append] at h2
    rw [List.foldl_cons, List.length_cons]
    lia
theorem textT_len {ks : List Kn} {lv : List Lv} {ord l : List Nat} (h : ∀ k ∈ l, (fullT ks lv ord (knAt ks k)).length ≤ 41) : (textT ks lv ord l).length ≤ 1 + 41 * l.length := fold_len (f := fun k => fullT ks lv ord (knAt ks k)) l "x" h
theorem offs_le {ks : List Kn} {lv : List Lv} (h : Wf ks lv) (j : Nat) : ∀ {l : List Nat}, (∀ k ∈ l, k < ks.length) → offs (fun k => flen lv (knAt ks k)) l j ≤ 41 * l.length
  | [], _ => by simp [offs]
  | k :: l, hl => by
    have h1 := (flen_le h (hl k (.head _))).2
    have h2 := offs_le h j (l := l) fun k hk => hl k (.tail _ hk)
    unfold offs
    rw [List.length_cons]
    split <;> lia
theorem toString_len {p : Nat} (h : p ≤ 8000) : (Str.ofString (toString ((1000 : Int) + (p : Int)))).length ≤ 16777216 := by
  have := len_str_of_int ((1000 : Int) + (p : Int))
  lia
theorem knot_kind {ks : List Kn} {lv : List Lv} {ord : List Nat} {n : Nat} {k : Kn} (h : match k with
  | .leaf f => f < 17
  | .lst es _ => es.length ≤ 13 ∧ ∀ e ∈ es, e < n
  | .pair a b _ => a < n ∧ b < n) : (∃ f, k = .leaf f) ∨ ∃ (kd : Str) (es : List Nat) (z : Int), k.V = .tup [.str kd, .lst (es.map fun (e : Nat) => .int e), .int z] ∧
    ((kd = "list" ∧ fullT ks lv ord k = "[" ++ Txt.join "" (es.map fun e => d3 (posOf ks lv ord e)) ++ "]") ∨ (kd = "pair" ∧ fullT ks lv ord k = "{" ++ Txt.join "" (es.map fun e => d3 (posOf ks lv ord e)) ++ "}")) ∧ es.length ≤ 13 ∧ ∀ e ∈ es, e < n := by
  cases k with
  | leaf f => exact .inl ⟨f, rfl⟩
  | lst es z => exact .inr ⟨"list", es, z, rfl, .inl ⟨rfl, rfl⟩, h.1, h.2⟩
  | pair a b z => exact .inr ⟨"pair", [a, b], z, rfl, .inr ⟨rfl, rfl⟩, by simp, by simp; exact h⟩
theorem write {G : Glob} {fr : List Env} {A : Around} {F : Fz} {a : Addr} {H : Hp} {E : Value → Fz → Hp → Prop} (hs0 : G.mg (Str.ofString "str") = none) (hsb : G.mb (Str.ofString "str") = some (.type "str"))
    (hf : IsDef F (stm 9) a) (hA : Ok fr A 1) {ks : List Kn} {lv : List Lv} {ord : List Nat} (hw : Wf ks lv) (hord : ord.Perm (List.range ks.length)) {Q : V → Fz → Hp → Prop}
    (hfl : ∀ k, k < ks.length → (fullT ks lv ord (knAt ks k)).length ≤ 41) (hjo : ∀ es : List Nat, es.length ≤ 13 → (∀ e ∈ es, e < ks.length) → JoinOk "" (es.map fun e => d3 (posOf ks lv ord e)) = true)
    (h : Q (.str (textT ks lv ord ord)) F H) :
    Cl G fr A F H (.ref a) [.lst (ks.map Kn.V), .lst (ord.map fun (n : Nat) => .int n), .lst (lv.map Lv.V), .lst ((List.range ks.length).map (spanV ks lv ord))] Q E := by
  obtain ⟨c, s, o, pm, hs, hf, hd, hc⟩ := hf
  obtain rfl := Option.some.inj hs.symm
  have hmem : ∀ k ∈ ord, k < ks.length := fun k hk => List.mem_range.mp (hord.mem_iff.mp hk)
  have hol : ord.length = ks.length := by rw [hord.length_eq]; simp
  have hk14 := hw.2.2.1
  refine call_cells hf hd hc [true, true, true, false] [Str.ofString "knots", Str.ofString "order", Str.ofString "leaves", Str.ofString "spans"] [Str.ofString "text", Str.ofString "index", Str.ofString "kind", Str.ofString "more", Str.ofString "_", Str.ofString "row"] [Str.ofString "spans"] rfl (by decide) (by decide) (fun vs hv => ?_) (by rfl) (by rfl) (fun n => rfl) (by decide) (by rfl) rfl hA.room (fun _ _ => leaves_no) (fun L cs A' hcs hD => ?_)
  · obtain ⟨a, b, c, d, rfl⟩ := len4 hv
    rfl
  ·
      obtain ⟨cz, e⟩ := len1 hcs
      subst e
      simp only [mkRhoB, List.map, initB, List.zip, List.zipWith, List.cons_append, List.nil_append, if_true]
      have hA := hA.deep hD
      have hh := hA.handled
      refine Ex_cons ?_
      refine Ex_Assign_Name ?_
      refine Ev_str ?_
      refine' Store.mk ?u ?v ?_
      case u => walk_at "upd"
      case v => walk_at "set"
      with_reducible refine Then.next ?_
      refine Ex_cons ?_
      refine Ex_For noted_no ?_
      refine Ev_local (by walk_at "has") (by walk_at "lk") ?_
      refine ⟨_, iter_lst hh, fun t F2 H2 => F = F2 ∧ ∃ (o1 o2 o3 o4 o5 : Option V), 
        H2 = (L, .ns [(Str.ofString "knots", some (.lst (ks.map Kn.V))), (Str.ofString "order", some (.lst (ord.map fun (n : Nat) => .int n))), (Str.ofString "leaves", some (.lst (lv.map Lv.V))), (Str.ofString "text", some (.str (textT ks lv ord (ord.take t)))), (Str.ofString "index", o1), (Str.ofString "kind", o2), (Str.ofString "more", o3), (Str.ofString "_", o4), (Str.ofString "row", o5)]) :: (cz, .cell (some (.lst ((List.range ks.length).map (spanV ks lv ord))))) :: H,
        ⟨rfl, none, none, none, none, none, ?_⟩, ?_, ?_⟩
      · rfl
      · rintro t y F2 H2 hy ⟨rfl, o1, o2, o3, o4, o5, rfl⟩ Qm hm
        rw [List.getElem?_map] at hy
        have ht : t < ord.length := by
          rcases Nat.lt_or_ge t ord.length with q | q
          · exact q
          · rw [List.getElem?_eq_none q] at hy; cases hy
        rw [List.getElem?_eq_getElem ht] at hy
        cases hy
        generalize hkd : ord[t] = k at *
        have hk : k < ks.length := by rw [← hkd]; exact hmem _ (List.getElem_mem _)
        have htk : ord.take (t + 1) = ord.take t ++ [k] := by rw [List.take_succ, List.getElem?_eq_getElem ht, hkd]; rfl
        have htt : textT ks lv ord (ord.take (t + 1)) = textT ks lv ord (ord.take t) ++ fullT ks lv ord (knAt ks k) := by rw [htk]; simp [textT]
        obtain ⟨hkv, hkm⟩ := hw.kn hk
        have hwk := hw.2.2.2 _ hkm
        have hfk := hfl k hk
        have htl : (textT ks lv ord (ord.take t)).length ≤ 1 + 41 * (ord.take t).length := textT_len fun k hk => hfl k (hmem k (List.mem_of_mem_take hk))
        have htl2 : (ord.take t).length ≤ 14 := by rw [List.length_take]; lia
        refine As_Name ?_
        refine' Store.mk ?u ?v ?_
        case u => walk_at "upd"
        case v => walk_at "set"
        refine Ex_cons ?_
        refine Ex_Assign_Tuple (by assumption) rfl rfl ?_
        refine' Ev_Subscript' ?_ ?_ ?_
        rotate_left 2
        refine Ev_local (by walk_at "has") (by walk_at "lk") ?_
        with_reducible exact Is.mk
        refine Ev_local (by walk_at "has") (by walk_at "lk") ?_
        with_reducible exact Is.mk
        refine sub_lstN .lst (by lia) hkv ?_
        rcases knot_kind (ks := ks) (lv := lv) (ord := ord) hwk with ⟨f, hkk⟩ | ⟨kd, es, z, hV, hft, hwk1, hwk2⟩
        · rw [hkk]
          rw [hkk] at hwk
          have hwk : f < 17 := hwk
          have hlf := hw.leaf hwk
          refine ⟨_, rfl, rfl, ?_⟩
          refine Stores.cons ?_
          refine' Store.mk ?u ?v ?_
          case u => walk_at "upd"
          case v => walk_at "set"
          refine Stores.cons ?_
          refine' Store.mk ?u ?v ?_
          case u => walk_at "upd"
          case v => walk_at "set"
          refine Stores.cons ?_
          refine' Store.mk ?u ?v ?_
          case u => walk_at "upd"
          case v => walk_at "set"
          refine Stores.nil ?_
          with_reducible refine Then.next ?_
          refine Ex_cons ?_
          refine Ex_If ?_
          refine' It_Compare1' ?_ ?_ ?_
          rotate_left 2
          refine Ev_local (by walk_at "has") (by walk_at "lk") ?_
          with_reducible exact Is.mk
          refine Ev_str ?_
          with_reducible exact Is.mk
          refine eq_ss ?_
          refine ⟨_, rfl, ?_⟩
          refine Bif (fun _ => ?_) fun hx => absurd hx (by decide)
          refine Ex_cons ?_
          refine Ex_AugAssign (by walk_at "has") (by walk_at "lk") ?_
          refine' Ev_BinOp' ?_ ?_ ?_
          rotate_left 2
          refine' Ev_Subscript' ?_ ?_ ?_
          rotate_left 2
          refine' Ev_Subscript' ?_ ?_ ?_
          rotate_left 2
          refine Ev_local (by walk_at "has") (by walk_at "lk") ?_
          with_reducible exact Is.mk
          refine Ev_local (by walk_at "has") (by walk_at "lk") ?_
          with_reducible exact Is.mk
          refine sub_lstN .lst (by lia) hlf.1 ?_
          with_reducible exact Is.mk
          refine Ev_int ?_
          with_reducible exact Is.mk
          refine sub_tup (by decide) (by decide) rfl ?_
          with_reducible exact Is.mk
          refine' Ev_Subscript' ?_ ?_ ?_
          rotate_left 2
          refine' Ev_Subscript' ?_ ?_ ?_
          rotate_left 2
          refine Ev_local (by walk_at "has") (by walk_at "lk") ?_
          with_reducible exact Is.mk
          refine Ev_local (by walk_at "has") (by walk_at "lk") ?_
          with_reducible exact Is.mk
          refine sub_lstN .lst (by lia) hlf.1 ?_
          with_reducible exact Is.mk
          refine Ev_int ?_
          with_reducible exact Is.mk
          refine sub_tup (by decide) (by decide) rfl ?_
          with_reducible exact Is.mk
          refine add_ss (by show _ ≤ 16777216; lia) ?_
          skip
          refine iadd_ss (by rw [strLen_append]; show _ ≤ 16777216; lia) ?_
          refine' Store.mk ?u ?v ?_
          case u => walk_at "upd"
          case v => walk_at "set"
          with_reducible refine Then.next ?_
          refine Ex_nil ?_
          with_reducible refine Then.next ?_
          refine Ex_nil ?_
          with_reducible refine Turn.next ?_
          refine hm _ _ ⟨rfl, some (.int k), some (.str "leaf"), some (.int f), some (.int 1), o5, ?_⟩
          rw [htt, hkk]
          rfl
        · rw [hV]
          have hps : ∀ e, posOf ks lv ord e ≤ 600 := fun e => by
            have := offs_le hw e (l := ord) hmem
            unfold posOf
            lia
          refine ⟨_, rfl, rfl, ?_⟩
          refine Stores.cons ?_
          refine' Store.mk ?u ?v ?_
          case u => walk_at "upd"
          case v => walk_at "set"
          refine Stores.cons ?_
          refine' Store.mk ?u ?v ?_
          case u => walk_at "upd"
          case v => walk_at "set"
          refine Stores.cons ?_
          refine' Store.mk ?u ?v ?_
          case u => walk_at "upd"
          case v => walk_at "set"
          refine Stores.nil ?_
          with_reducible refine Then.next ?_
          refine Ex_cons ?_
          refine Ex_If ?_
          refine' It_Compare1' ?_ ?_ ?_
          rotate_left 2
          refine Ev_local (by walk_at "has") (by walk_at "lk") ?_
          with_reducible exact Is.mk
          refine Ev_str ?_
          with_reducible exact Is.mk
          refine eq_ss ?_
          refine ⟨_, rfl, ?_⟩
          refine Bif (fun hx => ?_) fun _ => ?_
          · rcases hft with ⟨rfl, _⟩ | ⟨rfl, _⟩ <;> exact absurd hx (by decide)
          refine Ex_cons ?_
          refine Ex_Assign_Name ?_
          refine Ev_method ?_
          refine Ev_str ?_
          refine ⟨"str", _, PySem.F.plainAttrs_str, PySem.F.slot_str_join, PySem.F.type_str_join, .str, ?_⟩
          refine Evs_cons ?_
          refine Ev_map [Str.ofString ".0", Str.ofString "elder"] rfl ?_ (by decide)
          refine Ev_local (by walk_at "has") (by walk_at "lk") ?_
          refine ⟨_, iter_lst hh, by simp [sizeLine]; lia, fun j => V.str (d3 (posOf ks lv ord (es.getD j 0))), ?_, ?_⟩
          · intro j y C ρ hy hρ
            rw [List.getElem?_map] at hy
            obtain ⟨e, he, rfl⟩ : ∃ e, es[j]? = some e ∧ y = .int e := by
              cases hx : es[j]? with
              | none => rw [hx] at hy; cases hy
              | some e => rw [hx] at hy; cases hy; exact ⟨e, rfl, rfl⟩
            have hek := hwk2 e (List.mem_of_getElem? he)
            have hps' := hps e
            have hgd : es.getD j 0 = e := by rw [List.getD_eq_getElem?_getD, he]; rfl
            obtain ⟨r0, r1, rfl⟩ := nm2 hρ
            refine As_Name ?_
            refine' Store.mk Upd.hd ?v ?_
            case v => walk_at "set"
            refine Ev_slice_str ?_
            refine' Ev_Call' ?_ ?_ ?_ ?_
            rotate_left 2
            refine Ev_blt (by assumption) (by assumption) .typ ?_
            with_reducible exact Is.mk
            with_reducible exact KOk.typ
            refine' Evs_cons' ?_ ?_
            rotate_left 2
            refine' Ev_BinOp' ?_ ?_ ?_
            rotate_left 2
            refine Ev_int ?_
            with_reducible exact Is.mk
            refine' Ev_Subscript' ?_ ?_ ?_
            rotate_left 2
            refine' Ev_Subscript' ?_ ?_ ?_
            rotate_left 2
            refine Ev_cell rfl (by walk_at "has") ?_
            with_reducible exact Is.mk
            refine Ev_local Has.hd (by walk_at "lk") ?_
            with_reducible exact Is.mk
            refine sub_lstN .lst (by lia) (by rw [List.getElem?_map, List.getElem?_range hek]; rfl) ?_
            with_reducible exact Is.mk
            refine Ev_int ?_
            with_reducible exact Is.mk
            refine sub_tup (by decide) (by decide) rfl ?_
            with_reducible exact Is.mk
            refine add_ii ?_
            with_reducible exact Is.mk
            exact Evs_nil'
            refine str_int ?_ (by show ((1000 : Int) + ((posOf ks lv ord e : Nat) : Int)).natAbs < _; lia)
            refine ⟨_, rfl, toString_len (p := posOf ks lv ord e) (by lia), ?_⟩
            refine EvP_some ?_
            refine Ev_int ?_
            refine ⟨_, rfl, ?_⟩
            refine EvP_none ?_
            exact ⟨rfl, _, _, .hd, rfl, by show _ = V.str (d3 (posOf ks lv ord (es.getD j 0))); rw [hgd]; rfl, rfl⟩
          · have e0 : (List.range (es.map fun (n : Nat) => V.int n).length).map (fun j => V.str (d3 (posOf ks lv ord (es.getD j 0)))) = (es.map fun e => d3 (posOf ks lv ord e)).map .str := by
              rw [List.length_map, List.map_map]
              apply List.ext_getElem
              · simp
              · intro j h1 h2
                simp at h1
                simp [List.getD_eq_getElem?_getD, List.getElem?_eq_getElem h1]
            rw [e0]
            refine Evs_nil ?_
            refine join_s (hjo _ hwk1 hwk2) ?_
            refine' Store.mk ?u ?v ?_
            case u => walk_at "upd"
            case v => walk_at "set"
            with_reducible refine Then.next ?_
            refine Ex_cons ?_
            refine Ex_AugAssign (by walk_at "has") (by walk_at "lk") ?_
            refine Ev_IfExp ?_
            refine' It_Compare1' ?_ ?_ ?_
            rotate_left 2
            refine Ev_local (by walk_at "has") (by walk_at "lk") ?_
            with_reducible exact Is.mk
            refine Ev_str ?_
            with_reducible exact Is.mk
            refine eq_ss ?_
            refine ⟨_, rfl, ?_⟩
            have hJ : (Txt.join "" (es.map fun e => d3 (posOf ks lv ord e))).length ≤ 41 := by
              rcases hft with ⟨_, e⟩ | ⟨_, e⟩ <;> (rw [e, strLen_append, strLen_append] at hfk; lia)
            refine Bif (fun BB => ?_) fun BB => ?_
            · refine' Ev_BinOp' ?_ ?_ ?_
              rotate_left 2
              refine' Ev_BinOp' ?_ ?_ ?_
              rotate_left 2
              refine Ev_str ?_
              with_reducible exact Is.mk
              refine Ev_local (by walk_at "has") (by walk_at "lk") ?_
              with_reducible exact Is.mk
              refine add_ss (by show 1 + _ ≤ 16777216; lia) ?_
              with_reducible exact Is.mk
              refine Ev_str ?_
              with_reducible exact Is.mk
              refine add_ss (by rw [strLen_append]; show 1 + _ + 1 ≤ 16777216; lia) ?_
              skip
              rcases hft with ⟨rfl, hft⟩ | ⟨rfl, _⟩
              · refine iadd_ss (by rw [hft] at hfk; show _ + (_ ++ _ ++ _ : Str).length ≤ 16777216; lia) ?_
                refine' Store.mk ?u ?v ?_
                case u => walk_at "upd"
                case v => walk_at "set"
                with_reducible refine Then.next ?_
                refine Ex_nil ?_
                with_reducible refine Then.next ?_
                refine Ex_nil ?_
                with_reducible refine Turn.next ?_
                refine hm _ _ ⟨rfl, some (.int k), some (.str "list"), some (.lst (es.map fun (n : Nat) => .int n)), some (.int z), some (.str (Txt.join "" (es.map fun e => d3 (posOf ks lv ord e)))), ?_⟩
                rw [htt, hft]
              · exact absurd BB (by decide)
            · refine' Ev_BinOp' ?_ ?_ ?_
              rotate_left 2
              refine' Ev_BinOp' ?_ ?_ ?_
              rotate_left 2
              refine Ev_str ?_
              with_reducible exact Is.mk
              refine Ev_local (by walk_at "has") (by walk_at "lk") ?_
              with_reducible exact Is.mk
              refine add_ss (by show 1 + _ ≤ 16777216; lia) ?_
              with_reducible exact Is.mk
              refine Ev_str ?_
              with_reducible exact Is.mk
              refine add_ss (by rw [strLen_append]; show 1 + _ + 1 ≤ 16777216; lia) ?_
              skip
              rcases hft with ⟨rfl, _⟩ | ⟨rfl, hft⟩
              · exact absurd BB (by decide)
              · refine iadd_ss (by rw [hft] at hfk; show _ + (_ ++ _ ++ _ : Str).length ≤ 16777216; lia) ?_
                refine' Store.mk ?u ?v ?_
                case u => walk_at "upd"
                case v => walk_at "set"
                with_reducible refine Then.next ?_
                refine Ex_nil ?_
                with_reducible refine Then.next ?_
                refine Ex_nil ?_
                with_reducible refine Turn.next ?_
                refine hm _ _ ⟨rfl, some (.int k), some (.str "pair"), some (.lst (es.map fun (n : Nat) => .int n)), some (.int z), some (.str (Txt.join "" (es.map fun e => d3 (posOf ks lv ord e)))), ?_⟩
                rw [htt, hft]
      · rintro F2 H2 ⟨rfl, o1, o2, o3, o4, o5, rfl⟩
        rw [List.length_map, List.take_length]
        with_reducible refine Then.next ?_
        refine Ex_cons ?_
        refine Ex.drp (Drp.one (a := cz) (by walk_at "rem") (by intro _ e; cases e)) ?_
        refine Ex_Return ?_
        refine Ev_local (by walk_at "has") (by walk_at "lk") ?_
        with_reducible refine Then.ret ?_
        exact ⟨_, _, .hd, h⟩
noncomputable def treeN (ks : List Kn) (lv : List Lv) : Nat → Nat → V
  | 0, _ => .none
  | n + 1, i => match knAt ks i with
    | .leaf f => (leafAt lv f).v
    | .lst es _ => .lst (es.map (treeN ks lv n))
    | .pair a b _ => .tup [.str "pair", treeN ks lv n a, treeN ks lv n b]
noncomputable def Eld (ks : List Kn) : Prop := ∀ i, i < ks.length → match knAt ks i with
  | .leaf _ => True
  | .lst es _ => ∀ e ∈ es, e < i
  | .pair a b _ => a < i ∧ b < i
theorem tree {G : Glob} {a : Addr} {ks : List Kn} {lv : List Lv} (hw : Wf ks lv) (he : Eld ks) (hg : G.mg (Str.ofString "_law_tree") = some (.ref a)) : ∀ (n i : Nat) {fr : List Env} {A : Around} {F : Fz} {H : Hp} {E : Value → Fz → Hp → Prop} {Q : V → Fz → Hp → Prop}, i < n → i < ks.length → IsDef F (stm 10) a → Ok fr A n →
    Q (treeN ks lv n i) F H → Cl G fr A F H (.ref a) [.lst (ks.map Kn.V), .int i, .lst (lv.map Lv.V)] Q E
  | 0, _, _, _, _, _, _, _, hi, _, _, _, _ => absurd hi (Nat.not_lt_zero _)
  | n + 1, i, fr, A, F, H, E, Q, hin, hi, hf, hA, h => by
    have hf0 := hf
    obtain ⟨c, s, o, pm, hs, hf, hd, hc⟩ := hf
    obtain rfl := Option.some.inj hs.symm
    have hk14 := hw.2.2.1
    obtain ⟨hkv, hkm⟩ := hw.kn hi
    have hwk := hw.2.2.2 _ hkm
    have hel := he i hi
    refine call_cells (inits := [some (.lst (lv.map Lv.V)), some (.lst (ks.map Kn.V))]) hf hd hc [false, true, false] [Str.ofString "knots", Str.ofString "index", Str.ofString "leaves"] [Str.ofString "kind", Str.ofString "more", Str.ofString "_"] [Str.ofString "leaves", Str.ofString "knots"] rfl (by decide) (by decide) (fun vs hv => ?_) (by rfl) (by rfl) (fun n => rfl) (by decide) (by rfl) rfl hA.room (fun _ _ => leaves_no) (fun L cs A' hcs hD => ?_)
    · obtain ⟨a, b, c, rfl⟩ := len3 hv
      rfl
    ·
        obtain ⟨c2, c1, e⟩ := len2 hcs
        subst e
        simp only [mkRhoB, List.map, initB, List.zip, List.zipWith, List.cons_append, List.nil_append]
        have hA := hA.deep hD
        have hh := hA.handled
        refine Ex.drpQ ?_
        refine Ex_cons ?_
        refine Ex_Assign_Tuple (by assumption) rfl rfl ?_
        refine' Ev_Subscript' ?_ ?_ ?_
        rotate_left 2
        refine Ev_cell rfl (by walk_at "has") ?_
        with_reducible exact Is.mk
        refine Ev_local (by walk_at "has") (by walk_at "lk") ?_
        with_reducible exact Is.mk
        refine sub_lstN .lst (by lia) hkv ?_
        have htr : treeN ks lv (n + 1) i = match knAt ks i with
          | .leaf f => (leafAt lv f).v
          | .lst es _ => .lst (es.map (treeN ks lv n))
          | .pair a b _ => .tup [.str "pair", treeN ks lv n a, treeN ks lv n b] := rfl
        cases hkk : knAt ks i with
        | leaf f =>
          rw [hkk] at hwk htr
          have hlf := hw.leaf (f := f) hwk
          refine ⟨_, rfl, rfl, ?_⟩
          refine Stores.cons ?_
          refine' Store.mk ?u ?v ?_
          case u => walk_at "upd"
          case v => walk_at "set"
          refine Stores.cons ?_
          refine' Store.mk ?u ?v ?_
          case u => walk_at "upd"
          case v => walk_at "set"
          refine Stores.cons ?_
          refine' Store.mk ?u ?v ?_
          case u => walk_at "upd"
          case v => walk_at "set"
          refine Stores.nil ?_
          with_reducible refine Then.next ?_
          refine Ex_cons ?_
          refine Ex_If ?_
          refine' It_Compare1' ?_ ?_ ?_
          rotate_left 2
          refine Ev_local (by walk_at "has") (by walk_at "lk") ?_
          with_reducible exact Is.mk
          refine Ev_str ?_
          with_reducible exact Is.mk
          refine eq_ss ?_
          refine ⟨_, rfl, ?_⟩
          refine Bif (fun _ => ?_) fun hx => absurd hx (by decide)
          refine Ex_cons ?_
          refine Ex_Return ?_
          refine' Ev_Subscript' ?_ ?_ ?_
          rotate_left 2
          refine' Ev_Subscript' ?_ ?_ ?_
          rotate_left 2
          refine Ev_cell rfl (by walk_at "has") ?_
          with_reducible exact Is.mk
          refine Ev_local (by walk_at "has") (by walk_at "lk") ?_
          with_reducible exact Is.mk
          refine sub_lstN .lst (by lia) hlf.1 ?_
          with_reducible exact Is.mk
          refine Ev_int ?_
          with_reducible exact Is.mk
          refine sub_tup (by decide) (by decide) rfl ?_
          with_reducible refine Then.ret ?_
          with_reducible refine Then.ret ?_
          refine ⟨_, Drp.two (a := c1) (by walk_at "rem") (by intro _ e; cases e) (b := c2) (by walk_at "rem") (by intro _ e; cases e), _, _, by walk_at "rem", ?_⟩
          rw [htr] at h
          exact h
        | lst es z =>
          rw [hkk] at hwk htr hel
          refine ⟨_, rfl, rfl, ?_⟩
          refine Stores.cons ?_
          refine' Store.mk ?u ?v ?_
          case u => walk_at "upd"
          case v => walk_at "set"
          refine Stores.cons ?_
          refine' Store.mk ?u ?v ?_
          case u => walk_at "upd"
          case v => walk_at "set"
          refine Stores.cons ?_
          refine' Store.mk ?u ?v ?_
          case u => walk_at "upd"
          case v => walk_at "set"
          refine Stores.nil ?_
          with_reducible refine Then.next ?_
          refine Ex_cons ?_
          refine Ex_If ?_
          refine' It_Compare1' ?_ ?_ ?_
          rotate_left 2
          refine Ev_local (by walk_at "has") (by walk_at "lk") ?_
          with_reducible exact Is.mk
          refine Ev_str ?_
          with_reducible exact Is.mk
          refine eq_ss ?_
          refine ⟨_, rfl, ?_⟩
          refine Bif (fun hx => absurd hx (by decide)) fun _ => ?_
          refine Ex_nil ?_
          with_reducible refine Then.next ?_
          refine Ex_cons ?_
          refine Ex_If ?_
          refine' It_Compare1' ?_ ?_ ?_
          rotate_left 2
          refine Ev_local (by walk_at "has") (by walk_at "lk") ?_
          with_reducible exact Is.mk
          refine Ev_str ?_
          with_reducible exact Is.mk
          refine eq_ss ?_
          refine ⟨_, rfl, ?_⟩
          refine Bif (fun _ => ?_) fun hx => absurd hx (by decide)
          refine Ex_cons ?_
          refine Ex_Return ?_
          have hel : ∀ e ∈ es, e < i := hel
          refine Ev_ListComp [Str.ofString ".0", Str.ofString "elder"] rfl ?_ (by decide)
          refine Ev_local (by walk_at "has") (by walk_at "lk") ?_
          refine ⟨es.map fun (n : Nat) => .int n, iter_lst hh, by have := hwk.1; simp [sizeLine]; lia, fun j acc F4 H4 => F = F4 ∧ acc = (es.take j).map (treeN ks lv n) ∧ H4 = (L, .ns [(Str.ofString "index", some (.int i)), (Str.ofString "kind", some (.str "list")), (Str.ofString "more", some (.lst (es.map fun (n : Nat) => .int n))), (Str.ofString "_", some (.int z))]) :: (c2, .cell (some (.lst (lv.map Lv.V)))) :: (c1, .cell (some (.lst (ks.map Kn.V)))) :: H, ⟨rfl, rfl, rfl⟩, ⟨?_⟩, ?_⟩
          · rintro j y acc F4 H4 C ρ hy ⟨rfl, rfl, rfl⟩ hρ Qm hm
            rw [List.getElem?_map] at hy
            obtain ⟨e, hee, rfl⟩ : ∃ e, es[j]? = some e ∧ y = .int e := by
              cases hx : es[j]? with
              | none => rw [hx] at hy; cases hy
              | some e => rw [hx] at hy; cases hy; exact ⟨e, rfl, rfl⟩
            have hei := hel e (List.mem_of_getElem? hee)
            have htj : es.take (j + 1) = es.take j ++ [e] := by rw [List.take_succ, hee]; rfl
            obtain ⟨r0, r1, rfl⟩ := nm2 hρ
            refine As_Name ?_
            refine' Store.mk Upd.hd ?v ?_
            case v => walk_at "set"
            refine Tests_nil ?_
            refine Bif (fun _ => ?_) fun hx => absurd hx (by decide)
            refine' Ev_Call' ?_ ?_ ?_ ?_
            rotate_left 2
            refine Ev_global (by assumption) .ref ?_
            with_reducible exact Is.mk
            exact hf0.ok
            refine' Evs_cons' ?_ ?_
            rotate_left 2
            refine Ev_cell rfl (by walk_at "has") ?_
            with_reducible exact Is.mk
            refine' Evs_cons' ?_ ?_
            rotate_left 2
            refine Ev_local Has.hd (by walk_at "lk") ?_
            with_reducible exact Is.mk
            refine' Evs_cons' ?_ ?_
            rotate_left 2
            refine Ev_cell rfl (by walk_at "has") ?_
            with_reducible exact Is.mk
            exact Evs_nil'
            refine tree hw he hg n e (by lia) (by lia) hf0 hA ?_
            refine ⟨_, _, .hd, rfl, hm _ _ _ ⟨rfl, ?_, rfl⟩⟩
            rw [htj, List.map_append]
            rfl
          · rintro acc F4 H4 ⟨rfl, rfl, rfl⟩
            have e0 : (es.take (es.map fun (n : Nat) => V.int n).length).map (treeN ks lv n) = es.map (treeN ks lv n) := by
              rw [List.length_map, List.take_length]
            rw [e0]
            with_reducible refine Then.ret ?_
            with_reducible refine Then.ret ?_
            refine ⟨_, Drp.two (a := c1) (by walk_at "rem") (by intro _ e; cases e) (b := c2) (by walk_at "rem") (by intro _ e; cases e), _, _, by walk_at "rem", ?_⟩
            rw [htr] at h
            exact h
        | pair e1 e2 z =>
          rw [hkk] at hwk htr hel
          have hel : e1 < i ∧ e2 < i := hel
          refine ⟨_, rfl, rfl, ?_⟩
          refine Stores.cons ?_
          refine' Store.mk ?u ?v ?_
          case u => walk_at "upd"
          case v => walk_at "set"
          refine Stores.cons ?_
          refine' Store.mk ?u ?v ?_
          case u => walk_at "upd"
          case v => walk_at "set"
          refine Stores.cons ?_
          refine' Store.mk ?u ?v ?_
          case u => walk_at "upd"
          case v => walk_at "set"
          refine Stores.nil ?_
          with_reducible refine Then.next ?_
          refine Ex_cons ?_
          refine Ex_If ?_
          refine' It_Compare1' ?_ ?_ ?_
          rotate_left 2
          refine Ev_local (by walk_at "has") (by walk_at "lk") ?_
          with_reducible exact Is.mk
          refine Ev_str ?_
          with_reducible exact Is.mk
          refine eq_ss ?_
          refine ⟨_, rfl, ?_⟩
          refine Bif (fun hx => absurd hx (by decide)) fun _ => ?_
          refine Ex_nil ?_
          with_reducible refine Then.next ?_
          refine Ex_cons ?_
          refine Ex_If ?_
          refine' It_Compare1' ?_ ?_ ?_
          rotate_left 2
          refine Ev_local (by walk_at "has") (by walk_at "lk") ?_
          with_reducible exact Is.mk
          refine Ev_str ?_
          with_reducible exact Is.mk
          refine eq_ss ?_
          refine ⟨_, rfl, ?_⟩
          refine Bif (fun hx => absurd hx (by decide)) fun _ => ?_
          refine Ex_nil ?_
          with_reducible refine Then.next ?_
          refine Ex_cons ?_
          refine Ex_Return ?_
          refine Ev_Tuple ?_
          refine Evs_cons ?_
          refine Ev_str ?_
          refine Evs_cons ?_
          refine' Ev_Call' ?_ ?_ ?_ ?_
          rotate_left 2
          refine Ev_global (by assumption) .ref ?_
          with_reducible exact Is.mk
          exact hf0.ok
          refine' Evs_cons' ?_ ?_
          rotate_left 2
          refine Ev_cell rfl (by walk_at "has") ?_
          with_reducible exact Is.mk
          refine' Evs_cons' ?_ ?_
          rotate_left 2
          refine' Ev_Subscript' ?_ ?_ ?_
          rotate_left 2
          refine Ev_local (by walk_at "has") (by walk_at "lk") ?_
          with_reducible exact Is.mk
          refine Ev_int ?_
          with_reducible exact Is.mk
          refine sub_lst .lst (by lia) (by lia) (l := [.int e1, .int e2]) rfl ?_
          with_reducible exact Is.mk
          refine' Evs_cons' ?_ ?_
          rotate_left 2
          refine Ev_cell rfl (by walk_at "has") ?_
          with_reducible exact Is.mk
          exact Evs_nil'
          refine tree hw he hg n e1 (by lia) (by lia) hf0 hA ?_
          refine Evs_cons ?_
          refine' Ev_Call' ?_ ?_ ?_ ?_
          rotate_left 2
          refine Ev_global (by assumption) .ref ?_
          with_reducible exact Is.mk
          exact hf0.ok
          refine' Evs_cons' ?_ ?_
          rotate_left 2
          refine Ev_cell rfl (by walk_at "has") ?_
          with_reducible exact Is.mk
          refine' Evs_cons' ?_ ?_
          rotate_left 2
          refine' Ev_Subscript' ?_ ?_ ?_
          rotate_left 2
          refine Ev_local (by walk_at "has") (by walk_at "lk") ?_
          with_reducible exact Is.mk
          refine Ev_int ?_
          with_reducible exact Is.mk
          refine sub_lst .lst (by lia) (by lia) (l := [.int e1, .int e2]) rfl ?_
          with_reducible exact Is.mk
          refine' Evs_cons' ?_ ?_
          rotate_left 2
          refine Ev_cell rfl (by walk_at "has") ?_
          with_reducible exact Is.mk
          exact Evs_nil'
          refine tree hw he hg n e2 (by lia) (by lia) hf0 hA ?_
          refine Evs_nil ?_
          refine ⟨by exact Nat.le_of_ble_eq_true rfl, ?_⟩
          with_reducible refine Then.ret ?_
          skip
          refine ⟨_, Drp.two (a := c1) (by walk_at "rem") (by intro _ e; cases e) (b := c2) (by walk_at "rem") (by intro _ e; cases e), _, _, by walk_at "rem", ?_⟩
          rw [htr] at h
          exact h
noncomputable def LeafL (T : Str) (i : Nat) (v : V) (e : Nat) : Prop := match lexL (T.cps.toList.drop i) with
  | .null => v = .none ∧ e = i + 4
  | .tru => v = .bool true ∧ e = i + 4
  | .fls => v = .bool false ∧ e = i + 5
  | .whole n => v = .tup [.str "whole", .str ⟨T.cps.extract i (i + n)⟩] ∧ e = i + n
  | .broken n => v = .tup [.str "broken", .str ⟨T.cps.extract i (i + n)⟩] ∧ e = i + n
  | .con w => v = .tup [.str "word", .str w] ∧ e = i + w.length
  | .str => ∃ k, i + 1 ≤ k ∧ (k + 1 ≤ T.length ∧ Builtin.Str.subAt T "\"" k = true) ∧ (∀ j, i + 1 ≤ j → j < k → Builtin.Str.subAt T "\"" j = false) ∧ v = .tup [.str "text", .str (Txt.slice T (some ((i + 1 : Nat) : Int)) (some k))] ∧ e = k + 1
  | _ => False
theorem leaf {G : Glob} {fr : List Env} {A : Around} {F : Fz} {H : Hp} {f fl fp ft li lf lc mb m : Addr} {E : Value → Fz → Hp → Prop} {Q : V → Fz → Hp → Prop} {T : Str} {i e : Nat} {v : V} (hC : CtxF F fl fp ft li lf lc)
    (hS : ScanF F f { po := .ref fp, pa := .ref fl, ps := .ref ft, mb, st := .bool true, pf := .ref lf, pi := .ref li, pc := .ref lc, oh := .none, oph := .none, mm := .ref m }) (hA : Ok fr A 2) (bt : BtS G) (hT : T.cps.size ≤ 1000000) (hL : LeafL T i v e)
    (h : Q (.tup [v, .int (e : Nat)]) F H) : Cl G fr A F H (.ref f) [.str T, .int i] Q E := by
  obtain ⟨qi, hli⟩ := hC.i
  obtain ⟨qf, hlf⟩ := hC.f
  obtain ⟨qc, hlc⟩ := hC.c
  obtain ⟨qt, hft⟩ := hC.t
  have hTl : T.length ≤ sizeLine := Nat.le_trans (show T.cps.size ≤ 1000000 from hT) (by decide)
  refine (scan (P := fun _ _ _ _ _ _ => False) hS (hA.less (by lia)) hT bt ?_).mono (fun _ _ _ q => q) fun _ _ _ e => (thr_no e).elim
  unfold LeafL at hL
  cases hx : lexL (T.cps.toList.drop i) with
  | null => rw [hx] at hL; obtain ⟨rfl, rfl⟩ := hL; exact h
  | tru => rw [hx] at hL; obtain ⟨rfl, rfl⟩ := hL; exact h
  | fls => rw [hx] at hL; obtain ⟨rfl, rfl⟩ := hL; exact h
  | whole n =>
    rw [hx] at hL; obtain ⟨rfl, rfl⟩ := hL
    exact fun env A' hD => lam_whole hli ((hA.deep hD).less (by lia)) h
  | broken n =>
    rw [hx] at hL; obtain ⟨rfl, rfl⟩ := hL
    exact fun env A' hD => lam_broken hlf ((hA.deep hD).less (by lia)) h
  | con w =>
    rw [hx] at hL; obtain ⟨rfl, rfl⟩ := hL
    exact fun env A' hD => lam_word hlc ((hA.deep hD).less (by lia)) h
  | str =>
    rw [hx] at hL; obtain ⟨k, hlo, hk, hn, rfl, rfl⟩ := hL
    exact fun env A' hD => part_text hft (hA.deep hD) hTl hlo hk hn h
  | obj => rw [hx] at hL; exact hL.elim
  | arr => rw [hx] at hL; exact hL.elim
  | stop => rw [hx] at hL; exact hL.elim
noncomputable def PlaceAt (T : Str) (i p : Nat) : Prop := PySem.intText? (Txt.slice T (some (i : Int)) (some ((i : Int) + 3))) = some (p : Int) ∧ (Txt.slice T (some (i : Int)) (some ((i : Int) + 3))).length ≤ 640 ∧ ∃ c, T.cps[i]? = some c ∧ chr c "]" = false
structure Page (T : Str) (ks : List Kn) (lv : List Lv) (pos : Nat → Nat) : Prop where
  size : T.cps.size ≤ 1000000
  leaf : ∀ i f, i < ks.length → knAt ks i = .leaf f → LeafL T (pos i) (leafAt lv f).v (pos i + (leafAt lv f).a.length)
  lst : ∀ i es z, i < ks.length → knAt ks i = .lst es z → T.cps[pos i]? = some 91 ∧ (∀ k e, es[k]? = some e → PlaceAt T (pos i + 1 + 3 * k) (pos e)) ∧ T.cps[pos i + 1 + 3 * es.length]? = some 93
  pair : ∀ i a b z, i < ks.length → knAt ks i = .pair a b z → T.cps[pos i]? = some 123 ∧ PlaceAt T (pos i + 1) (pos a) ∧ PlaceAt T (pos i + 1 + 3) (pos b)
theorem knot {G : Glob} {f fl fp ft li lf lc mb m : Addr} {T : Str} {ks : List Kn} {lv : List Lv} {pos : Nat → Nat} (hi0 : G.mg (Str.ofString "int") = none) (hi : G.mb (Str.ofString "int") = some (.type "int")) (bt : BtS G) (hP : Page T ks lv pos) (hw : Wf ks lv) (he : Eld ks) :
    ∀ (n i : Nat) {fr : List Env} {A : Around} {F : Fz} {H : Hp} {E : Value → Fz → Hp → Prop} {Q : V → Fz → Hp → Prop}, i < n → i < ks.length → CtxF F fl fp ft li lf lc →
      ScanF F f { po := .ref fp, pa := .ref fl, ps := .ref ft, mb, st := .bool true, pf := .ref lf, pi := .ref li, pc := .ref lc, oh := .none, oph := .none, mm := .ref m } → Ok fr A (2 * n) →
      Q (.tup [treeN ks lv n i, .int ((pos i + blen lv (knAt ks i) : Nat))]) F H → Cl G fr A F H (.ref f) [.str T, .int (pos i)] Q E
  | 0, _, _, _, _, _, _, _, h0, _, _, _, _, _ => absurd h0 (Nat.not_lt_zero _)
  | n + 1, i, fr, A, F, H, E, Q, hin, hil, hC, hS, hA, h => by
    have htr : treeN ks lv (n + 1) i = match knAt ks i with
      | .leaf f => (leafAt lv f).v
      | .lst es _ => .lst (es.map (treeN ks lv n))
      | .pair a b _ => .tup [.str "pair", treeN ks lv n a, treeN ks lv n b] := rfl
    have hel := he i hil
    have hwk := hw.2.2.2 _ (hw.kn hil).2
    have hTl : T.length ≤ sizeLine := Nat.le_trans (show T.cps.size ≤ 1000000 from hP.size) (by decide)
    have lx : ∀ {c : Nat}, T.cps[pos i]? = some c → T.cps.toList.drop (pos i) = c :: T.cps.toList.drop (pos i + 1) := fun hc => by
      rcases drop_cases (T := T.cps) (pos i) with ⟨_, hi⟩ | ⟨c', e, hi, hc'⟩
      · rw [Array.getElem?_eq_none hi] at hc; cases hc
      · rw [e]; congr 1
        simpa [Array.getD_eq_getD_getElem?, hc] using hc'.symm
    cases hk : knAt ks i with
    | leaf fg =>
      rw [hk] at htr h
      have hL := hP.leaf i fg hil hk
      exact leaf hC hS (hA.less (by lia)) bt hP.size hL (by rw [htr] at h; exact h)
    | lst es z =>
      rw [hk] at htr h hel hwk
      obtain ⟨hc, hpl, hend⟩ := hP.lst i es z hil hk
      have hel : ∀ e ∈ es, e < i := hel
      obtain ⟨q, hfl⟩ := hC.l
      refine (scan (P := fun _ _ _ _ _ _ => False) hS (hA.less (by lia)) hP.size bt ?_).mono (fun _ _ _ q => q) fun _ _ _ e => (thr_no e).elim
      rw [lx hc]
      show ClD G fr A F H _ _ Q _
      intro env A' hD
      have hA' := hA.deep (n := 2 * n + 1) hD
      have e1 : ((pos i : Nat) : Int) + 1 = ((pos i + 1 : Nat) : Int) := by lia
      rw [e1]
      refine part_list (n := es.length) (at' := fun k => pos (es.getD k 0)) (x := fun k => treeN ks lv n (es.getD k 0)) (e := fun k => .int ((pos (es.getD k 0) + blen lv (knAt ks (es.getD k 0)) : Nat))) hfl (hA'.less (by lia)) hi0 hi hP.size (by have := hwk.1; lia) (fun k hk => ?_) hend hS.ok (fun k hk => ?_) ?_
      · have hg : es[k]? = some (es.getD k 0) := by rw [List.getD_eq_getElem?_getD, List.getElem?_eq_getElem hk]; rfl
        obtain ⟨h1, h2, h3⟩ := hpl k _ hg
        have e2 : ((pos i + 1 : Nat) : Int) + 3 * (k : Int) = ((pos i + 1 + 3 * k : Nat) : Int) := by lia
        rw [e2]
        exact ⟨h1, h2, h3⟩
      · have hm : es.getD k 0 ∈ es := by rw [List.getD_eq_getElem?_getD, List.getElem?_eq_getElem hk]; exact List.getElem_mem _
        have hlt := hel _ hm
        intro env2 A2 hD2
        exact knot hi0 hi bt hP hw he n _ (by lia) (by lia) hC hS ((hA'.deep (n := 2 * n) hD2)) ⟨rfl, rfl, rfl⟩
      · have e3 : (List.range es.length).map (fun k => treeN ks lv n (es.getD k 0)) = es.map (treeN ks lv n) := by
          apply List.ext_getElem
          · simp
          · intro k h1 h2
            simp at h1
            simp [List.getD_eq_getElem?_getD, List.getElem?_eq_getElem h1]
        have e4 : ((pos i + 1 : Nat) : Int) + 3 * (es.length : Int) + 1 = ((pos i + blen lv (Kn.lst es z) : Nat) : Int) := by
          show _ = ((pos i + (2 + 3 * es.length) : Nat) : Int)
          lia
        rw [e3, e4]
        rw [htr] at h
        exact h
    | pair a b z =>
      rw [hk] at htr h hel hwk
      obtain ⟨hc, hp1, hp2⟩ := hP.pair i a b z hil hk
      have hel : a < i ∧ b < i := hel
      obtain ⟨q, hfp⟩ := hC.p
      refine (scan (P := fun _ _ _ _ _ _ => False) hS (hA.less (by lia)) hP.size bt ?_).mono (fun _ _ _ q => q) fun _ _ _ e => (thr_no e).elim
      rw [lx hc]
      show ClD G fr A F H _ _ Q _
      intro env A' hD
      have hA' := hA.deep (n := 2 * n + 1) hD
      have e1 : ((pos i : Nat) : Int) + 1 = ((pos i + 1 : Nat) : Int) := by lia
      rw [e1]
      obtain ⟨h1, h2, _⟩ := hp1
      obtain ⟨h3, h4, _⟩ := hp2
      have e2 : ((pos i + 1 + 3 : Nat) : Int) = ((pos i + 1 : Nat) : Int) + 3 := by lia
      have e3 : ((pos i + 1 : Nat) : Int) + 3 + 3 = ((pos i + 1 : Nat) : Int) + 6 := by lia
      rw [e2, e3] at h3 h4
      refine part_pair (i1 := pos a) (i2 := pos b) hfp (hA'.less (by lia)) hi0 hi hTl h1 h3 h2 h4 hS.ok (x1 := treeN ks lv n a) (x2 := treeN ks lv n b) (e1 := .int ((pos a + blen lv (knAt ks a) : Nat))) (e2 := .int ((pos b + blen lv (knAt ks b) : Nat))) (fun env2 A2 hD2 => ?_) (fun env2 A2 hD2 => ?_) ?_
      · exact knot hi0 hi bt hP hw he n a (by lia) (by lia) hC hS ((hA'.deep (n := 2 * n) hD2)) ⟨rfl, rfl, rfl⟩
      · exact knot hi0 hi bt hP hw he n b (by lia) (by lia) hC hS ((hA'.deep (n := 2 * n) hD2)) ⟨rfl, rfl, rfl⟩
      · have e4 : ((pos i + 1 : Nat) : Int) + 7 = ((pos i + blen lv (Kn.pair a b z) : Nat) : Int) := by
          show _ = ((pos i + 8 : Nat) : Int)
          lia
        rw [e4]
        rw [htr] at h
        exact h
noncomputable def sL (x : Str) : List Nat := x.cps.toList
theorem sL_app (x y : Str) : sL (x ++ y) = sL x ++ sL y := by
  show (x.cps ++ y.cps).toList = _
  rw [Array.toList_append]; rfl
theorem sL_len (x : Str) : (sL x).length = x.length := by simp [sL, Str.length]
theorem sL_join : ∀ (l : List Str), sL (Txt.join "" l) = (l.map sL).flatten := by
  intro l
  show sL (Builtin.Str.glued "" l) = _
  rw [StrLaws.glued_eq_join]
  induction l with
  | nil => rfl
  | cons x l ih =>
    cases l with
    | nil => simp [Str.join]
    | cons y l =>
      show sL (x ++ "" ++ Str.join "" (y :: l)) = _
      rw [sL_app, sL_app, ih]
      show sL x ++ [] ++ _ = _
      simp
theorem sL_fold {f : Nat → Str} : ∀ (l : List Nat) (t : Str), sL (l.foldl (fun t k => t ++ f k) t) = sL t ++ (l.map fun k => sL (f k)).flatten
  | [], t => by simp
  | k :: l, t => by
    rw [List.foldl_cons, sL_fold l, sL_app]
    simp
theorem toDig {p : Nat} (h : p < 1000) : (Nat.toDigits 10 (1000 + p)).map Char.toNat = [49, 48 + p / 100, 48 + p / 10 % 10, 48 + p % 10] := by
  have : ∀ p, p < 1000 → (Nat.toDigits 10 (1000 + p)).map Char.toNat = [49, 48 + p / 100, 48 + p / 10 % 10, 48 + p % 10] := by decide +kernel
  exact this p h
theorem sL_d3 {p : Nat} (h : p < 1000) : sL (d3 p) = [48 + p / 100, 48 + p / 10 % 10, 48 + p % 10] := by
  have e := KIN.signs_num (1000 + p)
  rw [toDig h] at e
  have e2 : ((1000 + p : Nat) : Int) = (1000 : Int) + (p : Int) := by lia
  rw [e2] at e
  unfold d3
  have hl : (Str.ofString (toString ((1000 : Int) + (p : Int)))).length = 4 := by
    rw [← sL_len]; show (Str.ofString _).cps.toList.length = 4; rw [e]; rfl
  rw [slice_from_eq (x := Str.ofString (toString ((1000 : Int) + (p : Int)))) (i := 1) (b := 4) (by lia) (by rw [hl]; decide) (by rw [hl]; rfl)]
  show ((List.drop 1 (Str.ofString (toString ((1000 : Int) + (p : Int)))).cps.toList).take 3).toArray.toList = _
  rw [e]
  rfl
theorem d3_len {p : Nat} (h : p < 1000) : (d3 p).length = 3 := by rw [← sL_len, sL_d3 h]; rfl
theorem int_d3 {p : Nat} (h : p < 1000) : PySem.intText? ⟨#[48 + p / 100, 48 + p / 10 % 10, 48 + p % 10]⟩ = some (p : Int) := by
  have := intText_digits (x := ⟨#[48 + p / 100, 48 + p / 10 % 10, 48 + p % 10]⟩) (by
    intro c hc
    simp only [List.mem_cons, List.not_mem_nil, or_false] at hc
    rcases hc with rfl | rfl | rfl <;> lia) (by simp) (by show 3 ≤ 4300; lia)
  rw [this]
  congr 2
  show ((0 * 10 + (48 + p / 100 - 48)) * 10 + (48 + p / 10 % 10 - 48)) * 10 + (48 + p % 10 - 48) = p
  lia
theorem Win.of_drop {T : Str} {i : Nat} {w r : List Nat} (h : sL T |>.drop i |> (· = w ++ r)) : Win T i w := fun j c hj => by
  have h : (sL T).drop i = w ++ r := h
  have hj' : j < w.length := by
    rcases Nat.lt_or_ge j w.length with q | q
    · exact q
    · rw [List.getElem?_eq_none q] at hj; cases hj
  have : ((sL T).drop i)[j]? = some c := by rw [h, List.getElem?_append_left hj']; exact hj
  rw [List.getElem?_drop] at this
  simpa [sL] using this
theorem placeAt {T : Str} {i p : Nat} (hp : p < 1000) (h : Win T i (sL (d3 p))) : PlaceAt T i p := by
  rw [sL_d3 hp] at h
  have hs := h.slice (j := (i : Int) + 3) (by have := h.lt (by simp); exact this) (by simp)
  refine ⟨by rw [hs]; exact int_d3 hp, by rw [hs]; show 3 ≤ 640; lia, _, h.cons.1, ?_⟩
  rw [chr_eq (a := 93) rfl]
  simp; lia
theorem Win.threes {T : Str} {g : Nat → List Nat} (hg : ∀ e, (g e).length = 3) : ∀ {es : List Nat} {i k e : Nat}, Win T i (es.map g).flatten → es[k]? = some e → Win T (i + 3 * k) (g e)
  | [], i, k, e, h, he => by simp at he
  | x :: es, i, 0, e, h, he => by
    simp at he; subst he
    exact (Win.app h).1
  | x :: es, i, k + 1, e, h, he => by
    simp at he
    have h2 := (Win.app (a := g x) h).2
    rw [hg] at h2
    have := Win.threes hg h2 he
    rwa [show i + 3 + 3 * k = i + 3 * (k + 1) by lia] at this
theorem flat_len {g : Nat → List Nat} (hg : ∀ e, (g e).length = 3) : ∀ (es : List Nat), ((es.map g).flatten).length = 3 * es.length
  | [] => rfl
  | x :: es => by simp [flat_len hg es, hg]; lia
section
variable {ks : List Kn} {lv : List Lv} {ord : List Nat}
theorem full_len (hp : ∀ e, posOf ks lv ord e < 1000) (k : Kn) : (fullT ks lv ord k).length = flen lv k := by
  have hg : ∀ e, (sL (d3 (posOf ks lv ord e))).length = 3 := fun e => by rw [sL_len, d3_len (hp e)]
  cases k with
  | leaf f => show (_ ++ _ : Str).length = _; rw [strLen_append]; rfl
  | lst es z =>
    show (_ ++ _ ++ _ : Str).length = _
    rw [strLen_append, strLen_append, ← sL_len (Txt.join _ _), sL_join, List.map_map]
    rw [show (sL ∘ fun e => d3 (posOf ks lv ord e)) = fun e => sL (d3 (posOf ks lv ord e)) from rfl, flat_len hg]
    show 1 + 3 * es.length + 1 = 2 + 3 * es.length
    lia
  | pair a b z =>
    show (_ ++ _ ++ _ : Str).length = _
    rw [strLen_append, strLen_append, ← sL_len (Txt.join _ _), sL_join, List.map_map]
    rw [show (sL ∘ fun e => d3 (posOf ks lv ord e)) = fun e => sL (d3 (posOf ks lv ord e)) from rfl, flat_len hg]
    rfl
theorem sum_len {f : Nat → Str} : ∀ (l : List Nat), ((l.map fun k => sL (f k)).flatten).length = total (fun k => (f k).length) l
  | [] => rfl
  | x :: l => by
    simp only [List.map_cons, List.flatten_cons, List.length_append, sL_len]
    rw [sum_len l]
    simp [total]
theorem text_at (hp : ∀ e, posOf ks lv ord e < 1000) (hnd : ord.Nodup) {k : Nat} (hk : k ∈ ord) : ∃ r, (sL (textT ks lv ord ord)).drop (posOf ks lv ord k) = sL (fullT ks lv ord (knAt ks k)) ++ r := by
  obtain ⟨pre, post, e⟩ := List.append_of_mem hk
  have hkp : k ∉ pre := fun q => by
    rw [e, List.nodup_append] at hnd
    exact hnd.2.2 k q k (by simp) rfl
  have e1 : posOf ks lv ord k = 1 + total (fun k => flen lv (knAt ks k)) pre := by
    unfold posOf
    rw [e, offs_app hkp]
  have e2 : sL (textT ks lv ord ord) = 120 :: ((ord.map fun k => sL (fullT ks lv ord (knAt ks k))).flatten) := by
    unfold textT
    rw [sL_fold]; rfl
  refine ⟨(post.map fun k => sL (fullT ks lv ord (knAt ks k))).flatten, ?_⟩
  rw [e2, e1]
  have e3 : ∀ g : Nat → List Nat, ord.map g = pre.map g ++ g k :: post.map g := fun g => by rw [e, List.map_append, List.map_cons]
  rw [e3, List.flatten_append, List.flatten_cons, Nat.add_comm 1]
  rw [List.drop_succ_cons]
  have e4 : total (fun k => flen lv (knAt ks k)) pre = ((pre.map fun k => sL (fullT ks lv ord (knAt ks k))).flatten).length := by
    rw [sum_len]
    unfold total
    congr 2
    funext k
    exact (full_len hp _).symm
  rw [e4, List.drop_left]
theorem full_le {ord' : List Nat} (hw : Wf ks lv) (hp : ∀ e, posOf ks lv ord e < 1000) {k : Nat} (hk : k < ks.length) : (fullT ks lv ord (knAt ks k)).length ≤ 41 := by
  rw [full_len hp]; exact (flen_le hw hk).2
theorem join_ok {es : List Nat} (hp : ∀ e, posOf ks lv ord e < 1000) (hes : es.length ≤ 13) : JoinOk "" (es.map fun e => d3 (posOf ks lv ord e)) = true := by
  have : ∀ (es : List Nat) (n : Nat), (es.map fun e => d3 (posOf ks lv ord e)).foldl (fun (a : Nat) (x : Str) => a + x.length + (Str.ofString "").length) n = n + 3 * es.length := by
    intro es
    induction es with
    | nil => intro n; rfl
    | cons x es ih =>
      intro n
      rw [List.map_cons, List.foldl_cons, ih, d3_len (hp x)]
      show n + 3 + 0 + _ = _
      simp; lia
  unfold JoinOk
  rw [List.foldl_toArray, this]
  have h : (0 : Nat) + 3 * es.length ≤ sizeLine := by show _ ≤ 16777216; lia
  simp [Builtin.Str.tooLong, sizeLine]
  lia
end
noncomputable def lv17 : List Lv := [⟨"0", .tup [.str "whole", .str "0"], "07x"⟩, ⟨"-0", .tup [.str "whole", .str "-0"], "1.5x"⟩, ⟨"12", .tup [.str "whole", .str "12"], ".x"⟩, ⟨"-7", .tup [.str "whole", .str "-7"], "e-x"⟩, ⟨"305", .tup [.str "whole", .str "305"], "E+.5x"⟩, ⟨"0.5", .tup [.str "broken", .str "0.5"], ".5x"⟩, ⟨"-1.25", .tup [.str "broken", .str "-1.25"], "ex"⟩, ⟨"6e0", .tup [.str "broken", .str "6e0"], ".5x"⟩, ⟨"8E-10", .tup [.str "broken", .str "8E-10"], "e5x"⟩, ⟨"2.50e+3", .tup [.str "broken", .str "2.50e+3"], "+1x"⟩, ⟨"null", .none, "l"⟩, ⟨"true", .bool true, "e"⟩, ⟨"false", .bool false, "NaN"⟩, ⟨"NaN", .tup [.str "word", .str "NaN"], "aN"⟩, ⟨"Infinity", .tup [.str "word", .str "Infinity"], "-"⟩, ⟨"-Infinity", .tup [.str "word", .str "-Infinity"], "y"⟩, ⟨"\"a1\"", .tup [.str "text", .str "a1"], "\""⟩]
theorem lv17_ok : lv17.length = 17 ∧ ∀ l ∈ lv17, l.a.length ≤ 20 ∧ l.b.length ≤ 20 := by
  refine ⟨rfl, ?_⟩
  intro l hl
  simp only [lv17, List.mem_cons, List.not_mem_nil, or_false] at hl
  rcases hl with rfl | rfl | rfl | rfl | rfl | rfl | rfl | rfl | rfl | rfl | rfl | rfl | rfl | rfl | rfl | rfl | rfl <;> exact ⟨Nat.le_of_ble_eq_true rfl, Nat.le_of_ble_eq_true rfl⟩
theorem ext_of {T : Str} {i n : Nat} {a : Str} {r : List Nat} (h : (sL T).drop i = sL a ++ r) (hi : i ≤ T.cps.size) (hn : a.length = n) : (⟨T.cps.extract i (i + n)⟩ : Str) = a := by
  subst hn
  have := (Win.of_drop h).ext hi
  rw [sL_len] at this
  rw [this]
  show (⟨(a.cps.toList).toArray⟩ : Str) = a
  rw [Array.toArray_toList]
theorem quote_at {T : Str} {k c : Nat} (h : T.cps[k]? = some c) : Builtin.Str.subAt T "\"" k = decide (c = 34) := by
  have hk : k < T.cps.size := (getD_of h).1
  have e : T.cps.extract k (k + (Str.ofString "\"").length) = #[c] := by
    have := Win.ext (T := T) (i := k) (w := [c]) (fun j d hj => by
      cases j with
      | zero => simp at hj; subst hj; exact h
      | succ j => simp at hj) (Nat.le_of_lt hk)
    exact congrArg Str.cps this
  unfold Builtin.Str.subAt
  rw [e]
  show ((#[c] : Array Nat) == #[34]) = _
  by_cases q : c = 34
  · subst q; rfl
  · rw [decide_eq_false q]; simp [q]
theorem leaf_at : ∀ (f : Nat), f < 17 → ∀ {T : Str} {i : Nat} {r : List Nat}, (sL T).drop i = sL ((leafAt lv17 f).a ++ (leafAt lv17 f).b) ++ r → LeafL T i (leafAt lv17 f).v (i + (leafAt lv17 f).a.length)
  | 0, _, T, i, r, h => by
    have hi : i ≤ T.cps.size := by
      rcases Nat.le_total i T.cps.size with q | q
      · exact q
      · rw [List.drop_eq_nil_of_le (by rw [sL_len]; exact q)] at h; cases h
    have h2 : T.cps.toList.drop i = sL "0" ++ (sL "07x" ++ r) := by rw [← List.append_assoc, ← sL_app]; exact h
    unfold LeafL
    rw [h2]
    show (_ : V) = .tup [.str "whole", .str ⟨T.cps.extract i (i + 1)⟩] ∧ _ = i + 1
    rw [ext_of (n := 1) (a := "0") h2 hi rfl]
    exact ⟨rfl, rfl⟩
  | 1, _, T, i, r, h => by
    have hi : i ≤ T.cps.size := by
      rcases Nat.le_total i T.cps.size with q | q
      · exact q
      · rw [List.drop_eq_nil_of_le (by rw [sL_len]; exact q)] at h; cases h
    have h2 : T.cps.toList.drop i = sL "-0" ++ (sL "1.5x" ++ r) := by rw [← List.append_assoc, ← sL_app]; exact h
    unfold LeafL
    rw [h2]
    show (_ : V) = .tup [.str "whole", .str ⟨T.cps.extract i (i + 2)⟩] ∧ _ = i + 2
    rw [ext_of (n := 2) (a := "-0") h2 hi rfl]
    exact ⟨rfl, rfl⟩
  | 2, _, T, i, r, h => by
    have hi : i ≤ T.cps.size := by
      rcases Nat.le_total i T.cps.size with q | q
      · exact q
      · rw [List.drop_eq_nil_of_le (by rw [sL_len]; exact q)] at h; cases h
    have h2 : T.cps.toList.drop i = sL "12" ++ (sL ".x" ++ r) := by rw [← List.append_assoc, ← sL_app]; exact h
    unfold LeafL
    rw [h2]
    show (_ : V) = .tup [.str "whole", .str ⟨T.cps.extract i (i + 2)⟩] ∧ _ = i + 2
    rw [ext_of (n := 2) (a := "12") h2 hi rfl]
    exact ⟨rfl, rfl⟩
  | 3, _, T, i, r, h => by
    have hi : i ≤ T.cps.size := by
      rcases Nat.le_total i T.cps.size with q | q
      · exact q
      · rw [List.drop_eq_nil_of_le (by rw [sL_len]; exact q)] at h; cases h
    have h2 : T.cps.toList.drop i = sL "-7" ++ (sL "e-x" ++ r) := by rw [← List.append_assoc, ← sL_app]; exact h
    unfold LeafL
    rw [h2]
    show (_ : V) = .tup [.str "whole", .str ⟨T.cps.extract i (i + 2)⟩] ∧ _ = i + 2
    rw [ext_of (n := 2) (a := "-7") h2 hi rfl]
    exact ⟨rfl, rfl⟩
  | 4, _, T, i, r, h => by
    have hi : i ≤ T.cps.size := by
      rcases Nat.le_total i T.cps.size with q | q
      · exact q
      · rw [List.drop_eq_nil_of_le (by rw [sL_len]; exact q)] at h; cases h
    have h2 : T.cps.toList.drop i = sL "305" ++ (sL "E+.5x" ++ r) := by rw [← List.append_assoc, ← sL_app]; exact h
    unfold LeafL
    rw [h2]
    show (_ : V) = .tup [.str "whole", .str ⟨T.cps.extract i (i + 3)⟩] ∧ _ = i + 3
    rw [ext_of (n := 3) (a := "305") h2 hi rfl]
    exact ⟨rfl, rfl⟩
  | 5, _, T, i, r, h => by
    have hi : i ≤ T.cps.size := by
      rcases Nat.le_total i T.cps.size with q | q
      · exact q
      · rw [List.drop_eq_nil_of_le (by rw [sL_len]; exact q)] at h; cases h
    have h2 : T.cps.toList.drop i = sL "0.5" ++ (sL ".5x" ++ r) := by rw [← List.append_assoc, ← sL_app]; exact h
    unfold LeafL
    rw [h2]
    show (_ : V) = .tup [.str "broken", .str ⟨T.cps.extract i (i + 3)⟩] ∧ _ = i + 3
    rw [ext_of (n := 3) (a := "0.5") h2 hi rfl]
    exact ⟨rfl, rfl⟩
  | 6, _, T, i, r, h => by
    have hi : i ≤ T.cps.size := by
      rcases Nat.le_total i T.cps.size with q | q
      · exact q
      · rw [List.drop_eq_nil_of_le (by rw [sL_len]; exact q)] at h; cases h
    have h2 : T.cps.toList.drop i = sL "-1.25" ++ (sL "ex" ++ r) := by rw [← List.append_assoc, ← sL_app]; exact h
    unfold LeafL
    rw [h2]
    show (_ : V) = .tup [.str "broken", .str ⟨T.cps.extract i (i + 5)⟩] ∧ _ = i + 5
    rw [ext_of (n := 5) (a := "-1.25") h2 hi rfl]
    exact ⟨rfl, rfl⟩
  | 7, _, T, i, r, h => by
    have hi : i ≤ T.cps.size := by
      rcases Nat.le_total i T.cps.size with q | q
      · exact q
      · rw [List.drop_eq_nil_of_le (by rw [sL_len]; exact q)] at h; cases h
    have h2 : T.cps.toList.drop i = sL "6e0" ++ (sL ".5x" ++ r) := by rw [← List.append_assoc, ← sL_app]; exact h
    unfold LeafL
    rw [h2]
    show (_ : V) = .tup [.str "broken", .str ⟨T.cps.extract i (i + 3)⟩] ∧ _ = i + 3
    rw [ext_of (n := 3) (a := "6e0") h2 hi rfl]
    exact ⟨rfl, rfl⟩
  | 8, _, T, i, r, h => by
    have hi : i ≤ T.cps.size := by
      rcases Nat.le_total i T.cps.size with q | q
      · exact q
      · rw [List.drop_eq_nil_of_le (by rw [sL_len]; exact q)] at h; cases h
    have h2 : T.cps.toList.drop i = sL "8E-10" ++ (sL "e5x" ++ r) := by rw [← List.append_assoc, ← sL_app]; exact h
    unfold LeafL
    rw [h2]
    show (_ : V) = .tup [.str "broken", .str ⟨T.cps.extract i (i + 5)⟩] ∧ _ = i + 5
    rw [ext_of (n := 5) (a := "8E-10") h2 hi rfl]
    exact ⟨rfl, rfl⟩
  | 9, _, T, i, r, h => by
    have hi : i ≤ T.cps.size := by
      rcases Nat.le_total i T.cps.size with q | q
      · exact q
      · rw [List.drop_eq_nil_of_le (by rw [sL_len]; exact q)] at h; cases h
    have h2 : T.cps.toList.drop i = sL "2.50e+3" ++ (sL "+1x" ++ r) := by rw [← List.append_assoc, ← sL_app]; exact h
    unfold LeafL
    rw [h2]
    show (_ : V) = .tup [.str "broken", .str ⟨T.cps.extract i (i + 7)⟩] ∧ _ = i + 7
    rw [ext_of (n := 7) (a := "2.50e+3") h2 hi rfl]
    exact ⟨rfl, rfl⟩
  | 10, _, T, i, r, h => by
    have hi : i ≤ T.cps.size := by
      rcases Nat.le_total i T.cps.size with q | q
      · exact q
      · rw [List.drop_eq_nil_of_le (by rw [sL_len]; exact q)] at h; cases h
    have h2 : T.cps.toList.drop i = sL "null" ++ (sL "l" ++ r) := by rw [← List.append_assoc, ← sL_app]; exact h
    unfold LeafL
    rw [h2]
    exact ⟨rfl, rfl⟩
  | 11, _, T, i, r, h => by
    have hi : i ≤ T.cps.size := by
      rcases Nat.le_total i T.cps.size with q | q
      · exact q
      · rw [List.drop_eq_nil_of_le (by rw [sL_len]; exact q)] at h; cases h
    have h2 : T.cps.toList.drop i = sL "true" ++ (sL "e" ++ r) := by rw [← List.append_assoc, ← sL_app]; exact h
    unfold LeafL
    rw [h2]
    exact ⟨rfl, rfl⟩
  | 12, _, T, i, r, h => by
    have hi : i ≤ T.cps.size := by
      rcases Nat.le_total i T.cps.size with q | q
      · exact q
      · rw [List.drop_eq_nil_of_le (by rw [sL_len]; exact q)] at h; cases h
    have h2 : T.cps.toList.drop i = sL "false" ++ (sL "NaN" ++ r) := by rw [← List.append_assoc, ← sL_app]; exact h
    unfold LeafL
    rw [h2]
    exact ⟨rfl, rfl⟩
  | 13, _, T, i, r, h => by
    have hi : i ≤ T.cps.size := by
      rcases Nat.le_total i T.cps.size with q | q
      · exact q
      · rw [List.drop_eq_nil_of_le (by rw [sL_len]; exact q)] at h; cases h
    have h2 : T.cps.toList.drop i = sL "NaN" ++ (sL "aN" ++ r) := by rw [← List.append_assoc, ← sL_app]; exact h
    unfold LeafL
    rw [h2]
    exact ⟨rfl, rfl⟩
  | 14, _, T, i, r, h => by
    have hi : i ≤ T.cps.size := by
      rcases Nat.le_total i T.cps.size with q | q
      · exact q
      · rw [List.drop_eq_nil_of_le (by rw [sL_len]; exact q)] at h; cases h
    have h2 : T.cps.toList.drop i = sL "Infinity" ++ (sL "-" ++ r) := by rw [← List.append_assoc, ← sL_app]; exact h
    unfold LeafL
    rw [h2]
    exact ⟨rfl, rfl⟩
  | 15, _, T, i, r, h => by
    have hi : i ≤ T.cps.size := by
      rcases Nat.le_total i T.cps.size with q | q
      · exact q
      · rw [List.drop_eq_nil_of_le (by rw [sL_len]; exact q)] at h; cases h
    have h2 : T.cps.toList.drop i = sL "-Infinity" ++ (sL "y" ++ r) := by rw [← List.append_assoc, ← sL_app]; exact h
    unfold LeafL
    rw [h2]
    exact ⟨rfl, rfl⟩
  | 16, _, T, i, r, h => by
    have hi : i ≤ T.cps.size := by
      rcases Nat.le_total i T.cps.size with q | q
      · exact q
      · rw [List.drop_eq_nil_of_le (by rw [sL_len]; exact q)] at h; cases h
    have h2 : T.cps.toList.drop i = sL "\"a1\"" ++ (sL "\"" ++ r) := by rw [← List.append_assoc, ← sL_app]; exact h
    unfold LeafL
    rw [h2]
    have hw := Win.of_drop (T := T) (i := i) (w := [34, 97, 49, 34]) (r := sL "\"" ++ r) h2
    have c1 := hw 1 97 rfl
    have c2 := hw 2 49 rfl
    have c3 := hw 3 34 rfl
    refine ⟨i + 3, by lia, ⟨(getD_of c3).1, by rw [quote_at c3]; rfl⟩, fun j h1 h2 => ?_, ?_, rfl⟩
    · rcases (by lia : j = i + 1 ∨ j = i + 2) with rfl | rfl
      · rw [quote_at c1]; rfl
      · rw [quote_at c2]; rfl
    · show (_ : V) = .tup [.str "text", .str (Txt.slice T (some ((i + 1 : Nat) : Int)) (some ((i + 3 : Nat) : Int)))]
      have h3 : Win T (i + 1) [97, 49] := (Win.app (a := [97, 49]) (b := [34]) hw.cons.2).1
      rw [h3.slice (j := ((i + 3 : Nat) : Int)) (Nat.le_of_lt (getD_of c3).1) (by show ((i + 3 : Nat) : Int) = ((i + 1 : Nat) : Int) + 2; lia)]
      rfl
  | n + 17, hn, _, _, _, _ => absurd hn (by lia)
theorem page {ks : List Kn} {ord : List Nat} (hw : Wf ks lv17) (hord : ord.Perm (List.range ks.length)) : (∀ e, posOf ks lv17 ord e < 1000) ∧ Page (textT ks lv17 ord ord) ks lv17 (posOf ks lv17 ord) := by
  have hmem : ∀ k ∈ ord, k < ks.length := fun k hk => List.mem_range.mp (hord.mem_iff.mp hk)
  have hol : ord.length = ks.length := by rw [hord.length_eq]; simp
  have hk14 := hw.2.2.1
  have hp : ∀ e, posOf ks lv17 ord e < 1000 := fun e => by
    have := offs_le hw e (l := ord) hmem
    unfold posOf
    lia
  have hnd : ord.Nodup := hord.nodup_iff.mpr List.nodup_range
  have hg : ∀ e, (sL (d3 (posOf ks lv17 ord e))).length = 3 := fun e => by rw [sL_len, d3_len (hp e)]
  have at' : ∀ i, i < ks.length → ∃ r, (sL (textT ks lv17 ord ord)).drop (posOf ks lv17 ord i) = sL (fullT ks lv17 ord (knAt ks i)) ++ r := fun i hi => text_at hp hnd (hord.mem_iff.mpr (List.mem_range.mpr hi))
  refine ⟨hp, ⟨?_, fun i f hi hk => ?_, fun i es z hi hk => ?_, fun i a b z hi hk => ?_⟩⟩
  · have := textT_len (ks := ks) (lv := lv17) (ord := ord) (l := ord) fun k hk => by rw [full_len hp]; exact (flen_le hw (hmem k hk)).2
    have e : (textT ks lv17 ord ord).length = (textT ks lv17 ord ord).cps.size := rfl
    lia
  · obtain ⟨r, h⟩ := at' i hi
    have hf := hw.2.2.2 _ (hw.kn hi).2
    rw [hk] at h hf
    exact leaf_at f hf h
  · obtain ⟨r, h⟩ := at' i hi
    have hes := hw.2.2.2 _ (hw.kn hi).2
    rw [hk] at h hes
    have h1 := Win.of_drop h
    have e1 : sL (fullT ks lv17 ord (Kn.lst es z)) = 91 :: ((es.map fun e => sL (d3 (posOf ks lv17 ord e))).flatten ++ [93]) := by
      show sL ("[" ++ Txt.join "" (es.map fun e => d3 (posOf ks lv17 ord e)) ++ "]") = _
      rw [sL_app, sL_app, sL_join, List.map_map]; rfl
    rw [e1] at h1
    have h2 := h1.cons.2.app
    rw [flat_len hg] at h2
    exact ⟨h1.cons.1, fun k e he => placeAt (hp e) (h2.1.threes hg he), h2.2.cons.1⟩
  · obtain ⟨r, h⟩ := at' i hi
    rw [hk] at h
    have h1 := Win.of_drop h
    have e1 : sL (fullT ks lv17 ord (Kn.pair a b z)) = 123 :: (([a, b].map fun e => sL (d3 (posOf ks lv17 ord e))).flatten ++ [125]) := by
      show sL ("{" ++ Txt.join "" ([a, b].map fun e => d3 (posOf ks lv17 ord e)) ++ "}") = _
      rw [sL_app, sL_app, sL_join, List.map_map]; rfl
    rw [e1] at h1
    have h2 := h1.cons.2.app.1
    exact ⟨h1.cons.1, placeAt (hp a) (h2.threes (k := 0) hg rfl), placeAt (hp b) (h2.threes (k := 1) hg rfl)⟩
noncomputable def allK (ks : List Kn) : List Kn := ks ++ [Kn.lst (List.range ks.length) 0]
theorem allK_len {ks : List Kn} : (allK ks).length = ks.length + 1 := by simp [allK]
theorem knAt_lt {ks : List Kn} {i : Nat} (hi : i < ks.length) : knAt (allK ks) i = knAt ks i ∧ ks[i]? = some (knAt ks i) := by
  unfold knAt allK
  rw [List.getElem?_append_left hi, List.getElem?_eq_getElem hi]
  exact ⟨rfl, rfl⟩
theorem knAt_last {ks : List Kn} : knAt (allK ks) ks.length = Kn.lst (List.range ks.length) 0 := by
  unfold knAt allK
  rw [List.getElem?_append_right (Nat.le_refl _), Nat.sub_self]; rfl
theorem wf_all {ks : List Kn} (h : KnIn ks) (hl : ks.length ≤ 13) : Wf (allK ks) lv17 := by
  refine ⟨lv17_ok.1, lv17_ok.2, by rw [allK_len]; lia, fun k hk => ?_⟩
  rw [allK_len]
  rcases List.mem_append.mp hk with q | q
  · obtain ⟨i, hi⟩ := List.getElem?_of_mem q
    have hlt : i < ks.length := by
      rcases Nat.lt_or_ge i ks.length with w | w
      · exact w
      · rw [List.getElem?_eq_none w] at hi; cases hi
    have g := h i k hi
    cases k with
    | leaf f => exact g
    | lst es z => exact ⟨by have := g.2.1; lia, fun e he => by have := g.1 e he; lia⟩
    | pair a b z => exact ⟨by have := g.1; lia, by have := g.2.1; lia⟩
  · rw [List.mem_singleton] at q
    subst q
    refine ⟨by simp; lia, fun e he => ?_⟩
    have := List.mem_range.mp he
    lia
theorem eld_all {ks : List Kn} (h : KnIn ks) : Eld (allK ks) := fun i hi => by
  rw [allK_len] at hi
  rcases Nat.lt_or_ge i ks.length with q | q
  · obtain ⟨e1, e2⟩ := knAt_lt q
    rw [e1]
    have g := h i _ e2
    cases hk : knAt ks i with
    | leaf f => trivial
    | lst es z => rw [hk] at g; exact g.1
    | pair a b z => rw [hk] at g; exact ⟨g.1, g.2.1⟩
  · have : i = ks.length := by lia
    subst this
    rw [knAt_last]
    exact fun e he => List.mem_range.mp he
theorem rp_leaf : ∀ f, f < 17 → Rp (leafAt lv17 f).v 30 1 := by
  intro f hf
  have w : ∀ {x y : Str}, (x.cps.toList.all fun c => decide (c < 16 ^ 8)) = true → (y.cps.toList.all fun c => decide (c < 16 ^ 8)) = true → x.cps.size ≤ 10 → y.cps.size ≤ 10 → Rp (.tup [.str x, .str y]) 30 1 := fun h1 h2 h3 h4 =>
    Rp.tup (Rps.cons (Rp.str h1 h3) (Rps.cons (Rp.str h2 h4) (Rps.nil (b := 0)) (Nat.le_refl _)) (by lia))
  have d : ∀ x : Str, (x.cps.toList.all fun c => decide (c < 16 ^ 8)) = true → (x.cps.toList.all fun c => decide (c < 16 ^ 8)) = true := fun _ h => h
  match f, hf with
  | 0, _ => exact w (by decide) (by decide) (by decide) (by decide)
  | 1, _ => exact w (by decide) (by decide) (by decide) (by decide)
  | 2, _ => exact w (by decide) (by decide) (by decide) (by decide)
  | 3, _ => exact w (by decide) (by decide) (by decide) (by decide)
  | 4, _ => exact w (by decide) (by decide) (by decide) (by decide)
  | 5, _ => exact w (by decide) (by decide) (by decide) (by decide)
  | 6, _ => exact w (by decide) (by decide) (by decide) (by decide)
  | 7, _ => exact w (by decide) (by decide) (by decide) (by decide)
  | 8, _ => exact w (by decide) (by decide) (by decide) (by decide)
  | 9, _ => exact w (by decide) (by decide) (by decide) (by decide)
  | 10, _ => exact Rp.none
  | 11, _ => exact Rp.bool
  | 12, _ => exact Rp.bool
  | 13, _ => exact w (by decide) (by decide) (by decide) (by decide)
  | 14, _ => exact w (by decide) (by decide) (by decide) (by decide)
  | 15, _ => exact w (by decide) (by decide) (by decide) (by decide)
  | 16, _ => exact w (by decide) (by decide) (by decide) (by decide)
  | n + 17, h => exact absurd h (by lia)
theorem rps_map {g : Nat → V} {b dp : Nat} (z : Nat → Nat) : ∀ {es : List Nat}, (∀ e ∈ es, Rp (g e) (z e) dp) → (es.map fun e => z e + 1).sum ≤ b → Rps (es.map g) b dp
  | [], _, _ => Rps.nil
  | e :: es, h, hb => by
    rw [List.map_cons, List.sum_cons] at hb
    exact Rps.cons (h e (.head _)) (rps_map (b := (es.map fun e => z e + 1).sum) z (fun e he => h e (.tail _ he)) (Nat.le_refl _)) (by lia)
theorem rp_tree {ks : List Kn} (h : KnIn ks) : ∀ (n i : Nat), i < n → i < ks.length → Rp (treeN (allK ks) lv17 n i) (40 * (szAt ks i).toNat) n
  | 0, _, h0, _ => absurd h0 (Nat.not_lt_zero _)
  | n + 1, i, hin, hi => by
    obtain ⟨e1, e2⟩ := knAt_lt hi
    have htr : treeN (allK ks) lv17 (n + 1) i = match knAt (allK ks) i with
      | .leaf f => (leafAt lv17 f).v
      | .lst es _ => .lst (es.map (treeN (allK ks) lv17 n))
      | .pair a b _ => .tup [.str "pair", treeN (allK ks) lv17 n a, treeN (allK ks) lv17 n b] := rfl
    rw [htr, e1]
    have g := h i _ e2
    have pos : ∀ e, e < ks.length → 1 ≤ szAt ks e := fun e he => by
      have := h.pos e _ (knAt_lt he).2
      unfold szAt
      rw [(knAt_lt he).2]
      exact this
    have hsz : szAt ks i = (knAt ks i).size := by unfold szAt; rw [e2]; rfl
    rw [hsz]
    cases hk : knAt ks i with
    | leaf f =>
      rw [hk] at g
      exact (rp_leaf f g).mono (by show 30 ≤ 40 * (1 : Int).toNat; decide) (by lia)
    | lst es z =>
      rw [hk] at g
      obtain ⟨g1, g2, g3, g4⟩ := g
      refine Rp.lst (rps_map (fun e => 40 * (szAt ks e).toNat) (fun e he => rp_tree h n e (by have := g1 e he; lia) (by have := g1 e he; lia)) ?_)
      have : ∀ (l : List Nat), (∀ e ∈ l, e < ks.length) → ((l.map fun e => 40 * (szAt ks e).toNat + 1).sum : Nat) = 40 * ((l.map (szAt ks)).sum).toNat + l.length ∧ 0 ≤ (l.map (szAt ks)).sum := by
        intro l
        induction l with
        | nil => intro _; exact ⟨rfl, Int.le_refl _⟩
        | cons e l ih =>
          intro hl
          obtain ⟨i1, i2⟩ := ih fun e he => hl e (.tail _ he)
          have p1 := pos e (hl e (.head _))
          simp only [List.map_cons, List.sum_cons, List.length_cons]
          rw [i1]
          constructor <;> lia
      obtain ⟨t1, t2⟩ := this es fun e he => by have := g1 e he; lia
      rw [t1]
      show _ ≤ 40 * z.toNat
      lia
    | pair a b z =>
      rw [hk] at g
      obtain ⟨g1, g2, g3, g4⟩ := g
      have p1 := pos a (by lia)
      have p2 := pos b (by lia)
      refine Rp.tup (Rps.cons (Rp.str (b := 4) (by decide) (by decide)) (Rps.cons (rp_tree h n a (by lia) (by lia)) (Rps.cons (rp_tree h n b (by lia) (by lia)) (Rps.nil (b := 0)) (Nat.le_refl _)) (Nat.le_refl _)) ?_)
      show _ ≤ 40 * z.toNat
      lia
theorem rp_any {ks : List Kn} (h : KnIn ks) (hl : ks.length ≤ 13) {i : Nat} (hi : i < (allK ks).length) : Rp (treeN (allK ks) lv17 14 i) 10000 14 := by
  rw [allK_len] at hi
  have sz : ∀ i, i < ks.length → szAt ks i ≤ 12 := fun i hi => by
    obtain ⟨e1, e2⟩ := knAt_lt hi
    have g := h i _ e2
    unfold szAt
    rw [e2]
    show (knAt ks i).size ≤ 12
    cases hk : knAt ks i with
    | leaf f => show (1 : Int) ≤ 12; decide
    | lst es z => rw [hk] at g; exact g.2.2.2
    | pair a b z => rw [hk] at g; exact g.2.2.2
  rcases Nat.lt_or_ge i ks.length with q | q
  · exact (rp_tree h 14 i (by lia) q).mono (by have := sz i q; lia) (Nat.le_refl _)
  · have : i = ks.length := by lia
    subst this
    have htr : treeN (allK ks) lv17 (13 + 1) ks.length = match knAt (allK ks) ks.length with
      | .leaf f => (leafAt lv17 f).v
      | .lst es _ => .lst (es.map (treeN (allK ks) lv17 13))
      | .pair a b _ => .tup [.str "pair", treeN (allK ks) lv17 13 a, treeN (allK ks) lv17 13 b] := rfl
    show Rp (treeN (allK ks) lv17 (13 + 1) ks.length) 10000 (13 + 1)
    rw [htr, knAt_last]
    refine Rp.lst (rps_map (fun _ => 480) (fun e he => ?_) ?_)
    · have he := List.mem_range.mp he
      exact (rp_tree h 13 e (by lia) he).mono (by have := sz e he; lia) (Nat.le_refl _)
    · have : ∀ n, ((List.range n).map fun _ => 480 + 1).sum = 481 * n := by
        intro n
        induction n with
        | zero => rfl
        | succ n ih => rw [List.range_succ, List.map_append, List.sum_append, ih]; simp; lia
      rw [this]
      lia
theorem figs {G : Glob} {fr : List Env} {A : Around} {F : Fz} {H : Hp} {E : Value → Fz → Hp → Prop} {a : Addr} (hlen0 : G.mg (Str.ofString "len") = none) (hlen : G.mb (Str.ofString "len") = some (.builtin "len")) (hdm0 : G.mg (Str.ofString "divmod") = none) (hdm : G.mb (Str.ofString "divmod") = some (.builtin "divmod"))
    (hf : IsDef F (stm 5) a) (hA : Ok fr A 1) (zs : List Int) (base most : Int) (hb : 0 < base) (hb2 : base < 1073741824) (hmost : 0 ≤ most ∧ most < 1000) {Q : V → Fz → Hp → Prop}
    (h : ∀ (fs : List Int), (fs.length : Int) ≤ most → (∀ f ∈ fs, 0 ≤ f ∧ f < base) → Q (.lst (fs.map .int)) F H) : Cl G fr A F H (.ref a) [.lst (zs.map .int), .int base, .int most] Q E := by
  obtain ⟨c, s, o, pm, hs, hf, hd, hc⟩ := hf
  obtain rfl := Option.some.inj hs.symm
  refine Cl.freeze ?_
  refine call_def hf hd hc [Str.ofString "script", Str.ofString "base", Str.ofString "most"] [Str.ofString "figures", Str.ofString "number", Str.ofString "left", Str.ofString "figure"] rfl (by decide) (fun vs hv => ?_) (by rfl) (by rfl) hA.room (fun _ => leaves_no) (fun L A' hD => ?_)
  · obtain ⟨a, b, c, rfl⟩ := len3 hv
    rfl
  · simp only [mkRho, List.map]
    have hA := hA.deep hD
    have hh := hA.handled
    refine Ex_cons ?_
    refine Ex_Assign_Name ?_
    refine Ev_List ?_
    with_reducible show Evs _ _ _ _ _ (spliced (backTo _ (starEach [] _))) _ _
    refine Evs_nil ?_
    refine ⟨by decide, fun lst => ?_⟩
    refine' Store.mk ?u ?v ?_
    case u => walk_at "upd"
    case v => walk_at "set"
    with_reducible refine Then.next ?_
    refine Ex_cons ?_
    refine Ex_For noted_no ?_
    refine Ev_local (by walk_at "has") (by walk_at "lk") ?_
    refine ⟨_, iter_lst hh, fun k F2 H2 => F = F2 ∧ ∃ (fs : List Int) (on ol og : Option V), (((fs.length : Nat) : Int) ≤ most ∧ ∀ f ∈ fs, 0 ≤ f ∧ f < base) ∧
      H2 = (lst, .list (fs.map .int)) :: (L, .ns [(Str.ofString "script", some (.lst (zs.map .int))), (Str.ofString "base", some (.int base)), (Str.ofString "most", some (.int most)), (Str.ofString "figures", some (.ref lst)), (Str.ofString "number", on), (Str.ofString "left", ol), (Str.ofString "figure", og)]) :: H,
      ⟨rfl, [], none, none, none, ⟨by simp; lia, by simp⟩, rfl⟩, ?_, ?_⟩
    · rintro k y F2 H2 hy ⟨rfl, fs, on, ol, og, hfs, rfl⟩ Qm hm
      obtain ⟨z, rfl⟩ : ∃ z, y = .int z := by
        obtain ⟨z, _, rfl⟩ := List.mem_map.mp (List.mem_of_getElem? hy)
        exact ⟨z, rfl⟩
      refine As_Name ?_
      refine' Store.mk ?u ?v ?_
      case u => walk_at "upd"
      case v => walk_at "set"
      refine Ex_cons ?_
      refine Ex_Assign_Name ?_
      refine Ev.val (fun x => ∃ z, x = .int z) ?_ ?_
      · refine Ev_IfExp ?_
        refine' It_Compare1' ?_ ?_ ?_
        rotate_left 2
        refine Ev_local (by walk_at "has") (by walk_at "lk") ?_
        with_reducible exact Is.mk
        refine Ev_int ?_
        with_reducible exact Is.mk
        refine ge_ii ?_
        refine ⟨_, rfl, ?_⟩
        refine Bif (fun _ => ?_) fun _ => ?_
        · refine' Ev_BinOp' ?_ ?_ ?_
          rotate_left 2
          refine Ev_int ?_
          with_reducible exact Is.mk
          refine Ev_local (by walk_at "has") (by walk_at "lk") ?_
          with_reducible exact Is.mk
          refine mul_ii (.of_left (by decide)) ⟨⟨_, rfl⟩, rfl, rfl⟩
        · refine' Ev_BinOp' ?_ ?_ ?_
          rotate_left 2
          refine' Ev_BinOp' ?_ ?_ ?_
          rotate_left 2
          refine' Ev_UnaryOp' ?_ ?_
          rotate_left 1
          refine Ev_int ?_
          with_reducible exact Is.mk
          refine neg_i ?_
          with_reducible exact Is.mk
          refine Ev_local (by walk_at "has") (by walk_at "lk") ?_
          with_reducible exact Is.mk
          refine mul_ii (.of_left (by decide)) ?_
          with_reducible exact Is.mk
          refine Ev_int ?_
          with_reducible exact Is.mk
          refine sub_ii ?_
          exact ⟨⟨_, rfl⟩, rfl, rfl⟩
      · rintro _ ⟨left, rfl⟩
        refine' Store.mk ?u ?v ?_
        case u => walk_at "upd"
        case v => walk_at "set"
        with_reducible refine Then.next ?_
        refine Ex_cons ?_
        refine Ex_While (fun n F3 H3 => F = F3 ∧ ∃ (fs : List Int) (left : Int) (og : Option V), (((fs.length : Nat) : Int) ≤ most ∧ ∀ f ∈ fs, 0 ≤ f ∧ f < base) ∧ n = most.toNat - fs.length ∧
          H3 = (lst, .list (fs.map .int)) :: (L, .ns [(Str.ofString "script", some (.lst (zs.map .int))), (Str.ofString "base", some (.int base)), (Str.ofString "most", some (.int most)), (Str.ofString "figures", some (.ref lst)), (Str.ofString "number", some (.int z)), (Str.ofString "left", some (.int left)), (Str.ofString "figure", og)]) :: H)
          _ ⟨rfl, fs, left, og, hfs, rfl, rfl⟩ ?_ noted_no
        rintro n F3 H3 ⟨rfl, fs, left, og, hfs, rfl, rfl⟩ Qn hn
        refine' It_Compare1' ?_ ?_ ?_
        rotate_left 2
        refine' Ev_Call' ?_ ?_ ?_ ?_
        rotate_left 2
        refine Ev_blt (by assumption) (by assumption) .blt ?_
        with_reducible exact Is.mk
        with_reducible exact KOk.blt
        refine' Evs_cons' ?_ ?_
        rotate_left 2
        refine Ev_local (by walk_at "has") (by walk_at "lk") ?_
        with_reducible exact Is.mk
        exact Evs_nil'
        refine len_list (by walk_at "has") (by simp; lia) ?_
        with_reducible exact Is.mk
        refine Ev_local (by walk_at "has") (by walk_at "lk") ?_
        with_reducible exact Is.mk
        refine lt_ii ?_
        refine ⟨_, rfl, ?_⟩
        refine Bif (fun hlt => ?_) fun hge => ?_
        · simp only [List.length_map, decide_eq_true_eq] at hlt
          refine Ex_cons ?_
          refine Ex_Assign_Tuple (by assumption) rfl rfl ?_
          refine' Ev_Call' ?_ ?_ ?_ ?_
          rotate_left 2
          refine Ev_blt (by assumption) (by assumption) .blt ?_
          with_reducible exact Is.mk
          with_reducible exact KOk.blt
          refine' Evs_cons' ?_ ?_
          rotate_left 2
          refine Ev_local (by walk_at "has") (by walk_at "lk") ?_
          with_reducible exact Is.mk
          refine' Evs_cons' ?_ ?_
          rotate_left 2
          refine Ev_local (by walk_at "has") (by walk_at "lk") ?_
          with_reducible exact Is.mk
          exact Evs_nil'
          refine divmod_ii (by lia) (by lia) ?_
          refine ⟨_, rfl, rfl, ?_⟩
          refine Stores.cons ?_
          refine' Store.mk ?u ?v ?_
          case u => walk_at "upd"
          case v => walk_at "set"
          refine Stores.cons ?_
          refine' Store.mk ?u ?v ?_
          case u => walk_at "upd"
          case v => walk_at "set"
          refine Stores.nil ?_
          with_reducible refine Then.next ?_
          refine Ex_cons ?_
          refine Ex_Expr ?_
          refine' Ev_method' ?_ ?_
          rotate_left 1
          refine Ev_local (by walk_at "has") (by walk_at "lk") ?_
          with_reducible exact Is.mk
          refine ⟨"list", _, PySem.F.plainAttrs_list, slot_list_append, type_list_append, .list (by walk_at "has"), ?_⟩
          refine' MArgs.mk ?_ ?_
          rotate_left 1
          refine' Evs_cons' ?_ ?_
          rotate_left 2
          refine Ev_local (by walk_at "has") (by walk_at "lk") ?_
          with_reducible exact Is.mk
          exact Evs_nil'
          refine append (by walk_at "upd") (by simp [sizeLine]; lia) ?_
          refine ⟨rfl, ?_⟩
          have hfs' : (((fs ++ [left.fmod base]).length : Nat) : Int) ≤ most ∧ ∀ f ∈ fs ++ [left.fmod base], 0 ≤ f ∧ f < base := by
            refine ⟨by simp; lia, fun f hf => ?_⟩
            rcases List.mem_append.mp hf with hf | hf
            · exact hfs.2 f hf
            · rw [List.mem_singleton] at hf
              subst hf
              exact ⟨Int.fmod_nonneg_of_pos _ hb, Int.fmod_lt_of_pos _ hb⟩
          with_reducible refine Then.next ?_
          refine Ex_cons ?_
          refine Ex_If ?_
          refine' It_Compare1' ?_ ?_ ?_
          rotate_left 2
          refine Ev_local (by walk_at "has") (by walk_at "lk") ?_
          with_reducible exact Is.mk
          refine Ev_int ?_
          with_reducible exact Is.mk
          refine eq_ii ?_
          refine ⟨_, rfl, ?_⟩
          refine Bif (fun _ => ?_) fun _ => ?_
          · refine Ex_cons ?_
            refine Ex_Break ?_
            with_reducible refine Then.brk ?_
            with_reducible refine Then.brk ?_
            with_reducible refine Turn.brk ?_
            with_reducible refine Then.next ?_
            refine Ex_nil ?_
            with_reducible refine Turn.next ?_
            exact hm _ _ ⟨rfl, fs ++ [left.fmod base], _, _, _, hfs', by rw [List.map_append]; rfl⟩
          · refine Ex_nil ?_
            with_reducible refine Then.next ?_
            refine Ex_nil ?_
            with_reducible refine Turn.next ?_
            exact hn (most.toNat - (fs ++ [left.fmod base]).length) _ _ (by simp; lia) ⟨rfl, fs ++ [left.fmod base], _, _, hfs', rfl, by rw [List.map_append]; rfl⟩
        · with_reducible refine Then.next ?_
          refine Ex_nil ?_
          with_reducible refine Turn.next ?_
          exact hm _ _ ⟨rfl, fs, _, _, _, hfs, rfl⟩
    · rintro F2 H2 ⟨rfl, fs, on, ol, og, hfs, rfl⟩
      with_reducible refine Then.next ?_
      refine Ex_cons ?_
      refine Ex_Return ?_
      refine Ev_local (by walk_at "has") (by walk_at "lk") ?_
      with_reducible refine Then.ret ?_
      refine ⟨_, _, by walk_at "rem", _, _, _, rfl, by walk_at "rem", ?_⟩
      exact h fs hfs.1 hfs.2
theorem Cl.front {G : Glob} {fr : List Env} {A : Around} {F : Fz} {H H1 : Hp} {a : Addr} {x : AO} {f : V} {xs : List V} {Q : V → Fz → Hp → Prop} {E : Value → Fz → Hp → Prop} (hr : Rem H a x H1) (h : Cl G fr A F ((a, x) :: H1) f xs Q E) : Cl G fr A F H f xs Q E := h.perm hr.perm
theorem two_get {a b y : V} : ∀ {u : Nat}, [a, b][u]? = some y → y = a ∨ y = b
  | 0, h => .inl (Option.some.inj h).symm
  | 1, h => .inr (Option.some.inj h).symm
  | n + 2, h => by simp at h
noncomputable def pgV (ks : List Kn) (ord : List Nat) : V := .tup [.str (textT ks lv17 ord ord), .lst ((List.range ks.length).map (spanV ks lv17 ord))]
structure Gl07 (G : Glob) (F : Fz) (aF aC aK aP aW aT aM cC cM PC PM pat : Addr) : Prop where
  figs : G.mg (Str.ofString "_law_figures") = some (.ref aF)
  figsD : IsDef F (stm 5) aF
  ctx : G.mg (Str.ofString "_law_context") = some (.ref aC)
  ctxD : IsDefC F (stm 6) aC cC
  ctxC : CodeOk F cC PC
  ctxB : BOk G PC
  knots : G.mg (Str.ofString "_law_knots") = some (.ref aK)
  knotsD : IsDef F (stm 7) aK
  places : G.mg (Str.ofString "_law_places") = some (.ref aP)
  placesD : IsDef F (stm 8) aP
  write : G.mg (Str.ofString "_law_write") = some (.ref aW)
  writeD : IsDef F (stm 9) aW
  tree : G.mg (Str.ofString "_law_tree") = some (.ref aT)
  treeD : IsDef F (stm 10) aT
  make : G.mg (Str.ofString "py_make_scanner") = some (.ref aM)
  makeD : IsDefC F (stm 3) aM cM
  makeC : CodeOk F cM PM
  makeB : BOk G PM
  num : G.mg (Str.ofString "NUMBER_RE") = some (.ref pat)
  pat : PatF F pat
  len0 : G.mg (Str.ofString "len") = none
  len : G.mb (Str.ofString "len") = some (.builtin "len")
  divmod0 : G.mg (Str.ofString "divmod") = none
  divmod : G.mb (Str.ofString "divmod") = some (.builtin "divmod")
  list0 : G.mg (Str.ofString "list") = none
  list : G.mb (Str.ofString "list") = some (.type "list")
  range0 : G.mg (Str.ofString "range") = none
  range : G.mb (Str.ofString "range") = some (.type "range")
  str0 : G.mg (Str.ofString "str") = none
  str : G.mb (Str.ofString "str") = some (.type "str")
  int0 : G.mg (Str.ofString "int") = none
  int : G.mb (Str.ofString "int") = some (.type "int")
  repr0 : G.mg (Str.ofString "repr") = none
  repr : G.mb (Str.ofString "repr") = some (.builtin "repr")
  exc0 : G.mg (Str.ofString "Exception") = none
  exc : G.mb (Str.ofString "Exception") = some (.type "Exception")
  bt : BtS G
theorem law07 {G : Glob} {A : Around} {F : Fz} {a aF aC aK aP aW aT aM cC cM PC PM pat : Addr} (g : Gl07 G F aF aC aK aP aW aT aM cC cM PC PM pat) (hf : IsDef F (stm 11) a) (hA : Ok [] A 40) (zs : List Int) :
    ∀ R s, Rep G [] F ([(PC, AO.raw (tabObj (tabOf []))), (PM, AO.raw (tabObj (tabOf [])))] ++ R) s → ∀ xs, RVs F xs [.lst (zs.map .int)] →
      codeAny G.M A (.call (.ref a) ⟨xs, []⟩) (fun r s' => match r with
        | .ok (.ret v) => PQ G [] F R (VQ fun x F' H' => x = .bool true ∧ (∃ ps, (PC, AO.raw (tabObj ps)) ∈ H') ∧ ∃ ps, (PM, AO.raw (tabObj ps)) ∈ H') v s'
        | .ok _ => False
        | .error e => PQ G [] F R (fun e => Dn (No e)) e s') s := by
  intro R s hR xs hxs
  obtain ⟨c, s', o, pm, hs, hf, hd, hc⟩ := hf
  obtain rfl := Option.some.inj hs.symm
  refine code_cells (Q := fun x F' H' => x = .bool true ∧ (∃ ps, (PC, AO.raw (tabObj ps)) ∈ H') ∧ ∃ ps, (PM, AO.raw (tabObj ps)) ∈ H') (E := No) (E' := fun _ => No) hf hd hc [true] [Str.ofString "script"] [Str.ofString "order", Str.ofString "index", Str.ofString "trees", Str.ofString "pages", Str.ofString "way", Str.ofString "spans", Str.ofString "scanner", Str.ofString "text", Str.ofString "given"] [Str.ofString "knots", Str.ofString "leaves"] rfl (by decide) (by decide) (fun vs hv => ?_) (by rfl) (by rfl) (fun n => ?_) (by decide) (by rfl) rfl hA.room (fun _ _ => leaves_no) (fun L cs A' hcs hD => ?_) (.refl F) hxs hR
  · obtain ⟨a, rfl⟩ := len1 hv
    rfl
  · rfl
  ·
      obtain ⟨c2, c1, e⟩ := len2 hcs
      subst e
      simp only [mkRhoB, List.map, initB, List.zip, List.zipWith, List.cons_append, List.nil_append]
      have hA := hA.deep hD
      have hh := hA.handled
      refine Ex_cons ?_
      refine Ex_Assign_NameC ?_
      refine Ev_ListF ?_
      refine Evs_cons ?_
      refine' Ev_Tuple' ?_ ?_ ?_
      rotate_left 1
      refine' Evs_cons' ?_ ?_
      rotate_left 2
      refine Ev_str ?_
      with_reducible exact Is.mk
      refine' Evs_cons' ?_ ?_
      rotate_left 2
      refine' Ev_Tuple' ?_ ?_ ?_
      rotate_left 1
      refine' Evs_cons' ?_ ?_
      rotate_left 2
      refine Ev_str ?_
      with_reducible exact Is.mk
      refine' Evs_cons' ?_ ?_
      rotate_left 2
      refine Ev_str ?_
      with_reducible exact Is.mk
      exact Evs_nil'
      exact Nat.le_of_ble_eq_true rfl
      with_reducible exact Is.mk
      refine' Evs_cons' ?_ ?_
      rotate_left 2
      refine Ev_str ?_
      with_reducible exact Is.mk
      exact Evs_nil'
      exact Nat.le_of_ble_eq_true rfl
      refine Evs_cons ?_
      refine' Ev_Tuple' ?_ ?_ ?_
      rotate_left 1
      refine' Evs_cons' ?_ ?_
      rotate_left 2
      refine Ev_str ?_
      with_reducible exact Is.mk
      refine' Evs_cons' ?_ ?_
      rotate_left 2
      refine' Ev_Tuple' ?_ ?_ ?_
      rotate_left 1
      refine' Evs_cons' ?_ ?_
      rotate_left 2
      refine Ev_str ?_
      with_reducible exact Is.mk
      refine' Evs_cons' ?_ ?_
      rotate_left 2
      refine Ev_str ?_
      with_reducible exact Is.mk
      exact Evs_nil'
      exact Nat.le_of_ble_eq_true rfl
      with_reducible exact Is.mk
      refine' Evs_cons' ?_ ?_
      rotate_left 2
      refine Ev_str ?_
      with_reducible exact Is.mk
      exact Evs_nil'
      exact Nat.le_of_ble_eq_true rfl
      refine Evs_cons ?_
      refine' Ev_Tuple' ?_ ?_ ?_
      rotate_left 1
      refine' Evs_cons' ?_ ?_
      rotate_left 2
      refine Ev_str ?_
      with_reducible exact Is.mk
      refine' Evs_cons' ?_ ?_
      rotate_left 2
      refine' Ev_Tuple' ?_ ?_ ?_
      rotate_left 1
      refine' Evs_cons' ?_ ?_
      rotate_left 2
      refine Ev_str ?_
      with_reducible exact Is.mk
      refine' Evs_cons' ?_ ?_
      rotate_left 2
      refine Ev_str ?_
      with_reducible exact Is.mk
      exact Evs_nil'
      exact Nat.le_of_ble_eq_true rfl
      with_reducible exact Is.mk
      refine' Evs_cons' ?_ ?_
      rotate_left 2
      refine Ev_str ?_
      with_reducible exact Is.mk
      exact Evs_nil'
      exact Nat.le_of_ble_eq_true rfl
      refine Evs_cons ?_
      refine' Ev_Tuple' ?_ ?_ ?_
      rotate_left 1
      refine' Evs_cons' ?_ ?_
      rotate_left 2
      refine Ev_str ?_
      with_reducible exact Is.mk
      refine' Evs_cons' ?_ ?_
      rotate_left 2
      refine' Ev_Tuple' ?_ ?_ ?_
      rotate_left 1
      refine' Evs_cons' ?_ ?_
      rotate_left 2
      refine Ev_str ?_
      with_reducible exact Is.mk
      refine' Evs_cons' ?_ ?_
      rotate_left 2
      refine Ev_str ?_
      with_reducible exact Is.mk
      exact Evs_nil'
      exact Nat.le_of_ble_eq_true rfl
      with_reducible exact Is.mk
      refine' Evs_cons' ?_ ?_
      rotate_left 2
      refine Ev_str ?_
      with_reducible exact Is.mk
      exact Evs_nil'
      exact Nat.le_of_ble_eq_true rfl
      refine Evs_cons ?_
      refine' Ev_Tuple' ?_ ?_ ?_
      rotate_left 1
      refine' Evs_cons' ?_ ?_
      rotate_left 2
      refine Ev_str ?_
      with_reducible exact Is.mk
      refine' Evs_cons' ?_ ?_
      rotate_left 2
      refine' Ev_Tuple' ?_ ?_ ?_
      rotate_left 1
      refine' Evs_cons' ?_ ?_
      rotate_left 2
      refine Ev_str ?_
      with_reducible exact Is.mk
      refine' Evs_cons' ?_ ?_
      rotate_left 2
      refine Ev_str ?_
      with_reducible exact Is.mk
      exact Evs_nil'
      exact Nat.le_of_ble_eq_true rfl
      with_reducible exact Is.mk
      refine' Evs_cons' ?_ ?_
      rotate_left 2
      refine Ev_str ?_
      with_reducible exact Is.mk
      exact Evs_nil'
      exact Nat.le_of_ble_eq_true rfl
      refine Evs_cons ?_
      refine' Ev_Tuple' ?_ ?_ ?_
      rotate_left 1
      refine' Evs_cons' ?_ ?_
      rotate_left 2
      refine Ev_str ?_
      with_reducible exact Is.mk
      refine' Evs_cons' ?_ ?_
      rotate_left 2
      refine' Ev_Tuple' ?_ ?_ ?_
      rotate_left 1
      refine' Evs_cons' ?_ ?_
      rotate_left 2
      refine Ev_str ?_
      with_reducible exact Is.mk
      refine' Evs_cons' ?_ ?_
      rotate_left 2
      refine Ev_str ?_
      with_reducible exact Is.mk
      exact Evs_nil'
      exact Nat.le_of_ble_eq_true rfl
      with_reducible exact Is.mk
      refine' Evs_cons' ?_ ?_
      rotate_left 2
      refine Ev_str ?_
      with_reducible exact Is.mk
      exact Evs_nil'
      exact Nat.le_of_ble_eq_true rfl
      refine Evs_cons ?_
      refine' Ev_Tuple' ?_ ?_ ?_
      rotate_left 1
      refine' Evs_cons' ?_ ?_
      rotate_left 2
      refine Ev_str ?_
      with_reducible exact Is.mk
      refine' Evs_cons' ?_ ?_
      rotate_left 2
      refine' Ev_Tuple' ?_ ?_ ?_
      rotate_left 1
      refine' Evs_cons' ?_ ?_
      rotate_left 2
      refine Ev_str ?_
      with_reducible exact Is.mk
      refine' Evs_cons' ?_ ?_
      rotate_left 2
      refine Ev_str ?_
      with_reducible exact Is.mk
      exact Evs_nil'
      exact Nat.le_of_ble_eq_true rfl
      with_reducible exact Is.mk
      refine' Evs_cons' ?_ ?_
      rotate_left 2
      refine Ev_str ?_
      with_reducible exact Is.mk
      exact Evs_nil'
      exact Nat.le_of_ble_eq_true rfl
      refine Evs_cons ?_
      refine' Ev_Tuple' ?_ ?_ ?_
      rotate_left 1
      refine' Evs_cons' ?_ ?_
      rotate_left 2
      refine Ev_str ?_
      with_reducible exact Is.mk
      refine' Evs_cons' ?_ ?_
      rotate_left 2
      refine' Ev_Tuple' ?_ ?_ ?_
      rotate_left 1
      refine' Evs_cons' ?_ ?_
      rotate_left 2
      refine Ev_str ?_
      with_reducible exact Is.mk
      refine' Evs_cons' ?_ ?_
      rotate_left 2
      refine Ev_str ?_
      with_reducible exact Is.mk
      exact Evs_nil'
      exact Nat.le_of_ble_eq_true rfl
      with_reducible exact Is.mk
      refine' Evs_cons' ?_ ?_
      rotate_left 2
      refine Ev_str ?_
      with_reducible exact Is.mk
      exact Evs_nil'
      exact Nat.le_of_ble_eq_true rfl
      refine Evs_cons ?_
      refine' Ev_Tuple' ?_ ?_ ?_
      rotate_left 1
      refine' Evs_cons' ?_ ?_
      rotate_left 2
      refine Ev_str ?_
      with_reducible exact Is.mk
      refine' Evs_cons' ?_ ?_
      rotate_left 2
      refine' Ev_Tuple' ?_ ?_ ?_
      rotate_left 1
      refine' Evs_cons' ?_ ?_
      rotate_left 2
      refine Ev_str ?_
      with_reducible exact Is.mk
      refine' Evs_cons' ?_ ?_
      rotate_left 2
      refine Ev_str ?_
      with_reducible exact Is.mk
      exact Evs_nil'
      exact Nat.le_of_ble_eq_true rfl
      with_reducible exact Is.mk
      refine' Evs_cons' ?_ ?_
      rotate_left 2
      refine Ev_str ?_
      with_reducible exact Is.mk
      exact Evs_nil'
      exact Nat.le_of_ble_eq_true rfl
      refine Evs_cons ?_
      refine' Ev_Tuple' ?_ ?_ ?_
      rotate_left 1
      refine' Evs_cons' ?_ ?_
      rotate_left 2
      refine Ev_str ?_
      with_reducible exact Is.mk
      refine' Evs_cons' ?_ ?_
      rotate_left 2
      refine' Ev_Tuple' ?_ ?_ ?_
      rotate_left 1
      refine' Evs_cons' ?_ ?_
      rotate_left 2
      refine Ev_str ?_
      with_reducible exact Is.mk
      refine' Evs_cons' ?_ ?_
      rotate_left 2
      refine Ev_str ?_
      with_reducible exact Is.mk
      exact Evs_nil'
      exact Nat.le_of_ble_eq_true rfl
      with_reducible exact Is.mk
      refine' Evs_cons' ?_ ?_
      rotate_left 2
      refine Ev_str ?_
      with_reducible exact Is.mk
      exact Evs_nil'
      exact Nat.le_of_ble_eq_true rfl
      refine Evs_cons ?_
      refine' Ev_Tuple' ?_ ?_ ?_
      rotate_left 1
      refine' Evs_cons' ?_ ?_
      rotate_left 2
      refine Ev_str ?_
      with_reducible exact Is.mk
      refine' Evs_cons' ?_ ?_
      rotate_left 2
      refine Ev_none ?_
      with_reducible exact Is.mk
      refine' Evs_cons' ?_ ?_
      rotate_left 2
      refine Ev_str ?_
      with_reducible exact Is.mk
      exact Evs_nil'
      exact Nat.le_of_ble_eq_true rfl
      refine Evs_cons ?_
      refine' Ev_Tuple' ?_ ?_ ?_
      rotate_left 1
      refine' Evs_cons' ?_ ?_
      rotate_left 2
      refine Ev_str ?_
      with_reducible exact Is.mk
      refine' Evs_cons' ?_ ?_
      rotate_left 2
      refine Ev_bool ?_
      with_reducible exact Is.mk
      refine' Evs_cons' ?_ ?_
      rotate_left 2
      refine Ev_str ?_
      with_reducible exact Is.mk
      exact Evs_nil'
      exact Nat.le_of_ble_eq_true rfl
      refine Evs_cons ?_
      refine' Ev_Tuple' ?_ ?_ ?_
      rotate_left 1
      refine' Evs_cons' ?_ ?_
      rotate_left 2
      refine Ev_str ?_
      with_reducible exact Is.mk
      refine' Evs_cons' ?_ ?_
      rotate_left 2
      refine Ev_bool ?_
      with_reducible exact Is.mk
      refine' Evs_cons' ?_ ?_
      rotate_left 2
      refine Ev_str ?_
      with_reducible exact Is.mk
      exact Evs_nil'
      exact Nat.le_of_ble_eq_true rfl
      refine Evs_cons ?_
      refine' Ev_Tuple' ?_ ?_ ?_
      rotate_left 1
      refine' Evs_cons' ?_ ?_
      rotate_left 2
      refine Ev_str ?_
      with_reducible exact Is.mk
      refine' Evs_cons' ?_ ?_
      rotate_left 2
      refine' Ev_Tuple' ?_ ?_ ?_
      rotate_left 1
      refine' Evs_cons' ?_ ?_
      rotate_left 2
      refine Ev_str ?_
      with_reducible exact Is.mk
      refine' Evs_cons' ?_ ?_
      rotate_left 2
      refine Ev_str ?_
      with_reducible exact Is.mk
      exact Evs_nil'
      exact Nat.le_of_ble_eq_true rfl
      with_reducible exact Is.mk
      refine' Evs_cons' ?_ ?_
      rotate_left 2
      refine Ev_str ?_
      with_reducible exact Is.mk
      exact Evs_nil'
      exact Nat.le_of_ble_eq_true rfl
      refine Evs_cons ?_
      refine' Ev_Tuple' ?_ ?_ ?_
      rotate_left 1
      refine' Evs_cons' ?_ ?_
      rotate_left 2
      refine Ev_str ?_
      with_reducible exact Is.mk
      refine' Evs_cons' ?_ ?_
      rotate_left 2
      refine' Ev_Tuple' ?_ ?_ ?_
      rotate_left 1
      refine' Evs_cons' ?_ ?_
      rotate_left 2
      refine Ev_str ?_
      with_reducible exact Is.mk
      refine' Evs_cons' ?_ ?_
      rotate_left 2
      refine Ev_str ?_
      with_reducible exact Is.mk
      exact Evs_nil'
      exact Nat.le_of_ble_eq_true rfl
      with_reducible exact Is.mk
      refine' Evs_cons' ?_ ?_
      rotate_left 2
      refine Ev_str ?_
      with_reducible exact Is.mk
      exact Evs_nil'
      exact Nat.le_of_ble_eq_true rfl
      refine Evs_cons ?_
      refine' Ev_Tuple' ?_ ?_ ?_
      rotate_left 1
      refine' Evs_cons' ?_ ?_
      rotate_left 2
      refine Ev_str ?_
      with_reducible exact Is.mk
      refine' Evs_cons' ?_ ?_
      rotate_left 2
      refine' Ev_Tuple' ?_ ?_ ?_
      rotate_left 1
      refine' Evs_cons' ?_ ?_
      rotate_left 2
      refine Ev_str ?_
      with_reducible exact Is.mk
      refine' Evs_cons' ?_ ?_
      rotate_left 2
      refine Ev_str ?_
      with_reducible exact Is.mk
      exact Evs_nil'
      exact Nat.le_of_ble_eq_true rfl
      with_reducible exact Is.mk
      refine' Evs_cons' ?_ ?_
      rotate_left 2
      refine Ev_str ?_
      with_reducible exact Is.mk
      exact Evs_nil'
      exact Nat.le_of_ble_eq_true rfl
      refine Evs_cons ?_
      refine' Ev_Tuple' ?_ ?_ ?_
      rotate_left 1
      refine' Evs_cons' ?_ ?_
      rotate_left 2
      refine Ev_str ?_
      with_reducible exact Is.mk
      refine' Evs_cons' ?_ ?_
      rotate_left 2
      refine' Ev_Tuple' ?_ ?_ ?_
      rotate_left 1
      refine' Evs_cons' ?_ ?_
      rotate_left 2
      refine Ev_str ?_
      with_reducible exact Is.mk
      refine' Evs_cons' ?_ ?_
      rotate_left 2
      refine Ev_str ?_
      with_reducible exact Is.mk
      exact Evs_nil'
      exact Nat.le_of_ble_eq_true rfl
      with_reducible exact Is.mk
      refine' Evs_cons' ?_ ?_
      rotate_left 2
      refine Ev_str ?_
      with_reducible exact Is.mk
      exact Evs_nil'
      exact Nat.le_of_ble_eq_true rfl
      refine Evs_nil ?_
      refine ⟨by exact Nat.le_of_ble_eq_true rfl, ?_⟩
      refine' StoreC.mk ?l ?u ?_
      case l => rfl
      case u => walk_at "upd"
      with_reducible refine Then.next ?_
      refine Ex_cons ?_
      refine Ex_Assign_TupleM [false, true] hh rfl rfl ?_
      have h1 := g.knots
      have h2 := g.figs
      refine Ev_Call ?_
      refine Ev_global (by assumption) .ref ?_
      refine ⟨g.knotsD.ok, ?_⟩
      refine Evs_cons ?_
      refine' Ev_Call' ?_ ?_ ?_ ?_
      rotate_left 2
      refine Ev_global (by assumption) .ref ?_
      with_reducible exact Is.mk
      exact g.figsD.ok
      refine' Evs_cons' ?_ ?_
      rotate_left 2
      refine Ev_local (by walk_at "has") (by walk_at "lk") ?_
      with_reducible exact Is.mk
      refine' Evs_cons' ?_ ?_
      rotate_left 2
      refine Ev_int ?_
      with_reducible exact Is.mk
      refine' Evs_cons' ?_ ?_
      rotate_left 2
      refine Ev_int ?_
      with_reducible exact Is.mk
      exact Evs_nil'
      refine figs g.len0 g.len g.divmod0 g.divmod (g.figsD) (hA.less (by decide)) zs 20 26 (by lia) (by lia) (by lia) fun fs hfl hfb => ?_
      refine Evs_nil ?_
      refine knots g.len0 g.len g.list0 g.list g.range0 g.range (g.knotsD) (hA.less (by decide)) fs (by lia) hfb fun ks ord hk hkl hord => ?_
      obtain ⟨K, hK⟩ : ∃ K, K = ks ++ [Kn.lst (List.range ks.length) 0] := ⟨_, rfl⟩
      obtain ⟨O, hO⟩ : ∃ O, O = ord ++ [ks.length] := ⟨_, rfl⟩
      rw [← hK, ← hO]
      have hw : Wf K lv17 := by rw [hK]; exact wf_all hk hkl
      have he : Eld K := by rw [hK]; exact eld_all hk
      have hrp : ∀ i, i < K.length → Rp (treeN K lv17 14 i) 10000 14 := by rw [hK]; exact fun i hi => rp_any hk hkl hi
      have hKl : K.length ≤ 14 := hw.2.2.1
      have hOp : O.Perm (List.range K.length) := by
        rw [hK, hO, List.length_append, List.length_singleton, List.range_succ]
        exact hord.append_right _
      clear hK hO hord hk hkl
      have hOl : O.length = K.length := by rw [hOp.length_eq]; simp
      refine ⟨_, rfl, rfl, StoresM.cel ?_⟩
      refine' StoreC.mk ?l ?u ?_
      case l => rfl
      case u => walk_at "upd"
      refine StoresM.loc ?_
      refine' Store.mk ?u ?v ?_
      case u => walk_at "upd"
      case v => walk_at "set"
      refine StoresM.nil ?_
      with_reducible refine Then.next ?_
      refine Ex_cons ?_
      have r0 := g.range0
      have r1 := g.range
      have n0 := g.len0
      have n1 := g.len
      refine Ex_Assign_map [Str.ofString ".0", Str.ofString "index"] rfl ?_ (by decide)
      refine' Ev_Call' ?_ ?_ ?_ ?_
      rotate_left 2
      refine Ev_blt (by assumption) (by assumption) .typ ?_
      with_reducible exact Is.mk
      with_reducible exact KOk.typ
      refine' Evs_cons' ?_ ?_
      rotate_left 2
      refine' Ev_Call' ?_ ?_ ?_ ?_
      rotate_left 2
      refine Ev_blt (by assumption) (by assumption) .blt ?_
      with_reducible exact Is.mk
      with_reducible exact KOk.blt
      refine' Evs_cons' ?_ ?_
      rotate_left 2
      refine Ev_cell rfl (by walk_at "has") ?_
      with_reducible exact Is.mk
      exact Evs_nil'
      refine len_lst .lst (by simp; lia) ?_
      rw [List.length_map]
      with_reducible exact Is.mk
      exact Evs_nil'
      refine range1 ?_
      refine ⟨_, iter_rng hh (small_n (by lia)), by rw [rngV_n]; simp [sizeLine]; lia, treeN K lv17 14, ?_, ?_⟩
      · intro k y C ρ hy hρ
        rw [rngV_n, List.getElem?_map] at hy
        have hkK : k < K.length := by
          rcases Nat.lt_or_ge k K.length with q | q
          · exact q
          · rw [List.getElem?_eq_none (by simpa using q)] at hy; cases hy
        rw [List.getElem?_range hkK] at hy
        cases hy
        obtain ⟨r0, r1, rfl⟩ := nm2 hρ
        have t1 := g.tree
        refine As_Name ?_
        refine' Store.mk Upd.hd ?v ?_
        case v => walk_at "set"
        refine' Ev_Call' ?_ ?_ ?_ ?_
        rotate_left 2
        refine Ev_global (by assumption) .ref ?_
        with_reducible exact Is.mk
        exact g.treeD.ok
        refine' Evs_cons' ?_ ?_
        rotate_left 2
        refine Ev_cell rfl (by walk_at "has") ?_
        with_reducible exact Is.mk
        refine' Evs_cons' ?_ ?_
        rotate_left 2
        refine Ev_local Has.hd (by walk_at "lk") ?_
        with_reducible exact Is.mk
        refine' Evs_cons' ?_ ?_
        rotate_left 2
        refine Ev_cell rfl (by walk_at "has") ?_
        with_reducible exact Is.mk
        exact Evs_nil'
        refine tree hw he g.tree 14 k (by lia) hkK g.treeD (hA.less (by decide)) ?_
        exact ⟨rfl, _, _, .hd, rfl, rfl, rfl⟩
      rw [rngV_n, List.length_map, List.length_range]
      refine' Store.mk ?u ?v ?_
      case u => walk_at "upd"
      case v => walk_at "set"
      with_reducible refine Then.next ?_
      refine Ex_cons ?_
      refine Ex_Assign_Name ?_
      refine Ev_List ?_
      refine Evs_nil ?_
      refine ⟨by exact Nat.le_of_ble_eq_true rfl, ?_⟩
      intro pa
      refine' Store.mk ?u ?v ?_
      case u => walk_at "upd"
      case v => walk_at "set"
      with_reducible refine Then.next ?_
      refine Ex_cons ?_
      refine Ex_For noted_no ?_
      skip
      refine Ev_ListF ?_
      refine Evs_cons ?_
      refine Ev_local (by walk_at "has") (by walk_at "lk") ?_
      refine Evs_cons ?_
      refine Ev_slice_lst ?_
      refine Ev_local (by walk_at "has") (by walk_at "lk") ?_
      refine EvP_none ?_
      refine EvP_none ?_
      refine EvP_some ?_
      refine' Ev_UnaryOp' ?_ ?_
      rotate_left 1
      refine Ev_int ?_
      with_reducible exact Is.mk
      refine neg_i ?_
      refine ⟨_, rfl, ?_⟩
      refine ⟨_, .lst, by simp [sizeLine]; lia, by decide, ?_⟩
      rw [slV_rev, ← List.map_reverse]
      refine Evs_nil ?_
      refine ⟨by exact Nat.le_of_ble_eq_true rfl, ?_⟩
      refine ⟨_, iter_lst hh, fun t F8 H8 => F = F8 ∧ ∃ (ow os : Option V), H8 = (pa, .list ([pgV K O, pgV K O.reverse].take t)) :: (L, .ns [(Str.ofString "script", some (.lst (zs.map .int))), (Str.ofString "order", some (.lst (O.map fun (n : Nat) => .int n))), (Str.ofString "index", none), (Str.ofString "trees", some (.lst ((List.range K.length).map (treeN K lv17 14)))), (Str.ofString "pages", some (.ref pa)), (Str.ofString "way", ow), (Str.ofString "spans", os), (Str.ofString "scanner", none), (Str.ofString "text", none), (Str.ofString "given", none)]) :: (c2, .cell (some (.lst (K.map Kn.V)))) :: (c1, .cell (some (.lst (lv17.map Lv.V)))) :: [(PC, AO.raw (tabObj (tabOf []))), (PM, AO.raw (tabObj (tabOf [])))], ⟨rfl, none, none, rfl⟩, ?_, ?_⟩
      · rintro t y F8 H8 hy ⟨rfl, ow, os, rfl⟩ Qm hm
        obtain ⟨ord, hord, rfl, htk, ht2⟩ : ∃ ord : List Nat, ord.Perm (List.range K.length) ∧ y = .lst (ord.map fun (n : Nat) => .int n) ∧ [pgV K O, pgV K O.reverse].take (t + 1) = [pgV K O, pgV K O.reverse].take t ++ [pgV K ord] ∧ ([pgV K O, pgV K O.reverse].take t).length ≤ 2 := by
          match t, hy with
          | 0, hy => cases hy; exact ⟨O, hOp, rfl, rfl, by simp⟩
          | 1, hy => cases hy; exact ⟨O.reverse, (List.reverse_perm O).trans hOp, rfl, rfl, by simp⟩
          | n + 2, hy => simp at hy
        have hmem : ∀ k ∈ ord, k < K.length := fun k hk => List.mem_range.mp (hord.mem_iff.mp hk)
        obtain ⟨hp, hpage⟩ := page hw hord
        have p0 := g.places
        have p1 := g.write
        refine As_Name ?_
        refine' Store.mk ?u ?v ?_
        case u => walk_at "upd"
        case v => walk_at "set"
        refine Ex_cons ?_
        refine Ex_Assign_Name ?_
        refine' Ev_Call' ?_ ?_ ?_ ?_
        rotate_left 2
        refine Ev_global (by assumption) .ref ?_
        with_reducible exact Is.mk
        exact g.placesD.ok
        refine' Evs_cons' ?_ ?_
        rotate_left 2
        refine Ev_cell rfl (by walk_at "has") ?_
        with_reducible exact Is.mk
        refine' Evs_cons' ?_ ?_
        rotate_left 2
        refine Ev_local (by walk_at "has") (by walk_at "lk") ?_
        with_reducible exact Is.mk
        refine' Evs_cons' ?_ ?_
        rotate_left 2
        refine Ev_cell rfl (by walk_at "has") ?_
        with_reducible exact Is.mk
        exact Evs_nil'
        refine places g.len0 g.len (g.placesD) (hA.less (by decide)) hw hord ?_
        refine' Store.mk ?u ?v ?_
        case u => walk_at "upd"
        case v => walk_at "set"
        with_reducible refine Then.next ?_
        refine Ex_cons ?_
        refine Ex_Expr ?_
        refine Ev_method ?_
        refine Ev_local (by walk_at "has") (by walk_at "lk") ?_
        refine ⟨"list", _, PySem.F.plainAttrs_list, slot_list_append, type_list_append, .list (by walk_at "has"), ?_⟩
        refine Evs_cons ?_
        refine Ev_Tuple ?_
        refine Evs_cons ?_
        refine' Ev_Call' ?_ ?_ ?_ ?_
        rotate_left 2
        refine Ev_global (by assumption) .ref ?_
        with_reducible exact Is.mk
        exact g.writeD.ok
        refine' Evs_cons' ?_ ?_
        rotate_left 2
        refine Ev_cell rfl (by walk_at "has") ?_
        with_reducible exact Is.mk
        refine' Evs_cons' ?_ ?_
        rotate_left 2
        refine Ev_local (by walk_at "has") (by walk_at "lk") ?_
        with_reducible exact Is.mk
        refine' Evs_cons' ?_ ?_
        rotate_left 2
        refine Ev_cell rfl (by walk_at "has") ?_
        with_reducible exact Is.mk
        refine' Evs_cons' ?_ ?_
        rotate_left 2
        refine Ev_local (by walk_at "has") (by walk_at "lk") ?_
        with_reducible exact Is.mk
        exact Evs_nil'
        refine write g.str0 g.str (g.writeD) (hA.less (by decide)) hw hord (fun k hk => full_le (ord' := ord) hw hp hk) (fun es h1 h2 => join_ok hp h1) ?_
        refine Evs_cons ?_
        refine Ev_local (by walk_at "has") (by walk_at "lk") ?_
        refine Evs_nil ?_
        refine ⟨by exact Nat.le_of_ble_eq_true rfl, ?_⟩
        refine Evs_nil ?_
        skip
        refine append (by walk_at "upd") (by show _ ≤ 16777216; lia) ?_
        refine ⟨rfl, ?_⟩
        with_reducible refine Then.next ?_
        refine Ex_nil ?_
        with_reducible refine Turn.next ?_
        refine hm _ _ ⟨rfl, some (.lst (ord.map fun (n : Nat) => .int n)), some (.lst ((List.range K.length).map (spanV K lv17 ord))), ?_⟩
        rw [htk]
        rfl
      rintro F8 H8 ⟨rfl, ow, os, rfl⟩
      with_reducible refine Then.next ?_
      refine Ex_cons ?_
      refine Ex_freeze (Str.ofString "pages") (by walk_at "rem") (by walk_at "upd") (by walk_at "lk") (by walk_at "set") ?_
      have q0 := g.make
      have q1 := g.ctx
      refine Ex_Assign_Name ?_
      refine Ev_Call ?_
      refine Ev_global (by assumption) .ref ?_
      refine ⟨g.makeD.ok, ?_⟩
      refine Evs_cons ?_
      refine Ev_Call0 ?_
      refine Ev_global (by assumption) .ref ?_
      refine ⟨g.ctxD.ok, ?_⟩
      refine Cl.front (a := PC) (by walk_at "rem") ?_
      refine context (g.ctxD) (g.ctxC) g.ctxB (hA.less (by decide)) g.exc0 g.exc fun F10 x D m fl fp ft li lf lc l ρ l10 hC hρ => ?_
      refine Evs_nil ?_
      refine Cl.front (a := D) (by walk_at "rem") ?_
      refine Cl.front (a := x) (by walk_at "rem") ?_
      refine Cl.front (a := PM) (by walk_at "rem") ?_
      obtain ⟨_, kl⟩ := hC.l
      obtain ⟨_, kp⟩ := hC.p
      obtain ⟨_, kt⟩ := hC.t
      obtain ⟨_, ki⟩ := hC.i
      obtain ⟨_, kf⟩ := hC.f
      obtain ⟨_, kc⟩ := hC.c
      refine make (g.makeD.mono l10) (g.makeC.mono l10) g.makeB (hA.less (by decide)) g.num (g.pat.mono l10) (hρ 0) rfl ⟨trivial, trivial, trivial, trivial, trivial, trivial, trivial, trivial, trivial⟩ ⟨kp.ok, kl.ok, kt.ok, kf.ok, ki.ok, kc.ok⟩ rfl fun F11 sc f mb l' l11 hO hS => ?_
      have hC := hC.mono l11
      clear kl kp kt ki kf kc
      refine' Store.mk ?u ?v ?_
      case u => walk_at "upd"
      case v => walk_at "set"
      with_reducible refine Then.next ?_
      refine Ex_cons ?_
      refine Ex_For noted_no ?_
      refine' Ev_Call' ?_ ?_ ?_ ?_
      rotate_left 2
      refine Ev_blt (by assumption) (by assumption) .typ ?_
      with_reducible exact Is.mk
      with_reducible exact KOk.typ
      refine' Evs_cons' ?_ ?_
      rotate_left 2
      refine' Ev_Call' ?_ ?_ ?_ ?_
      rotate_left 2
      refine Ev_blt (by assumption) (by assumption) .blt ?_
      with_reducible exact Is.mk
      with_reducible exact KOk.blt
      refine' Evs_cons' ?_ ?_
      rotate_left 2
      refine Ev_cell rfl (by walk_at "has") ?_
      with_reducible exact Is.mk
      exact Evs_nil'
      refine len_lst .lst (by simp; lia) ?_
      rw [List.length_map]
      with_reducible exact Is.mk
      exact Evs_nil'
      refine range1 ?_
      refine ⟨_, iter_rng hh (small_n (by lia)), fun t F13 H13 => F11 = F13 ∧ ∃ (ow os oi ot og : Option V), H13 = (PM, AO.raw (tabObj (tabOf l'))) :: (x, .exc "Exception" [] none (some D) true) :: (D, .attrs ρ) :: (m, .dict []) :: (PC, AO.raw (tabObj (tabOf l))) :: (L, .ns [(Str.ofString "script", some (.lst (zs.map .int))), (Str.ofString "order", some (.lst (O.map fun (n : Nat) => .int n))), (Str.ofString "index", oi), (Str.ofString "trees", some (.lst ((List.range K.length).map (treeN K lv17 14)))), (Str.ofString "pages", some (.lst [pgV K O, pgV K O.reverse])), (Str.ofString "way", ow), (Str.ofString "spans", os), (Str.ofString "scanner", some (.ref sc)), (Str.ofString "text", ot), (Str.ofString "given", og)]) :: (c2, .cell (some (.lst (K.map Kn.V)))) :: (c1, .cell (some (.lst (lv17.map Lv.V)))) :: [], ⟨rfl, ow, os, none, none, none, rfl⟩, ?_, ?_⟩
      · rintro t y F13 H13 hy ⟨rfl, ow, os, oi, ot, og, rfl⟩ Qm hm
        rw [rngV_n, List.getElem?_map] at hy
        have hkK : t < K.length := by
          rcases Nat.lt_or_ge t K.length with q | q
          · exact q
          · rw [List.getElem?_eq_none (by simpa using q)] at hy; cases hy
        rw [List.getElem?_range hkK] at hy
        cases hy
        refine As_Name ?_
        refine' Store.mk ?u ?v ?_
        case u => walk_at "upd"
        case v => walk_at "set"
        refine Ex_cons ?_
        refine Ex_For noted_no ?_
        refine Ev_local (by walk_at "has") (by walk_at "lk") ?_
        refine ⟨_, iter_lst hh, fun u F14 H14 => F11 = F14 ∧ ∃ (ow os ot og : Option V), H14 = (PM, AO.raw (tabObj (tabOf l'))) :: (x, .exc "Exception" [] none (some D) true) :: (D, .attrs ρ) :: (m, .dict []) :: (PC, AO.raw (tabObj (tabOf l))) :: (L, .ns [(Str.ofString "script", some (.lst (zs.map .int))), (Str.ofString "order", some (.lst (O.map fun (n : Nat) => .int n))), (Str.ofString "index", some (.int t)), (Str.ofString "trees", some (.lst ((List.range K.length).map (treeN K lv17 14)))), (Str.ofString "pages", some (.lst [pgV K O, pgV K O.reverse])), (Str.ofString "way", ow), (Str.ofString "spans", os), (Str.ofString "scanner", some (.ref sc)), (Str.ofString "text", ot), (Str.ofString "given", og)]) :: (c2, .cell (some (.lst (K.map Kn.V)))) :: (c1, .cell (some (.lst (lv17.map Lv.V)))) :: [], ⟨rfl, ow, os, ot, og, rfl⟩, ?_, ?_⟩
        · rintro u y F14 H14 hy ⟨rfl, ow, os, ot, og, rfl⟩ Qn hn
          obtain ⟨ord, hord, rfl⟩ : ∃ ord : List Nat, ord.Perm (List.range K.length) ∧ y = pgV K ord := by
            rcases two_get hy with e | e
            · exact ⟨O, hOp, e⟩
            · exact ⟨O.reverse, (List.reverse_perm O).trans hOp, e⟩
          obtain ⟨hp, hpage⟩ := page hw hord
          have hsp : ((List.range K.length).map (spanV K lv17 ord))[t]? = some (spanV K lv17 ord t) := by rw [List.getElem?_map, List.getElem?_range hkK]; rfl
          have htr : ((List.range K.length).map (treeN K lv17 14))[t]? = some (treeN K lv17 14 t) := by rw [List.getElem?_map, List.getElem?_range hkK]; rfl
          have p0 := g.repr0
          have p1 := g.repr
          have hrt : Rp (.tup [treeN K lv17 14 t, .int ((posOf K lv17 ord t + blen lv17 (knAt K t) : Nat))]) 10010 15 := by
            have := hp t
            have hb := (flen_le hw hkK).1
            exact Rp.tup (Rps.cons (hrp t hkK) (Rps.cons (Rp.num (b := 0) (by rw [Int.natAbs_natCast]; lia)) (Rps.nil (b := 0)) (Nat.le_refl _)) (by lia))
          have hun := hA.units
          refine As_Tuple hh rfl rfl rfl ?_
          refine Stores.cons ?_
          refine' Store.mk ?u ?v ?_
          case u => walk_at "upd"
          case v => walk_at "set"
          refine Stores.cons ?_
          refine' Store.mk ?u ?v ?_
          case u => walk_at "upd"
          case v => walk_at "set"
          refine Stores.nil ?_
          refine Ex_cons ?_
          refine Ex_Assign_Name ?_
          refine' Ev_Call' ?_ ?_ ?_ ?_
          rotate_left 2
          refine Ev_local (by walk_at "has") (by walk_at "lk") ?_
          with_reducible exact Is.mk
          exact (hO).ok
          refine' Evs_cons' ?_ ?_
          rotate_left 2
          refine Ev_local (by walk_at "has") (by walk_at "lk") ?_
          with_reducible exact Is.mk
          refine' Evs_cons' ?_ ?_
          rotate_left 2
          refine' Ev_Subscript' ?_ ?_ ?_
          rotate_left 2
          refine' Ev_Subscript' ?_ ?_ ?_
          rotate_left 2
          refine Ev_local (by walk_at "has") (by walk_at "lk") ?_
          with_reducible exact Is.mk
          refine Ev_local (by walk_at "has") (by walk_at "lk") ?_
          with_reducible exact Is.mk
          refine sub_lstN .lst (by lia) hsp ?_
          with_reducible exact Is.mk
          refine Ev_int ?_
          with_reducible exact Is.mk
          refine sub_tup (by decide) (by decide) rfl ?_
          with_reducible exact Is.mk
          exact Evs_nil'
          refine (scan_outer (P := fun _ _ _ _ _ _ => False) hO hS.ok (hA.less (by decide)) ?_).mono (fun _ _ _ q => q) fun _ _ _ e => (thr_no e).elim
          intro env A2 hD2
          refine knot (pos := posOf K lv17 ord) g.int0 g.int g.bt hpage hw he 14 t (by lia) hkK hC hS ((hA.deep (n := 38) hD2).less (by lia)) ?_
          refine ⟨[], _, by walk_at "upd", by decide, ?_⟩
          refine' Store.mk ?u ?v ?_
          case u => walk_at "upd"
          case v => walk_at "set"
          with_reducible refine Then.next ?_
          refine Ex_cons ?_
          refine Ex_If ?_
          refine It_Compare1 ?_
          refine' Ev_Call' ?_ ?_ ?_ ?_
          rotate_left 2
          refine Ev_blt (by assumption) (by assumption) .blt ?_
          with_reducible exact Is.mk
          with_reducible exact KOk.blt
          refine' Evs_cons' ?_ ?_
          rotate_left 2
          refine Ev_local (by walk_at "has") (by walk_at "lk") ?_
          with_reducible exact Is.mk
          exact Evs_nil'
          refine repr_rp hrt (by decide) hA.guards (by lia) fun t1 ht1 => ?_
          refine' Ev_Call' ?_ ?_ ?_ ?_
          rotate_left 2
          refine Ev_blt (by assumption) (by assumption) .blt ?_
          with_reducible exact Is.mk
          with_reducible exact KOk.blt
          refine' Evs_cons' ?_ ?_
          rotate_left 2
          refine' Ev_Tuple' ?_ ?_ ?_
          rotate_left 1
          refine' Evs_cons' ?_ ?_
          rotate_left 2
          refine' Ev_Subscript' ?_ ?_ ?_
          rotate_left 2
          refine Ev_local (by walk_at "has") (by walk_at "lk") ?_
          with_reducible exact Is.mk
          refine Ev_local (by walk_at "has") (by walk_at "lk") ?_
          with_reducible exact Is.mk
          refine sub_lstN .lst (by lia) htr ?_
          with_reducible exact Is.mk
          refine' Evs_cons' ?_ ?_
          rotate_left 2
          refine' Ev_Subscript' ?_ ?_ ?_
          rotate_left 2
          refine' Ev_Subscript' ?_ ?_ ?_
          rotate_left 2
          refine Ev_local (by walk_at "has") (by walk_at "lk") ?_
          with_reducible exact Is.mk
          refine Ev_local (by walk_at "has") (by walk_at "lk") ?_
          with_reducible exact Is.mk
          refine sub_lstN .lst (by lia) hsp ?_
          with_reducible exact Is.mk
          refine Ev_int ?_
          with_reducible exact Is.mk
          refine sub_tup (by decide) (by decide) rfl ?_
          with_reducible exact Is.mk
          exact Evs_nil'
          exact Nat.le_of_ble_eq_true rfl
          with_reducible exact Is.mk
          exact Evs_nil'
          skip
          refine repr_rp hrt (by decide) hA.guards (by lia) fun t2 ht2 => ?_
          obtain ⟨d, hd, _⟩ := hrt
          have e1 := ht1 d hd
          have e2 := ht2 d hd
          rw [e1] at e2
          subst e2
          refine ne_ss ?_
          refine ⟨_, rfl, ?_⟩
          refine Bif (fun hx => ?_) fun _ => ?_
          · simp at hx
          refine Ex_nil ?_
          with_reducible refine Then.next ?_
          refine Ex_nil ?_
          with_reducible refine Turn.next ?_
          exact hn _ _ ⟨rfl, ow, some _, some _, some _, rfl⟩
        rintro F14 H14 ⟨rfl, ow, os, ot, og, rfl⟩
        with_reducible refine Then.next ?_
        refine Ex_nil ?_
        with_reducible refine Turn.next ?_
        exact hm _ _ ⟨rfl, ow, os, _, ot, og, rfl⟩
      rintro F13 H13 ⟨rfl, ow, os, oi, ot, og, rfl⟩
      with_reducible refine Then.next ?_
      refine Ex_cons ?_
      refine Ex_Return ?_
      refine Ev_bool ?_
      with_reducible refine Then.ret ?_
      exact ⟨_, _, by walk_at "rem", rfl, ⟨tabOf l, Has.mem (by walk_at "has")⟩, ⟨tabOf l', Has.mem (by walk_at "has")⟩⟩
end Mine


set_option maxRecDepth 100000 in
set_option maxHeartbeats 8000000 in
theorem PySem.Challenge.cw_dm0199_07_holds : PySem.Challenge.rw_dm0199_07.Holds := by
  (w_on; o_law; k_head; (case hw => w_witness2))
  k_fill
  intro w s₀ s₁ mg mb G Y fa o pm cd doc dV kV ho hd hcd hD hmg hg args vals as hpre hlay hrd hwl hlo
  have KX := km_in_of Y
  have hT8 := km_tabs_of Y
  refine Ground.open G ?_
  intro T B D TE TW
  km_lay T hmg ho hd cd
  wrow_args hpre hlay hrd hwl hlo
  rename_i zs _ _ _ _ _ _ _ la vs _ hL _ _ _ hI _ _ _
  have e := Mine.isdef_of (tabs := [(56, 52), (42, 38)]) (a := 86) (c := 85) (st := Mine.stm 11) KX rfl rfl rfl rfl rfl rfl (by decide) (by decide)
  have hfa : fa = 86 := by
    have := mg_of KX T.g (n := Str.ofString "law") (v := .ref 86) (by kernel_rfl)
    rw [show mg (Str.ofString "law") = _ from hmg] at this
    cases this
    rfl
  subst hfa
  have gl : Mine.Gl07 (Mine.topG PySem.Challenge.rw_dm0199_07.row.prog w s₁ [(56, 52), (42, 38)] mg mb) (ghostOf s₁.heap [(56, 52), (42, 38)]).get? 50 57 64 71 76 81 43 56 42 52 38 36 := {
    figs := mg_of KX T.g (by kernel_rfl)
    figsD := ⟨49, Mine.isdef_of KX rfl rfl rfl rfl rfl rfl (by decide) (by decide)⟩
    ctx := mg_of KX T.g (by kernel_rfl)
    ctxD := Mine.isdef_of KX rfl rfl rfl rfl rfl rfl (by decide) (by decide)
    ctxC := Mine.code_of KX hT9 (by kernel_rfl) (by decide)
    ctxB := Mine.bok_of KX T hT9 (by decide) ⟨(56, 52), by simp, rfl⟩
    knots := mg_of KX T.g (by kernel_rfl)
    knotsD := ⟨63, Mine.isdef_of KX rfl rfl rfl rfl rfl rfl (by decide) (by decide)⟩
    places := mg_of KX T.g (by kernel_rfl)
    placesD := ⟨70, Mine.isdef_of KX rfl rfl rfl rfl rfl rfl (by decide) (by decide)⟩
    write := mg_of KX T.g (by kernel_rfl)
    writeD := ⟨75, Mine.isdef_of KX rfl rfl rfl rfl rfl rfl (by decide) (by decide)⟩
    tree := mg_of KX T.g (by kernel_rfl)
    treeD := ⟨80, Mine.isdef_of KX rfl rfl rfl rfl rfl rfl (by decide) (by decide)⟩
    make := mg_of KX T.g (by kernel_rfl)
    makeD := Mine.isdef_of KX rfl rfl rfl rfl rfl rfl (by decide) (by decide)
    makeC := Mine.code_of KX hT9 (by kernel_rfl) (by decide)
    makeB := Mine.bok_of KX T hT9 (by decide) ⟨(42, 38), by simp, rfl⟩
    num := mg_of KX T.g (by kernel_rfl)
    pat := by
      refine ⟨_, _, _, 35, _, _, _, _, Mine.fz_of KX (a := 36) rfl (by decide), rfl, rfl, rfl, rfl, rfl, rfl, Mine.fz_of KX (a := 35) rfl (by decide), rfl, ?_, ?_⟩
      · refine Eq.subst (motive := Mine.Code) (a := Mine.numC) ?_ Mine.code_numC
        kernel_rfl
      · kernel_rfl
    len0 := mg_none_of KX T.g (by kernel_rfl)
    len := (T.builtins _ (by decide)).trans (by kernel_rfl)
    divmod0 := mg_none_of KX T.g (by kernel_rfl)
    divmod := (T.builtins _ (by decide)).trans (by kernel_rfl)
    list0 := mg_none_of KX T.g (by kernel_rfl)
    list := (T.builtins _ (by decide)).trans (by kernel_rfl)
    range0 := mg_none_of KX T.g (by kernel_rfl)
    range := (T.builtins _ (by decide)).trans (by kernel_rfl)
    str0 := mg_none_of KX T.g (by kernel_rfl)
    str := (T.builtins _ (by decide)).trans (by kernel_rfl)
    int0 := mg_none_of KX T.g (by kernel_rfl)
    int := (T.builtins _ (by decide)).trans (by kernel_rfl)
    repr0 := mg_none_of KX T.g (by kernel_rfl)
    repr := (T.builtins _ (by decide)).trans (by kernel_rfl)
    exc0 := mg_none_of KX T.g (by kernel_rfl)
    exc := (T.builtins _ (by decide)).trans (by kernel_rfl)
    bt := ⟨mg_none_of KX T.g (by kernel_rfl), (T.builtins _ (by decide)).trans (by kernel_rfl), mg_none_of KX T.g (by kernel_rfl), (T.builtins _ (by decide)).trans (by kernel_rfl)⟩ }
  refine Mine.law_top (tabs := [(56, 52), (42, 38)]) (zs := zs) hT9 (by decide) (fun _ _ => rfl) (by kernel_rfl) hg hL hI (Mine.gok_of T hT9) ?_
  intro R s hR xs hxs
  refine codeAny_mono (Mine.law07 gl ⟨85, e⟩ ⟨rfl, by decide, by decide, rfl, rfl⟩ zs R s hR xs hxs) ?_
  intro r s' hr
  match r, hr with
  | .ok (.ret v), ⟨F', H', l', r', x, hx, F1, n1, e1, ⟨ps, m1⟩, ⟨qs, m2⟩⟩ =>
    refine ⟨F', H', l', r', x, hx, F1, n1, e1, fun q hq => ?_⟩
    rcases List.mem_cons.mp hq with rfl | hq
    · exact ⟨ps, m1⟩
    · rw [List.mem_singleton] at hq
      subst hq
      exact ⟨qs, m2⟩
  | .error e, hr => exact hr
