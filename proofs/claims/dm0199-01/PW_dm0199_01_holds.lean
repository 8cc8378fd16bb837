import PyProof.Rows.All
import Wide.All
import OpenK.AllK
import Wide.FinOn
import Lean
import PySem.Challenge.RW_dm0199_01
set_option Elab.async false
set_option maxRecDepth 100000
set_option maxHeartbeats 0
set_option autoImplicit false
set_option linter.all false
set_option compiler.extract_closed false
set_option genInjectivity false
set_option genSizeOf false
section
open PySem
set_option Elab.async false
set_option autoImplicit false
namespace Mine
theorem ad {a b c d e : Nat} (h1 : a ≤ c) (h2 : b ≤ d) (h : Nat.ble (c + d) e = true) : a + b ≤ e := Nat.le_trans (Nat.add_le_add h1 h2) (Nat.le_of_ble_eq_true h)
theorem ad0 {a b e : Nat} (h : a + b ≤ e) : a ≤ e := Nat.le_trans (Nat.le_add_right ..) h
theorem in3 : ∀ i : Fin 3, i.val = 0 ∨ i.val = 1 ∨ i.val = 2 := by decide
theorem in8 : ∀ i : Fin 8, i.val = 0 ∨ i.val = 1 ∨ i.val = 2 ∨ i.val = 3 ∨ i.val = 4 ∨ i.val = 5 ∨ i.val = 6 ∨ i.val = 7 := by decide
theorem w70 {k w : Nat} (h : w + 7 * (k + 1) ≤ 1000000) : w + 7 * k ≤ 1000000 := Nat.le_trans (Nat.add_le_add_left (Nat.mul_le_mul_left 7 (Nat.le_succ k)) w) h
theorem w7s {k w x : Nat} (h : w + 7 * (k + 1) ≤ 1000000) : w - x + 7 * (k + 1) ≤ 1000000 := Nat.le_trans (Nat.add_le_add_right (Nat.sub_le ..) _) h
theorem w7 {k w x : Nat} (h : w + 7 * (k + 1) ≤ 1000000) : w - x + 7 * k ≤ 1000000 := w70 (w7s h)
theorem w7a {k w x : Nat} (hs : x ≤ 6) (h : w + 7 * (k + 1) ≤ 1000000) : w + 1 + x + 7 * k ≤ 1000000 :=
  Nat.le_trans (Nat.add_le_add_right (Nat.le_trans (Nat.le_of_eq (Nat.add_assoc ..)) (Nat.add_le_add_left (Nat.add_le_add_left hs 1) w)) (7 * k)) (Nat.le_trans (Nat.le_of_eq (Nat.add_right_comm w 7 (7 * k))) h)
theorem i_lt {a p l : Nat} (h : a < p + l) : (a : Int) - p < l := Int.sub_left_lt_of_lt_add (Int.ofNat_lt.mpr h)
theorem i_ge {a p l : Nat} (h : p + l ≤ a) : ¬ (a : Int) - p < l := Int.not_lt.mpr (Int.le_sub_left_of_add_le (Int.ofNat_le.mpr h))
theorem span_lt {p s d l : Nat} (h1 : d ≤ l - s) (h2 : p < s) (h3 : s ≤ l) : p < s + d ∧ s + d ≤ l := ⟨Nat.lt_of_lt_of_le h2 (Nat.le_add_right ..), Nat.le_trans (Nat.add_le_add_left h1 s) (Nat.le_of_eq (Nat.add_sub_of_le h3))⟩
theorem nlt {p n : Nat} {q : Prop} (h : n ≤ p) : ¬ (p < n ∧ q) := fun x => Nat.not_lt.mpr h x.1
end Mine
end
section
open PySem PySem.Sre
set_option Elab.async false
set_option maxRecDepth 100000
set_option autoImplicit false
set_option linter.unusedVariables false
namespace Mine
noncomputable def Go (k : Nat) (m : M) (P : M → Prop) : Prop := ∃ n, n ≤ k ∧ (M.runFor n m).outcome.isSome = true ∧ P (M.runFor n m)
theorem Go.step {k : Nat} {m : M} {P : M → Prop} (ho : m.outcome = none) (h : Go k m.step P) : Go (k + 1) m P := by
  obtain ⟨n, hn, h1, h2⟩ := h
  have e : M.runFor (n + 1) m = M.runFor n m.step := by
    show (if m.outcome.isSome then m else M.runFor n m.step) = _
    rw [ho]; rfl
  exact ⟨n + 1, Nat.succ_le_succ hn, by rw [e]; exact h1, by rw [e]; exact h2⟩
theorem Go.done {k : Nat} {m : M} {P : M → Prop} (ho : m.outcome.isSome = true) (h : P m) : Go k m P := ⟨0, Nat.zero_le _, ho, h⟩
structure Core where
  pc : Nat
  pos : Nat
  hd : Nat
  marks : Array (Option Nat)
  lm : Int
  li : Int
  loops : Array Loop
  inner : Option Nat
  frames : List Sre.Frame
section
variable (C T : Array Nat) (lim st : Nat)
noncomputable def Core.M (c : Core) (ans : Option Bool) (seen : Seen) (weight : Nat) : Sre.M :=
  { code := C, text := T, lim := lim, start := st, pc := c.pc, pos := c.pos, handed := c.hd, outermost := true, marks := c.marks, lastmark := c.lm, lastindex := c.li, loops := c.loops, inner := c.inner, frames := c.frames, weight := weight, answer := ans, seen := seen }
noncomputable def Run (k : Nat) (c : Core) (P : Sre.M → Prop) : Prop := ∀ seen weight, weight + 7 * k ≤ 1000000 → Go k (c.M C T lim st none seen weight) P
noncomputable def Ans (k : Nat) (c : Core) (b : Bool) (P : Sre.M → Prop) : Prop := ∀ seen weight, weight + 7 * k ≤ 1000000 → Go k (c.M C T lim st (some b) seen weight) P
variable {C T lim st} {k : Nat} {P : Sre.M → Prop}
theorem step_run {c : Core} {seen : Seen} {weight : Nat} (h : c.pc < C.size) : (c.M C T lim st none seen weight).step = (c.M C T lim st none seen weight).exec := by
  have : (c.M C T lim st none seen weight).step = if c.pc < C.size then (c.M C T lim st none seen weight).exec else (c.M C T lim st none seen weight).stick "code:ran-off" := rfl
  rw [this, if_pos h]
theorem lt_of_op {pc : Nat} {o : Op} (h : ops[C.getD pc 0]? = some o) (hn : o ≠ .FAILURE) : pc < C.size := by
  rcases Nat.lt_or_ge pc C.size with q | q
  · exact q
  · have : C.getD pc 0 = 0 := by simp [Array.getD, Nat.not_lt.mpr q]
    rw [this] at h
    exact absurd (Option.some.inj h).symm hn
theorem Run.mark {c : Core} {i : Nat} (h : ops[C.getD c.pc 0]? = some .MARK) (hi : C.getD (c.pc + 1) 0 = i)
    (hk : Run C T lim st k { c with pc := c.pc + 2, marks := (if (i : Int) ≤ c.lm + 1 then c.marks else (List.range i).foldl (fun (a : Array (Option Nat)) (j : Nat) => if (j : Int) > c.lm then a.setIfInBounds j none else a) c.marks).setIfInBounds i (some c.pos), lm := max c.lm i, li := if i % 2 == 1 then (i / 2 + 1 : Nat) else c.li } P) : Run C T lim st (k + 1) c P := fun seen weight hw => by
  refine Go.step rfl ?_
  rw [step_run (lt_of_op h nofun)]
  have e : (c.M C T lim st none seen weight).exec = (c.M C T lim st none (seen.add (C.getD c.pc 0)) weight).mark (C.getD (c.pc + 1) 0) := by
    unfold M.exec
    have h' : ops[(c.M C T lim st none seen weight).word 0]? = some .MARK := h
    rw [h']
    rfl
  rw [e, hi]
  exact hk _ weight (w70 hw)

structure One (C : Array Nat) (pc w : Nat) (f : Nat → Bool) : Prop where
  acc : ∀ c seen, ∃ seen', accepts C pc c seen = .ok (f c, seen')
  wid : itemWidth C pc = w
  kind : ops[C.getD pc 0]? = some .LITERAL ∨ ops[C.getD pc 0]? = some .IN
theorem Run.one {c : Core} {w : Nat} {f : Nat → Bool} (h : One C c.pc w f)
    (hy : c.pos < lim → f (T.getD c.pos 0) = true → Run C T lim st k { c with pc := c.pc + w, pos := c.pos + 1 } P)
    (hn : (lim ≤ c.pos ∨ f (T.getD c.pos 0) = false) → Ans C T lim st k c false P) : Run C T lim st (k + 1) c P := fun seen weight hw => by
  refine Go.step rfl ?_
  have hlt : c.pc < C.size := by rcases h.kind with q | q <;> exact lt_of_op q nofun
  rw [step_run hlt]
  have e : (c.M C T lim st none seen weight).exec = (let m := c.M C T lim st none (seen.add (C.getD c.pc 0)) weight
      if m.pos ≥ m.lim then m.say false else
      match accepts m.code m.pc (m.text.getD m.pos 0) m.seen with
      | .error why => m.stick why
      | .ok (false, seen) => { m with seen }.say false
      | .ok (true, seen) => { m with seen, pc := m.pc + itemWidth m.code m.pc, pos := m.pos + 1 }) := by
    unfold M.exec
    rcases h.kind with q | q
    · have h' : ops[(c.M C T lim st none seen weight).word 0]? = some .LITERAL := q
      rw [h']; rfl
    · have h' : ops[(c.M C T lim st none seen weight).word 0]? = some .IN := q
      rw [h']; rfl
  rw [e]
  show Go k (if lim ≤ c.pos then _ else _) P
  rcases Nat.lt_or_ge c.pos lim with hp | hp
  · rw [if_neg (Nat.not_le.mpr hp)]
    obtain ⟨s', hs'⟩ := h.acc (T.getD c.pos 0) (seen.add (C.getD c.pc 0))
    have hs'' : accepts (c.M C T lim st none (seen.add (C.getD c.pc 0)) weight).code (c.M C T lim st none (seen.add (C.getD c.pc 0)) weight).pc ((c.M C T lim st none (seen.add (C.getD c.pc 0)) weight).text.getD (c.M C T lim st none (seen.add (C.getD c.pc 0)) weight).pos 0) (c.M C T lim st none (seen.add (C.getD c.pc 0)) weight).seen = .ok (f (T.getD c.pos 0), s') := hs'
    rw [hs'']
    cases hf : f (T.getD c.pos 0) with
    | true =>
      have := hy hp hf s' weight (w70 hw)
      rw [← h.wid] at this
      exact this
    | false => exact hn (.inr hf) s' weight (w70 hw)
  · rw [if_pos hp]
    exact hn (.inl hp) _ weight (w70 hw)
noncomputable def many (f : Nat → Bool) (T : Array Nat) : Nat → Nat → Nat
  | 0, _ => 0
  | n + 1, p => if f (T.getD p 0) then 1 + many f T n (p + 1) else 0
theorem many_s {f : Nat → Bool} {T : Array Nat} {n p : Nat} : many f T (n + 1) p = if f (T.getD p 0) = true then 1 + many f T n (p + 1) else 0 := rfl
theorem run_many {pc w : Nat} {f : Nat → Bool} (h : One C pc w f) : ∀ n p found seen, ∃ seen', Sre.run C T pc n p found seen = .ok (found + many f T n p, seen')
  | 0, p, found, seen => ⟨seen, rfl⟩
  | n + 1, p, found, seen => by
    obtain ⟨s', hs'⟩ := h.acc (T.getD p 0) seen
    have e : Sre.run C T pc (n + 1) p found seen = (do let (yes, seen) ← accepts C pc (T.getD p 0) seen; if yes then Sre.run C T pc n (p + 1) (found + 1) seen else pure (found, seen)) := rfl
    rw [e, hs']
    show ∃ seen', (if f (T.getD p 0) then Sre.run C T pc n (p + 1) (found + 1) s' else pure (found, s')) = _
    rw [many_s]
    cases f (T.getD p 0) with
    | true =>
      obtain ⟨s2, h2⟩ := run_many h n (p + 1) (found + 1) s'
      exact ⟨s2, by simp only [if_true]; rw [h2, Nat.add_assoc]⟩
    | false => exact ⟨s', rfl⟩
noncomputable def Core.kept (c : Core) (whole : Bool) : Sre.Kept := { lastmark := c.lm, lastindex := c.li, whole, marks := if whole then c.marks.extract 0 (c.lm + 1).toNat else #[] }
theorem kept_size {c : Core} {b : Bool} (h : c.marks.size ≤ 6) : (c.kept b).marks.size ≤ 6 := by
  unfold Core.kept
  cases b
  · simp
  · exact Nat.le_trans (Nat.le_of_eq Array.size_extract) (Nat.le_trans (Nat.sub_le ..) (Nat.le_trans (Nat.min_le_right ..) h))
theorem Go.attempt {c : Core} {seen : Seen} {weight : Nat} {f : Sre.Frame} {a p : Nat} (hf : f.kept.marks.size ≤ 6) (hw : weight + 7 * (k + 1) ≤ 1000000) (h : Run C T lim st k { c with frames := f :: c.frames, pc := a, pos := p, hd := p } P) : Go k ((c.M C T lim st none seen weight).attempt f a p true) P := by
  unfold M.attempt
  rw [if_neg]
  · exact h seen (weight + 1 + f.kept.marks.size) (w7a hf hw)
  · show ¬ weight + 1 + f.kept.marks.size > 16777216
    exact Nat.not_lt.mpr (Nat.le_trans (ad0 (w7a hf hw)) (by decide))
theorem Run.rep {c : Core} {w sk lo hi : Nat} {f : Nat → Bool} (h : ops[C.getD c.pc 0]? = some .REPEAT_ONE) (hs : C.getD (c.pc + 1) 0 = sk) (hlo : C.getD (c.pc + 2) 0 = lo) (hhi : C.getD (c.pc + 3) 0 = hi) (ho : One C (c.pc + 4) w f) (hm : c.marks.size ≤ 6)
    (hy : c.pos + lo ≤ lim → ∀ n, n = many f T (min hi (lim - c.pos)) c.pos → lo ≤ n → Run C T lim st k { c with pc := c.pc + 1 + sk, pos := c.pos + n, hd := c.pos + n, frames := { wait := .giveBack, pc := c.pc, pos := c.pos + n, outermost := true, count := n, kept := c.kept c.inner.isSome } :: c.frames } P)
    (hn : (lim < c.pos + lo ∨ many f T (min hi (lim - c.pos)) c.pos < lo) → Ans C T lim st k c false P) : Run C T lim st (k + 1) c P := fun seen weight hw => by
  refine Go.step rfl ?_
  rw [step_run (lt_of_op h nofun)]
  have e : (c.M C T lim st none seen weight).exec = (let m := c.M C T lim st none (seen.add (C.getD c.pc 0)) weight
      if ((C.getD (c.pc + 2) 0 : Nat) : Int) > (lim : Int) - c.pos then m.say false else
      match Sre.run C T (c.pc + 4) (min (C.getD (c.pc + 3) 0) ((lim : Int) - c.pos).toNat) c.pos 0 (m.seen.add (C.getD (c.pc + 4) 0)) with
      | .error why => m.stick why
      | .ok (n, seen) =>
        let m := { m with seen }
        if n < C.getD (c.pc + 2) 0 then m.say false else
        let m := { m with pos := m.pos + n }
        m.afterRun .giveBack n (m.keep m.inner.isSome)) := by
    unfold M.exec
    have h' : ops[(c.M C T lim st none seen weight).word 0]? = some .REPEAT_ONE := h
    rw [h']; rfl
  rw [e, hlo, hhi]
  have er : ((lim : Int) - c.pos).toNat = lim - c.pos := Int.toNat_sub _ _
  rw [er]
  obtain ⟨s', hs'⟩ := run_many (T := T) ho (min hi (lim - c.pos)) c.pos 0 ((seen.add (C.getD c.pc 0)).add (C.getD (c.pc + 4) 0))
  show Go k (if ((lo : Nat) : Int) > (lim : Int) - c.pos then _ else _) P
  rcases Nat.lt_or_ge lim (c.pos + lo) with hp | hp
  · rw [if_pos (i_lt hp)]
    exact hn (.inl hp) _ weight (w70 hw)
  · rw [if_neg (i_ge hp)]
    have hs'' : Sre.run C T (c.pc + 4) (min hi (lim - c.pos)) c.pos 0 ((c.M C T lim st none (seen.add (C.getD c.pc 0)) weight).seen.add (C.getD (c.pc + 4) 0)) = .ok (0 + many f T (min hi (lim - c.pos)) c.pos, s') := hs'
    rw [hs'', Nat.zero_add]
    show Go k (if many f T (min hi (lim - c.pos)) c.pos < lo then _ else _) P
    rcases Nat.lt_or_ge (many f T (min hi (lim - c.pos)) c.pos) lo with hq | hq
    · rw [if_pos hq]
      exact hn (.inr hq) s' weight (w70 hw)
    · rw [if_neg (Nat.not_lt.mpr hq)]
      have := hy hp _ rfl hq
      rw [← hs] at this
      exact Go.attempt (c := { c with pos := c.pos + many f T (min hi (lim - c.pos)) c.pos }) (kept_size hm) hw this
theorem Run.jump {c : Core} {sk : Nat} (h : ops[C.getD c.pc 0]? = some .JUMP) (hs : C.getD (c.pc + 1) 0 = sk) (hk : Run C T lim st k { c with pc := c.pc + 1 + sk } P) : Run C T lim st (k + 1) c P := fun seen weight hw => by
  refine Go.step rfl ?_
  rw [step_run (lt_of_op h nofun)]
  have e : (c.M C T lim st none seen weight).exec = (let m := c.M C T lim st none (seen.add (C.getD c.pc 0)) weight; { m with pc := c.pc + 1 + C.getD (c.pc + 1) 0 }) := by
    unfold M.exec
    have h' : ops[(c.M C T lim st none seen weight).word 0]? = some .JUMP := h
    rw [h']; rfl
  rw [e, hs]
  exact hk _ weight (w70 hw)
theorem Run.succ {c : Core} (h : ops[C.getD c.pc 0]? = some .SUCCESS) (hk : Ans C T lim st k { c with hd := c.pos } true P) : Run C T lim st (k + 1) c P := fun seen weight hw => by
  refine Go.step rfl ?_
  rw [step_run (lt_of_op h nofun)]
  have e : (c.M C T lim st none seen weight).exec = (let m := c.M C T lim st none (seen.add (C.getD c.pc 0)) weight; { m with handed := c.pos }.say true) := by
    unfold M.exec
    have h' : ops[(c.M C T lim st none seen weight).word 0]? = some .SUCCESS := h
    rw [h']; rfl
  rw [e]
  exact hk _ weight (w70 hw)
theorem Run.branch {c : Core} {a : Nat} (h : ops[C.getD c.pc 0]? = some .BRANCH) (ha : (C.getD (c.pc + 1) 0 == 0) = false) (hm : c.marks.size ≤ 6)
    (hk : Run C T lim st k { c with frames := { wait := .nextBranch, pc := c.pc + 1, pos := c.pos, outermost := true, kept := c.kept c.inner.isSome } :: c.frames, pc := c.pc + 1 + 1, hd := c.pos } P) : Run C T lim st (k + 1) c P := fun seen weight hw => by
  refine Go.step rfl ?_
  rw [step_run (lt_of_op h nofun)]
  have e : (c.M C T lim st none seen weight).exec = (let m := c.M C T lim st none (seen.add (C.getD c.pc 0)) weight; if C.getD (c.pc + 1) 0 == 0 then m.say false else m.attempt { wait := .nextBranch, pc := c.pc + 1, pos := c.pos, outermost := true, kept := c.kept c.inner.isSome } (c.pc + 1 + 1) c.pos true) := by
    unfold M.exec
    have h' : ops[(c.M C T lim st none seen weight).word 0]? = some .BRANCH := h
    rw [h']; rfl
  rw [e, ha]
  exact Go.attempt (c := c) (kept_size hm) hw hk
theorem Run.loop {c : Core} {sk : Nat} (h : ops[C.getD c.pc 0]? = some .REPEAT) (hs : C.getD (c.pc + 1) 0 = sk)
    (hk : Run C T lim st k { c with loops := c.loops.push { pc := c.pc, outer := c.inner }, inner := some c.loops.size, frames := { wait := .closeLoop, pc := c.pc, pos := c.pos, outermost := true, loop := c.loops.size } :: c.frames, pc := c.pc + 1 + sk, hd := c.pos } P) : Run C T lim st (k + 1) c P := fun seen weight hw => by
  refine Go.step rfl ?_
  rw [step_run (lt_of_op h nofun)]
  have e : (c.M C T lim st none seen weight).exec = ((Core.M C T lim st { c with loops := c.loops.push { pc := c.pc, outer := c.inner }, inner := some c.loops.size } none (seen.add (C.getD c.pc 0)) weight).attempt { wait := .closeLoop, pc := c.pc, pos := c.pos, outermost := true, loop := c.loops.size } (c.pc + 1 + C.getD (c.pc + 1) 0) c.pos true) := by
    unfold M.exec
    have h' : ops[(c.M C T lim st none seen weight).word 0]? = some .REPEAT := h
    rw [h']; rfl
  rw [e, hs]
  exact Go.attempt (c := { c with loops := c.loops.push { pc := c.pc, outer := c.inner }, inner := some c.loops.size }) (Nat.zero_le _) hw hk
theorem Run.more {c : Core} {i : Nat} {l : Loop} (h : ops[C.getD c.pc 0]? = some .MAX_UNTIL) (hi : c.inner = some i) (hl : c.loops.getD i { pc := 0, outer := none } = l) (h0 : C.getD (l.pc + 2) 0 = 0) (h1 : C.getD (l.pc + 3) 0 = 1) (hc : l.count = -1) (hb : l.began = none) (hm : c.marks.size ≤ 6)
    (hk : Run C T lim st k { c with loops := c.loops.modify i fun l => { l with count := 0, began := some c.pos }, frames := { wait := .maxMore, pc := c.pc + 1, pos := c.pos, outermost := true, loop := i, count := 0, kept := c.kept true, began := none } :: c.frames, pc := l.pc + 4, hd := c.pos } P) : Run C T lim st (k + 1) c P := fun seen weight hw => by
  refine Go.step rfl ?_
  rw [step_run (lt_of_op h nofun)]
  have e : (c.M C T lim st none seen weight).exec = (Core.M C T lim st { c with pc := c.pc + 1 } none (seen.add (C.getD c.pc 0)) weight).until_ true := by
    unfold M.exec
    have h' : ops[(c.M C T lim st none seen weight).word 0]? = some .MAX_UNTIL := h
    rw [h']; rfl
  rw [e]
  unfold M.until_
  have hi' : (Core.M C T lim st { c with pc := c.pc + 1 } none (seen.add (C.getD c.pc 0)) weight).inner = some i := hi
  have hl' : (Core.M C T lim st { c with pc := c.pc + 1 } none (seen.add (C.getD c.pc 0)) weight).loopAt i = l := hl
  have h0' : (Core.M C T lim st { c with pc := c.pc + 1 } none (seen.add (C.getD c.pc 0)) weight).code.getD (l.pc + 2) 0 = 0 := h0
  have h1' : (Core.M C T lim st { c with pc := c.pc + 1 } none (seen.add (C.getD c.pc 0)) weight).code.getD (l.pc + 3) 0 = 1 := h1
  rw [hi']
  simp only [hl', h0', h1', hc, hb]
  unfold M.round
  simp only [hl', hb]
  exact Go.attempt (c := { c with pc := c.pc + 1, loops := c.loops.modify i fun l => { l with count := 0, began := some c.pos } }) (kept_size hm) hw hk
theorem Run.over {c : Core} {i : Nat} {l : Loop} (h : ops[C.getD c.pc 0]? = some .MAX_UNTIL) (hi : c.inner = some i) (hl : c.loops.getD i { pc := 0, outer := none } = l) (h0 : C.getD (l.pc + 2) 0 = 0) (h1 : C.getD (l.pc + 3) 0 = 1) (hc : l.count = 0)
    (hk : Run C T lim st k { c with inner := l.outer, frames := { wait := .maxTail, pc := c.pc + 1, pos := c.pos, outermost := true, loop := i, count := 1, kept := c.kept false } :: c.frames, pc := c.pc + 1, hd := c.pos } P) : Run C T lim st (k + 1) c P := fun seen weight hw => by
  refine Go.step rfl ?_
  rw [step_run (lt_of_op h nofun)]
  have e : (c.M C T lim st none seen weight).exec = (Core.M C T lim st { c with pc := c.pc + 1 } none (seen.add (C.getD c.pc 0)) weight).until_ true := by
    unfold M.exec
    have h' : ops[(c.M C T lim st none seen weight).word 0]? = some .MAX_UNTIL := h
    rw [h']; rfl
  rw [e]
  unfold M.until_
  have hi' : (Core.M C T lim st { c with pc := c.pc + 1 } none (seen.add (C.getD c.pc 0)) weight).inner = some i := hi
  have hl' : (Core.M C T lim st { c with pc := c.pc + 1 } none (seen.add (C.getD c.pc 0)) weight).loopAt i = l := hl
  have h0' : (Core.M C T lim st { c with pc := c.pc + 1 } none (seen.add (C.getD c.pc 0)) weight).code.getD (l.pc + 2) 0 = 0 := h0
  have h1' : (Core.M C T lim st { c with pc := c.pc + 1 } none (seen.add (C.getD c.pc 0)) weight).code.getD (l.pc + 3) 0 = 1 := h1
  rw [hi']
  simp only [hl', h0', h1', hc]
  unfold M.afterLoop
  simp only [hl']
  exact Go.attempt (c := { c with pc := c.pc + 1, inner := l.outer }) (Nat.zero_le _) hw hk
theorem step_ans {c : Core} {f : Sre.Frame} {rest : List Sre.Frame} {b : Bool} {seen : Seen} {weight : Nat} (hf : c.frames = f :: rest) (ho : f.outermost = true) : (c.M C T lim st (some b) seen weight).step = M.resume (Core.M C T lim st { c with frames := rest, pc := f.pc, pos := f.pos } none seen (weight - (1 + f.kept.marks.size))) f b := by
  cases c
  cases hf
  unfold M.step Core.M
  simp only [Option.isSome_none, Bool.false_eq_true, if_false, ho]
noncomputable def Easy (f : Sre.Frame) : Prop := f.wait = .nextBranch ∨ f.wait = .giveBack ∨ f.wait = .closeLoop ∨ f.wait = .maxMore ∨ f.wait = .maxTail
theorem Ans.yes {Q : Array (Option Nat) → Int → Int → Nat → Prop} : ∀ (fs : List Sre.Frame) (c : Core), c.frames = fs → fs.length < k → (∀ f ∈ fs, f.outermost = true ∧ Easy f) → Q c.marks c.lm c.li c.hd → Ans C T lim st k c true (fun m => m.outcome = some .matched ∧ m.start = st ∧ Q m.marks m.lastmark m.lastindex m.handed) := by
  induction k with
  | zero => intro fs c _ h; exact absurd h (Nat.not_lt_zero _)
  | succ k ih =>
    intro fs c hf hk he hQ seen weight hw
    cases fs with
    | nil =>
      refine Go.step rfl (Go.done ?_ ?_)
      · unfold M.step Core.M; simp only [hf]; rfl
      · unfold M.step Core.M; simp only [hf]; exact ⟨rfl, rfl, hQ⟩
    | cons f rest =>
      obtain ⟨ho, hw'⟩ := he f (.head _)
      refine Go.step rfl ?_
      rw [step_ans hf ho]
      have hr : ∀ g ∈ rest, g.outermost = true ∧ Easy g := fun g hg => he g (.tail _ hg)
      have hl : rest.length < k := Nat.lt_of_succ_lt_succ hk
      unfold M.resume
      rcases hw' with q | q | q | q | q <;> rw [q]
      · exact ih rest { c with frames := rest, pc := f.pc, pos := f.pos } rfl hl hr hQ seen (weight - (1 + f.kept.marks.size)) (w7 hw)
      · exact ih rest { c with frames := rest, pc := f.pc, pos := f.pos } rfl hl hr hQ seen (weight - (1 + f.kept.marks.size)) (w7 hw)
      · exact ih rest { c with frames := rest, pc := f.pc, pos := f.pos, inner := _, loops := _ } rfl hl hr hQ seen (weight - (1 + f.kept.marks.size)) (w7 hw)
      · exact ih rest { c with frames := rest, pc := f.pc, pos := f.pos, loops := _ } rfl hl hr hQ seen (weight - (1 + f.kept.marks.size)) (w7 hw)
      · exact ih rest { c with frames := rest, pc := f.pc, pos := f.pos, inner := _ } rfl hl hr hQ seen (weight - (1 + f.kept.marks.size)) (w7 hw)
theorem Ans.fail {c : Core} (hf : c.frames = []) (h : ∀ m : Sre.M, m.outcome = some .failed → P m) : Ans C T lim st (k + 1) c false P := fun seen weight hw => by
  refine Go.step rfl (Go.done ?_ ?_)
  · unfold M.step Core.M; simp only [hf]; rfl
  · unfold M.step Core.M; simp only [hf]; exact h _ rfl
noncomputable def Core.back (c : Core) (kp : Sre.Kept) : Core := { c with lm := kp.lastmark, li := kp.lastindex, marks := if kp.whole then kp.marks ++ c.marks.extract kp.marks.size c.marks.size else c.marks }
theorem Ans.branch {c : Core} {f : Sre.Frame} {rest : List Sre.Frame} {a d : Nat} (hf : c.frames = f :: rest) (ho : f.outermost = true) (hq : f.wait = .nextBranch) (ha : C.getD f.pc 0 = a) (hd : (C.getD (f.pc + a) 0 == 0) = false) (hm : f.kept.marks.size ≤ 6)
    (hk : Run C T lim st k { (c.back f.kept) with frames := { wait := .nextBranch, pc := f.pc + a, pos := f.pos, outermost := true, kept := f.kept } :: rest, pc := f.pc + a + 1, pos := f.pos, hd := f.pos } P) : Ans C T lim st (k + 1) c false P := fun seen weight hw => by
  refine Go.step rfl ?_
  rw [step_ans hf ho]
  unfold M.resume
  rw [hq]
  have e : M.alternative (M.putBack (Core.M C T lim st { c with frames := rest, pc := f.pc, pos := f.pos } none seen (weight - (1 + f.kept.marks.size))) f.kept) (f.pc + C.getD f.pc 0) f.kept = (if C.getD (f.pc + C.getD f.pc 0) 0 == 0 then M.say (Core.M C T lim st { (c.back f.kept) with frames := rest, pc := f.pc, pos := f.pos } none seen (weight - (1 + f.kept.marks.size))) false else M.attempt (Core.M C T lim st { (c.back f.kept) with frames := rest, pc := f.pc, pos := f.pos } none seen (weight - (1 + f.kept.marks.size))) { wait := .nextBranch, pc := f.pc + C.getD f.pc 0, pos := f.pos, outermost := true, kept := f.kept } (f.pc + C.getD f.pc 0 + 1) f.pos true) := rfl
  show Go k (M.alternative (M.putBack _ f.kept) (f.pc + C.getD f.pc 0) f.kept) P
  rw [e, ha, hd]
  exact Go.attempt (c := { (c.back f.kept) with frames := rest, pc := f.pc, pos := f.pos }) hm (w7s hw) hk
theorem Ans.branchEnd {c : Core} {f : Sre.Frame} {rest : List Sre.Frame} {a d : Nat} (hf : c.frames = f :: rest) (ho : f.outermost = true) (hq : f.wait = .nextBranch) (ha : C.getD f.pc 0 = a) (hd : (C.getD (f.pc + a) 0 == 0) = true)
    (hk : Ans C T lim st k { (c.back f.kept) with frames := rest, pc := f.pc, pos := f.pos } false P) : Ans C T lim st (k + 1) c false P := fun seen weight hw => by
  refine Go.step rfl ?_
  rw [step_ans hf ho]
  unfold M.resume
  rw [hq]
  have e : M.alternative (M.putBack (Core.M C T lim st { c with frames := rest, pc := f.pc, pos := f.pos } none seen (weight - (1 + f.kept.marks.size))) f.kept) (f.pc + C.getD f.pc 0) f.kept = (if C.getD (f.pc + C.getD f.pc 0) 0 == 0 then M.say (Core.M C T lim st { (c.back f.kept) with frames := rest, pc := f.pc, pos := f.pos } none seen (weight - (1 + f.kept.marks.size))) false else M.attempt (Core.M C T lim st { (c.back f.kept) with frames := rest, pc := f.pc, pos := f.pos } none seen (weight - (1 + f.kept.marks.size))) { wait := .nextBranch, pc := f.pc + C.getD f.pc 0, pos := f.pos, outermost := true, kept := f.kept } (f.pc + C.getD f.pc 0 + 1) f.pos true) := rfl
  show Go k (M.alternative (M.putBack _ f.kept) (f.pc + C.getD f.pc 0) f.kept) P
  rw [e, ha, hd]
  exact hk seen (weight - (1 + f.kept.marks.size)) (w7 hw)
theorem Ans.giveEnd {c : Core} {f : Sre.Frame} {rest : List Sre.Frame} {lo : Nat} (hf : c.frames = f :: rest) (ho : f.outermost = true) (hq : f.wait = .giveBack) (hlo : C.getD (f.pc + 2) 0 = lo) (hl : f.count - 1 < lo)
    (hk : Ans C T lim st k { (c.back f.kept) with frames := rest, pc := f.pc, pos := f.pos } false P) : Ans C T lim st (k + 1) c false P := fun seen weight hw => by
  refine Go.step rfl ?_
  rw [step_ans hf ho]
  unfold M.resume
  rw [hq]
  show Go k (if f.count - 1 < (C.getD (f.pc + 2) 0 : Nat) then _ else _) P
  rw [hlo, if_pos hl]
  exact hk seen (weight - (1 + f.kept.marks.size)) (w7 hw)
theorem Ans.give {c : Core} {f : Sre.Frame} {rest : List Sre.Frame} {lo sk : Nat} (hf : c.frames = f :: rest) (ho : f.outermost = true) (hq : f.wait = .giveBack) (hlo : C.getD (f.pc + 2) 0 = lo) (hl : lo ≤ f.count - 1) (hsk : C.getD (f.pc + 1) 0 = sk) (hm : f.kept.marks.size ≤ 6)
    (hk : Run C T lim st k { (c.back f.kept) with frames := { wait := .giveBack, pc := f.pc, pos := f.pos - 1, outermost := true, count := f.count - 1, kept := f.kept } :: rest, pc := f.pc + 1 + sk, pos := f.pos - 1, hd := f.pos - 1 } P) : Ans C T lim st (k + 1) c false P := fun seen weight hw => by
  refine Go.step rfl ?_
  rw [step_ans hf ho]
  unfold M.resume
  rw [hq]
  show Go k (if f.count - 1 < (C.getD (f.pc + 2) 0 : Nat) then _ else _) P
  rw [hlo, if_neg (Int.not_lt.mpr hl)]
  rw [← hsk] at hk
  exact Go.attempt (weight := weight - (1 + f.kept.marks.size)) (c := { (c.back f.kept) with frames := rest, pc := f.pc, pos := f.pos - 1 }) hm (w7s hw) hk
theorem Ans.skip {c : Core} {f : Sre.Frame} {rest : List Sre.Frame} (hf : c.frames = f :: rest) (ho : f.outermost = true) (hq : f.wait = .maxMore) (hb : f.began = none)
    (hk : Run C T lim st k { (c.back f.kept) with loops := (c.loops.modify f.loop fun l => { l with began := none }).modify f.loop fun l => { l with count := f.count - 1 }, inner := (((c.loops.modify f.loop fun l => { l with began := none }).modify f.loop fun l => { l with count := f.count - 1 }).getD f.loop { pc := 0, outer := none }).outer, frames := { wait := .maxTail, pc := f.pc, pos := f.pos, outermost := true, loop := f.loop, count := f.count, kept := (c.back f.kept).kept false } :: rest, pc := f.pc, pos := f.pos, hd := f.pos } P) : Ans C T lim st (k + 1) c false P := fun seen weight hw => by
  refine Go.step rfl ?_
  rw [step_ans hf ho]
  unfold M.resume
  rw [hq]
  simp only [hb]
  exact Go.attempt (weight := weight - (1 + f.kept.marks.size)) (c := { (c.back f.kept) with loops := (c.loops.modify f.loop fun l => { l with began := none }).modify f.loop fun l => { l with count := f.count - 1 }, inner := _, frames := rest, pc := f.pc, pos := f.pos }) (Nat.zero_le _) (w7s hw) hk
end
end Mine
end
section
open PySem PySem.Sre
set_option Elab.async false
set_option maxRecDepth 100000
set_option autoImplicit false
set_option linter.unusedVariables false
namespace Mine
section
variable {C T : Array Nat} {lim st : Nat} {k : Nat} {P : Sre.M → Prop}
theorem one_lit {pc a : Nat} (h0 : ops[C.getD pc 0]? = some .LITERAL) (h1 : C.getD (pc + 1) 0 = a) : One C pc 2 (fun c => c == a) := by
  refine ⟨fun c seen => ⟨seen, ?_⟩, ?_, .inl h0⟩
  · unfold accepts; rw [h0, h1]
  · unfold itemWidth; rw [h0]
theorem in_zero {c f i : Nat} {yes : Bool} {seen : Seen} (h : ops[C.getD i 0]? = some .FAILURE) : ∃ s', inSet C c (f + 1) i yes seen = .ok (!yes, s') := by
  have e : inSet C c (f + 1) i yes seen = .ok (!yes, seen.add (C.getD i 0)) := by
    conv => lhs; whnf
    rw [show ops[(fun k => C.getD (i + k) 0) 0]? = _ from h]
    rfl
  exact ⟨_, e⟩
theorem in_lit {c f i a : Nat} {yes r : Bool} (h : ops[C.getD i 0]? = some .LITERAL) (ha : C.getD (i + 1) 0 = a) (hr : ∀ seen, ∃ s', inSet C c f (i + 2) yes seen = .ok (r, s')) {seen : Seen} : ∃ s', inSet C c (f + 1) i yes seen = .ok (if c == a then yes else r, s') := by
  have e : inSet C c (f + 1) i yes seen = if c == C.getD (i + 1) 0 then .ok (yes, seen.add (C.getD i 0)) else inSet C c f (i + 2) yes (seen.add (C.getD i 0)) := by
    conv => lhs; whnf
    rw [show ops[(fun k => C.getD (i + k) 0) 0]? = _ from h]
    rfl
  rw [e, ha]
  cases c == a
  · exact hr _
  · exact ⟨_, rfl⟩
theorem in_range {c f i a b : Nat} {yes r : Bool} (h : ops[C.getD i 0]? = some .RANGE) (ha : C.getD (i + 1) 0 = a) (hb : C.getD (i + 2) 0 = b) (hr : ∀ seen, ∃ s', inSet C c f (i + 3) yes seen = .ok (r, s')) {seen : Seen} : ∃ s', inSet C c (f + 1) i yes seen = .ok (if a ≤ c && c ≤ b then yes else r, s') := by
  have e : inSet C c (f + 1) i yes seen = if decide (C.getD (i + 1) 0 ≤ c) && decide (c ≤ C.getD (i + 2) 0) then .ok (yes, seen.add (C.getD i 0)) else inSet C c f (i + 3) yes (seen.add (C.getD i 0)) := by
    conv => lhs; whnf
    rw [show ops[(fun k => C.getD (i + k) 0) 0]? = _ from h]
    rfl
  rw [e, ha, hb]
  cases (decide (a ≤ c) && decide (c ≤ b))
  · exact hr _
  · exact ⟨_, rfl⟩
theorem one_range {pc a b n : Nat} (hsz : C.size = n + 3) (h0 : ops[C.getD pc 0]? = some .IN) (h1 : C.getD (pc + 1) 0 = 5) (h2 : ops[C.getD (pc + 2) 0]? = some .RANGE) (ha : C.getD (pc + 3) 0 = a) (hb : C.getD (pc + 4) 0 = b) (h5 : ops[C.getD (pc + 5) 0]? = some .FAILURE) : One C pc 6 (fun c => decide (a ≤ c) && decide (c ≤ b)) := by
  refine ⟨fun c seen => ?_, ?_, .inr h0⟩
  · unfold accepts; rw [h0, hsz]
    obtain ⟨s', e⟩ := in_range (c := c) (f := n + 2) (yes := true) (r := false) (seen := seen) h2 ha hb fun seen => in_zero h5
    refine ⟨s', e.trans ?_⟩
    cases (decide (a ≤ c) && decide (c ≤ b)) <;> rfl
  · unfold itemWidth; rw [h0, h1]
theorem one_two {pc a b n : Nat} (hsz : C.size = n + 3) (h0 : ops[C.getD pc 0]? = some .IN) (h1 : C.getD (pc + 1) 0 = 6) (h2 : ops[C.getD (pc + 2) 0]? = some .LITERAL) (ha : C.getD (pc + 3) 0 = a) (h4 : ops[C.getD (pc + 4) 0]? = some .LITERAL) (hb : C.getD (pc + 5) 0 = b) (h6 : ops[C.getD (pc + 6) 0]? = some .FAILURE) : One C pc 7 (fun c => c == a || c == b) := by
  refine ⟨fun c seen => ?_, ?_, .inr h0⟩
  · unfold accepts; rw [h0, hsz]
    obtain ⟨s', e⟩ := in_lit (c := c) (f := n + 2) (yes := true) (r := if c == b then true else false) (seen := seen) h2 ha fun seen => in_lit (f := n + 1) (r := false) h4 hb fun seen => in_zero h6
    refine ⟨s', e.trans ?_⟩
    cases c == a <;> cases c == b <;> rfl
  · unfold itemWidth; rw [h0, h1]
end
noncomputable def dig (c : Nat) : Bool := decide (48 ≤ c) && decide (c ≤ 57)
structure Code (C : Array Nat) : Prop where
  size : C.size = 102 + 3
  i5 : ops[C.getD 5 0]? = some .MARK
  a5 : C.getD 6 0 = 0
  i7 : ops[C.getD 7 0]? = some .REPEAT_ONE
  a7 : C.getD 8 0 = 6
  b7 : C.getD 9 0 = 0
  c7 : C.getD 10 0 = 1
  o11 : One C 11 2 (fun c => c == 45)
  i14 : ops[C.getD 14 0]? = some .BRANCH
  a14 : C.getD 15 0 = 5
  o16 : One C 16 2 (fun c => c == 48)
  i18 : ops[C.getD 18 0]? = some .JUMP
  a18 : C.getD 19 0 = 22
  a20 : C.getD 20 0 = 20
  o21 : One C 21 6 (fun c => decide (49 ≤ c) && decide (c ≤ 57))
  i27 : ops[C.getD 27 0]? = some .REPEAT_ONE
  a27 : C.getD 28 0 = 10
  b27 : C.getD 29 0 = 0
  c27 : C.getD 30 0 = maxRepeat
  o31 : One C 31 6 dig
  i38 : ops[C.getD 38 0]? = some .JUMP
  a38 : C.getD 39 0 = 2
  a40 : C.getD 40 0 = 0
  i41 : ops[C.getD 41 0]? = some .MARK
  a41 : C.getD 42 0 = 1
  i43 : ops[C.getD 43 0]? = some .REPEAT
  a43 : C.getD 44 0 = 20
  b43 : C.getD 45 0 = 0
  c43 : C.getD 46 0 = 1
  i47 : ops[C.getD 47 0]? = some .MARK
  a47 : C.getD 48 0 = 2
  o49 : One C 49 2 (fun c => c == 46)
  i51 : ops[C.getD 51 0]? = some .REPEAT_ONE
  a51 : C.getD 52 0 = 10
  b51 : C.getD 53 0 = 1
  c51 : C.getD 54 0 = maxRepeat
  o55 : One C 55 6 dig
  i62 : ops[C.getD 62 0]? = some .MARK
  a62 : C.getD 63 0 = 3
  i64 : ops[C.getD 64 0]? = some .MAX_UNTIL
  i65 : ops[C.getD 65 0]? = some .REPEAT
  a65 : C.getD 66 0 = 37
  b65 : C.getD 67 0 = 0
  c65 : C.getD 68 0 = 1
  i69 : ops[C.getD 69 0]? = some .MARK
  a69 : C.getD 70 0 = 4
  o71 : One C 71 7 (fun c => c == 101 || c == 69)
  i78 : ops[C.getD 78 0]? = some .REPEAT_ONE
  a78 : C.getD 79 0 = 11
  b78 : C.getD 80 0 = 0
  c78 : C.getD 81 0 = 1
  o82 : One C 82 7 (fun c => c == 45 || c == 43)
  i90 : ops[C.getD 90 0]? = some .REPEAT_ONE
  a90 : C.getD 91 0 = 10
  b90 : C.getD 92 0 = 1
  c90 : C.getD 93 0 = maxRepeat
  o94 : One C 94 6 dig
  i101 : ops[C.getD 101 0]? = some .MARK
  a101 : C.getD 102 0 = 5
  i103 : ops[C.getD 103 0]? = some .MAX_UNTIL
  i104 : ops[C.getD 104 0]? = some .SUCCESS
noncomputable def digs (T : Array Nat) (lim p : Nat) : Nat := many dig T (lim - p) p
noncomputable def signAt (T : Array Nat) (lim p : Nat) : Nat := if p < lim ∧ T.getD p 0 = 45 then p + 1 else p
noncomputable def intAt (T : Array Nat) (lim p : Nat) : Option Nat := if p < lim ∧ T.getD p 0 = 48 then some (p + 1) else if p < lim ∧ 49 ≤ T.getD p 0 ∧ T.getD p 0 ≤ 57 then some (p + 1 + digs T lim (p + 1)) else none
noncomputable def fracAt (T : Array Nat) (lim p : Nat) : Option Nat := if p < lim ∧ T.getD p 0 = 46 ∧ 1 ≤ digs T lim (p + 1) then some (p + 1 + digs T lim (p + 1)) else none
noncomputable def expSign (T : Array Nat) (lim p : Nat) : Nat := if p < lim ∧ (T.getD p 0 = 45 ∨ T.getD p 0 = 43) then p + 1 else p
noncomputable def expAt (T : Array Nat) (lim p : Nat) : Option Nat := if p < lim ∧ (T.getD p 0 = 101 ∨ T.getD p 0 = 69) ∧ 1 ≤ digs T lim (expSign T lim (p + 1)) then some (expSign T lim (p + 1) + digs T lim (expSign T lim (p + 1))) else none
noncomputable def spanOf (marks : Array (Option Nat)) (lm : Int) (g : Nat) : Option (Nat × Nat) := if ((2 * g + 1 : Nat) : Int) ≤ lm then (match marks.getD (2 * g) none, marks.getD (2 * g + 1) none with | some b, some e => some (b, e) | _, _ => none) else none
section
variable {C T : Array Nat} {lim st : Nat} {k : Nat} {P : Sre.M → Prop}
theorem many_le {f : Nat → Bool} : ∀ n p, many f T n p ≤ n
  | 0, p => Nat.le_refl _
  | n + 1, p => by
    rw [many_s]
    by_cases h : f (T.getD p 0) = true
    · rw [if_pos h, Nat.add_comm]; exact Nat.succ_le_succ (many_le (f := f) n (p + 1))
    · rw [if_neg h]; exact Nat.zero_le _
noncomputable abbrev Fin3 (st : Nat) (e : Nat) (s0 s1 s2 : Option (Nat × Nat)) : Sre.M → Prop := fun m => m.outcome = some .matched ∧ m.start = st ∧ (spanOf m.marks m.lastmark 0 = s0 ∧ spanOf m.marks m.lastmark 1 = s1 ∧ spanOf m.marks m.lastmark 2 = s2 ∧ m.handed = e)
theorem yes3 {c : Core} {e : Nat} {s0 s1 s2 : Option (Nat × Nat)} (hk : c.frames.length < k) (he : ∀ f ∈ c.frames, f.outermost = true ∧ Easy f) (h0 : spanOf c.marks c.lm 0 = s0) (h1 : spanOf c.marks c.lm 1 = s1) (h2 : spanOf c.marks c.lm 2 = s2) (h3 : c.hd = e) :
    Ans C T lim st k c true (Fin3 st e s0 s1 s2) := Ans.yes (Q := fun marks lm li hd => spanOf marks lm 0 = s0 ∧ spanOf marks lm 1 = s1 ∧ spanOf marks lm 2 = s2 ∧ hd = e) c.frames c rfl hk he ⟨h0, h1, h2, h3⟩
theorem many1 {f : Nat → Bool} {p : Nat} : many f T (min 1 (lim - p)) p = if p < lim ∧ f (T.getD p 0) = true then 1 else 0 := by
  rcases Nat.lt_or_ge p lim with h | h
  · have e : min 1 (lim - p) = 1 := Nat.min_eq_left (Nat.sub_pos_of_lt h)
    rw [e]
    rw [many_s]
    cases f (T.getD p 0) with
    | true => rw [if_pos rfl, if_pos ⟨h, rfl⟩]; rfl
    | false => rw [if_neg (by decide), if_neg (fun q => nomatch q.2)]
  · have e : min 1 (lim - p) = 0 := by rw [Nat.sub_eq_zero_of_le h]; rfl
    rw [e, if_neg (nlt h)]; rfl
theorem minMax {p : Nat} (h : lim ≤ maxRepeat) : min maxRepeat (lim - p) = lim - p := Nat.min_eq_right (Nat.le_trans (Nat.sub_le ..) h)
noncomputable def sp (a b : Option Nat) : Option (Nat × Nat) := match a, b with | some b, some e => some (b, e) | _, _ => none
theorem easy_cons {f : Sre.Frame} {fs : List Sre.Frame} (h : f.outermost = true ∧ Easy f) (t : ∀ f ∈ fs, f.outermost = true ∧ Easy f) : ∀ g ∈ f :: fs, g.outermost = true ∧ Easy g := fun g hg => by
  rcases List.mem_cons.mp hg with rfl | hg
  · exact h
  · exact t g hg
theorem Run.mark' {c : Core} {i : Nat} (marks' : Array (Option Nat)) (lm' li' : Int) (h : ops[C.getD c.pc 0]? = some .MARK) (hi : C.getD (c.pc + 1) 0 = i)
    (e1 : (if (i : Int) ≤ c.lm + 1 then c.marks else (List.range i).foldl (fun (a : Array (Option Nat)) (j : Nat) => if (j : Int) > c.lm then a.setIfInBounds j none else a) c.marks).setIfInBounds i (some c.pos) = marks') (e2 : max c.lm i = lm') (e3 : (if i % 2 == 1 then ((i / 2 + 1 : Nat) : Int) else c.li) = li')
    (hk : Run C T lim st k { c with pc := c.pc + 2, marks := marks', lm := lm', li := li' } P) : Run C T lim st (k + 1) c P := by
  subst e1 e2 e3
  exact Run.mark h hi hk
theorem Run.more' {c : Core} {i : Nat} {l : Loop} (loops' : Array Loop) (h : ops[C.getD c.pc 0]? = some .MAX_UNTIL) (hi : c.inner = some i) (hl : c.loops.getD i { pc := 0, outer := none } = l) (h0 : C.getD (l.pc + 2) 0 = 0) (h1 : C.getD (l.pc + 3) 0 = 1) (hc : l.count = -1) (hb : l.began = none) (hm : c.marks.size ≤ 6)
    (e : (c.loops.modify i fun l => { l with count := 0, began := some c.pos }) = loops')
    (hk : Run C T lim st k { c with loops := loops', frames := { wait := .maxMore, pc := c.pc + 1, pos := c.pos, outermost := true, loop := i, count := 0, kept := c.kept true, began := none } :: c.frames, pc := l.pc + 4, hd := c.pos } P) : Run C T lim st (k + 1) c P := by
  subst e
  exact Run.more h hi hl h0 h1 hc hb hm hk
theorem Run.loop' {c : Core} {sk : Nat} (loops' : Array Loop) (h : ops[C.getD c.pc 0]? = some .REPEAT) (hs : C.getD (c.pc + 1) 0 = sk) (i : Nat) (hi : c.loops.size = i) (e : c.loops.push { pc := c.pc, outer := c.inner } = loops')
    (hk : Run C T lim st k { c with loops := loops', inner := some i, frames := { wait := .closeLoop, pc := c.pc, pos := c.pos, outermost := true, loop := i } :: c.frames, pc := c.pc + 1 + sk, hd := c.pos } P) : Run C T lim st (k + 1) c P := by
  subst e hi
  exact Run.loop h hs hk
end
end Mine
end
section
open PySem PySem.Sre
set_option Elab.async false
set_option maxRecDepth 100000
set_option autoImplicit false
set_option linter.unusedVariables false
namespace Mine
section
variable {C T : Array Nat} {lim st : Nat} {k : Nat} {P : Sre.M → Prop}
theorem exp_tail (hC : Code C) (hlim : lim ≤ maxRepeat) {p : Nat} {M : Array (Option Nat)} {li : Int} {l0 : Loop} {fs : List Sre.Frame} {kp : Sre.Kept} {s0 s1 : Option (Nat × Nat)} (hfs : ∀ f ∈ fs, f.outermost = true ∧ Easy f) (hlen : fs.length ≤ 9) (hM6 : M.size = 6) (hkp : kp.marks.size ≤ 6) (hw : kp.whole = true)
    (hs : ∀ e, spanOf (M.setIfInBounds 5 (some e)) 5 0 = s0 ∧ spanOf (M.setIfInBounds 5 (some e)) 5 1 = s1 ∧ spanOf (M.setIfInBounds 5 (some e)) 5 2 = some (p, e))
    (hf : spanOf (kp.marks ++ M.extract kp.marks.size M.size) kp.lastmark 0 = s0 ∧ spanOf (kp.marks ++ M.extract kp.marks.size M.size) kp.lastmark 1 = s1 ∧ spanOf (kp.marks ++ M.extract kp.marks.size M.size) kp.lastmark 2 = none) :
    Run C T lim st 27 ⟨71, p, p, M, 4, li, #[l0, { pc := 65, count := 0, began := some p, outer := none }], some 1, { wait := .maxMore, pc := 104, pos := p, outermost := true, loop := 1, count := 0, kept := kp, began := none } :: fs⟩ (Fin3 st ((expAt T lim p).getD p) s0 s1 ((expAt T lim p).map fun e => (p, e))) := by
  have hM : M.size ≤ 6 := Nat.le_of_eq hM6
  have skip : ∀ {pc q hd : Nat} {lm li : Int} {k : Nat}, 20 ≤ k → expAt T lim p = none →
      Ans C T lim st k ⟨pc, q, hd, M, lm, li, #[l0, { pc := 65, count := 0, began := some p, outer := none }], some 1, { wait := .maxMore, pc := 104, pos := p, outermost := true, loop := 1, count := 0, kept := kp, began := none } :: fs⟩ false (Fin3 st ((expAt T lim p).getD p) s0 s1 ((expAt T lim p).map fun e => (p, e))) := by
    intro pc q hd lm li k hk he
    rw [he]
    match k, hk with
    | k + 2, hk =>
      refine Ans.skip rfl rfl rfl rfl ?_
      refine Run.succ hC.i104 ?_
      have e : (Core.back ⟨pc, q, hd, M, lm, li, #[l0, { pc := 65, count := 0, began := some p, outer := none }], some 1, { wait := .maxMore, pc := 104, pos := p, outermost := true, loop := 1, count := 0, kept := kp, began := none } :: fs⟩ kp).marks = kp.marks ++ M.extract kp.marks.size M.size := by
        unfold Core.back; rw [hw]; rfl
      refine yes3 (by simp; lia) (easy_cons ⟨rfl, .inr (.inr (.inr (.inr rfl)))⟩ hfs) ?_ ?_ ?_ rfl
      · dsimp only; rw [e]; exact hf.1
      · dsimp only; rw [e]; exact hf.2.1
      · dsimp only; rw [e]; exact hf.2.2
  have sz : ∀ {b : Bool} {pc q hd : Nat} {lm li : Int} {a b' d}, (Core.kept ⟨pc, q, hd, M, lm, li, a, b', d⟩ b).marks.size ≤ 6 := kept_size hM
  refine Run.one hC.o71 (fun hp he => ?_) fun hn => ?_
  · dsimp only at hp he ⊢
    have he' : T.getD p 0 = 101 ∨ T.getD p 0 = 69 := by simpa using he
    refine Run.rep hC.i78 hC.a78 hC.b78 hC.c78 hC.o82 hM (fun _ n hn _ => ?_) fun hn => by
      rcases hn with hn | hn
      · have hn : lim < p + 1 + 0 := hn
        exact absurd hn (Nat.not_lt.mpr hp)
      · exact absurd hn (Nat.not_lt_zero _)
    dsimp only at hn ⊢
    have hn' : n = if p + 1 < lim ∧ (T.getD (p + 1) 0 = 45 ∨ T.getD (p + 1) 0 = 43) then 1 else 0 := by
      rw [hn]; exact many1.trans (by simp)
    have hpn : p + 1 + n = expSign T lim (p + 1) := by
      rw [hn']; unfold expSign; split <;> simp_all
    generalize hkk : Core.kept _ _ = kk
    have hks : kk.marks.size ≤ 6 := by rw [← hkk]; exact sz
    have hkw : kk.whole = true := by rw [← hkk]; rfl
    have hkm : kk.marks = M.extract 0 5 := by rw [← hkk]; rfl
    refine Run.rep hC.i90 hC.a90 hC.b90 hC.c90 hC.o94 hM (fun _ d hd hd1 => ?_) fun hn => ?_
    · dsimp only at hd ⊢
      have hd' : d = digs T lim (expSign T lim (p + 1)) := by
        rw [hd, minMax hlim, hpn]; rfl
      have he : expAt T lim p = some (p + 1 + n + d) := by
        unfold expAt
        rw [if_pos ⟨hp, he', by rw [← hd']; exact hd1⟩, hpn, ← hd']
      rw [he]
      obtain ⟨q0, q1, q2⟩ := hs (p + 1 + n + d)
      refine Run.mark' (M.setIfInBounds 5 (some (p + 1 + n + d))) 5 3 hC.i101 hC.a101 rfl rfl rfl ?_
      dsimp only
      refine Run.over (i := 1) (l := { pc := 65, count := 0, began := some p, outer := none }) hC.i103 rfl rfl hC.b65 hC.c65 rfl ?_
      dsimp only
      refine Run.succ hC.i104 ?_
      dsimp only
      refine yes3 (by simp; lia) ?_ q0 q1 q2 rfl
      exact easy_cons ⟨rfl, .inr (.inr (.inr (.inr rfl)))⟩ (easy_cons ⟨rfl, .inr (.inl rfl)⟩ (easy_cons ⟨rfl, .inr (.inl rfl)⟩ (easy_cons ⟨rfl, .inr (.inr (.inr (.inl rfl)))⟩ hfs)))
    · dsimp only at hn ⊢
      have hz : digs T lim (expSign T lim (p + 1)) = 0 := by
        rcases hn with hn | hn
        · have := many_le (T := T) (f := dig) (lim - expSign T lim (p + 1)) (expSign T lim (p + 1))
          exact Nat.le_zero.mp (Nat.le_trans this (Nat.le_of_eq (Nat.sub_eq_zero_of_le (Nat.le_trans (Nat.le_of_lt_succ hn) (Nat.le_of_eq hpn)))))
        · rw [minMax hlim, hpn] at hn
          exact Nat.lt_one_iff.mp hn
      have he : expAt T lim p = none := by
        unfold expAt
        rw [if_neg fun q => by rw [hz] at q; exact absurd q.2.2 (by decide)]
      have hback : kk.marks ++ M.extract kk.marks.size M.size = M := by
        have e5 : kk.marks.size = 5 := by rw [hkm, Array.size_extract, hM6]; rfl
        rw [e5, hkm, Array.extract_append_extract, hM6]
        show M.extract 0 6 = M
        rw [← hM6]; exact Array.extract_size
      by_cases hc : p + 1 < lim ∧ (T.getD (p + 1) 0 = 45 ∨ T.getD (p + 1) 0 = 43)
      · rw [if_pos hc] at hn'
        subst hn'
        refine Ans.give rfl rfl rfl hC.b78 (by dsimp only; decide) hC.a78 hks ?_
        unfold Core.back
        simp only [hkw, if_true, hback]
        refine Run.rep hC.i90 hC.a90 hC.b90 hC.c90 hC.o94 hM (fun _ d hd hd1 => ?_) fun hn => ?_
        · have hd : d = many dig T (min maxRepeat (lim - (p + 1))) (p + 1) := hd
          rw [minMax hlim] at hd
          obtain ⟨j, hj⟩ : ∃ j, lim - (p + 1) = j + 1 := ⟨lim - (p + 1) - 1, (Nat.sub_add_cancel (Nat.sub_pos_of_lt hc.1)).symm⟩
          rw [hj] at hd
          unfold many at hd
          have : dig (T.getD (p + 1) 0) = false := by
            rcases hc.2 with q | q <;> rw [q] <;> rfl
          rw [this] at hd
          simp at hd
          rw [hd] at hd1; exact absurd hd1 (by decide)
        · refine Ans.giveEnd rfl rfl rfl hC.b78 (by dsimp only; decide) ?_
          unfold Core.back
          simp only [hkw, if_true, hback]
          exact skip (by decide) he
      · rw [if_neg hc] at hn'
        subst hn'
        refine Ans.giveEnd rfl rfl rfl hC.b78 (by dsimp only; decide) ?_
        unfold Core.back
        simp only [hkw, if_true, hback]
        exact skip (by decide) he
  · dsimp only at hn
    have he : expAt T lim p = none := by
      unfold expAt
      rw [if_neg fun q => ?_]
      rcases hn with hn | hn
      · exact Nat.not_lt.mpr hn q.1
      · rw [Bool.or_eq_false_iff] at hn
        simp only [beq_eq_false_iff_ne] at hn
        exact q.2.1.elim hn.1 hn.2
    exact skip (by decide) he
end
end Mine
end
section
open PySem PySem.Sre
set_option Elab.async false
set_option maxRecDepth 100000
set_option autoImplicit false
set_option linter.unusedVariables false
namespace Mine
section
variable {C T : Array Nat} {lim st : Nat} {k : Nat} {P : Sre.M → Prop}
theorem ext2 {α : Type} {a b c d e f : α} : #[a, b, c, d, e, f].extract 0 2 = #[a, b] := by simp
theorem ext4 {α : Type} {a b c d e f : α} : #[a, b, c, d, e, f].extract 0 4 = #[a, b, c, d] := by simp
theorem ext26 {α : Type} {a b c d e f x y : α} : #[x, y] ++ #[a, b, c, d, e, f].extract 2 6 = #[x, y, c, d, e, f] := by simp
theorem ext46 {α : Type} {a b c d e f x y z w : α} : #[x, y, z, w] ++ #[a, b, c, d, e, f].extract 4 6 = #[x, y, z, w, e, f] := by simp
theorem kept2 {pc q hd : Nat} {m0 m1 m2 m3 m4 m5 : Option Nat} {li : Int} {a b d} : Core.kept ⟨pc, q, hd, #[m0, m1, m2, m3, m4, m5], 1, li, a, b, d⟩ true = { lastmark := 1, lastindex := li, whole := true, marks := #[m0, m1] } := by
  have : Core.kept ⟨pc, q, hd, #[m0, m1, m2, m3, m4, m5], 1, li, a, b, d⟩ true = { lastmark := 1, lastindex := li, whole := true, marks := #[m0, m1, m2, m3, m4, m5].extract 0 2 } := rfl
  rw [this, ext2]
theorem kept4 {pc q hd : Nat} {m0 m1 m2 m3 m4 m5 : Option Nat} {li : Int} {a b d} : Core.kept ⟨pc, q, hd, #[m0, m1, m2, m3, m4, m5], 3, li, a, b, d⟩ true = { lastmark := 3, lastindex := li, whole := true, marks := #[m0, m1, m2, m3] } := by
  have : Core.kept ⟨pc, q, hd, #[m0, m1, m2, m3, m4, m5], 3, li, a, b, d⟩ true = { lastmark := 3, lastindex := li, whole := true, marks := #[m0, m1, m2, m3, m4, m5].extract 0 4 } := rfl
  rw [this, ext4]
theorem exp_walk (hC : Code C) (hlim : lim ≤ maxRepeat) {p hd : Nat} {m0 m1 m2 m3 m4 m5 : Option Nat} {lm li : Int} {l0 : Loop} {fs : List Sre.Frame} {s1 : Option (Nat × Nat)} (hfs : ∀ f ∈ fs, f.outermost = true ∧ Easy f) (hlen : fs.length ≤ 8) (h : (lm = 1 ∧ s1 = none) ∨ (lm = 3 ∧ s1 = sp m2 m3)) :
    Run C T lim st 30 ⟨65, p, hd, #[m0, m1, m2, m3, m4, m5], lm, li, #[l0], none, fs⟩ (Fin3 st ((expAt T lim p).getD p) (sp m0 m1) s1 ((expAt T lim p).map fun e => (p, e))) := by
  refine Run.loop' #[l0, { pc := 65, outer := none }] hC.i65 hC.a65 1 rfl rfl ?_
  dsimp only
  refine Run.more' (i := 1) (l := { pc := 65, outer := none }) #[l0, { pc := 65, count := 0, began := some p, outer := none }] hC.i103 rfl rfl hC.b65 hC.c65 rfl rfl (Nat.le_of_ble_eq_true rfl) rfl ?_
  dsimp only
  have hfs1 := easy_cons (f := { wait := .closeLoop, pc := 65, pos := p, outermost := true, loop := 1 }) ⟨rfl, .inr (.inr (.inl rfl))⟩ hfs
  rcases h with ⟨rfl, rfl⟩ | ⟨rfl, rfl⟩
  · rw [kept2]
    refine Run.mark' #[m0, m1, none, none, some p, m5] 4 li hC.i69 hC.a69 rfl rfl rfl ?_
    refine exp_tail hC hlim hfs1 (Nat.succ_le_succ hlen) rfl (Nat.le_of_ble_eq_true rfl) rfl (fun e => ⟨rfl, rfl, rfl⟩) ?_
    show spanOf (#[m0, m1] ++ #[m0, m1, none, none, some p, m5].extract 2 6) 1 0 = _ ∧ spanOf (#[m0, m1] ++ #[m0, m1, none, none, some p, m5].extract 2 6) 1 1 = _ ∧ spanOf (#[m0, m1] ++ #[m0, m1, none, none, some p, m5].extract 2 6) 1 2 = _
    rw [ext26]
    exact ⟨rfl, rfl, rfl⟩
  · rw [kept4]
    refine Run.mark' #[m0, m1, m2, m3, some p, m5] 4 li hC.i69 hC.a69 rfl rfl rfl ?_
    refine exp_tail hC hlim hfs1 (Nat.succ_le_succ hlen) rfl (Nat.le_of_ble_eq_true rfl) rfl (fun e => ⟨rfl, rfl, rfl⟩) ?_
    show spanOf (#[m0, m1, m2, m3] ++ #[m0, m1, m2, m3, some p, m5].extract 4 6) 3 0 = _ ∧ spanOf (#[m0, m1, m2, m3] ++ #[m0, m1, m2, m3, some p, m5].extract 4 6) 3 1 = _ ∧ spanOf (#[m0, m1, m2, m3] ++ #[m0, m1, m2, m3, some p, m5].extract 4 6) 3 2 = _
    rw [ext46]
    exact ⟨rfl, rfl, rfl⟩
theorem Run.lift {c : Core} {j : Nat} (h : Run C T lim st j c P) (hj : j ≤ k) : Run C T lim st k c P := fun seen weight hw => by
  obtain ⟨n, hn, x⟩ := h seen weight (Nat.le_trans (Nat.add_le_add_left (Nat.mul_le_mul_left 7 hj) _) hw)
  exact ⟨n, Nat.le_trans hn hj, x⟩
theorem Ans.lift {c : Core} {j : Nat} {b : Bool} (h : Ans C T lim st j c b P) (hj : j ≤ k) : Ans C T lim st k c b P := fun seen weight hw => by
  obtain ⟨n, hn, x⟩ := h seen weight (Nat.le_trans (Nat.add_le_add_left (Nat.mul_le_mul_left 7 hj) _) hw)
  exact ⟨n, Nat.le_trans hn hj, x⟩
theorem Ans.skip' {c : Core} {f : Sre.Frame} {rest : List Sre.Frame} (loops' : Array Loop) (inner' : Option Nat) (c' : Core) (hf : c.frames = f :: rest) (ho : f.outermost = true) (hq : f.wait = .maxMore) (hb : f.began = none) (hc : c.back f.kept = c')
    (e1 : ((c.loops.modify f.loop fun l => { l with began := none }).modify f.loop fun l => { l with count := f.count - 1 }) = loops') (e2 : (loops'.getD f.loop { pc := 0, outer := none }).outer = inner')
    (hk : Run C T lim st k { c' with loops := loops', inner := inner', frames := { wait := .maxTail, pc := f.pc, pos := f.pos, outermost := true, loop := f.loop, count := f.count, kept := c'.kept false } :: rest, pc := f.pc, pos := f.pos, hd := f.pos } P) : Ans C T lim st (k + 1) c false P := by
  subst hc e1 e2
  exact Ans.skip hf ho hq hb hk
noncomputable abbrev expEnd (T : Array Nat) (lim p : Nat) : Nat := (expAt T lim p).getD p
noncomputable abbrev fracEnd (T : Array Nat) (lim p : Nat) : Nat := (fracAt T lim p).getD p
theorem frac_walk (hC : Code C) (hlim : lim ≤ maxRepeat) {p hd : Nat} {m0 m1 m2 m3 m4 m5 : Option Nat} {li : Int} {fs : List Sre.Frame} (hfs : ∀ f ∈ fs, f.outermost = true ∧ Easy f) (hlen : fs.length ≤ 4) :
    Run C T lim st 40 ⟨43, p, hd, #[m0, m1, m2, m3, m4, m5], 1, li, #[], none, fs⟩ (Fin3 st (expEnd T lim (fracEnd T lim p)) (sp m0 m1) ((fracAt T lim p).map fun e => (p, e)) ((expAt T lim (fracEnd T lim p)).map fun e => (fracEnd T lim p, e))) := by
  refine Run.loop' #[{ pc := 43, outer := none }] hC.i43 hC.a43 0 rfl rfl ?_
  dsimp only
  refine Run.more' (i := 0) (l := { pc := 43, outer := none }) #[{ pc := 43, count := 0, began := some p, outer := none }] hC.i64 rfl rfl hC.b43 hC.c43 rfl rfl (Nat.le_of_ble_eq_true rfl) rfl ?_
  dsimp only
  have hfs1 := easy_cons (f := { wait := .closeLoop, pc := 43, pos := p, outermost := true, loop := 0 }) ⟨rfl, .inr (.inr (.inl rfl))⟩ hfs
  rw [kept2]
  refine Run.mark' #[m0, m1, some p, m3, m4, m5] 2 li hC.i47 hC.a47 rfl rfl rfl ?_
  dsimp only
  have skip : ∀ {pc q hd : Nat} {lm li' : Int}, fracAt T lim p = none →
      Ans C T lim st 31 ⟨pc, q, hd, #[m0, m1, some p, m3, m4, m5], lm, li', #[{ pc := 43, count := 0, began := some p, outer := none }], some 0, { wait := .maxMore, pc := 65, pos := p, outermost := true, loop := 0, count := 0, kept := { lastmark := 1, lastindex := li, whole := true, marks := #[m0, m1] }, began := none } :: { wait := .closeLoop, pc := 43, pos := p, outermost := true, loop := 0 } :: fs⟩ false
      (Fin3 st (expEnd T lim (fracEnd T lim p)) (sp m0 m1) ((fracAt T lim p).map fun e => (p, e)) ((expAt T lim (fracEnd T lim p)).map fun e => (fracEnd T lim p, e))) := by
    intro pc q hd lm li' hnone
    have e : fracEnd T lim p = p := by show (fracAt T lim p).getD p = p; rw [hnone]; rfl
    rw [e, hnone]
    refine Ans.skip' #[{ pc := 43, count := -1, began := none, outer := none }] none ⟨pc, q, hd, #[m0, m1, some p, m3, m4, m5], 1, li, #[{ pc := 43, count := 0, began := some p, outer := none }], some 0, { wait := .maxMore, pc := 65, pos := p, outermost := true, loop := 0, count := 0, kept := { lastmark := 1, lastindex := li, whole := true, marks := #[m0, m1] }, began := none } :: { wait := .closeLoop, pc := 43, pos := p, outermost := true, loop := 0 } :: fs⟩ rfl rfl rfl rfl ?_ rfl rfl ?_
    · have : ∀ (c : Core) (kp : Sre.Kept), kp.whole = true → c.back kp = { c with lm := kp.lastmark, li := kp.lastindex, marks := kp.marks ++ c.marks.extract kp.marks.size c.marks.size } := fun c kp h => by unfold Core.back; rw [h]; rfl
      rw [this _ _ rfl]
      show Core.mk pc q hd (#[m0, m1] ++ #[m0, m1, some p, m3, m4, m5].extract 2 6) 1 li _ _ _ = _
      rw [ext26]
    exact Run.lift (exp_walk hC hlim (easy_cons ⟨rfl, .inr (.inr (.inr (.inr rfl)))⟩ hfs1) (Nat.le_trans (Nat.succ_le_succ (Nat.succ_le_succ hlen)) (by decide)) (.inl ⟨rfl, rfl⟩)) (by decide)
  refine Run.one hC.o49 (fun hp he => ?_) fun hn => ?_
  · dsimp only at hp he ⊢
    have he' : T.getD p 0 = 46 := by simpa using he
    refine Run.rep hC.i51 hC.a51 hC.b51 hC.c51 hC.o55 (Nat.le_of_ble_eq_true rfl) (fun _ d hd hd1 => ?_) fun hn => ?_
    · dsimp only at hd ⊢
      have hd' : d = digs T lim (p + 1) := by rw [hd, minMax hlim]; rfl
      have he : fracAt T lim p = some (p + 1 + d) := by
        unfold fracAt
        rw [if_pos ⟨hp, he', by rw [← hd']; exact hd1⟩, ← hd']
      have e : fracEnd T lim p = p + 1 + d := by show (fracAt T lim p).getD p = _; rw [he]; rfl
      rw [e, he]
      refine Run.mark' #[m0, m1, some p, some (p + 1 + d), m4, m5] 3 2 hC.i62 hC.a62 rfl rfl rfl ?_
      dsimp only
      refine Run.over (i := 0) (l := { pc := 43, count := 0, began := some p, outer := none }) hC.i64 rfl rfl hC.b43 hC.c43 rfl ?_
      dsimp only
      exact Run.lift (exp_walk hC hlim (easy_cons ⟨rfl, .inr (.inr (.inr (.inr rfl)))⟩ (easy_cons ⟨rfl, .inr (.inl rfl)⟩ (easy_cons ⟨rfl, .inr (.inr (.inr (.inl rfl)))⟩ hfs1))) (Nat.succ_le_succ (Nat.succ_le_succ (Nat.succ_le_succ (Nat.succ_le_succ hlen)))) (.inr ⟨rfl, rfl⟩)) (by decide)
    · dsimp only at hn ⊢
      refine Ans.lift (skip ?_) (by decide)
      unfold fracAt
      rw [if_neg fun q => ?_]
      rcases hn with hn | hn
      · have := many_le (T := T) (f := dig) (lim - (p + 1)) (p + 1)
        exact absurd (Nat.le_trans q.2.2 (Nat.le_trans this (Nat.le_of_eq (Nat.sub_eq_zero_of_le (Nat.le_of_lt_succ hn))))) (by decide)
      · rw [minMax hlim] at hn
        exact absurd q.2.2 (Nat.not_le.mpr hn)
  · dsimp only at hn
    have he : fracAt T lim p = none := by
      unfold fracAt
      rw [if_neg fun q => ?_]
      rcases hn with hn | hn
      · exact Nat.not_lt.mpr hn q.1
      · simp only [beq_eq_false_iff_ne] at hn
        exact hn q.2.1
    exact Ans.lift (skip he) (by decide)
noncomputable def NumAt (T : Array Nat) (lim st : Nat) (m : Sre.M) : Prop := match intAt T lim (signAt T lim st) with
  | none => m.outcome = some .failed
  | some p => Fin3 st (expEnd T lim (fracEnd T lim p)) (some (st, p)) ((fracAt T lim p).map fun e => (p, e)) ((expAt T lim (fracEnd T lim p)).map fun e => (fracEnd T lim p, e)) m
theorem kept0 {c : Core} : c.kept false = { lastmark := c.lm, lastindex := c.li, whole := false, marks := #[] } := rfl
theorem back0 {c : Core} {kp : Sre.Kept} (h : kp.whole = false) : c.back kp = { c with lm := kp.lastmark, li := kp.lastindex } := by unfold Core.back; rw [h]; rfl
theorem int_walk (hC : Code C) (hlim : lim ≤ maxRepeat) {p hd : Nat} {Mk : Array (Option Nat)} {fs : List Sre.Frame} (hMk : Mk.size ≤ 6)
    (hp : ∀ e hd' F, intAt T lim p = some e → F.length ≤ 2 → (∀ f ∈ F, f.outermost = true ∧ Easy f) → Run C T lim st k ⟨41, e, hd', Mk, 0, -1, #[], none, F ++ fs⟩ P)
    (hf : intAt T lim p = none → ∀ pc q hd', Ans C T lim st k ⟨pc, q, hd', Mk, 0, -1, #[], none, fs⟩ false P) : Run C T lim st (k + 6) ⟨14, p, hd, Mk, 0, -1, #[], none, fs⟩ P := by
  refine Run.branch (a := 5) hC.i14 (by show (C.getD 15 0 == 0) = false; rw [hC.a14]; rfl) hMk ?_
  dsimp only
  rw [show (none : Option Nat).isSome = false from rfl, kept0]
  refine Run.one hC.o16 (fun h1 h2 => ?_) fun hn => ?_
  · dsimp only at h1 h2 ⊢
    have h2' : T.getD p 0 = 48 := by simpa using h2
    refine Run.jump hC.i18 hC.a18 ?_
    refine Run.lift (hp (p + 1) _ [{ wait := .nextBranch, pc := 15, pos := p, outermost := true, kept := { lastmark := 0, lastindex := -1, whole := false, marks := #[] } }] ?_ (by simp) (easy_cons ⟨rfl, .inl rfl⟩ fun _ h => nomatch h)) (Nat.le_add_right ..)
    unfold intAt; rw [if_pos ⟨h1, h2'⟩]
  · dsimp only at hn
    have h0 : ¬ (p < lim ∧ T.getD p 0 = 48) := fun q => by
      rcases hn with hn | hn
      · exact Nat.not_lt.mpr hn q.1
      · simp only [beq_eq_false_iff_ne] at hn; exact hn q.2
    refine Ans.branch (d := 0) rfl rfl rfl hC.a14 (by show (C.getD 20 0 == 0) = false; rw [hC.a20]; rfl) (Nat.zero_le _) ?_
    rw [back0 rfl]
    dsimp only
    refine Run.one hC.o21 (fun h1 h2 => ?_) fun hn => ?_
    · dsimp only at h1 h2 ⊢
      have h2' : 49 ≤ T.getD p 0 ∧ T.getD p 0 ≤ 57 := by rw [Bool.and_eq_true] at h2; simpa only [decide_eq_true_eq] using h2
      refine Run.rep hC.i27 hC.a27 hC.b27 hC.c27 hC.o31 hMk (fun _ d hd hd1 => ?_) fun hn => by
        rcases hn with hn | hn
        · have hn : lim < p + 1 + 0 := hn
          exact absurd hn (Nat.not_lt.mpr h1)
        · exact absurd hn (Nat.not_lt_zero _)
      dsimp only at hd ⊢
      have hd' : d = digs T lim (p + 1) := by rw [hd, minMax hlim]; rfl
      refine Run.jump hC.i38 hC.a38 ?_
      rw [show (none : Option Nat).isSome = false from rfl, kept0]
      refine hp (p + 1 + d) _ [{ wait := .giveBack, pc := 27, pos := p + 1 + d, outermost := true, count := d, kept := { lastmark := 0, lastindex := -1, whole := false, marks := #[] } }, { wait := .nextBranch, pc := 20, pos := p, outermost := true, kept := { lastmark := 0, lastindex := -1, whole := false, marks := #[] } }] ?_ (by simp) (easy_cons ⟨rfl, .inr (.inl rfl)⟩ (easy_cons ⟨rfl, .inl rfl⟩ fun _ h => nomatch h))
      unfold intAt; rw [if_neg h0, if_pos ⟨h1, h2'⟩, ← hd']
    · dsimp only at hn
      refine Ans.branchEnd (d := 0) rfl rfl rfl hC.a20 (by show (C.getD 40 0 == 0) = true; rw [hC.a40]; rfl) ?_
      rw [back0 rfl]
      refine Ans.lift (hf ?_ _ _ _) (Nat.le_add_right ..)
      unfold intAt; rw [if_neg h0, if_neg fun q => ?_]
      rcases hn with hn | hn
      · exact Nat.not_lt.mpr hn q.1
      · rw [Bool.and_eq_false_iff] at hn
        simp only [decide_eq_false_iff_not] at hn
        exact hn.elim (fun h => h q.2.1) (fun h => h q.2.2)
theorem num_walk (hC : Code C) (hlim : lim ≤ maxRepeat) : Run C T lim st 100 ⟨5, st, st, #[none, none, none, none, none, none], -1, -1, #[], none, []⟩ (NumAt T lim st) := by
  have found : ∀ e hd' F, intAt T lim (signAt T lim st) = some e → F.length ≤ 4 → (∀ f ∈ F, f.outermost = true ∧ Easy f) → Run C T lim st 50 ⟨41, e, hd', #[some st, none, none, none, none, none], 0, -1, #[], none, F⟩ (NumAt T lim st) := by
    intro e hd' F he hl hF
    refine Run.mark' #[some st, some e, none, none, none, none] 1 1 hC.i41 hC.a41 rfl rfl rfl ?_
    unfold NumAt
    rw [he]
    exact Run.lift (frac_walk hC hlim hF hl) (by decide)
  have lost : intAt T lim (signAt T lim st) = none → ∀ c : Core, c.frames = [] → Ans C T lim st 10 c false (NumAt T lim st) := fun h c hc => Ans.fail hc fun m hm => by unfold NumAt; rw [h]; exact hm
  refine Run.mark' #[some st, none, none, none, none, none] 0 (-1) hC.i5 hC.a5 rfl rfl rfl ?_
  dsimp only
  refine Run.rep hC.i7 hC.a7 hC.b7 hC.c7 hC.o11 (Nat.le_of_ble_eq_true rfl) (fun _ n hn _ => ?_) fun hn => ?_
  · dsimp only at hn ⊢
    have hn' : n = if st < lim ∧ T.getD st 0 = 45 then 1 else 0 := by
      rw [hn]; exact many1.trans (by simp)
    have hpn : st + n = signAt T lim st := by
      rw [hn']; unfold signAt
      by_cases q : st < lim ∧ T.getD st 0 = 45
      · rw [if_pos q, if_pos q]
      · rw [if_neg q, if_neg q]; rfl
    rw [show (none : Option Nat).isSome = false from rfl, kept0]
    refine Run.lift (j := 50 + 6) (int_walk hC hlim (Nat.le_of_ble_eq_true rfl) (fun e hd' F he hl hF => ?_) fun he pc q hd' => ?_) (by decide)
    · rw [hpn] at he
      refine found e hd' _ he (by rw [List.length_append]; exact ad hl (Nat.le_refl 1) (Eq.refl true)) fun f hf => ?_
      rcases List.mem_append.mp hf with hf | hf
      · exact hF f hf
      · rw [List.mem_singleton] at hf
        subst hf
        exact ⟨rfl, .inr (.inl rfl)⟩
    · rw [hpn] at he
      by_cases hc : st < lim ∧ T.getD st 0 = 45
      · rw [if_pos hc] at hn'
        subst hn'
        refine Ans.give rfl rfl rfl hC.b7 (by dsimp only; decide) hC.a7 (Nat.zero_le _) ?_
        rw [back0 rfl]
        dsimp only
        refine Run.lift (j := 20 + 6) (int_walk hC hlim (Nat.le_of_ble_eq_true rfl) (fun e hd' F he' hl hF => ?_) fun he' pc q hd' => ?_) (by decide)
        · exfalso
          have he' : intAt T lim st = some e := he'
          unfold intAt at he'
          rw [hc.2] at he'
          simp at he'
        · refine Ans.giveEnd rfl rfl rfl hC.b7 (by dsimp only; decide) ?_
          exact Ans.lift (lost he _ rfl) (by decide)
      · rw [if_neg hc] at hn'
        subst hn'
        refine Ans.giveEnd rfl rfl rfl hC.b7 (by dsimp only; decide) ?_
        exact Ans.lift (lost he _ rfl) (by decide)
  · dsimp only at hn
    rcases hn with hn | hn
    · have hnn : intAt T lim (signAt T lim st) = none := by
        have hn : lim ≤ st := Nat.le_of_lt_succ (Nat.lt_succ_of_le (Nat.le_of_lt_succ (Nat.lt_succ_of_lt hn)))
        have e : signAt T lim st = st := if_neg (nlt hn)
        rw [e]
        unfold intAt
        rw [if_neg (nlt hn), if_neg (nlt hn)]
      exact Ans.lift (lost hnn _ rfl) (by decide)
    · exact absurd hn (Nat.not_lt_zero _)
end
end Mine
end
section
open PySem PySem.W PySem.Calls PyProof.Rows
open Builtin Builtin.ObjectAttr
set_option Elab.async false
set_option maxRecDepth 100000
set_option maxHeartbeats 2000000
set_option autoImplicit false
set_option linter.unusedVariables false
namespace Mine
section
variable {prog : Program} {w : World} {A : Around} {E : Value → Shared → Prop} {h : Heap} {g : Array GenState} {d : Drawn} {t : Nat} {os : OsState} {x : Addr} {o : Obj} {name : Str} {v : Value}
theorem excget_entry {D : Addr} {m : Str → Option Value} {tk : Tok} {vs : Array Value} {Q : Fin → Shared → Prop} (hx : h.get? x = some o) (hc : o.cls = .type "Exception") (hd : o.dict = some D) (hdt : o.data = .fields vs) (hn : h.Ns D m) (hm : m name = some v) (hB : typeLookup (.type "Exception") name = pure none)
    (hq : Q (.done (.ret v)) ⟨h, g, d, t, os⟩) : wpAny (model prog w) A (Builtin.«object.__getattribute__» ⟨[.ref x, .str name tk], []⟩) Q E ⟨h, g, d, t, os⟩ := by
  have hT : (⟨h, g, d, t, os⟩ : Shared).TypeIs (.ref x) "Exception" := ⟨_, hx, hc⟩
  repeat (any_goals (first | assumption | wp_step))
  rw [hdt]
  unfold instanceDict
  repeat (any_goals (first | assumption | (with_reducible refine wpAny_loadPart_at hx ?_; rw [hc]) | wp_step))
  rw [hd]
  refine wpAny_pure ?_
  repeat (any_goals (first | assumption | (with_reducible refine wpAny_nsGet hn ?_; rw [hm]) | wp_step))
theorem exc_get {D : Addr} {m : Str → Option Value} {expr : Bool} {vs : Array Value} {Q : Value → Shared → Prop} (hx : h.get? x = some o) (hc : o.cls = .type "Exception") (hd : o.dict = some D) (hdt : o.data = .fields vs) (hn : h.Ns D m) (hm : m name = some v) (hB : typeLookup (.type "Exception") name = pure none) (hh : handedOut v = pure v)
    (hq : Q v ⟨h, g, d, t + 1, os⟩) : wpAny (model prog w) A (getAttr (.ref x) name expr) Q E ⟨h, g, d, t, os⟩ := by
  have hT : (⟨h, g, d, t + 1, os⟩ : Shared).TypeIs (.ref x) "Exception" := ⟨_, hx, hc⟩
  have f2 := F.attr_Exception.ga.lookup
  have f3 := F.attr_Exception.ga.bind (.ref x)
  have hx0 : (expr && onTheHeap (Value.builtin "BaseException.__getattribute__")) = false := by cases expr <;> rfl
  unfold getAttr
  repeat (any_goals (first | assumption | wp_step))
  refine codeAny_call_builtin F.attr_Exception.ga.plain F.entry_bexc_ga (F.attr_Exception.ga.check _ _ _ _ _ _ _ _ hT (F.args_bexc_ga _ _) (excget_entry hx hc hd hdt hn hm hB ?_))
  repeat (any_goals (first | assumption | wp_step))
theorem excset_first {tk : Tok} {vs : Array Value} {Q : Fin → Shared → Prop} (hx : h.get? x = some o) (hc : o.cls = .type "Exception") (hd : o.dict = none) (hdt : o.data = .fields vs) (hB : typeLookup (.type "Exception") name = pure none)
    (hq : ∀ h' tk' D, h.get? D = none → h'.get? x = some { o with dict := some D } → h'.Ns1 D (fun y => if y = name then some v else none) → (∀ b ob, b ≠ x → h.get? b = some ob → h'.get? b = some ob) → Q (.done (.ret .none)) ⟨h', g, d, tk', os⟩) :
    wpAny (model prog w) A (Builtin.«object.__setattr__» ⟨[.ref x, .str name tk, v], []⟩) Q E ⟨h, g, d, t, os⟩ := by
  have hT : (⟨h, g, d, t, os⟩ : Shared).TypeIs (.ref x) "Exception" := ⟨_, hx, hc⟩
  have hpass := F.store_Exception.passes (.ref x)
  have hmro := F.store_Exception.mro
  unfold Builtin.«object.__setattr__»
  repeat (first | rw [refuse_eq] | (with_reducible refine wpAny_loadPart_at hx ?_; rw [hc]) | wp_step)
  rw [hd]
  rw [hdt]
  rw [if_neg (by decide +kernel)]
  have hx₁ : (h.push { cls := .type "dict", data := .dict #[] }).get? x = some o := Heap.get?_push_of_some _ hx
  have hxs : x ≠ h.objs.size := Nat.ne_of_lt (Heap.lt_size hx)
  refine wpAny_bind (wpAny_alloc' ?_)
  refine wpAny_bind (wpAny_update' hx₁ ?_)
  show wpAny _ _ (pure _) _ _ _
  refine wpAny_pure ?_
  have hgd : ((h.push { cls := .type "dict", data := .dict #[] }).update x fun o => { cls := o.cls, dict := some h.objs.size, data := o.data, slots := o.slots }).get? h.objs.size
      = some { cls := .type "dict", data := .dict #[] } :=
    (Heap.get?_update_ne _ _ _ _ hxs.symm).trans (Heap.get?_push_at rfl rfl)
  have hnd : ((h.push { cls := .type "dict", data := .dict #[] }).update x fun o => { cls := o.cls, dict := some h.objs.size, data := o.data, slots := o.slots }).Ns h.objs.size (fun _ => none) :=
    ⟨_, #[], _, hgd, rfl, fun e he => absurd he (by simp), fun _ => rfl⟩
  show wpAny _ _ (storeInDict h.objs.size (.str name tk) name v) _ _ _
  unfold storeInDict newKeyGuard
  refine wpAny_bind (wpAny_pure (wpAny_bind (wpAny_nsSet1 (Heap.Ns1.of_empty hnd) fun h' hn' hs => ?_)))
  obtain ⟨oD, esD, epD, hoD, hdD, hcD⟩ := hn'.count (Within.cons name v Within.nil)
  refine wpAny_bind (wpAny_lookBehind hoD (by rw [hdD]; exact pastItsLine_dict (Nat.le_trans hcD (by rw [List.length_cons, List.length_nil, sizeLine_eq]; lia))) ?_)
  refine wpAny_pure ?_
  refine hq h' _ h.objs.size ?_ ?_ hn' fun b ob hbx hb => ?_
  · cases q : h.get? h.objs.size with
    | none => rfl
    | some o => exact absurd (Heap.lt_size q) (Nat.lt_irrefl _)
  · refine (hs.2 x hxs).trans (Heap.get?_update_self _ hx₁ ?_)
    have hfr := (Heap.get?_some_iff.mp hx).2
    obtain ⟨oc, od, odt, osl⟩ := o
    cases odt <;> first | rfl | exact hfr
  · exact (hs.2 b (Nat.ne_of_lt (Heap.lt_size hb))).trans ((Heap.get?_update_ne _ _ _ _ hbx).trans (Heap.get?_push_of_some _ hb))
theorem excset_more {tk : Tok} {vs : Array Value} {D : Addr} {m : Str → Option Value} {ns : List Str} {Q : Fin → Shared → Prop} (hx : h.get? x = some o) (hc : o.cls = .type "Exception") (hd : o.dict = some D) (hdt : o.data = .fields vs) (hB : typeLookup (.type "Exception") name = pure none) (hn : h.Ns1 D m) (hw : Within m ns) (hsz : ns.length + 1 ≤ sizeLine)
    (hq : ∀ h' tk', h'.Ns1 D (fun y => if y = name then some v else m y) → Heap.SameBut D h h' → Q (.done (.ret .none)) ⟨h', g, d, tk', os⟩) :
    wpAny (model prog w) A (Builtin.«object.__setattr__» ⟨[.ref x, .str name tk, v], []⟩) Q E ⟨h, g, d, t, os⟩ := by
  have hT : (⟨h, g, d, t, os⟩ : Shared).TypeIs (.ref x) "Exception" := ⟨_, hx, hc⟩
  have hpass := F.store_Exception.passes (.ref x)
  have hmro := F.store_Exception.mro
  unfold Builtin.«object.__setattr__»
  repeat (first | rw [refuse_eq] | (with_reducible refine wpAny_loadPart_at hx ?_; rw [hc]) | wp_step)
  rw [hd]
  refine wpAny_pure ?_
  show wpAny _ _ (storeInDict D (.str name tk) name v) _ _ _
  unfold storeInDict newKeyGuard
  refine wpAny_bind (wpAny_pure (wpAny_bind (wpAny_nsSet1 hn fun h' hn' hs => ?_)))
  obtain ⟨oD, esD, epD, hoD, hdD, hcD⟩ := hn'.count (Within.cons name v hw)
  refine wpAny_bind (wpAny_lookBehind hoD (by rw [hdD]; exact pastItsLine_dict (Nat.le_trans hcD (by rw [List.length_cons]; lia))) ?_)
  exact wpAny_pure (hq h' _ hn' hs)
theorem exc_set {Q : Unit → Shared → Prop} (hx : h.get? x = some o) (hc : o.cls = .type "Exception")
    (key : ∀ (tk : Tok) (P : Fin → Shared → Prop) (E' : Value → Shared → Prop) (A' : Around), (∀ s, Q () s → P (.done (.ret .none)) s) → wpAny (model prog w) A' (Builtin.«object.__setattr__» ⟨[.ref x, .str name tk, v], []⟩) P E' ⟨h, g, d, t + 1, os⟩) :
    wpAny (model prog w) A (setAttr (.ref x) name v) Q E ⟨h, g, d, t, os⟩ := by
  have hT : (⟨h, g, d, t + 1, os⟩ : Shared).TypeIs (.ref x) "Exception" := ⟨_, hx, hc⟩
  have f2 := F.store_Exception.slot.lookup
  have f3 := F.store_Exception.slot.bind (.ref x)
  unfold setAttr callSpecial? specialOf
  repeat (any_goals (first | assumption | wp_step))
  refine codeAny_call_builtin F.store_Exception.slot.plain F.store_Exception.entry (F.store_Exception.slot.check _ _ _ _ _ _ _ _ hT (F.store_Exception.args _ _ _) (key _ _ _ _ fun s hs => ?_))
  repeat (any_goals (first | assumption | wp_step))
noncomputable abbrev boundM (id : String) (self : Value) : Obj := { cls := .type "builtin_function_or_method", data := .fields #[.builtin id, self] }
theorem slot_md_get : Slot "method_descriptor" "__get__" "method_descriptor.__get__" :=
  .of (owner := "method_descriptor") (n := "__get__") (by rw [typeLookup_type, builtinLookup_eq_fast]; kernel_rfl) (by decide +kernel) (by decide +kernel) (by decide +kernel)
    (by first | exact .inl (by decide +kernel) | exact .inr (by decide +kernel)) (by rw [isSubtype_type]; kernel_rfl)
theorem entry_md_get : entryFor table "method_descriptor.__get__" = some Builtin.«method_descriptor.__get__» := entryFor_of_tree (by kernel_rfl)
theorem args_md_get (a b c : Value) : argsOk "method_descriptor.__get__" ⟨[a, b, c], []⟩ := by unfold argsOk; kernel_rfl
theorem type_match : typeOf (.builtin "re.Pattern.match") = pure (.type "method_descriptor") := by show builtinType _ = _; rw [builtinType_eq_fast]; kernel_rfl
theorem slot_pat_ga : Slot "re.Pattern" "__getattribute__" "object.__getattribute__" :=
  .of (owner := "object") (n := "__getattribute__") (by rw [typeLookup_type, builtinLookup_eq_fast]; kernel_rfl) (by decide +kernel) (by decide +kernel) (by decide +kernel)
    (by first | exact .inl (by decide +kernel) | exact .inr (by decide +kernel)) (by rw [isSubtype_type]; kernel_rfl)
theorem lk_pat_match : typeLookup (.type "re.Pattern") "match" = pure (some (.builtin "re.Pattern.match")) := by rw [typeLookup_type, builtinLookup_eq_fast]; kernel_rfl
theorem md_noset : typeLookup (.type "method_descriptor") "__set__" = pure none := by rw [typeLookup_type, builtinLookup_eq_fast]; kernel_rfl
theorem md_nodel : typeLookup (.type "method_descriptor") "__delete__" = pure none := by rw [typeLookup_type, builtinLookup_eq_fast]; kernel_rfl
theorem sub_pat : isSubtype (.type "re.Pattern") (.type "re.Pattern") = pure true := by rw [isSubtype_type]; kernel_rfl
theorem told_match : Manifest.toldItsClass.contains "re.Pattern.match" = true := by decide +kernel
theorem owner_match : (".".intercalate ("re.Pattern.match".cutAt '.').dropLast) = "re.Pattern" := by
  have e0 : "re.Pattern.match".cutAt '.' = ["re", "Pattern", "match"] := by first | rfl | decide +kernel
  rw [e0]; decide +kernel
theorem isType_pat : isType (.type "re.Pattern") = pure true := by first | rfl | kernel_rfl | (unfold isType; rw [isSubtype_type]; kernel_rfl)
theorem md_get_run {P : Fin → Shared → Prop} (hx : h.get? x = some o) (hc : o.cls = .type "re.Pattern") (hq : P (.done (.ret (.ref h.objs.size))) ⟨h.push (boundM "re.Pattern.match" (.ref x)), g, d, t, os⟩) :
    wpAny (model prog w) A (Builtin.«method_descriptor.__get__» ⟨[.builtin "re.Pattern.match", .ref x, .type "re.Pattern"], []⟩) P E ⟨h, g, d, t, os⟩ := by
  have hT : (⟨h, g, d, t, os⟩ : Shared).TypeIs (.ref x) "re.Pattern" := ⟨_, hx, hc⟩
  have f8 : isSubtype (.type "re.Pattern") (.type (".".intercalate ("re.Pattern.match".cutAt '.').dropLast)) = pure true := by rw [owner_match]; exact sub_pat
  have f9 := isType_pat
  unfold Builtin.«method_descriptor.__get__»
  refine wpAny_bind (wpAny_of_eq (a := (.builtin "re.Pattern.match", some (.ref x), some (.type "re.Pattern"))) (by first | rfl | kernel_rfl) ?_)
  simp only [told_match]
  repeat (any_goals (first | assumption | wp_step))
theorem pat_match {expr : Bool} {Q : Value → Shared → Prop} {vs : Array Value} (hx : h.get? x = some o) (hc : o.cls = .type "re.Pattern") (hd : o.dict = none) (hdt : o.data = .fields vs)
    (hq : Q (.ref h.objs.size) ⟨h.push (boundM "re.Pattern.match" (.ref x)), g, d, t + 1, os⟩) : wpAny (model prog w) A (getAttr (.ref x) "match" expr) Q E ⟨h, g, d, t, os⟩ := by
  have hT : (⟨h, g, d, t + 1, os⟩ : Shared).TypeIs (.ref x) "re.Pattern" := ⟨_, hx, hc⟩
  have f2 := slot_pat_ga.lookup
  have f3 := slot_pat_ga.bind (.ref x)
  have f4 := lk_pat_match
  have f5 := type_match
  have f6 := slot_md_get.lookup
  have f7 := md_noset
  have f8 := md_nodel
  have hx0 : (expr && onTheHeap (Value.builtin "object.__getattribute__")) = false := by cases expr <;> rfl
  unfold getAttr
  repeat (any_goals (first | assumption | wp_step))
  refine codeAny_call_builtin slot_pat_ga.plain F.entry_object_getattribute (slot_pat_ga.check _ _ _ _ _ _ _ _ hT (F.args_object_getattribute_2 _ _) ?_)
  repeat (any_goals (first | assumption | wp_step))
  rw [hdt]
  unfold instanceDict
  repeat (any_goals (first | assumption | (with_reducible refine wpAny_loadPart_at hx ?_; rw [hc]) | wp_step))
  rw [hd]
  refine wpAny_pure ?_
  repeat (any_goals (first | assumption | wp_step))
  refine codeAny_call_builtin slot_md_get.plain entry_md_get (slot_md_get.check _ _ _ _ _ _ _ _ (show (⟨h, g, d, t + 1, os⟩ : Shared).TypeIs (.builtin "re.Pattern.match") "method_descriptor" from type_match) (args_md_get _ _ _) (md_get_run hx hc ?_))
  exact wpAny_pure (wpAny_pure hq)
end
end Mine
end
section
open PySem PySem.W PySem.Calls PyProof.Rows
open Builtin Builtin.Re
set_option Elab.async false
set_option maxRecDepth 100000
set_option autoImplicit false
set_option linter.unusedVariables false
namespace Mine
section
variable {prog : Program} {w : World} {A : Around} {E : Value → Shared → Prop} {h : Heap} {g : Array GenState} {d : Drawn} {t : Nat} {os : OsState} {x : Addr} {o : Obj} {name : Str} {v : Value}
theorem entry_match : entryFor table "re.Pattern.match" = some Builtin.«re.Pattern.match» := entryFor_of_tree (by kernel_rfl)
theorem quiet_match {as : Args} : (Code.builtin "re.Pattern.match" as).quiet = true := Code.quiet_builtin _ (by decide +kernel)
theorem sub_pat_mod : isSubtype (.type "re.Pattern") (.type "module") = pure false := by rw [isSubtype_type]; kernel_rfl
theorem sig_match {sig : Manifest.Signature} (hs : Manifest.signature? "re.Pattern.match" = some sig) (x a b : Value) : Bind.checkArgs "re.Pattern.match" { sig with full := toString (Bind.lastOf "re.Pattern") ++ toString "." ++ toString (Bind.lastOf "re.Pattern.match") } ⟨[x, a, b], []⟩ = pure () := by
  have e : sig = (Manifest.signature? "re.Pattern.match").get (by decide +kernel) := by simp [hs]
  rw [e]
  kernel_rfl
theorem check_match {a b : Value} {vs : Array Value} {Q : Unit → Shared → Prop} (hx : h.get? x = some o) (hc : o.cls = .type "re.Pattern") (hdt : o.data = .fields vs) (hq : Q () ⟨h, g, d, t, os⟩) :
    wpAny (model prog w) A (checkBoundCall "re.Pattern.match" ⟨[.ref x, a, b], []⟩) Q E ⟨h, g, d, t, os⟩ := by
  have hT : (⟨h, g, d, t, os⟩ : Shared).TypeIs (.ref x) "re.Pattern" := ⟨_, hx, hc⟩
  have f1 := sub_pat_mod
  obtain ⟨sig, hs⟩ : ∃ sig, Manifest.signature? "re.Pattern.match" = some sig := Option.isSome_iff_exists.mp (by decide +kernel)
  have hk : builtinKind "re.Pattern.match" = some .method := by decide +kernel
  have hv : Manifest.varargsMethods.contains "re.Pattern.match" = false := by decide +kernel
  have ha := sig_match hs
  unfold checkBoundCall
  rw [hs]
  rw [hk]
  dsimp only
  rw [if_neg (by decide)]
  refine wpAny_bind (wpAny_isInstance hT f1 ?_)
  rw [if_neg (by rw [hv]; decide)]
  have hty : wpAny (model prog w) A (isType (.ref x)) (fun b s' => b = false ∧ s' = ⟨h, g, d, t, os⟩) E ⟨h, g, d, t, os⟩ := by
    repeat (any_goals (first | assumption | wp_step))
    rw [hdt]
    exact ⟨rfl, rfl⟩
  refine wpAny_bind (wpAny_mono hty (fun b s' hb => ?_) fun _ _ e => e)
  obtain ⟨rfl, rfl⟩ := hb
  rw [if_neg (by decide)]
  refine wpAny_bind (wpAny_typeOf_ref hx ?_)
  rw [hc]
  show wpAny _ _ (Bind.checkArgs "re.Pattern.match" _ _) _ _ _
  rw [ha]
  exact wpAny_pure hq
theorem call_match {u : Addr} {a b : Value} {vs : Array Value} {Q : Value → Shared → Prop} (hu : h.get? u = some (boundM "re.Pattern.match" (.ref x))) (hx : h.get? x = some o) (hc : o.cls = .type "re.Pattern") (hdt : o.data = .fields vs)
    (key : ∀ A', wpAny (model prog w) A' (Builtin.«re.Pattern.match» ⟨[.ref x, a, b], []⟩) (fun fin s' => ∃ v, fin = .done (.ret v) ∧ Q v s') E ⟨h, g, d, t, os⟩) :
    wpAny (model prog w) A (call (.ref u) [a, b]) Q E ⟨h, g, d, t, os⟩ := by
  refine wpAny_call (codeAny_of_tree ?_)
  show wpAny _ A.in1 (callAny (.ref u) ⟨[a, b], []⟩) _ _ _
  refine wpAny_bind (wpAny_load hu ?_)
  refine (?_ : wpAny _ _ (if (Value.type "builtin_function_or_method" == Value.type "method" || Value.type "builtin_function_or_method" == Value.type "builtin_function_or_method" || Value.type "builtin_function_or_method" == Value.type "method-wrapper") = true then _ else _) _ _ _)
  rw [if_pos (by decide)]
  show wpAny _ _ (if (Value.type "builtin_function_or_method" != Value.type "method") = true then do
          checkBoundCall "re.Pattern.match" { pos := [.ref x, a, b] }
          again (Code.builtin "re.Pattern.match" { pos := [.ref x, a, b] })
        else again (Code.call (.builtin "re.Pattern.match") { pos := [.ref x, a, b] })) _ _ _
  rw [if_pos (by decide)]
  refine wpAny_bind (check_match hx hc hdt ?_)
  refine wpAny_pure ⟨quiet_match, codeAny_builtin entry_match (wpAny_mono (key _) (fun fin s' hq => ?_) fun _ _ e => e)⟩
  obtain ⟨v, rfl, hq⟩ := hq
  exact hq
theorem runFor_stay : ∀ (n : Nat) (m : Sre.M), m.outcome.isSome = true → Sre.M.runFor n m = m
  | 0, m, _ => rfl
  | n + 1, m, h => by
    show (if m.outcome.isSome then m else Sre.M.runFor n m.step) = m
    rw [if_pos h]
theorem runFor_add : ∀ (a b : Nat) (m : Sre.M), Sre.M.runFor (a + b) m = Sre.M.runFor b (Sre.M.runFor a m)
  | 0, b, m => by rw [Nat.zero_add]; rfl
  | a + 1, b, m => by
    have e : a + 1 + b = (a + b) + 1 := Nat.add_right_comm a 1 b
    rw [e]
    show (if m.outcome.isSome then m else Sre.M.runFor (a + b) m.step) = Sre.M.runFor b (if m.outcome.isSome then m else Sre.M.runFor a m.step)
    by_cases h : m.outcome.isSome = true
    · rw [if_pos h, if_pos h, runFor_stay _ _ h]
    · rw [if_neg h, if_neg h, runFor_add a b]
theorem drive {M : Model} {s : Shared} {P : Sre.M → Prop} {Q : Sre.M → Shared → Prop}  (T : Nat) : ∀ (k : Nat) (m : Sre.M), Go k m P → k ≤ 4 * T → (∀ m', m'.outcome.isSome = true → P m' → Q m' s) → wpAny M A (reDrive (T + 1) m) Q E s := by
    induction T using Nat.strongRecOn with | _ T ih => _
    intro k m ⟨n, hn, ho, hp⟩ hk hQ
    have e : reDrive (T + 1) m = (if (Sre.M.runFor 4 m).outcome.isSome then pure (Sre.M.runFor 4 m) else do rule "sre.turn"; reDrive T (Sre.M.runFor 4 m)) := rfl
    rw [e]
    by_cases h4 : (Sre.M.runFor 4 m).outcome.isSome = true
    · rw [if_pos h4]
      refine wpAny_pure ?_
      have : Sre.M.runFor n m = Sre.M.runFor 4 m := by
        rcases Nat.le_total n 4 with q | q
        · obtain ⟨j, hj⟩ := Nat.exists_eq_add_of_le q
          rw [hj, runFor_add n j, runFor_stay _ _ ho]
        · obtain ⟨j, rfl⟩ := Nat.exists_eq_add_of_le q
          rw [runFor_add 4 j, runFor_stay _ _ h4]
      rw [this] at hp
      exact hQ _ h4 hp
    · rw [if_neg h4]
      have q : 4 < n := by
        rcases Nat.lt_or_ge 4 n with q | q
        · exact q
        · obtain ⟨j, hj⟩ := Nat.exists_eq_add_of_le q
          rw [hj, runFor_add n j, runFor_stay _ _ ho] at h4
          exact absurd ho h4
      obtain ⟨j, rfl⟩ := Nat.exists_eq_add_of_le (Nat.le_of_lt q)
      rw [runFor_add 4 j] at ho hp
      obtain ⟨T', rfl⟩ : ∃ T', T = T' + 1 := ⟨T - 1, (Nat.sub_add_cancel (Nat.pos_of_ne_zero fun e => absurd (Nat.le_trans (Nat.le_add_right 4 j) (Nat.le_trans hn hk)) (by rw [e]; decide))).symm⟩
      exact wpAny_bind (wpAny_rule (ih T' (Nat.lt_succ_self _) (k - 4) _ ⟨j, Nat.le_sub_of_add_le (Nat.le_trans (Nat.le_of_eq (Nat.add_comm j 4)) hn), ho, hp⟩ (Nat.sub_le_of_le_add hk) hQ))
theorem rules_quiet {M : Model} {s : Shared} {p : Nat → Bool} {nm : Nat → String} {Q : PUnit → Shared → Prop} : ∀ (l : List Nat), Q PUnit.unit s → wpAny M A (forIn l PUnit.unit fun i (_ : PUnit) => if p i = true then do rule (nm i); pure (ForInStep.yield PUnit.unit) else pure (ForInStep.yield PUnit.unit)) Q E s
  | [], h => by rw [List.forIn_nil]; exact wpAny_pure h
  | i :: l, h => by
    rw [List.forIn_cons]
    refine wpAny_bind ?_
    cases p i
    · exact wpAny_pure (rules_quiet l h)
    · exact wpAny_bind (wpAny_rule (wpAny_pure (rules_quiet l h)))
theorem run_end {M : Model} {s : Shared} {m : Sre.M} {P : Sre.M → Prop} {k : Nat} {Q : Option Sre.M → Shared → Prop} (hg : Go k m P) (hk : k ≤ 1000) (hP : ∀ m', P m' → (m'.outcome = some .matched ∧ Q (some m') s) ∨ (m'.outcome = some .failed ∧ Q none s)) : wpAny M A (reRunToEnd m) Q E s := by
  unfold reRunToEnd
  obtain ⟨T, hT⟩ : ∃ T, 2 ^ 64 = (T + 1000) + 1 := ⟨2 ^ 64 - 1001, by decide⟩
  rw [hT]
  refine wpAny_bind (drive (P := P) (T + 1000) k m hg (Nat.le_trans hk (Nat.le_trans (Nat.le_add_left 1000 T) (Nat.le_mul_of_pos_left _ (by decide)))) fun m' ho hp => ?_)
  refine wpAny_bind ?_
  refine rules_quiet (p := fun i => m'.seen.has i) (nm := fun i => Sre.names.getD i "") _ ?_
  rcases hP m' hp with ⟨e, q⟩ | ⟨e, q⟩
  · rw [e]; exact wpAny_pure q
  · rw [e]; exact wpAny_pure q
noncomputable def wordsOf (items : Array Value) : Array Nat := (items.map reRawOf).map (·.toNat)
theorem target {M : Model} {s : Shared} {fs items : Array Value} {c : Addr} {oc : Obj} {n : Nat} {T : Str} {i : Int} {tk tk2 t3 t6 : Tok} {Q : ReTarget → Shared → Prop} (hx : s.heap.get? x = some o) (hdt : o.data = .fields fs) (h6 : fs.getD 6 .none = .int 0 t6) (h5 : fs.getD 5 .none = .ref c) (h2 : fs.getD 2 .none = .int 3 t3)
    (hc : s.heap.get? c = some oc) (hcd : oc.data = .seq items n) (hi : 0 ≤ i ∧ i < 2 ^ 63) (hT : (T.cps.size : Int) < 2 ^ 63)
    (hq : Q { pattern := .ref x, string := .str T tk, code := wordsOf items, text := T.cps, kind := 0, groups := 3, pos := min i.toNat T.cps.size, lim := T.cps.size } s) :
    wpAny M A (reTarget "re.Pattern.match" "match" ⟨[.ref x, .str T tk, .int i tk2], []⟩) Q E s := by
  unfold reTarget
  refine wpAny_bind (wpAny_of_eq (a := [some (.str T tk), some (.int i tk2), none]) (by first | rfl | kernel_rfl) ?_)
  dsimp only
  refine wpAny_bind (wpAny_of_eq (a := i) ?_ ?_)
  · unfold reSsize
    show (if (decide (i < -(2 ^ 63)) || decide (i ≥ 2 ^ 63)) = true then _ else _) = _
    rw [if_neg (by simp; lia)]
  refine wpAny_bind (wpAny_of_eq (a := 2 ^ 63 - 1) rfl ?_)
  refine wpAny_bind (wpAny_fieldsOf hx hdt ?_)
  refine wpAny_bind (wpAny_of_eq (a := (T.cps, 0)) rfl ?_)
  simp only [h6, h5, h2]
  rw [if_neg (by show ¬ (false = true); decide), if_neg (by show ¬ (false = true); decide)]
  refine wpAny_bind (wpAny_of_eq (a := ()) rfl ?_)
  refine wpAny_bind ?_
  unfold reRawItems
  refine wpAny_bind (wpAny_seqItems hc hcd (wpAny_pure (wpAny_pure ?_)))
  have e : Min.min ((2 : Int) ^ 63 - 1).toNat T.cps.size = T.cps.size := by lia
  rw [e]
  exact hq
noncomputable def spV : Option (Nat × Nat) → List Value
  | none => [rawInt (-1), rawInt (-1)]
  | some (b, e) => [rawInt b, rawInt e]
theorem spV_eq (marks : Array (Option Nat)) (lm : Int) (g : Nat) : (match (if ((2 * g + 1 : Nat) : Int) ≤ lm then (marks.getD (2 * g) none, marks.getD (2 * g + 1) none) else (none, none)) with | (some b, some e) => [rawInt (b : Nat), rawInt (e : Nat)] | _ => [rawInt (-1), rawInt (-1)]) = spV (spanOf marks lm g) := by
  unfold spanOf
  by_cases hle : ((2 * g + 1 : Nat) : Int) ≤ lm
  · rw [if_pos hle, if_pos hle]
    cases marks.getD (2 * g) none with
    | none => rfl
    | some b => cases marks.getD (2 * g + 1) none with
      | none => rfl
      | some e => rfl
  · rw [if_neg hle, if_neg hle]; rfl
noncomputable abbrev matchObj (string pat : Value) (pos lim : Nat) (li : Int) (tp : Addr) : Obj := { cls := .type "re.Match", data := .fields #[string, pat, rawInt pos, rawInt lim, rawInt li, .ref tp] }
noncomputable abbrev spanTup (st hd : Nat) (s0 s1 s2 : Option (Nat × Nat)) : List Value := rawInt st :: rawInt hd :: (spV s0 ++ (spV s1 ++ spV s2))
theorem signAt_le {T : Array Nat} {lim p : Nat} : p ≤ signAt T lim p := by unfold signAt; split <;> lia
theorem digs_le {T : Array Nat} {lim p : Nat} : digs T lim p ≤ lim - p := many_le _ _
theorem intAt_lt {T : Array Nat} {lim p e : Nat} (h : intAt T lim p = some e) : p < e ∧ e ≤ lim := by
  unfold intAt at h
  have := digs_le (T := T) (lim := lim) (p := p + 1)
  split at h
  · rename_i q; cases h; exact ⟨Nat.lt_succ_self _, q.1⟩
  · split at h
    · rename_i q; cases h; exact span_lt this (Nat.lt_succ_self _) q.1
    · cases h
theorem fracAt_lt {T : Array Nat} {lim p e : Nat} (h : fracAt T lim p = some e) : p < e ∧ e ≤ lim := by
  unfold fracAt at h
  have := digs_le (T := T) (lim := lim) (p := p + 1)
  split at h
  · rename_i q; cases h; exact span_lt this (Nat.lt_succ_self _) q.1
  · cases h
theorem expAt_lt {T : Array Nat} {lim p e : Nat} (h : expAt T lim p = some e) : p < e ∧ e ≤ lim := by
  unfold expAt at h
  have h1 := digs_le (T := T) (lim := lim) (p := expSign T lim (p + 1))
  have h2 : p + 1 ≤ expSign T lim (p + 1) := by unfold expSign; split <;> lia
  split at h
  · rename_i q; cases h; exact span_lt h1 h2 (Nat.le_of_lt (Nat.lt_of_sub_pos (Nat.lt_of_lt_of_le q.2.2 h1)))
  · cases h
theorem newMatch {M : Model} {pattern string : Value} {pos lim : Nat} {m : Sre.M} {s0 s1 s2 : Option (Nat × Nat)} {Q : Value → Shared → Prop} (h0 : spanOf m.marks m.lastmark 0 = s0) (h1 : spanOf m.marks m.lastmark 1 = s1) (h2 : spanOf m.marks m.lastmark 2 = s2)
    (hle : ∀ g b e, g < 3 → spanOf m.marks m.lastmark g = some (b, e) → b ≤ e)
    (hq : ∀ h', (∀ b ob, h.get? b = some ob → h'.get? b = some ob) → ∀ u v, h.get? u = none → h.get? v = none → u ≠ v → h'.get? u = some { cls := .type "tuple", data := .seq (spanTup m.start m.handed s0 s1 s2).toArray } → h'.get? v = some (matchObj string pattern pos lim m.lastindex u) → Q (.ref v) ⟨h', g, d, t, os⟩) :
    wpAny M A (reNewMatch pattern string 3 pos lim m) Q E ⟨h, g, d, t, os⟩ := by
  have hany : ((List.range 3).any fun g => match m.marks.getD (2 * g) none, m.marks.getD (2 * g + 1) none with | some b, some e => decide (((2 * g + 1 : Nat) : Int) ≤ m.lastmark) && decide (e < b) | _, _ => false) = false := by
    rw [List.any_eq_false]
    intro g hg3 hg
    cases q1 : m.marks.getD (2 * g) none with
    | none => rw [q1] at hg; cases hg
    | some b => cases q2 : m.marks.getD (2 * g + 1) none with
      | none => rw [q1, q2] at hg; cases hg
      | some e =>
        rw [q1, q2] at hg
        have hg : (decide (((2 * g + 1 : Nat) : Int) ≤ m.lastmark) && decide (e < b)) = true := hg
        rw [Bool.and_eq_true, decide_eq_true_eq, decide_eq_true_eq] at hg
        have := hle g b e (List.mem_range.mp hg3) (by unfold spanOf; rw [if_pos hg.1, q1, q2])
        exact absurd hg.2 (Nat.not_lt.mpr this)
  have hsp : List.flatMap (fun g => match (if ((2 * g + 1 : Nat) : Int) ≤ m.lastmark then (m.marks.getD (2 * g) none, m.marks.getD (2 * g + 1) none) else (none, none)) with | (some b, some e) => [rawInt (b : Nat), rawInt (e : Nat)] | _ => [rawInt (-1), rawInt (-1)]) (List.range 3) = spV s0 ++ (spV s1 ++ spV s2) := by
    show List.flatMap _ [0, 1, 2] = _
    rw [List.flatMap_cons, List.flatMap_cons, List.flatMap_cons, List.flatMap_nil, List.append_nil, spV_eq, spV_eq, spV_eq, h0, h1, h2]
  have e : reNewMatch pattern string 3 pos lim m = (if ((List.range 3).any fun g => match m.marks.getD (2 * g) none, m.marks.getD (2 * g + 1) none with | some b, some e => decide (((2 * g + 1 : Nat) : Int) ≤ m.lastmark) && decide (e < b) | _, _ => false) = true then (do reWrongSpan; newFields "re.Match" [string, pattern, rawInt pos, rawInt lim, rawInt m.lastindex, ← newTuple (rawInt m.start :: rawInt m.handed :: List.flatMap (fun g => match (if ((2 * g + 1 : Nat) : Int) ≤ m.lastmark then (m.marks.getD (2 * g) none, m.marks.getD (2 * g + 1) none) else (none, none)) with | (some b, some e) => [rawInt (b : Nat), rawInt (e : Nat)] | _ => [rawInt (-1), rawInt (-1)]) (List.range 3))]) else (do newFields "re.Match" [string, pattern, rawInt pos, rawInt lim, rawInt m.lastindex, ← newTuple (rawInt m.start :: rawInt m.handed :: List.flatMap (fun g => match (if ((2 * g + 1 : Nat) : Int) ≤ m.lastmark then (m.marks.getD (2 * g) none, m.marks.getD (2 * g + 1) none) else (none, none)) with | (some b, some e) => [rawInt (b : Nat), rawInt (e : Nat)] | _ => [rawInt (-1), rawInt (-1)]) (List.range 3))])) := rfl
  rw [e, hsp, hany]
  rw [if_neg (by decide)]
  refine wpAny_bind (wpAny_newTuple ?_ ?_)
  · refine wpAny_newObj_type ?_
    have hu : h.get? h.objs.size = none := by
      cases q : h.get? h.objs.size with
      | none => rfl
      | some o => exact absurd (Heap.lt_size q) (Nat.lt_irrefl _)
    have hsz : (h.push { cls := .type "tuple", data := .seq (spanTup m.start m.handed s0 s1 s2).toArray }).objs.size = h.objs.size + 1 := by first | rfl | simp [Heap.push]
    have hv : h.get? (h.push { cls := .type "tuple", data := .seq (spanTup m.start m.handed s0 s1 s2).toArray }).objs.size = none := by
      rw [hsz]
      cases q : h.get? (h.objs.size + 1) with
      | none => rfl
      | some o => exact absurd (Heap.lt_size q) (Nat.not_lt.mpr (Nat.le_succ _))
    refine hq _ (fun b ob hb => Heap.get?_push_of_some _ (Heap.get?_push_of_some _ hb)) h.objs.size _ hu hv (by rw [hsz]; exact Nat.ne_of_lt (Nat.lt_succ_self _)) ?_ ?_
    · exact Heap.get?_push_of_some _ (Heap.get?_push_size _ rfl)
    · exact Heap.get?_push_size _ rfl
  · have l2 : ∀ q, (spV q).length = 2 := fun q => by cases q <;> rfl
    simp [l2, sizeLine]
theorem match_run {fs items : Array Value} {c : Addr} {oc : Obj} {n : Nat} {T : Str} {i : Nat} {tk tk2 t3 t6 : Tok} {Q : Fin → Shared → Prop} (hx : h.get? x = some o) (hdt : o.data = .fields fs) (h6 : fs.getD 6 .none = .int 0 t6) (h5 : fs.getD 5 .none = .ref c) (h2 : fs.getD 2 .none = .int 3 t3)
    (hc : h.get? c = some oc) (hcd : oc.data = .seq items n) (hC : Code (wordsOf items)) (hh : Sre.header (wordsOf items) = (1, 5)) (hi : i < T.cps.size) (hT : T.cps.size ≤ Sre.maxRepeat)
    (hnone : intAt T.cps T.cps.size (signAt T.cps T.cps.size i) = none → Q (.done (.ret .none)) ⟨h, g, d, t, os⟩)
    (hsome : ∀ p, intAt T.cps T.cps.size (signAt T.cps T.cps.size i) = some p → ∀ h', (∀ b ob, h.get? b = some ob → h'.get? b = some ob) → ∀ u v li, h.get? u = none → h.get? v = none → u ≠ v →
      h'.get? u = some { cls := .type "tuple", data := .seq (spanTup i (expEnd T.cps T.cps.size (fracEnd T.cps T.cps.size p)) (some (i, p)) ((fracAt T.cps T.cps.size p).map fun e => (p, e)) ((expAt T.cps T.cps.size (fracEnd T.cps T.cps.size p)).map fun e => (fracEnd T.cps T.cps.size p, e))).toArray } →
      h'.get? v = some (matchObj (.str T tk) (.ref x) i T.cps.size li u) → Q (.done (.ret (.ref v))) ⟨h', g, d, t, os⟩) :
    wpAny (model prog w) A (Builtin.«re.Pattern.match» ⟨[.ref x, .str T tk, .int i tk2], []⟩) Q E ⟨h, g, d, t, os⟩ := by
  have hT' : T.cps.size ≤ 4294967295 := hT
  unfold Builtin.«re.Pattern.match»
  refine wpAny_bind (target hx hdt h6 h5 h2 hc hcd ⟨by lia, by lia⟩ (by lia) ?_)
  dsimp only
  have e1 : min (i : Int).toNat T.cps.size = i := Nat.min_eq_left (Nat.le_of_lt hi)
  rw [e1]
  unfold reAnswer
  have hm : Sre.forMatch (wordsOf items) T.cps 3 i T.cps.size false false = Core.M (wordsOf items) T.cps T.cps.size i ⟨5, i, i, #[none, none, none, none, none, none], -1, -1, #[], none, []⟩ none (({} : Sre.Seen).add 14) 0 := by
    have e : ∀ (code text : Array Nat) (pos lim : Nat), Sre.forMatch code text 3 pos lim false false = (let m : Sre.M := { code, text, lim, start := pos, pc := (Sre.header code).2, pos, handed := pos, marks := Array.replicate 6 none, mustAdvance := false, seen := if (Sre.header code).2 == 0 then {} else ({} : Sre.Seen).add 14, wholeText := false }
      if (Sre.header code).1 != 0 && decide (pos ≤ lim) && decide (lim - pos < (Sre.header code).1) then m.say false else m) := fun _ _ _ _ => rfl
    rw [e, hh]
    dsimp only
    rw [if_neg (by simp; lia)]
    rfl
  have hnum : Go 100 (Sre.forMatch (wordsOf items) T.cps 3 i T.cps.size false false) (NumAt T.cps T.cps.size i) := by
    rw [hm]
    exact num_walk hC hT _ 0 (by decide)
  refine wpAny_bind (run_end hnum (by decide) fun m hm => ?_)
  unfold NumAt at hm
  cases hp : intAt T.cps T.cps.size (signAt T.cps T.cps.size i) with
  | none =>
    rw [hp] at hm
    exact .inr ⟨hm, wpAny_pure (hnone hp)⟩
  | some p =>
    rw [hp] at hm
    obtain ⟨ho, hst, h0, h1, h2', hhd⟩ := hm
    refine .inl ⟨ho, ?_⟩
    refine wpAny_bind (newMatch h0 h1 h2' (fun g b e h3 hg => ?_) fun h' hk u v n1 n2 n3 hu hv => wpAny_pure ?_)
    · have a1 := signAt_le (T := T.cps) (lim := T.cps.size) (p := i)
      have a2 := intAt_lt hp
      obtain rfl | rfl | rfl := in3 ⟨g, h3⟩
      · rw [h0] at hg
        cases hg
        exact Nat.le_trans a1 (Nat.le_of_lt a2.1)
      · rw [h1] at hg
        cases q : fracAt T.cps T.cps.size p with
        | none => rw [q] at hg; cases hg
        | some e' => rw [q] at hg; cases hg; exact Nat.le_of_lt (fracAt_lt q).1
      · rw [h2'] at hg
        cases q : expAt T.cps T.cps.size (fracEnd T.cps T.cps.size p) with
        | none => rw [q] at hg; cases hg
        | some e' => rw [q] at hg; cases hg; exact Nat.le_of_lt (expAt_lt q).1
    · rw [hst, hhd] at hu
      exact hsome p hp h' hk u v _ n1 n2 n3 hu hv
noncomputable def grpV (T : Str) (b : Tok) : Option (Nat × Nat) → Value
  | none => .none
  | some (x, y) => .str ⟨T.cps.extract x y⟩ b
theorem plainAttrs_Match : PlainAttrs "re.Match" :=
  ⟨⟨"object.__getattribute__", by rw [typeLookup_type, builtinLookup_eq_fast]; kernel_rfl, by decide +kernel⟩, by rw [typeLookup_type, builtinLookup_eq_fast]; kernel_rfl⟩
theorem slot_groups : Slot "re.Match" "groups" "re.Match.groups" :=
  .of (owner := "re.Match") (n := "groups") (by rw [typeLookup_type, builtinLookup_eq_fast]; kernel_rfl) (by decide +kernel) (by decide +kernel) (by decide +kernel)
    (by first | exact .inl (by decide +kernel) | exact .inr (by decide +kernel)) (by rw [isSubtype_type]; kernel_rfl)
theorem slot_end : Slot "re.Match" "end" "re.Match.end" :=
  .of (owner := "re.Match") (n := "end") (by rw [typeLookup_type, builtinLookup_eq_fast]; kernel_rfl) (by decide +kernel) (by decide +kernel) (by decide +kernel)
    (by first | exact .inl (by decide +kernel) | exact .inr (by decide +kernel)) (by rw [isSubtype_type]; kernel_rfl)
theorem entry_groups : entryFor table "re.Match.groups" = some Builtin.«re.Match.groups» := entryFor_of_tree (by kernel_rfl)
theorem entry_end : entryFor table "re.Match.end" = some Builtin.«re.Match.end» := entryFor_of_tree (by kernel_rfl)
theorem type_groups : typeOf (.builtin "re.Match.groups") = pure (.type "method_descriptor") := by show builtinType _ = _; rw [builtinType_eq_fast]; kernel_rfl
theorem type_end : typeOf (.builtin "re.Match.end") = pure (.type "method_descriptor") := by show builtinType _ = _; rw [builtinType_eq_fast]; kernel_rfl
theorem args_groups (a : Value) : argsOk "re.Match.groups" ⟨[a], []⟩ := by unfold argsOk; kernel_rfl
theorem args_end (a : Value) : argsOk "re.Match.end" ⟨[a], []⟩ := by unfold argsOk; kernel_rfl
end
end Mine
end
section
open PySem PySem.W PySem.Calls PyProof.Rows
open Builtin Builtin.Re
set_option Elab.async false
set_option maxRecDepth 100000
set_option autoImplicit false
set_option linter.unusedVariables false
namespace Mine
section
variable {prog : Program} {w : World} {A : Around} {E : Value → Shared → Prop} {h : Heap} {g : Array GenState} {d : Drawn} {t : Nat} {os : OsState} {x u : Addr} {o : Obj} {name : Str} {v : Value}
theorem found {M : Model} {T : Str} {tk : Tok} {pat : Value} {pos lim hd : Nat} {li : Int} {s0 s1 s2 : Option (Nat × Nat)} {Q : ReFound → Shared → Prop} (hx : h.get? x = some (matchObj (.str T tk) pat pos lim li u)) (hu : h.get? u = some { cls := .type "tuple", data := .seq (spanTup pos hd s0 s1 s2).toArray })
    (hq : Q { fields := #[.str T tk, pat, rawInt pos, rawInt lim, rawInt li, .ref u], spans := (spanTup pos hd s0 s1 s2).toArray.map reRawOf } ⟨h, g, d, t, os⟩) : wpAny M A (reFound (.ref x)) Q E ⟨h, g, d, t, os⟩ := by
  unfold reFound
  refine wpAny_bind (wpAny_fieldsOf hx rfl ?_)
  refine wpAny_bind ?_
  unfold reRawItems
  refine wpAny_bind (wpAny_seqItems hu rfl (wpAny_pure (wpAny_pure hq)))
theorem spans_at {pos hd : Nat} {s0 s1 s2 : Option (Nat × Nat)} : ∀ i, i < 8 → ((spanTup pos hd s0 s1 s2).toArray.map reRawOf).getD i (-1) = (match i with | 0 => (pos : Int) | 1 => hd | 2 => (s0.map fun p => ((p.1 : Nat) : Int)).getD (-1) | 3 => (s0.map fun p => ((p.2 : Nat) : Int)).getD (-1) | 4 => (s1.map fun p => ((p.1 : Nat) : Int)).getD (-1) | 5 => (s1.map fun p => ((p.2 : Nat) : Int)).getD (-1) | 6 => (s2.map fun p => ((p.1 : Nat) : Int)).getD (-1) | _ => (s2.map fun p => ((p.2 : Nat) : Int)).getD (-1)) := by
  intro i hi
  rw [List.map_toArray]
  have e : ∀ {o : Option (Nat × Nat)}, (spV o).map reRawOf = [(o.map fun p => ((p.1 : Nat) : Int)).getD (-1), (o.map fun p => ((p.2 : Nat) : Int)).getD (-1)] := fun {o} => by cases o <;> rfl
  show (List.toArray (List.map reRawOf (_ :: _ :: (spV s0 ++ (spV s1 ++ spV s2))))).getD i _ = _
  rw [List.map_cons, List.map_cons, List.map_append, List.map_append, e, e, e]
  obtain rfl | rfl | rfl | rfl | rfl | rfl | rfl | rfl := in8 ⟨i, hi⟩ <;> rfl
theorem grp {M : Model} {s : Shared} {T : Str} {tk : Tok} {x : ReFound} {sp : Option (Nat × Nat)} {k : Nat} {Q : Value → Shared → Prop} (h0 : x.fields.getD 0 .none = .str T tk) (hb : x.spans.getD (2 * k) (-1) = (sp.map fun p => ((p.1 : Nat) : Int)).getD (-1)) (he : x.spans.getD (2 * k + 1) (-1) = (sp.map fun p => ((p.2 : Nat) : Int)).getD (-1)) (hT : T.cps.size ≤ sizeLine)
    (hq : ∀ b tk', Q (grpV T b sp) { s with toks := tk' }) : wpAny M A (reGroupText x k .none) Q E s := by
  unfold reGroupText
  dsimp only
  rw [hb, he]
  cases sp with
  | none => exact wpAny_pure (hq 0 s.toks)
  | some p =>
    have e : ¬ ((decide ((((some p).map fun p : Nat × Nat => ((p.1 : Nat) : Int)).getD (-1)) < 0) || decide ((((some p).map fun p : Nat × Nat => ((p.2 : Nat) : Int)).getD (-1)) < 0)) = true) := by simp
    rw [if_neg e]
    rw [h0]
    refine wpAny_bind (wpAny_of_eq (a := (T.cps, 0)) rfl ?_)
    show wpAny M A (mkStr ⟨T.cps.extract p.1 p.2⟩) _ _ _
    refine wpAny_mkStr (hq _ _) ?_
    show (T.cps.extract p.1 p.2).size ≤ sizeLine
    rw [Array.size_extract]; exact Nat.le_trans (Nat.sub_le ..) (Nat.le_trans (Nat.min_le_right ..) hT)
theorem groups_run {T : Str} {tk : Tok} {pat : Value} {pos lim hd : Nat} {li : Int} {s0 s1 s2 : Option (Nat × Nat)} {Q : Fin → Shared → Prop} (hx : h.get? x = some (matchObj (.str T tk) pat pos lim li u)) (hu : h.get? u = some { cls := .type "tuple", data := .seq (spanTup pos hd s0 s1 s2).toArray }) (hT : T.cps.size ≤ sizeLine)
    (hq : ∀ a b c tk', Q (.done (.ret (.ref h.objs.size))) ⟨h.push { cls := .type "tuple", data := .seq #[grpV T a s0, grpV T b s1, grpV T c s2] }, g, d, tk', os⟩) :
    wpAny (model prog w) A (Builtin.«re.Match.groups» ⟨[.ref x], []⟩) Q E ⟨h, g, d, t, os⟩ := by
  unfold Builtin.«re.Match.groups» reWithDefault
  refine wpAny_bind (wpAny_bind (wpAny_of_eq (a := [none]) (by first | rfl | kernel_rfl) ?_))
  dsimp only
  refine wpAny_bind (found hx hu (wpAny_pure ?_))
  have hsz : ((spanTup pos hd s0 s1 s2).toArray.map reRawOf).size / 2 - 1 = 3 := by
    have l2 : ∀ q, (spV q).length = 2 := fun q => by cases q <;> rfl
    simp [l2]
  dsimp only
  rw [hsz]
  refine wpAny_bind ?_
  show wpAny _ _ (List.mapM _ [0, 1, 2]) _ _ _
  rw [List.mapM_cons, List.mapM_cons, List.mapM_cons, List.mapM_nil]
  refine wpAny_bind (grp rfl (spans_at 2 (by decide)) (spans_at 3 (by decide)) hT fun a ta => ?_)
  refine wpAny_bind (wpAny_bind (grp rfl (spans_at 4 (by decide)) (spans_at 5 (by decide)) hT fun b tb => ?_))
  refine wpAny_bind (wpAny_bind (grp rfl (spans_at 6 (by decide)) (spans_at 7 (by decide)) hT fun c tc => ?_))
  refine wpAny_bind (wpAny_pure (wpAny_pure (wpAny_pure (wpAny_pure ?_))))
  refine wpAny_bind (wpAny_newTuple (wpAny_pure (hq a b c tc)) ?_)
  show 3 ≤ sizeLine
  exact Nat.le_of_ble_eq_true rfl
theorem end_run {T : Str} {tk : Tok} {pat : Value} {pos lim hd : Nat} {li : Int} {s0 s1 s2 : Option (Nat × Nat)} {Q : Fin → Shared → Prop} (hx : h.get? x = some (matchObj (.str T tk) pat pos lim li u)) (hu : h.get? u = some { cls := .type "tuple", data := .seq (spanTup pos hd s0 s1 s2).toArray })
    (hq : ∀ a tk', Q (.done (.ret (.int hd a))) ⟨h, g, d, tk', os⟩) :
    wpAny (model prog w) A (Builtin.«re.Match.end» ⟨[.ref x], []⟩) Q E ⟨h, g, d, t, os⟩ := by
  unfold Builtin.«re.Match.end» reOneGroup
  refine wpAny_bind (wpAny_bind (wpAny_of_eq (a := (.ref x, [])) (by first | rfl | kernel_rfl) ?_))
  dsimp only
  refine wpAny_bind (found hx hu (wpAny_bind (wpAny_pure (wpAny_pure ?_))))
  dsimp only
  rw [spans_at 1 (by decide)]
  exact wpAny_bind (wpAny_mkInt (wpAny_pure (hq _ _)))
end
end Mine
end
section
open PySem PySem.W PySem.Calls PyProof.Rows
set_option Elab.async false
set_option maxRecDepth 100000
set_option maxHeartbeats 0
set_option autoImplicit false
set_option linter.unusedVariables false
namespace Mine
theorem stopSub : isSubtype (.type "StopIteration") (.type "StopIteration") = pure true := by rw [isSubtype_type]; kernel_rfl
theorem stopMade : Bind.madeBy (.type "StopIteration") = pure (some "Exception.__new__") := by kernel_rfl
theorem newEntry : entryFor table "Exception.__new__" = some Builtin.«BaseException.__new__» := PySem.F.excCall_Exception.entry
theorem stop_new {prog : Program} {w : World} {A : Around} {R : Result → Shared → Prop} {v : Value} {hp : Heap} {g : Array GenState} {d : Drawn} {tk : Nat} {os : OsState}
    (h : R (.ok (.ret (.ref (hp.objs.size + 1)))) ⟨(hp.push { cls := .type "tuple", data := .seq [v].toArray }).push
      { cls := .type "StopIteration", data := .fields #[.ref hp.objs.size, .none, .none, .none, .bool false, .none] }, g, d, tk, os⟩) :
    codeAny (model prog w) A (.builtin "Exception.__new__" ⟨[.type "StopIteration", v], []⟩) R ⟨hp, g, d, tk, os⟩ := by
  have hends : ("Exception.__new__" : String).endsWith ".__new__" = true := by decide +kernel
  have howner : ("Exception.__new__" : String).dropRight 8 = "Exception" := by decide +kernel
  have hsub : isSubtype (.type "StopIteration") (.type "Exception") = pure true := by rw [isSubtype_type]; kernel_rfl
  have hna : isSubtype (.type "StopIteration") (.type "AttributeError") = pure false := by rw [isSubtype_type]; kernel_rfl
  have hnn : isSubtype (.type "StopIteration") (.type "NameError") = pure false := by rw [isSubtype_type]; kernel_rfl
  have hmade : Bind.madeHere "BaseException.__new__" (.type "StopIteration") = pure () := by kernel_rfl
  refine codeAny_builtinAt newEntry ?_
  unfold Builtin.«BaseException.__new__»
  refine PySem.wpAt_bind ?_
  show PySem.wpAt _ _ _ (stack >>= _) _ _ _
  refine PySem.wpAt_bind (PySem.wpAt_stack fun p below => PySem.wpAt_of_wpAny ?_)
  wp_walk
  refine PySem.wpAt_of_wpAny ?_
  rw [howner]
  wp_walk
  show R _ _
  rw [Heap.size_push]
  exact h
theorem stopInit : Slot "StopIteration" "__init__" "StopIteration.__init__" := .of (owner := "StopIteration") (n := "__init__") (by rw [typeLookup_type, builtinLookup_eq_fast]; kernel_rfl) (by decide +kernel) (by decide +kernel) (by decide +kernel)
    (by first | exact .inl (by decide +kernel) | exact .inr (by decide +kernel)) (by rw [isSubtype_type]; kernel_rfl)
theorem stopEntry : entryFor table "StopIteration.__init__" = some Builtin.«StopIteration.__init__» := entryFor_of_tree (by kernel_rfl)
theorem baseInitEntry : entryFor table "BaseException.__init__" = some Builtin.«BaseException.__init__» := entryFor_of_tree (by kernel_rfl)
structure MadeStop (h h' : Heap) (e : Addr) (v : Value) : Prop where
  keeps : ∀ b o, h.get? b = some o → h'.get? b = some o
  new : h.get? e = none
  there : ∃ t, h'.get? e = some { cls := .type "StopIteration", data := .fields #[.ref t, .none, .none, .none, .bool false, v] } ∧ h.get? t = none ∧ h'.get? t = some { cls := .type "tuple", data := .seq #[v] }
section
variable {prog : Program} {w : World} {A : Around} {E : Value → Shared → Prop}
theorem stop_check {M : Model} {self : Value} {rest : List Value} {Q : Unit → Shared → Prop}
    {hp : Heap} {g : Array GenState} {d : Drawn} {tk : Nat} {os : OsState} (hT : Shared.TypeIs ⟨hp, g, d, tk, os⟩ self "StopIteration") (h : Q () ⟨hp, g, d, tk, os⟩) :
    wpAny M A (checkBuiltinCall "StopIteration.__init__" ⟨self :: rest, []⟩) Q E ⟨hp, g, d, tk, os⟩ := by
  have hk : builtinKind "StopIteration.__init__" = some .slot := by kernel_rfl
  have hsp : splitId "StopIteration.__init__" = some ("StopIteration", "__init__") := by kernel_rfl
  have hrow : Manifest.signature? "StopIteration.__init__" = some ⟨.positional, "*", "StopIteration", .self, [⟨"args", .varPos, false⟩]⟩ := by kernel_rfl
  have hsub := stopSub
  have hshort : ("StopIteration" != "*") = true := by decide +kernel
  simp only [checkBuiltinCall, hk, hsp, hrow]
  wp_walk
  refine wpAny_onRaise ?_
  rw [show ∀ (a b : String) (n : Nat), Bind.check ⟨.positional, "*", "StopIteration", .self, [⟨"args", .varPos, false⟩]⟩ a b n (List.map (fun x => x.fst) ({ pos := self :: rest } : Args).kw) = pure () from
    fun a b n => check_star_args _ _ _ _ _ _]
  exact wpAny_pure h
theorem stop_type_call {v : Value} {Q : Fin → Shared → Prop} {hp : Heap} {g : Array GenState} {d : Drawn} {tk : Nat} {os : OsState}
    (h : ∀ h' e, MadeStop hp h' e v → Q (.done (.ret (.ref e))) ⟨h', g, d, tk, os⟩) :
    wpAny (model prog w) A (Builtin.«type.__call__» ⟨[.type "StopIteration", v], []⟩) Q E ⟨hp, g, d, tk, os⟩ := by
  have hnt : (Value.type "StopIteration" == Value.type "type") = false := by decide +kernel
  have hcan : ((Manifest.find? "StopIteration").bind fun x => List.findSome? (fun t => (Manifest.find? t).bind fun b =>
    if b.noNew = true then some true else if (b.attrs.any fun x => x.fst == "__new__") = true then some false else none) x.mro).getD false = false := by kernel_rfl
  have hchk : checkTypeCall "StopIteration" ⟨[v], []⟩ = pure () := by kernel_rfl
  have hmro : mroOf (.type "StopIteration") = pure [.type "StopIteration", .type "Exception", .type "BaseException", .type "object"] := by rw [mroOf_type]; kernel_rfl
  have hmade := stopMade
  have hne : ([.type "StopIteration", .type "Exception", .type "BaseException", .type "object"] : List Value).isEmpty = false := rfl
  wp_walk
  refine codeAny_call_builtin_code (Code.quiet_builtin _ (by decide +kernel)) (wpAny_of_eq (show checkBuiltinCall "Exception.__new__" ⟨[.type "StopIteration", v], []⟩ = pure () by kernel_rfl) ?_)
  refine stop_new ?_
  show wpAny _ _ _ _ _ _
  have hget : ((hp.push { cls := .type "tuple", data := .seq [v].toArray }).push
      { cls := .type "StopIteration", data := .fields #[.ref hp.objs.size, .none, .none, .none, .bool false, .none] }).get? (hp.objs.size + 1) = some
      { cls := .type "StopIteration", data := .fields #[.ref hp.objs.size, .none, .none, .none, .bool false, .none] } := by heap_get
  refine wpAny_bind (wpAny_isInstance ⟨_, hget, rfl⟩ stopSub ?_)
  wp_step
  refine wpAny_bind (wpAny_holding (wpAny_callSpecial?_slot ⟨_, hget, rfl⟩ stopInit (wpAny_call (codeAny_call_builtin stopInit.plain stopEntry ?_))))
  refine stop_check ⟨_, hget, rfl⟩ ?_
  unfold Builtin.«StopIteration.__init__»
  wp_walk
  refine codeAny_builtin baseInitEntry ?_
  wp_walk
  refine h _ _ ⟨fun b o hb => ?_, Heap.get?_none_of_le (Nat.le_succ _), hp.objs.size + 2, ?_, Heap.get?_none_of_le (by lia), ?_⟩
  · have hne : hp.objs.size + 1 ≠ b := Nat.ne_of_gt (Nat.lt_succ_of_lt (Heap.lt_size hb))
    rw [Heap.get?_update_other _ _ hne, Heap.get?_update_other _ _ hne, Heap.get?_update_other _ _ hne]
    exact Heap.get?_push_of_some _ (Heap.get?_push_of_some _ (Heap.get?_push_of_some _ hb))
  · rw [Heap.get?_update_self _ (Heap.get?_update_self _ (Heap.get?_update_self _ (Heap.get?_push_of_some _ hget) rfl) rfl) rfl]
    simp only [Heap.size_push]
    rfl
  · have hne : hp.objs.size + 1 ≠ hp.objs.size + 2 := by lia
    rw [Heap.get?_update_other _ _ hne, Heap.get?_update_other _ _ hne, Heap.get?_update_other _ _ hne]
    exact Heap.get?_push_at (by simp only [Heap.size_push]) rfl
theorem stop_call {v : Value} {Q : Value → Shared → Prop} {s : Shared} (h : ∀ h' e, MadeStop s.heap h' e v → Q (.ref e) { s with heap := h' }) :
    wpAny (model prog w) A (call (.type "StopIteration") [v]) Q E s := by
  obtain ⟨hp, g, d, tk, os⟩ := s
  refine wpAny_call (codeAny_of_tree ?_)
  show wpAny _ _ (again (.builtin "type.__call__" ⟨[.type "StopIteration", v], []⟩)) _ _ _
  exact wpAny_pure ⟨Code.quiet_builtin _ (by decide +kernel), codeAny_builtin entry_typeCall (stop_type_call fun h' e hm => h h' e hm)⟩
end
end Mine
end
section
open PySem PySem.W PySem.Calls PyProof.Rows
set_option Elab.async false
set_option maxRecDepth 100000
set_option maxHeartbeats 0
set_option autoImplicit false
set_option linter.unusedVariables false
namespace Mine
section
variable {M : Model} {A : Around} {E : Value → Shared → Prop} {s : Shared} {env : Env}
end
section
variable {prog : Program} {w : World} {A : Around} {E : Value → Shared → Prop} {s : Shared} {env : Env}
theorem unchain_none {e h : Value} {o : Obj} {vs : Array Value} {a : Addr} {Q : Value → Shared → Prop} (hh : h = .ref a) (ho : s.heap.get? a = some o) (hd : o.data = .fields vs) (h2 : vs[2]? = some .none) (hQ : ∀ v, Q v s) :
    wpAny (model prog w) A (runValue (.builtin "proto.unchain" ⟨[e, h, h, .bool false], []⟩)) Q E s := by
  subst hh
  have hent : entryFor table "proto.unchain" = some Builtin.«proto.unchain» := entryFor_of_tree (by kernel_rfl)
  refine wpAny_runValue (codeAny_builtin hent ?_)
  unfold Builtin.«proto.unchain»
  show wpAny _ _ (do let context ← field (.ref a) 2; _) _ _ _
  refine wpAny_bind (wpAny_field ho hd h2 ?_)
  rw [if_pos (by decide)]
  exact wpAny_pure (hQ _)
theorem raise_from_none {cls : String} (F : ExcRaiseFacts cls) {x : Sem Value} {c : Sem Value} {hx : Addr} {Q : Flow → Shared → Prop} (hh : A.handled = some (.ref hx))
    (h : wpAny (model prog w) A x (fun v s₁ => wpAny (model prog w) A c (fun cv s₂ => cv = .none ∧ ∃ e o vs oh vh, v = .ref e ∧ s₂.heap.get? e = some o ∧ o.cls = .type cls ∧ o.data = .fields vs ∧ vs[1]? = some .none ∧ 5 < vs.size ∧ e ≠ hx ∧
      s₂.heap.get? hx = some oh ∧ oh.data = .fields vh ∧ vh[2]? = some .none ∧
      ∀ h', Heap.SameBut e s₂.heap h' → h'.get? e = some (((o.mapFields (·.setIfInBounds 3 .none)).mapFields (·.setIfInBounds 4 (.bool true))).mapFields (·.setIfInBounds 2 (.ref hx))) → E (.ref e) { s₂ with heap := h' }) E s₁) E s) :
    wpAny (model prog w) A (raiseStmt env (some x) (some c)) Q E s := by
  unfold raiseStmt
  refine wpAny_bind (wpAny_mono h (fun v s₁ h₁ => ?_) fun _ _ x => x)
  refine wpAny_bind (wpAny_holding (wpAny_mono h₁ (fun cv s₂ h₂ => wpAny_bind (wpAny_pure ?_)) fun _ _ x => x))
  obtain ⟨rfl, e, o, vs, oh, vh, rfl, he, hc, hd, h1, hsz, hne, hho, hhd, hh2, hE⟩ := h₂
  obtain ⟨hp, g, d, tk, os⟩ := s₂
  have hsub := F.isExc
  have hmeta := F.plainMeta
  obtain ⟨oc, od, odt, osl⟩ := o
  obtain rfl : oc = .type cls := hc
  obtain rfl : odt = .fields vs := hd
  repeat (first | refine wpAny_loadPart he ?_ | wp_step)
  rw [if_pos (by lia)]
  refine wpAny_update he ?_
  have he3 := Heap.get?_update_self (Obj.mapFields (·.setIfInBounds 3 Value.none)) he rfl
  refine wpAny_bind (wpAny_setField he3 rfl (by simp; lia) ?_)
  have he4 := Heap.get?_update_self (Obj.mapFields (·.setIfInBounds 4 (Value.bool true))) he3 rfl
  have h1' : ((vs.setIfInBounds 3 Value.none).setIfInBounds 4 (Value.bool true))[1]? = some Value.none := by simp [h1]
  generalize hH : ((hp.update e (Obj.mapFields (·.setIfInBounds 3 Value.none))).update e (Obj.mapFields (·.setIfInBounds 4 (Value.bool true)))) = hq at he4
  have hsame : Heap.SameBut e hp hq := by rw [← hH]; exact (Heap.SameBut.update ..).trans (Heap.SameBut.update ..)
  repeat (first | refine wpAny_loadPart he4 ?_ | wp_step)
  show wpAny (model prog w) A (match ((vs.setIfInBounds 3 Value.none).setIfInBounds 4 (Value.bool true))[1]? with
    | some x => pure x
    | none => unsupported "internal:no-such-field") _ E ⟨hq, g, d, tk, os⟩
  rw [h1']
  refine wpAny_pure ?_
  rw [if_neg (by decide)]
  refine wpAny_pure ?_
  unfold raiseNew
  refine wpAny_bind (wpAny_handled ?_)
  rw [hh]
  have hb : (Value.ref hx != Value.ref e) = true := by simp [Ne.symm hne]
  have hhq : hq.get? hx = some oh := (hsame.2 hx (Ne.symm hne)).trans hho
  show wpAny (model prog w) A (if (Value.ref hx != Value.ref e) = true then (do
      let _ ← holding [Value.ref e] (runValue (.builtin "proto.unchain" ⟨[Value.ref e, Value.ref hx, Value.ref hx, .bool false], []⟩))
      updateField e 2 (Value.ref hx)
      throw (Value.ref e)) else throw (Value.ref e)) Q E ⟨hq, g, d, tk, os⟩
  rw [if_pos hb]
  refine wpAny_bind (wpAny_holding (unchain_none rfl hhq hhd hh2 fun _ => ?_))
  refine wpAny_bind ?_
  unfold updateField
  refine wpAny_bind (wpAny_load he4 ?_)
  show wpAny _ _ (if 2 < ((vs.setIfInBounds 3 Value.none).setIfInBounds 4 (Value.bool true)).size then _ else _) _ _ _
  rw [if_pos (by simp; lia)]
  exact wpAny_update he4 (wpAny_throw (hE _ (hsame.trans (Heap.SameBut.update ..)) (Heap.get?_update_self _ he4 rfl)))
end
end Mine
end
section
open PySem PySem.W PySem.Calls PyProof.Rows
open Builtin Builtin.ObjectAttr
set_option Elab.async false
set_option maxRecDepth 100000
set_option maxHeartbeats 2000000
set_option autoImplicit false
set_option linter.unusedVariables false
namespace Mine
section
variable {prog : Program} {w : World} {A : Around} {E : Value → Shared → Prop} {h : Heap} {g : Array GenState} {d : Drawn} {t : Nat} {os : OsState} {x : Addr} {o : Obj}
theorem stv_type : typeOf (.builtin "StopIteration.value") = pure (.type "member_descriptor") := by show builtinType _ = _; rw [builtinType_eq_fast]; kernel_rfl
theorem stv_ga : Slot "StopIteration" "__getattribute__" "BaseException.__getattribute__" :=
  .of (owner := "BaseException") (n := "__getattribute__") (by rw [typeLookup_type, builtinLookup_eq_fast]; kernel_rfl) (by decide +kernel) (by decide +kernel) (by decide +kernel)
    (by first | exact .inl (by decide +kernel) | exact .inr (by decide +kernel)) (by rw [isSubtype_type]; kernel_rfl)
theorem stv_lk : typeLookup (.type "StopIteration") "value" = pure (some (.builtin "StopIteration.value")) := by rw [typeLookup_type, builtinLookup_eq_fast]; kernel_rfl
theorem stv_get : Slot "member_descriptor" "__get__" "member_descriptor.__get__" :=
  .of (owner := "member_descriptor") (n := "__get__") (by rw [typeLookup_type, builtinLookup_eq_fast]; kernel_rfl) (by decide +kernel) (by decide +kernel) (by decide +kernel)
    (by first | exact .inl (by decide +kernel) | exact .inr (by decide +kernel)) (by rw [isSubtype_type]; kernel_rfl)
theorem stv_set : Slot "member_descriptor" "__set__" "member_descriptor.__set__" :=
  .of (owner := "member_descriptor") (n := "__set__") (by rw [typeLookup_type, builtinLookup_eq_fast]; kernel_rfl) (by decide +kernel) (by decide +kernel) (by decide +kernel)
    (by first | exact .inl (by decide +kernel) | exact .inr (by decide +kernel)) (by rw [isSubtype_type]; kernel_rfl)
theorem stv_getE : entryFor table "member_descriptor.__get__" = some Builtin.«member_descriptor.__get__» := entryFor_of_tree (by kernel_rfl)
theorem stv_E : entryFor table "StopIteration.value" = some Builtin.«StopIteration.value» := entryFor_of_tree (by kernel_rfl)
theorem stv_args (a b c : Value) : argsOk "member_descriptor.__get__" ⟨[a, b, c], []⟩ := by unfold argsOk; kernel_rfl
theorem stv_owner : isSubtype (.type "StopIteration") (.type (".".intercalate ("StopIteration.value".cutAt '.').dropLast)) = pure true := by
  have e0 : "StopIteration.value".cutAt '.' = ["StopIteration", "value"] := by first | rfl | decide +kernel
  rw [e0, show ".".intercalate ["StopIteration", "value"].dropLast = "StopIteration" from by decide +kernel, isSubtype_type]; kernel_rfl
theorem stv_run {v : Value} {vs : Array Value} {R : Result → Shared → Prop} (hx : h.get? x = some o) (hc : o.cls = .type "StopIteration") (hdt : o.data = .fields vs) (hv : vs[5]? = some v) (hq : R (.ok (.ret v)) ⟨h, g, d, t, os⟩) :
    codeAny (model prog w) A (.call (.builtin "member_descriptor.__get__") ⟨[.builtin "StopIteration.value", .ref x, .type "StopIteration"], []⟩) R ⟨h, g, d, t, os⟩ := by
  have hT : (⟨h, g, d, t, os⟩ : Shared).TypeIs (.ref x) "StopIteration" := ⟨_, hx, hc⟩
  have hT5 : (⟨h, g, d, t, os⟩ : Shared).TypeIs (.builtin "StopIteration.value") "member_descriptor" := stv_type
  have f8 := stv_owner
  refine codeAny_call_builtin stv_get.plain stv_getE (stv_get.check _ _ _ _ _ _ _ _ hT5 (stv_args _ _ _) ?_)
  repeat (any_goals (first | assumption | wp_step))
  refine ⟨Code.quiet_builtin _ (by decide +kernel), codeAny_builtin stv_E ?_⟩
  repeat (any_goals (first | assumption | wp_step))
  rw [hdt]
  refine wpAny_pure ?_
  rw [hv]
  exact wpAny_pure (wpAny_pure hq)
theorem stop_value {expr : Bool} {v : Value} {vs : Array Value} {Q : Value → Shared → Prop} (hx : h.get? x = some o) (hc : o.cls = .type "StopIteration") (hdt : o.data = .fields vs) (hv : vs[5]? = some v) (hn : handedOut v = pure v)
    (hq : Q v ⟨h, g, d, t + 1, os⟩) : wpAny (model prog w) A (getAttr (.ref x) "value" expr) Q E ⟨h, g, d, t, os⟩ := by
  have hT : (⟨h, g, d, t + 1, os⟩ : Shared).TypeIs (.ref x) "StopIteration" := ⟨_, hx, hc⟩
  have f2 := stv_ga.lookup
  have f3 := stv_ga.bind (.ref x)
  have f4 := stv_lk
  have f5 := stv_type
  have f6 := stv_get.lookup
  have f7 := stv_set.lookup
  have hx0 : (expr && onTheHeap (Value.builtin "BaseException.__getattribute__")) = false := by cases expr <;> rfl
  unfold getAttr
  repeat (any_goals (first | assumption | wp_step))
  refine codeAny_call_builtin stv_ga.plain F.entry_bexc_ga (stv_ga.check _ _ _ _ _ _ _ _ hT (F.args_bexc_ga _ _) ?_)
  repeat (any_goals (first | assumption | wp_step))
  refine stv_run hx hc hdt hv ?_
  repeat (any_goals (first | assumption | wp_step))
end
end Mine
end
open PySem PySem.W PySem.Calls PyProof.Rows
namespace Mine
def tacSq (t : Lean.Syntax) : Lean.Syntax := .node .none ``Lean.Parser.Tactic.tacticSeq #[.node .none ``Lean.Parser.Tactic.tacticSeq1Indented #[.node .none `null #[t]]]
def tacAp (f : Lean.Name) (x : Lean.Syntax) : Lean.Syntax := .node .none ``Lean.Parser.Term.app #[Lean.mkIdent f, .node .none `null #[x]]
def tacOr (t : Lean.Syntax) : Lean.Syntax := .node .none `group #[.atom .none "|", tacSq t]
def tacEx (x : Lean.Syntax) : Lean.Syntax := tacOr (.node .none ``Lean.Parser.Tactic.exact #[.atom .none "exact", tacAp ``Eq.refl x])
def tac0 : Lean.Syntax := tacSq (.node .none ``Lean.Parser.Tactic.first #[.atom .none "first", .node .none `null (([``true, ``false, ``ScopeKind.function].map fun x => tacEx (Lean.mkIdent x)) ++ ([``NameKind.local, ``NameKind.cell].map fun x => tacEx (tacAp ``some (Lean.mkIdent x))) ++ [tacEx (tacAp ``pure (Lean.mkIdent ``false)), tacOr (.node .none ``Lean.Parser.Tactic.tacticRfl #[.atom .none "rfl"])]).toArray])
def tac3 : Lean.Syntax := tacSq (.node .none ``Lean.Parser.Tactic.withUnfoldingAll #[.atom .none "with_unfolding_all", tacSq (.node .none ``Lean.Parser.Tactic.tacticRfl #[.atom .none "rfl"])])
def tac14 : Lean.Syntax := tacSq (.node .none ``Lean.Parser.Tactic.decide #[.atom .none "decide", .node .none ``Lean.Parser.Tactic.optConfig #[.node .none `null #[]]])
def tac15 : Lean.Syntax := tacSq (.node .none ``Lean.Parser.Tactic.withUnfoldingAll #[.atom .none "with_unfolding_all", tacSq (.node .none ``Lean.Parser.Tactic.exact #[.atom .none "exact", tacAp ``Eq.refl (Lean.mkIdent ``false)])])

noncomputable abbrev Fz := Addr → Option Obj
noncomputable def Fz.le (F F' : Fz) : Prop := ∀ a o, F a = some o → F' a = some o
theorem nk0 {n k L : Nat} (h : n + k = L) (hk : k < L) : 0 < n := Nat.pos_of_ne_zero fun e => by rw [e, Nat.zero_add] at h; exact absurd h (Nat.ne_of_lt hk)
theorem nk1 {n k L : Nat} (h : n + k = L) (hk : k < L) : n - 1 < n := Nat.sub_lt (nk0 h hk) (by decide)
theorem nk2 {n k L : Nat} (h : n + k = L) (hk : k < L) : n - 1 + (k + 1) = L := by rw [← Nat.add_assoc, Nat.add_right_comm, Nat.sub_add_cancel (nk0 h hk)]; exact h
theorem toN {i : Int} {n : Nat} (h0 : 0 ≤ i) (h : i.toNat < n) : 0 ≤ i ∧ i < (n : Int) := ⟨h0, (Int.toNat_lt h0).mp h⟩
theorem occ1 {L lo k : Nat} (h1 : lo ≤ k) (h2 : k ≤ L) : L + 1 - lo = (k - lo) + ((L - k) + 1) := by
  rw [Nat.sub_add_comm (Nat.le_trans h1 h2), ← Nat.sub_add_sub_cancel h2 h1, Nat.add_comm (L - k), Nat.add_assoc]
theorem Fz.le.refl (F : Fz) : F.le F := fun _ _ e => e
theorem Fz.le.trans {F F' F'' : Fz} (x : F.le F') (y : F'.le F'') : F.le F'' := fun a o e => y a o (x a o e)

inductive V where
  | none
  | bool (b : Bool)
  | int (i : Int)
  | str (s : Str)
  | tup (l : List V)
  | lst (l : List V)
  | ref (a : Addr)
  | rng (a b c : Int)
  | typ (n : String)
  | blt (n : String)

inductive RV (F : Fz) : Value → V → Prop where
  | none : RV F .none .none
  | bool {b : Bool} : RV F (.bool b) (.bool b)
  | int {i : Int} {t : Tok} : RV F (.int i t) (.int i)
  | str {x : Str} {t : Tok} : RV F (.str x t) (.str x)
  | typ {n : String} : RV F (.type n) (.typ n)
  | blt {n : String} : RV F (.builtin n) (.blt n)
  | ref {a : Addr} : RV F (.ref a) (.ref a)
  | rng {r : Addr} {a b c : Int} {t u v : Tok} (h : F r = some { cls := .type "range", dict := none, data := .fields #[.int a t, .int b u, .int c v], slots := #[] }) : RV F (.ref r) (.rng a b c)
  | tup {a : Addr} {vs : List Value} {n : Nat} {l : List V} (h : F a = some { cls := .type "tuple", dict := none, data := .seq vs.toArray n, slots := #[] })
      (hl : vs.length = l.length) (hr : ∀ (i : Nat) (v : Value) (x : V), vs[i]? = some v → l[i]? = some x → RV F v x) : RV F (.ref a) (.tup l)
  | lst {a : Addr} {vs : List Value} {n : Nat} {l : List V} {o : Obj} (h : F a = some o) (hc : o.cls = .type "list") (hd : o.data = .seq vs.toArray n)
      (hl : vs.length = l.length) (hr : ∀ (i : Nat) (v : Value) (x : V), vs[i]? = some v → l[i]? = some x → RV F v x) : RV F (.ref a) (.lst l)

theorem RV.mono {F F' : Fz} (le : F.le F') {v : Value} {x : V} (h : RV F v x) : RV F' v x := by
  induction h with
  | none => exact .none
  | bool => exact .bool
  | int => exact .int
  | str => exact .str
  | typ => exact .typ
  | blt => exact .blt
  | ref => exact .ref
  | rng h => exact .rng (le _ _ h)
  | tup h hl _ ih => exact .tup (le _ _ h) hl ih
  | lst h hc hd hl _ ih => exact .lst (le _ _ h) hc hd hl ih

section
variable {F : Fz} {P : Value → Prop} {v : Value}
noncomputable def RVI (F : Fz) (v : Value) : V → Prop
  | .none => v = .none
  | .bool b => v = .bool b
  | .int i => ∃ t, v = .int i t
  | .str x => ∃ t, v = .str x t
  | .typ n => v = .type n
  | .blt n => v = .builtin n
  | .ref a => v = .ref a
  | .rng a b c => ∃ r t u w, F r = some { cls := .type "range", dict := Option.none, data := .fields #[.int a t, .int b u, .int c w], slots := #[] } ∧ v = .ref r
  | .tup l => ∃ a vs n, (F a = some { cls := .type "tuple", dict := Option.none, data := .seq (List.toArray vs) n, slots := #[] } ∧ vs.length = l.length ∧ ∀ (i : Nat) (v : Value) (x : V), vs[i]? = some v → l[i]? = some x → RV F v x) ∧ v = .ref a
  | .lst l => ∃ a vs n o, (F a = some o ∧ o.cls = .type "list" ∧ o.data = .seq (List.toArray vs) n ∧ vs.length = l.length ∧ ∀ (i : Nat) (v : Value) (x : V), vs[i]? = some v → l[i]? = some x → RV F v x) ∧ v = .ref a
theorem RV.inv {x : V} (h : RV F v x) : RVI F v x := RV.casesOn (motive := fun v x _ => RVI F v x) h rfl rfl ⟨_, rfl⟩ ⟨_, rfl⟩ rfl rfl rfl (fun h => ⟨_, _, _, _, h, rfl⟩) (fun h hl hr => ⟨_, _, _, ⟨h, hl, hr⟩, rfl⟩) (fun h hc hd hl hr => ⟨_, _, _, _, ⟨h, hc, hd, hl, hr⟩, rfl⟩)
theorem RV.i_none (h : RV F v .none) : v = .none := h.inv
theorem RV.i_ref {a : Addr} (h : RV F v (.ref a)) : v = .ref a := h.inv
theorem RV.i_blt {n : String} (h : RV F v (.blt n)) : v = .builtin n := h.inv
theorem RV.i_typ {n : String} (h : RV F v (.typ n)) : v = .type n := h.inv
theorem RV.i_bool {b : Bool} (h : RV F v (.bool b)) : v = .bool b := h.inv
theorem RV.e_int {i : Int} (h : RV F v (.int i)) (k : ∀ t, P (.int i t)) : P v := Exists.elim h.inv fun t e => Eq.mpr (congrArg P e) (k t)
theorem RV.e_str {x : Str} (h : RV F v (.str x)) (k : ∀ t, P (.str x t)) : P v := Exists.elim h.inv fun t e => Eq.mpr (congrArg P e) (k t)
theorem RV.e_bool {b : Bool} (h : RV F v (.bool b)) (k : P (.bool b)) : P v := Eq.mpr (congrArg P h.i_bool) k
theorem RV.e_none (h : RV F v .none) (k : P .none) : P v := Eq.mpr (congrArg P h.i_none) k
noncomputable def V.isN : V → Bool
  | .none => true
  | _ => false
theorem RV.isN {z : V} (h : RV F v z) : (v == .none) = z.isN := RV.casesOn (motive := fun v x _ => (v == .none) = x.isN) h rfl rfl rfl rfl rfl rfl rfl (fun _ => rfl) (fun _ _ _ => rfl) (fun _ _ _ _ _ => rfl)
theorem RV.e_typ {n : String} (h : RV F v (.typ n)) (k : P (.type n)) : P v := Eq.mpr (congrArg P h.i_typ) k
theorem RV.e_blt {n : String} (h : RV F v (.blt n)) (k : P (.builtin n)) : P v := Eq.mpr (congrArg P h.i_blt) k
theorem RV.e_ref {a : Addr} (h : RV F v (.ref a)) (k : P (.ref a)) : P v := Eq.mpr (congrArg P h.i_ref) k
theorem RV.e_rng {a b c : Int} (h : RV F v (.rng a b c)) (k : ∀ r t u w, F r = some { cls := .type "range", dict := Option.none, data := .fields #[.int a t, .int b u, .int c w], slots := #[] } → P (.ref r)) : P v := h.inv.elim fun _ h => h.elim fun _ h => h.elim fun _ h => h.elim fun _ h => Eq.mpr (congrArg P h.2) (k _ _ _ _ h.1)
theorem RV.e_tup {l : List V} (h : RV F v (.tup l)) (k : ∀ a vs n, F a = some { cls := .type "tuple", dict := Option.none, data := .seq (List.toArray vs) n, slots := #[] } → vs.length = l.length → (∀ (i : Nat) (v : Value) (x : V), vs[i]? = some v → l[i]? = some x → RV F v x) → P (.ref a)) : P v := h.inv.elim fun _ h => h.elim fun _ h => h.elim fun _ h => Eq.mpr (congrArg P h.2) (k _ _ _ h.1.1 h.1.2.1 h.1.2.2)
theorem RV.e_lst {l : List V} (h : RV F v (.lst l)) (k : ∀ a vs n o, F a = some o → o.cls = .type "list" → o.data = .seq (List.toArray vs) n → vs.length = l.length → (∀ (i : Nat) (v : Value) (x : V), vs[i]? = some v → l[i]? = some x → RV F v x) → P (.ref a)) : P v := h.inv.elim fun _ h => h.elim fun _ h => h.elim fun _ h => h.elim fun _ h => Eq.mpr (congrArg P h.2) (k _ _ _ _ h.1.1 h.1.2.1 h.1.2.2.1 h.1.2.2.2.1 h.1.2.2.2.2)
end
inductive RVs (F : Fz) : List Value → List V → Prop where
  | nil : RVs F [] []
  | cons {v : Value} {x : V} {vs : List Value} {l : List V} (h : RV F v x) (t : RVs F vs l) : RVs F (v :: vs) (x :: l)
theorem RVs.e0 {F : Fz} {P : List Value → Prop} {vs : List Value} (h : RVs F vs []) (k : P []) : P vs := by cases h; exact k
theorem RVs.ec {F : Fz} {P : List Value → Prop} {vs : List Value} {x : V} {l : List V} (h : RVs F vs (x :: l)) (k : ∀ v vs, RV F v x → RVs F vs l → P (v :: vs)) : P vs := by cases h with | cons h t => exact k _ _ h t
theorem RVs.e1 {F : Fz} {P : List Value → Prop} {vs : List Value} {x : V} (h : RVs F vs [x]) (k : ∀ a, RV F a x → P [a]) : P vs := h.ec fun a _ ha t => t.e0 (P := fun vs => P (a :: vs)) (k a ha)
theorem RVs.e2 {F : Fz} {P : List Value → Prop} {vs : List Value} {x y : V} (h : RVs F vs [x, y]) (k : ∀ a b, RV F a x → RV F b y → P [a, b]) : P vs := h.ec fun a _ ha t => t.e1 (P := fun vs => P (a :: vs)) fun b hb => k a b ha hb
theorem RVs.e3 {F : Fz} {P : List Value → Prop} {vs : List Value} {x y z : V} (h : RVs F vs [x, y, z]) (k : ∀ a b c, RV F a x → RV F b y → RV F c z → P [a, b, c]) : P vs := h.ec fun a _ ha t => t.e2 (P := fun vs => P (a :: vs)) fun b c hb hc => k a b c ha hb hc
theorem RVs.mono {F F' : Fz} (le : F.le F') {vs : List Value} {l : List V} (h : RVs F vs l) : RVs F' vs l := by
  induction h with
  | nil => exact .nil
  | cons h _ ih => exact .cons (h.mono le) ih
theorem RVs.length {F : Fz} {vs : List Value} {l : List V} (h : RVs F vs l) : vs.length = l.length := by
  induction h with
  | nil => rfl
  | cons _ _ ih => simp [ih]
theorem RVs.get {F : Fz} {vs : List Value} {l : List V} (h : RVs F vs l) : ∀ (i : Nat) (v : Value) (x : V), vs[i]? = some v → l[i]? = some x → RV F v x := by
  induction h with
  | nil => intro i v x e; simp at e
  | cons h _ ih =>
    intro i v x e1 e2
    cases i with
    | zero => simp at e1 e2; subst e1 e2; exact h
    | succ i => simp at e1 e2; exact ih i v x e1 e2
theorem RVs.of {F : Fz} : ∀ {vs : List Value} {l : List V}, vs.length = l.length → (∀ (i : Nat) (v : Value) (x : V), vs[i]? = some v → l[i]? = some x → RV F v x) → RVs F vs l
  | [], [], _, _ => .nil
  | [], _ :: _, h, _ => by simp at h
  | _ :: _, [], h, _ => by simp at h
  | v :: vs, x :: l, h, hr => .cons (hr 0 v x rfl rfl) (RVs.of (by simpa using h) fun i v x e1 e2 => hr (i + 1) v x (by simpa using e1) (by simpa using e2))
theorem RVs.append {F : Fz} {vs ws : List Value} {l m : List V} (h : RVs F vs l) (h' : RVs F ws m) : RVs F (vs ++ ws) (l ++ m) := by
  induction h with
  | nil => exact h'
  | cons h _ ih => exact .cons h ih
theorem RVs.at {F : Fz} {vs : List Value} {l : List V} (h : RVs F vs l) {i : Nat} {x : V} (e : l[i]? = some x) : ∃ v, vs[i]? = some v ∧ RV F v x := by
  have hi : i < l.length := by
    rcases Nat.lt_or_ge i l.length with h | h
    · exact h
    · rw [List.getElem?_eq_none h] at e; cases e
  have hi' : i < vs.length := by rw [h.length]; exact hi
  exact ⟨vs[i], List.getElem?_eq_getElem hi', h.get i _ x (List.getElem?_eq_getElem hi') e⟩

inductive AO where
  | list (l : List V)
  | ns (ρ : List (Str × Option V))
  | cell (o : Option V)
  | dict (es : List (V × V))
  | raw (o : Obj)
  | flds (cls : String) (vs : Array Value)
  | exc (cls : String) (args : List V) (tb : Option Addr) (dict : Option Addr) (cx : Bool)
  | tb
  | attrs (ρ : List (Str × V))
  | such (P : Obj → Prop)

noncomputable abbrev Hp := List (Addr × AO)
theorem mem_keys {H : Hp} {p : Addr × AO} {a : Addr} (h : p ∈ H) (e : p.1 = a) : a ∈ H.map (·.1) := e ▸ List.mem_map_of_mem (f := fun q : Addr × AO => q.1) h

noncomputable def keyHashV (w : World) (k : V) (v : Value) (h : Int) : Prop := (∃ x t, k = .str x ∧ v = .str x t ∧ h = hashStr w x) ∨ ∃ i t, k = .int i ∧ v = .int i t ∧ h = hashInt i
inductive RD (w : World) (F : Fz) : List DictEntry → List (V × V) → Prop where
  | nil : RD w F [] []
  | cons {e : DictEntry} {k x : V} {es : List DictEntry} {l : List (V × V)} (hk : keyHashV w k e.key e.hash) (hv : RV F e.val x) (t : RD w F es l) : RD w F (e :: es) ((k, x) :: l)

inductive ExcO (F : Fz) (o : Obj) (c : String) (args : List V) (tb d : Option Addr) (cx : Bool) : Prop where
  | mk (vs : Array Value) (a : Addr) (v5 : Value) (e1 : o.cls = .type c) (e2 : o.dict = d) (e3 : o.data = .fields vs) (e4 : vs[0]? = some (.ref a)) (e5 : RV F (.ref a) (.tup args)) (e6 : vs[1]? = some (tb.elim .none Value.ref)) (e7 : vs[5]? = some v5) (e8 : c = "StopIteration" → RV F v5 (args.headD .none)) (e9 : cx = true → vs[2]? = some .none)
inductive ListO (F : Fz) (o : Obj) (l : List V) : Prop where
  | intro (vs : Array Value) (n : Nat) (e : o = { cls := .type "list", dict := none, data := .seq vs n, slots := #[] }) (h : RVs F vs.toList l)
inductive NsO (F : Fz) (o : Obj) (ρ : List (Str × Option V)) : Prop where
  | intro (es : Array DictEntry) (ep : Nat) (e : o.data = .dict es ep) (k : StrKeys es) (nd : (ρ.map (·.1)).Nodup) (r : ∀ p ∈ ρ, match p.2 with
      | none => True
      | some x => ∃ v, nsFind es p.1 = some v ∧ RV F v x)
inductive DictO (w : World) (F : Fz) (o : Obj) (l : List (V × V)) : Prop where
  | intro (es : Array DictEntry) (n : Nat) (e : o = { cls := .type "dict", dict := none, data := .dict es n, slots := #[] }) (h : RD w F es.toList l)
inductive TbO (o : Obj) : Prop where
  | intro (vs : Array Value) (e1 : o.cls = .type "traceback") (e2 : o.data = .fields vs) (e3 : 3 < vs.size)
inductive AttrsO (F : Fz) (o : Obj) (ρ : List (Str × V)) : Prop where
  | intro (es : Array DictEntry) (ep : Nat) (e : o.data = .dict es ep) (k : StrKeys es) (u : UniqKeys es) (r : ∀ n, match ρ.lookup n with
      | none => nsFind es n = none
      | some x => ∃ v, nsFind es n = some v ∧ RV F v x)
noncomputable def RO (w : World) (F : Fz) (o : Obj) : AO → Prop
  | .list l => ListO F o l
  | .ns ρ => NsO F o ρ
  | .cell c => match c with
      | none => o.data = .cell none
      | some x => ∃ v, o.data = .cell (some v) ∧ RV F v x
  | .dict l => DictO w F o l
  | .raw o' => o = o'
  | .flds c vs => o.cls = .type c ∧ o.data = .fields vs
  | .exc c args tb d cx => ExcO F o c args tb d cx
  | .tb => TbO o
  | .attrs ρ => AttrsO F o ρ
  | .such P => P o

theorem RD.mono {w : World} {F F' : Fz} (le : F.le F') {es : List DictEntry} {l : List (V × V)} (h : RD w F es l) : RD w F' es l := by
  induction h with
  | nil => exact .nil
  | cons hk hv _ ih => exact .cons hk (hv.mono le) ih

theorem RO.mono {w : World} {F F' : Fz} (le : F.le F') {o : Obj} {x : AO} (h : RO w F o x) : RO w F' o x := by
  cases x with
  | list l => obtain ⟨vs, n, e, r⟩ := h; exact ⟨vs, n, e, r.mono le⟩
  | ns ρ =>
    obtain ⟨es, ep, e, k, nd, r⟩ := h
    refine ⟨es, ep, e, k, nd, fun p hp => ?_⟩
    have := r p hp
    cases hq : p.2 with
    | none => trivial
    | some x => simp only [hq] at this ⊢; obtain ⟨v, h1, h2⟩ := this; exact ⟨v, h1, h2.mono le⟩
  | cell c => cases c with
    | none => exact h
    | some x => obtain ⟨v, e, r⟩ := h; exact ⟨v, e, r.mono le⟩
  | dict l => obtain ⟨es, n, e, r⟩ := h; exact ⟨es, n, e, r.mono le⟩
  | raw o' => exact h
  | flds c vs => exact h
  | exc c args tb d cx => obtain ⟨vs, a, v5, e1, e2, e3, e4, e5, e6, e7, e8, e9⟩ := h; exact ⟨vs, a, v5, e1, e2, e3, e4, e5.mono le, e6, e7, fun q => (e8 q).mono le, e9⟩
  | tb => exact h
  | such P => exact h
  | attrs ρ =>
    obtain ⟨es, ep, e, k, u, r⟩ := h
    refine ⟨es, ep, e, k, u, fun n => ?_⟩
    have := r n
    cases hq : ρ.lookup n with
    | none => simp only [hq] at this ⊢; exact this
    | some x => simp only [hq] at this ⊢; obtain ⟨v, h1, h2⟩ := this; exact ⟨v, h1, h2.mono le⟩

structure Glob where
  prog : Program
  w : World
  F0 : Fz
  os : OsState
  mg : Str → Option Value
  mb : Str → Option Value
noncomputable def GOk (G : Glob) : Prop := ∀ h : Heap, (∀ a o, G.F0 a = some o → h.get? a = some o) → h.Ns mainGlobals G.mg ∧ h.Ns builtinsNs G.mb ∧ h.NoLimit

noncomputable abbrev Glob.M (G : Glob) : Model := model G.prog G.w

structure Rep (G : Glob) (fr : List Env) (F : Fz) (H : Hp) (s : Shared) : Prop where
  gok : GOk G
  base : G.F0.le F
  fz : ∀ a o, F a = some o → s.heap.get? a = some o
  own : ∀ p ∈ H, F p.1 = none ∧ ∃ o, s.heap.get? p.1 = some o ∧ RO G.w F o p.2
  nd : (H.map (·.1)).Nodup
  frs : ∀ env ∈ fr, env.scope.kind = .function ∧ ∃ L ρ, env.frame = some L ∧ (L, AO.ns ρ) ∈ H
  gens : s.gens = #[]
  os : s.os = G.os

section
variable {G : Glob} {fr : List Env} {F F' : Fz} {H H' : Hp} {s : Shared}
theorem Rep.glob (h : Rep G fr F H s) : s.heap.Ns mainGlobals G.mg ∧ s.heap.Ns builtinsNs G.mb ∧ s.heap.NoLimit := h.gok s.heap fun a o e => h.fz a o (h.base a o e)
theorem Rep.perm (h : Rep G fr F H s) (p : H.Perm H') : Rep G fr F H' s :=
  ⟨h.gok, h.base, h.fz, fun q hq => h.own q (p.mem_iff.mpr hq), (p.map _).nodup_iff.mp h.nd, fun e he => ⟨(h.frs e he).1, by obtain ⟨L, ρ, a, b⟩ := (h.frs e he).2; exact ⟨L, ρ, a, p.mem_iff.mp b⟩⟩, h.gens, h.os⟩
theorem Rep.drop {p : Addr × AO} (h : Rep G fr F (p :: H) s) (hp : ∀ env ∈ fr, env.frame ≠ some p.1) : Rep G fr F H s :=
  ⟨h.gok, h.base, h.fz, fun q hq => h.own q (.tail _ hq), (List.nodup_cons.mp h.nd).2, fun e he => ⟨(h.frs e he).1, by
    obtain ⟨L, ρ, a, b⟩ := (h.frs e he).2
    cases b with
    | head => exact absurd a (hp e he)
    | tail _ b => exact ⟨L, ρ, a, b⟩⟩, h.gens, h.os⟩
theorem Rep.dropNot {a : Addr} {x : AO} (h : Rep G fr F ((a, x) :: H) s) (hx : ∀ ρ, x ≠ .ns ρ) : Rep G fr F H s :=
  h.drop fun env he e => by
    obtain ⟨L, ρ, q, m⟩ := (h.frs env he).2
    obtain rfl : L = a := Option.some.inj (q.symm.trans e)
    cases m with
    | head => exact hx _ rfl
    | tail _ m => exact (List.nodup_cons.mp h.nd).1 (mem_keys m rfl)
theorem Rep.pop {env : Env} (h : Rep G (env :: fr) F H s) : Rep G fr F H s :=
  ⟨h.gok, h.base, h.fz, h.own, h.nd, fun e he => h.frs e (.tail _ he), h.gens, h.os⟩
theorem Rep.keeps (h : Rep G fr F H s) {h' : Heap} {tk : Nat} {dr : Drawn} (k : ∀ b o, s.heap.get? b = some o → h'.get? b = some o) : Rep G fr F H { s with heap := h', toks := tk, drawn := dr } :=
  ⟨h.gok, h.base, fun a o e => k _ _ (h.fz a o e), fun p hp => by obtain ⟨n, o, g, r⟩ := h.own p hp; exact ⟨n, o, k _ _ g, r⟩, h.nd, h.frs, h.gens, h.os⟩
theorem Rep.toks (h : Rep G fr F H s) (tk : Nat) : Rep G fr F H { s with toks := tk } := h.keeps fun _ _ e => e
theorem Rep.fresh (h : Rep G fr F H s) {b : Addr} (e : s.heap.get? b = none) : F b = none ∧ b ∉ H.map (·.1) := by
  refine ⟨?_, fun q => ?_⟩
  · cases q : F b with
    | none => rfl
    | some o => have := h.fz _ _ q; rw [e] at this; cases this
  · obtain ⟨p, hp, rfl⟩ := List.mem_map.mp q
    obtain ⟨_, o, g, _⟩ := h.own p hp
    rw [e] at g; cases g
theorem none_at_size (h : Heap) : h.get? h.objs.size = none := by
  cases q : h.get? h.objs.size with
  | none => rfl
  | some o => exact absurd (Heap.lt_size q) (Nat.lt_irrefl _)
theorem Rep.new (h : Rep G fr F H s) {h' : Heap} {tk : Nat} {dr : Drawn} {D : Addr} {o : Obj} {x : AO} (k : ∀ b o, s.heap.get? b = some o → h'.get? b = some o) (hD : s.heap.get? D = none) (ho : h'.get? D = some o) (r : RO G.w F o x) :
    Rep G fr F ((D, x) :: H) { s with heap := h', toks := tk, drawn := dr } := by
  obtain ⟨f1, f2⟩ := h.fresh hD
  have h1 := h.keeps (tk := tk) (dr := dr) k
  refine ⟨h1.gok, h1.base, h1.fz, fun p hp => ?_, List.nodup_cons.mpr ⟨f2, h1.nd⟩, fun e he => ⟨(h1.frs e he).1, by obtain ⟨L, ρ, a, b⟩ := (h1.frs e he).2; exact ⟨L, ρ, a, .tail _ b⟩⟩, h1.gens, h1.os⟩
  cases hp with
  | head => exact ⟨f1, o, ho, r⟩
  | tail _ hp => exact h1.own p hp
noncomputable def Fz.add (F : Fz) (D : Addr) (o : Obj) : Fz := fun a => if a = D then some o else F a
theorem Fz.add_self (F : Fz) (D : Addr) (o : Obj) : F.add D o D = some o := if_pos rfl
theorem Fz.add_le {F : Fz} {D : Addr} (o : Obj) (h : F D = none) : F.le (F.add D o) := fun a x e => by
  unfold Fz.add
  split
  · rename_i q; subst q; rw [h] at e; cases e
  · exact e
theorem Rep.newF (h : Rep G fr F H s) {h' : Heap} {tk : Nat} {dr : Drawn} {D : Addr} {o : Obj} (k : ∀ b o, s.heap.get? b = some o → h'.get? b = some o) (hD : s.heap.get? D = none) (ho : h'.get? D = some o) :
    F.le (F.add D o) ∧ Rep G fr (F.add D o) H { s with heap := h', toks := tk, drawn := dr } := by
  obtain ⟨f1, f2⟩ := h.fresh hD
  have le := Fz.add_le o f1
  have h1 := h.keeps (tk := tk) (dr := dr) k
  refine ⟨le, h1.gok, h1.base.trans le, fun a x e => ?_, fun p hp => ?_, h1.nd, h1.frs, h1.gens, h1.os⟩
  · unfold Fz.add at e
    split at e
    · rename_i q; subst q; cases e; exact ho
    · exact h1.fz a x e
  · obtain ⟨n, o', g, r⟩ := h1.own p hp
    refine ⟨?_, o', g, r.mono le⟩
    unfold Fz.add
    rw [if_neg fun q => f2 (mem_keys hp q)]
    exact n
theorem Rep.freeze {a : Addr} {x : AO} (h : Rep G fr F ((a, x) :: H) s) (hx : ∀ ρ, x ≠ .ns ρ) : ∃ o, RO G.w F o x ∧ F.le (F.add a o) ∧ Rep G fr (F.add a o) H s := by
  obtain ⟨n, o, g, r⟩ := h.own _ (.head _)
  have le := Fz.add_le o n
  have h1 := h.dropNot hx
  refine ⟨o, r, le, h1.gok, h1.base.trans le, fun b x e => ?_, fun p hp => ?_, h1.nd, h1.frs, h1.gens, h1.os⟩
  · unfold Fz.add at e
    split at e
    · rename_i q; subst q; cases e; exact g
    · exact h1.fz b x e
  · obtain ⟨n', o', g', r'⟩ := h1.own p hp
    refine ⟨?_, o', g', r'.mono le⟩
    unfold Fz.add
    rw [if_neg fun q => (List.nodup_cons.mp h.nd).1 (mem_keys hp q)]
    exact n'
theorem Rep.upd {a : Addr} {x x' : AO} (h : Rep G fr F ((a, x) :: H) s) {h' : Heap} {tk : Nat} {dr : Drawn} {o' : Obj} (k : Heap.ExtBut a s.heap h') (ho : h'.get? a = some o') (r : RO G.w F o' x') (hn : (∃ ρ, x = .ns ρ) → ∃ ρ, x' = .ns ρ) :
    Rep G fr F ((a, x') :: H) { s with heap := h', toks := tk, drawn := dr } := by
  have na : ∀ p ∈ H, p.1 ≠ a := fun p hp q => (List.nodup_cons.mp h.nd).1 (mem_keys hp q)
  have fa : F a = none := (h.own _ (.head _)).1
  refine ⟨h.gok, h.base, fun b o e => k b o (fun q => by subst q; rw [fa] at e; cases e) (h.fz b o e), fun p hp => ?_, h.nd, fun e he => ⟨(h.frs e he).1, ?_⟩, h.gens, h.os⟩
  · cases hp with
    | head => exact ⟨fa, o', ho, r⟩
    | tail _ hp => obtain ⟨n, o, g, r⟩ := h.own p (.tail _ hp); exact ⟨n, o, k _ _ (na p hp) g, r⟩
  · obtain ⟨L, ρ, q, m⟩ := (h.frs e he).2
    cases m with
    | head => obtain ⟨ρ', rfl⟩ := hn ⟨_, rfl⟩; exact ⟨_, _, q, .head _⟩
    | tail _ m => exact ⟨L, ρ, q, .tail _ m⟩
end

inductive Dn (P : Fz → Hp → Prop) (F : Fz) (H : Hp) : Prop where
  | mk (F1 : Fz) (le : Fz.le F1 F) (h : P F1 H)
inductive PQ {α : Type} (G : Glob) (fr : List Env) (F : Fz) (R : Hp) (Q : α → Fz → Hp → Prop) (v : α) (s : Shared) : Prop where
  | mk (F' : Fz) (H' : Hp) (le : F.le F') (rep : Rep G fr F' (H' ++ R) s) (q : Q v F' H')
noncomputable def TpAt {α : Type} (G : Glob) (fr : List Env) (A : Around) (K : Fz) (H : Hp) (t : Sem α) (Q : α → Fz → Hp → Prop) (E : Value → Fz → Hp → Prop) : Prop :=
  ∀ R s, Rep G fr K (H ++ R) s → wpAny G.M A t (PQ G fr K R Q) (PQ G fr K R fun e => Dn (E e)) s
noncomputable def Tp {α : Type} (G : Glob) (fr : List Env) (A : Around) (F : Fz) (H : Hp) (t : Sem α) (Q : α → Fz → Hp → Prop) (E : Value → Fz → Hp → Prop) : Prop :=
  ∀ K, F.le K → TpAt G fr A K H t (fun v => Dn (Q v)) E
section
variable {α β : Type} {G : Glob} {fr : List Env} {A : Around} {F K K₀ : Fz} {H R : Hp} {t : Sem α} {Q : α → Fz → Hp → Prop} {E : Value → Fz → Hp → Prop} {s : Shared}
theorem noPQ {F : Fz} {v : α} (h : PQ G fr F R (fun (_ : α) => Dn fun (_ : Fz) (_ : Hp) => False) v s) : False := by obtain ⟨_, _, _, _, _, _, q⟩ := h; exact q
theorem upPQ {v : α} (le : K₀.le K) (h : PQ G fr K R Q v s) : PQ G fr K₀ R Q v s := by obtain ⟨F1, H1, l, r, q⟩ := h; exact ⟨F1, H1, le.trans l, r, q⟩
theorem TpAt.seq (h : TpAt G fr A K H t Q E) (hR : Rep G fr K (H ++ R) s) (le : K₀.le K) {P : α → Shared → Prop}
    (k : ∀ a K1 H1 s1, K.le K1 → Rep G fr K1 (H1 ++ R) s1 → Q a K1 H1 → P a s1) : wpAny G.M A t P (PQ G fr K₀ R fun e => Dn (E e)) s :=
  wpAny_mono (h R s hR) (fun a s1 ⟨F1, H1, l, r, q⟩ => k a F1 H1 s1 l r q) fun _ _ q => upPQ le q
theorem TpAt.last (h : TpAt G fr A K H t Q E) (hR : Rep G fr K (H ++ R) s) (le : K₀.le K) : wpAny G.M A t (PQ G fr K₀ R Q) (PQ G fr K₀ R fun e => Dn (E e)) s :=
  h.seq hR le fun _ F1 H1 _ l r q => ⟨F1, H1, le.trans l, r, q⟩
theorem Tp.seq (h : Tp G fr A F H t Q E) (m : F.le K) (hR : Rep G fr K (H ++ R) s) (le : K₀.le K) {P : α → Shared → Prop}
    (k : ∀ a F1 K1 H1 s1, K.le K1 → Fz.le F1 K1 → Rep G fr K1 (H1 ++ R) s1 → Q a F1 H1 → P a s1) : wpAny G.M A t P (PQ G fr K₀ R fun e => Dn (E e)) s :=
  (h K m).seq hR le fun a K1 H1 s1 l r ⟨F1, m1, q⟩ => k a F1 K1 H1 s1 l m1 r q
theorem Tp.last (h : Tp G fr A F H t Q E) (m : F.le K) (hR : Rep G fr K (H ++ R) s) (le : K₀.le K) : wpAny G.M A t (PQ G fr K₀ R fun v => Dn (Q v)) (PQ G fr K₀ R fun e => Dn (E e)) s := (h K m).last hR le
theorem Tp.mono {Q' : α → Fz → Hp → Prop} {E' : Value → Fz → Hp → Prop} (h : Tp G fr A F H t Q E) (hq : ∀ a F1 H1, Q a F1 H1 → Q' a F1 H1) (he : ∀ e F1 H1, E e F1 H1 → E' e F1 H1) : Tp G fr A F H t Q' E' :=
  fun K m R s hR => wpAny_mono (h K m R s hR) (fun _ _ ⟨F1, H1, l, r, F2, m2, q⟩ => ⟨F1, H1, l, r, F2, m2, hq _ _ _ q⟩) fun _ _ ⟨F1, H1, l, r, F2, m2, q⟩ => ⟨F1, H1, l, r, F2, m2, he _ _ _ q⟩
end
inductive Upd : Hp → Addr → AO → AO → Hp → Prop where
  | hd {a : Addr} {x x' : AO} {H : Hp} : Upd ((a, x) :: H) a x x' ((a, x') :: H)
  | tl {a : Addr} {x x' : AO} {p : Addr × AO} {H H' : Hp} (h : Upd H a x x' H') : Upd (p :: H) a x x' (p :: H')
theorem Upd.split {a : Addr} {x x' : AO} {H H' : Hp} (h : Upd H a x x' H') : ∃ H₀, H.Perm ((a, x) :: H₀) ∧ H'.Perm ((a, x') :: H₀) := by
  induction h with
  | hd => exact ⟨_, .refl _, .refl _⟩
  | @tl _ _ _ p H H' _ ih =>
    obtain ⟨H₀, h1, h2⟩ := ih
    exact ⟨p :: H₀, (h1.cons p).trans (.swap ..), (h2.cons p).trans (.swap ..)⟩
theorem Rep.upd' {G : Glob} {fr : List Env} {F : Fz} {H H' R : Hp} {s : Shared} {a : Addr} {x x' : AO} (h : Rep G fr F (H ++ R) s) (u : Upd H a x x' H') {h' : Heap} {tk : Nat} {dr : Drawn} {o' : Obj} (k : Heap.ExtBut a s.heap h') (ho : h'.get? a = some o') (r : RO G.w F o' x')
    (hn : (∃ ρ, x = .ns ρ) → ∃ ρ, x' = .ns ρ) : Rep G fr F (H' ++ R) { s with heap := h', toks := tk, drawn := dr } := by
  obtain ⟨H₀, p1, p2⟩ := u.split
  exact ((h.perm (p1.append_right R)).upd k ho r hn).perm (p2.append_right R).symm
theorem Upd.mem {a : Addr} {x x' : AO} {H H' : Hp} (h : Upd H a x x' H') : (a, x) ∈ H := by
  obtain ⟨_, p1, _⟩ := h.split
  exact p1.mem_iff.mpr (.head _)
theorem Rep.get {G : Glob} {fr : List Env} {F : Fz} {H R : Hp} {s : Shared} (h : Rep G fr F (H ++ R) s) {a : Addr} {x : AO} (m : (a, x) ∈ H) : ∃ o, s.heap.get? a = some o ∧ RO G.w F o x :=
  (h.own _ (List.mem_append_left R m)).2
inductive Has : Hp → Addr → AO → Prop where
  | hd {a : Addr} {x : AO} {H : Hp} : Has ((a, x) :: H) a x
  | tl {a : Addr} {x : AO} {p : Addr × AO} {H : Hp} (h : Has H a x) : Has (p :: H) a x
theorem Has.mem {H : Hp} {a : Addr} {x : AO} (h : Has H a x) : (a, x) ∈ H := by
  induction h with
  | hd => exact .head _
  | tl _ ih => exact .tail _ ih
theorem Rep.has {G : Glob} {fr : List Env} {F : Fz} {H R : Hp} {s : Shared} (h : Rep G fr F (H ++ R) s) {a : Addr} {x : AO} (m : Has H a x) : ∃ o, s.heap.get? a = some o ∧ RO G.w F o x := h.get m.mem
inductive Lk : List (Str × Option V) → Str → V → Prop where
  | hd {x : Str} {y : V} {ρ : List (Str × Option V)} : Lk ((x, some y) :: ρ) x y
  | tl {x : Str} {y : V} {p : Str × Option V} {ρ : List (Str × Option V)} (h : Lk ρ x y) : Lk (p :: ρ) x y
theorem Lk.mem {ρ : List (Str × Option V)} {x : Str} {y : V} (h : Lk ρ x y) : (x, some y) ∈ ρ := by
  induction h with
  | hd => exact .head _
  | tl _ ih => exact .tail _ ih
inductive Rem : Hp → Addr → AO → Hp → Prop where
  | hd {a : Addr} {x : AO} {H : Hp} : Rem ((a, x) :: H) a x H
  | tl {a : Addr} {x : AO} {p : Addr × AO} {H H' : Hp} (h : Rem H a x H') : Rem (p :: H) a x (p :: H')
theorem Rem.perm {a : Addr} {x : AO} {H H' : Hp} (h : Rem H a x H') : H.Perm ((a, x) :: H') := by
  induction h with
  | hd => exact .refl _
  | tl _ ih => exact (ih.cons _).trans (.swap ..)

inductive SetL : List (Str × Option V) → Str → Option V → List (Str × Option V) → Prop where
  | hd {x : Str} {o o' : Option V} {ρ : List (Str × Option V)} : SetL ((x, o) :: ρ) x o' ((x, o') :: ρ)
  | tl {x : Str} {o' : Option V} {p : Str × Option V} {ρ ρ' : List (Str × Option V)} (h : SetL ρ x o' ρ') : SetL (p :: ρ) x o' (p :: ρ')
theorem SetL.names {x : Str} {o' : Option V} {ρ ρ' : List (Str × Option V)} (h : SetL ρ x o' ρ') : ρ'.map (·.1) = ρ.map (·.1) ∧ x ∈ ρ.map (·.1) := by
  induction h with
  | hd => exact ⟨rfl, .head _⟩
  | tl _ ih => exact ⟨by rw [List.map_cons, List.map_cons, ih.1], .tail _ ih.2⟩
theorem SetL.spec {x : Str} {o' : Option V} {ρ ρ' : List (Str × Option V)} (h : SetL ρ x o' ρ') (nd : (ρ.map (·.1)).Nodup) : ∀ p ∈ ρ', (p.1 = x ∧ p.2 = o') ∨ (p.1 ≠ x ∧ p ∈ ρ) := by
  induction h with
  | @hd x o o' ρ =>
    intro p hp
    rw [List.map_cons, List.nodup_cons] at nd
    rcases List.mem_cons.mp hp with rfl | hp
    · exact .inl ⟨rfl, rfl⟩
    · exact .inr ⟨fun e => nd.1 (by have := List.mem_map_of_mem (f := fun q : Str × Option V => q.1) hp; rw [e] at this; exact this), .tail _ hp⟩
  | tl h ih =>
    intro p hp
    rw [List.map_cons, List.nodup_cons] at nd
    rcases List.mem_cons.mp hp with rfl | hp
    · exact .inr ⟨fun e => nd.1 (by rw [e]; exact h.names.2), .head _⟩
    · exact (ih nd.2 p hp).elim .inl fun h => .inr ⟨h.1, .tail _ h.2⟩

inductive FV where
  | next | brk | cont
  | ret (x : V)
inductive RF (F : Fz) : Flow → FV → Prop where
  | next : RF F .next .next
  | brk : RF F .brk .brk
  | cont : RF F .cont .cont
  | ret {v : Value} {x : V} (h : RV F v x) : RF F (.ret v) (.ret x)

inductive VQ (Q : V → Fz → Hp → Prop) (v : Value) (K : Fz) (H : Hp) : Prop where
  | mk (x : V) (hx : RV K v x) (q : Dn (Q x) K H)
inductive VsQ (Q : List V → Fz → Hp → Prop) (v : List Value) (K : Fz) (H : Hp) : Prop where
  | mk (x : List V) (hx : RVs K v x) (q : Dn (Q x) K H)
inductive FQ (Q : FV → Fz → Hp → Prop) (v : Flow) (K : Fz) (H : Hp) : Prop where
  | mk (x : FV) (hx : RF K v x) (q : Dn (Q x) K H)
noncomputable def EvAt (G : Glob) (fr : List Env) (A : Around) (K : Fz) (H : Hp) (t : Sem Value) (Q : V → Fz → Hp → Prop) (E : Value → Fz → Hp → Prop) : Prop := TpAt G fr A K H t (VQ Q) E
noncomputable def Ev (G : Glob) (fr : List Env) (A : Around) (F : Fz) (H : Hp) (t : Sem Value) (Q : V → Fz → Hp → Prop) (E : Value → Fz → Hp → Prop) : Prop := ∀ K, F.le K → EvAt G fr A K H t Q E
noncomputable def Evs (G : Glob) (fr : List Env) (A : Around) (F : Fz) (H : Hp) (t : Sem (List Value)) (Q : List V → Fz → Hp → Prop) (E : Value → Fz → Hp → Prop) : Prop := ∀ K, F.le K → TpAt G fr A K H t (VsQ Q) E
noncomputable def Ex (G : Glob) (fr : List Env) (A : Around) (F : Fz) (H : Hp) (t : Sem Flow) (Q : FV → Fz → Hp → Prop) (E : Value → Fz → Hp → Prop) : Prop := ∀ K, F.le K → TpAt G fr A K H t (FQ Q) E
noncomputable def Op1 (G : Glob) (fr : List Env) (A : Around) (F : Fz) (H : Hp) (f : Value → Sem Value) (x : V) (Q : V → Fz → Hp → Prop) (E : Value → Fz → Hp → Prop) : Prop := ∀ K, F.le K → ∀ a, RV K a x → EvAt G fr A K H (f a) Q E
noncomputable def Op2 (G : Glob) (fr : List Env) (A : Around) (F : Fz) (H : Hp) (f : Value → Value → Sem Value) (x y : V) (Q : V → Fz → Hp → Prop) (E : Value → Fz → Hp → Prop) : Prop := ∀ K, F.le K → ∀ a b, RV K a x → RV K b y → EvAt G fr A K H (f a b) Q E
noncomputable def Tr (G : Glob) (fr : List Env) (A : Around) (F : Fz) (H : Hp) (x : V) (Q : Bool → Fz → Hp → Prop) (E : Value → Fz → Hp → Prop) : Prop := ∀ K, F.le K → ∀ a, RV K a x → TpAt G fr A K H (truthy a) (fun b => Dn (Q b)) E
section
variable {G : Glob} {fr : List Env} {A : Around} {F K K₀ : Fz} {H R : Hp} {s : Shared} {E : Value → Fz → Hp → Prop}
theorem EvAt.go {t : Sem Value} {Q : V → Fz → Hp → Prop} (h : EvAt G fr A K H t Q E) (hR : Rep G fr K (H ++ R) s) (le : K₀.le K) {P : Value → Shared → Prop} (k : ∀ v x F1 K1 H1 s1, K.le K1 → Fz.le F1 K1 → Rep G fr K1 (H1 ++ R) s1 → RV K1 v x → Q x F1 H1 → P v s1) : wpAny G.M A t P (PQ G fr K₀ R fun e => Dn (E e)) s :=
  TpAt.seq h hR le fun v K1 H1 s1 l1 r1 ⟨x, hx, F1, m1, q⟩ => k v x F1 K1 H1 s1 l1 m1 r1 hx q
theorem Ev.go {t : Sem Value} {Q : V → Fz → Hp → Prop} (h : Ev G fr A F H t Q E) (m : F.le K) (hR : Rep G fr K (H ++ R) s) (le : K₀.le K) {P : Value → Shared → Prop} (k : ∀ v x F1 K1 H1 s1, K.le K1 → Fz.le F1 K1 → Rep G fr K1 (H1 ++ R) s1 → RV K1 v x → Q x F1 H1 → P v s1) : wpAny G.M A t P (PQ G fr K₀ R fun e => Dn (E e)) s := (h K m).go hR le k
theorem Evs.go {t : Sem (List Value)} {Q : List V → Fz → Hp → Prop} (h : Evs G fr A F H t Q E) (m : F.le K) (hR : Rep G fr K (H ++ R) s) (le : K₀.le K) {P : List Value → Shared → Prop} (k : ∀ v x F1 K1 H1 s1, K.le K1 → Fz.le F1 K1 → Rep G fr K1 (H1 ++ R) s1 → RVs K1 v x → Q x F1 H1 → P v s1) : wpAny G.M A t P (PQ G fr K₀ R fun e => Dn (E e)) s :=
  TpAt.seq (h K m) hR le fun v K1 H1 s1 l1 r1 ⟨x, hx, F1, m1, q⟩ => k v x F1 K1 H1 s1 l1 m1 r1 hx q
theorem Ex.go {t : Sem Flow} {Q : FV → Fz → Hp → Prop} (h : Ex G fr A F H t Q E) (m : F.le K) (hR : Rep G fr K (H ++ R) s) (le : K₀.le K) {P : Flow → Shared → Prop} (k : ∀ v x F1 K1 H1 s1, K.le K1 → Fz.le F1 K1 → Rep G fr K1 (H1 ++ R) s1 → RF K1 v x → Q x F1 H1 → P v s1) : wpAny G.M A t P (PQ G fr K₀ R fun e => Dn (E e)) s :=
  TpAt.seq (h K m) hR le fun v K1 H1 s1 l1 r1 ⟨x, hx, F1, m1, q⟩ => k v x F1 K1 H1 s1 l1 m1 r1 hx q
theorem EvAt.last {t : Sem Value} {Q : V → Fz → Hp → Prop} (h : EvAt G fr A K H t Q E) (hR : Rep G fr K (H ++ R) s) (le : K₀.le K) : wpAny G.M A t (PQ G fr K₀ R (VQ Q)) (PQ G fr K₀ R fun e => Dn (E e)) s := TpAt.last h hR le
theorem Ev.last {t : Sem Value} {Q : V → Fz → Hp → Prop} (h : Ev G fr A F H t Q E) (m : F.le K) (hR : Rep G fr K (H ++ R) s) (le : K₀.le K) : wpAny G.M A t (PQ G fr K₀ R (VQ Q)) (PQ G fr K₀ R fun e => Dn (E e)) s := TpAt.last (h K m) hR le
theorem Ex.last {t : Sem Flow} {Q : FV → Fz → Hp → Prop} (h : Ex G fr A F H t Q E) (m : F.le K) (hR : Rep G fr K (H ++ R) s) (le : K₀.le K) : wpAny G.M A t (PQ G fr K₀ R (FQ Q)) (PQ G fr K₀ R fun e => Dn (E e)) s := TpAt.last (h K m) hR le
theorem vret {Q : V → Fz → Hp → Prop} {v : Value} {x : V} (hR : Rep G fr K (H ++ R) s) (hx : RV K v x) (m : F.le K) (q : Q x F H) : PQ G fr K R (VQ Q) v s := ⟨K, H, .refl K, hR, x, hx, F, m, q⟩
theorem tret {α : Type} {Q : α → Fz → Hp → Prop} {v : α} (hR : Rep G fr K (H ++ R) s) (m : F.le K) (q : Q v F H) : PQ G fr K R (fun v => Dn (Q v)) v s := ⟨K, H, .refl K, hR, F, m, q⟩
theorem fret {Q : FV → Fz → Hp → Prop} {v : Flow} {x : FV} (hR : Rep G fr K (H ++ R) s) (hx : RF K v x) (m : F.le K) (q : Q x F H) : PQ G fr K R (FQ Q) v s := ⟨K, H, .refl K, hR, x, hx, F, m, q⟩
end
noncomputable def Then (G : Glob) (fr : List Env) (A : Around) (env : Env) (rest : List Stmt) (Q : FV → Fz → Hp → Prop) (E : Value → Fz → Hp → Prop) : FV → Fz → Hp → Prop
  | .next, F, H => Ex G fr A F H (execs rest env) Q E
  | fv, F, H => Q fv F H
section
variable {G : Glob} {fr : List Env} {A : Around} {env : Env} {F : Fz} {H : Hp} {E : Value → Fz → Hp → Prop}
theorem Then.next {rest : List Stmt} {Q : FV → Fz → Hp → Prop} (h : Ex G fr A F H (execs rest env) Q E) : Then G fr A env rest Q E .next F H := h
theorem Then.brk {rest : List Stmt} {Q : FV → Fz → Hp → Prop} (h : Q .brk F H) : Then G fr A env rest Q E .brk F H := h
theorem Then.cont {rest : List Stmt} {Q : FV → Fz → Hp → Prop} (h : Q .cont F H) : Then G fr A env rest Q E .cont F H := h
theorem Then.ret {x : V} {rest : List Stmt} {Q : FV → Fz → Hp → Prop} (h : Q (.ret x) F H) : Then G fr A env rest Q E (.ret x) F H := h
theorem Ex_nil {Q : FV → Fz → Hp → Prop} (h : Q .next F H) : Ex G fr A F H (execs [] env) Q E := fun K m R s hR => wpAny_execs_nil (fret hR .next m h)
theorem Ex_cons {st : Stmt} {rest : List Stmt} {Q : FV → Fz → Hp → Prop} (h : Ex G fr A F H (exec st env) (Then G fr A env rest Q E) E) : Ex G fr A F H (execs (st :: rest) env) Q E := fun K m R s hR => by
  refine wpAny_execs_cons (h.go m hR (.refl K) fun f fv F1 K1 H1 s1 l1 m1 r1 hf q => ?_)
  cases hf with
  | next => exact (show Ex _ _ _ _ _ _ _ _ from q).last m1 r1 l1
  | brk => exact upPQ l1 (fret r1 .brk m1 q)
  | cont => exact upPQ l1 (fret r1 .cont m1 q)
  | ret hx => exact upPQ l1 (fret r1 (.ret hx) m1 q)
variable {Q : V → Fz → Hp → Prop}
theorem Ev_int {i : Int} {k pos} (h : Q (.int i) F H) : Ev G fr A F H (eval (.Constant (.int i) k pos) env) Q E := fun K m R s hR => wpAny_Constant_int (vret (hR.toks _) .int m h)
theorem Ev_str {x : Str} {k pos} (h : Q (.str x) F H) : Ev G fr A F H (eval (.Constant (.str x) k pos) env) Q E := fun K m R s hR => wpAny_Constant_str (vret (hR.toks _) .str m h)
theorem Ev_bool {b : Bool} {k pos} (h : Q (.bool b) F H) : Ev G fr A F H (eval (.Constant (.bool b) k pos) env) Q E := fun K m R s hR => wpAny_Constant_bool (vret hR .bool m h)
theorem Ev_none {k pos} (h : Q .none F H) : Ev G fr A F H (eval (.Constant .none k pos) env) Q E := fun K m R s hR => wpAny_Constant_none (vret hR .none m h)
theorem nsOf {ρ : List (Str × Option V)} {o : Obj} {w : World} {h : Heap} {L : Addr} (ho : h.get? L = some o) (r : RO w F o (.ns ρ)) : ∃ m, h.Ns L m ∧ (ρ.map (·.1)).Nodup ∧ ∀ p ∈ ρ, match p.2 with
    | none => True
    | some x => ∃ v, m p.1 = some v ∧ RV F v x := by
  obtain ⟨es, ep, hd, hk, nd, hp⟩ := r
  exact ⟨fun n => nsFind es n, ⟨o, es, ep, ho, hd, hk, fun _ => rfl⟩, nd, hp⟩
theorem Ev_local {ρ : List (Str × Option V)} {x : Str} {pos} {y : V} (hm : Has H env.locals (.ns ρ)) (hx : Lk ρ x y) (h : Q y F H) (hk : autoParam (env.scope.kind = .function) tac0) (hl : autoParam (env.kindOf x = some .local) tac0)
    (hd : autoParam ((x == ("__debug__" : Str)) = false) tac14) : Ev G fr A F H (eval (.Name x pos) env) Q E := fun K m R s hR => by
  obtain ⟨o, ho, r⟩ := hR.has hm
  obtain ⟨ms, hn, nd, hp⟩ := nsOf ho r
  obtain ⟨v, hv, hr⟩ := hp _ hx.mem
  exact wpAny_Name (wpAny_loadName_local hk hl hn hv (vret hR hr m h)) hd
theorem Ev_BinOp {l op r pos} (h : Ev G fr A F H (eval l env) (fun x F1 H1 => Ev G fr A F1 H1 (eval r env) (fun y F2 H2 => Op2 G fr A F2 H2 (binaryOp op) x y Q E) E) E) :
    Ev G fr A F H (eval (.BinOp l op r pos) env) Q E := fun K m R s hR =>
  wpAny_BinOp (h.go m hR (.refl K) fun a x F1 K1 H1 s1 l1 m1 r1 hx h1 => h1.go m1 r1 l1 fun b y F2 K2 H2 s2 l2 m2 r2 hy h2 => (h2 K2 m2 a b (hx.mono l2) hy).last r2 (l1.trans l2))
theorem Ev_UnaryOp {op x pos} (h : Ev G fr A F H (eval x env) (fun x F1 H1 => Op1 G fr A F1 H1 (unaryOp op) x Q E) E) :
    Ev G fr A F H (eval (.UnaryOp op x pos) env) Q E := fun K m R s hR =>
  wpAny_UnaryOp (h.go m hR (.refl K) fun a x F1 K1 H1 s1 l1 m1 r1 hx h1 => (h1 K1 m1 a hx).last r1 l1)
theorem Ev_Compare1 {l op r pos} (h : Ev G fr A F H (eval l env) (fun x F1 H1 => Ev G fr A F1 H1 (eval r env) (fun y F2 H2 => Op2 G fr A F2 H2 (compareOp op) x y Q E) E) E)
    (hm : autoParam (behindInMarks op r = false) tac15) : Ev G fr A F H (eval (.Compare l [op] [r] pos) env) Q E := fun K m R s hR =>
  wpAny_Compare1 (h.go m hR (.refl K) fun a x F1 K1 H1 s1 l1 m1 r1 hx h1 => h1.go m1 r1 l1 fun b y F2 K2 H2 s2 l2 m2 r2 hy h2 => (h2 K2 m2 a b (hx.mono l2) hy).last r2 (l1.trans l2)) hm
theorem Ev_IfExp {test body orelse pos} (h : Tp G fr A F H (isTrue test env (eval test env)) (fun b F1 H1 => if b then Ev G fr A F1 H1 (eval body env) Q E else Ev G fr A F1 H1 (eval orelse env) Q E) E) :
    Ev G fr A F H (eval (.IfExp test body orelse pos) env) Q E := fun K m R s hR => by
  refine wpAny_IfExp (h.seq m hR (.refl K) fun b F1 K1 H1 s1 l1 m1 r1 h1 => ?_)
  cases b with
  | true => exact (show Ev _ _ _ _ _ _ _ _ from h1).last m1 r1 l1
  | false => exact (show Ev _ _ _ _ _ _ _ _ from h1).last m1 r1 l1
end
theorem Ev.mono {G : Glob} {fr : List Env} {A : Around} {F : Fz} {H : Hp} {E E' : Value → Fz → Hp → Prop} {P Q : V → Fz → Hp → Prop} {t : Sem Value} (h : Ev G fr A F H t P E) (k : ∀ x F1 H1, P x F1 H1 → Q x F1 H1) (e : ∀ x F1 H1, E x F1 H1 → E' x F1 H1) : Ev G fr A F H t Q E' := fun K m R s hR =>
  wpAny_mono (h K m R s hR) (fun _ _ q => by obtain ⟨F1, H1, l, r, x, hx, F2, m2, q⟩ := q; exact ⟨F1, H1, l, r, x, hx, F2, m2, k _ _ _ q⟩) fun _ _ q => by obtain ⟨F1, H1, l, r, F2, m2, q⟩ := q; exact ⟨F1, H1, l, r, F2, m2, e _ _ _ q⟩
theorem Ex.mono {G : Glob} {fr : List Env} {A : Around} {F : Fz} {H : Hp} {E E' : Value → Fz → Hp → Prop} {P Q : FV → Fz → Hp → Prop} {t : Sem Flow} (h : Ex G fr A F H t P E) (k : ∀ x F1 H1, P x F1 H1 → Q x F1 H1) (e : ∀ x F1 H1, E x F1 H1 → E' x F1 H1) : Ex G fr A F H t Q E' := fun K m R s hR =>
  wpAny_mono (h K m R s hR) (fun _ _ q => by obtain ⟨F1, H1, l, r, x, hx, F2, m2, q⟩ := q; exact ⟨F1, H1, l, r, x, hx, F2, m2, k _ _ _ q⟩) fun _ _ q => by obtain ⟨F1, H1, l, r, F2, m2, q⟩ := q; exact ⟨F1, H1, l, r, F2, m2, e _ _ _ q⟩
theorem Ev.val {G : Glob} {fr : List Env} {A : Around} {F : Fz} {H : Hp} {E : Value → Fz → Hp → Prop} {Q : V → Fz → Hp → Prop} {t : Sem Value} (P : V → Prop) (h : Ev G fr A F H t (fun x F1 H1 => P x ∧ F1 = F ∧ H1 = H) E) (k : ∀ x, P x → Q x F H) : Ev G fr A F H t Q E :=
  h.mono (fun x F1 H1 q => by obtain ⟨p, rfl, rfl⟩ := q; exact k x p) fun _ _ _ e => e
theorem Bif_t {P Q : Prop} (h : P) : if true then P else Q := h
theorem Bif_f {P Q : Prop} (h : Q) : if false then P else Q := by rw [if_neg (by decide)]; exact h
theorem Bif {b : Bool} {P Q : Prop} (h1 : b = true → P) (h2 : b = false → Q) : if b then P else Q := by
  cases b with
  | true => exact h1 rfl
  | false => exact h2 rfl
inductive ABool (Q : Bool → Fz → Hp → Prop) (x : V) (F : Fz) (H : Hp) : Prop where
  | mk (c : Bool) (e : x = .bool c) (h : Q c F H)
inductive AInt (Q : Option Int → Fz → Hp → Prop) (x : V) (F : Fz) (H : Hp) : Prop where
  | mk (i : Int) (e : x = .int i) (h : Q (some i) F H)
section
variable {G : Glob} {fr : List Env} {A : Around} {env : Env} {F : Fz} {H : Hp} {E : Value → Fz → Hp → Prop} {Q : Bool → Fz → Hp → Prop}
theorem It_Compare1 {l op r pos whole} (h : Ev G fr A F H (eval l env) (fun x F1 H1 => Ev G fr A F1 H1 (eval r env) (fun y F2 H2 => Op2 G fr A F2 H2 (compareOp op) x y (ABool Q) E) E) E)
    (hm : autoParam (behindInMarks op r = false) tac15) : Tp G fr A F H (isTrue (.Compare l [op] [r] pos) env whole) Q E := fun K m R s hR =>
  wpAny_isTrue_Compare1 (h.go m hR (.refl K) fun a x F1 K1 H1 s1 l1 m1 r1 hx h1 => h1.go m1 r1 l1 fun b y F2 K2 H2 s2 l2 m2 r2 hy h2 =>
    (h2 K2 m2 a b (hx.mono l2) hy).go r2 (l1.trans l2) fun v z F3 K3 H3 s3 l3 m3 r3 hz hq => by
      obtain ⟨c, rfl, q⟩ := hq
      exact hz.e_bool (P := fun v => wpAny _ _ (truthy v) _ _ _) (wpAny_truthy_bool (upPQ (l1.trans (l2.trans l3)) (tret r3 m3 q)))) hm
theorem It_value {e : Expr} {whole : Sem Value} (h : Ev G fr A F H whole (fun x F1 H1 => Tr G fr A F1 H1 x Q E) E)
    (hs : autoParam (isTrue e env whole = (do let v ← whole; standAt e.pos; holding [v] (truthy v))) tac0) : Tp G fr A F H (isTrue e env whole) Q E := fun K m R s hR => by
  rw [hs]
  exact wpAny_bind (h.go m hR (.refl K) fun a x F1 K1 H1 s1 l1 m1 r1 hx h1 => wpAny_bind (wpAny_standAt (wpAny_holding ((h1 K1 m1 a hx).last r1 l1))))
theorem It_Not {x pos whole} (h : Tp G fr A F H (isTrue x env (eval x env)) (fun b F1 H1 => Q (!b) F1 H1) E) : Tp G fr A F H (isTrue (.UnaryOp .Not x pos) env whole) Q E := fun K m R s hR =>
  wpAny_isTrue_Not (h.seq m hR (.refl K) fun b F1 K1 H1 s1 l1 m1 r1 q => upPQ l1 (tret (Q := Q) r1 m1 q))
theorem It_BoolOp {op values pos whole} (h : Tp G fr A F H (allTrue op values env) Q E) : Tp G fr A F H (isTrue (.BoolOp op values pos) env whole) Q E := fun K m R s hR => wpAny_isTrue_BoolOp (h K m R s hR)
theorem It_and_nil (h : Q true F H) : Tp G fr A F H (allTrue .And [] env) Q E := fun K m R s hR => by
  have e : allTrue .And [] env = pure true := by first | rfl | (unfold allTrue; rfl) | simp [allTrue]
  rw [e]; exact wpAny_pure (tret (Q := Q) hR m h)
theorem It_or_nil (h : Q false F H) : Tp G fr A F H (allTrue .Or [] env) Q E := fun K m R s hR => by
  have e : allTrue .Or [] env = pure false := by first | rfl | (unfold allTrue; rfl) | simp [allTrue]
  rw [e]; exact wpAny_pure (tret (Q := Q) hR m h)
theorem It_and {x rest} (h : Tp G fr A F H (isTrue x env (eval x env)) (fun b F1 H1 => if b then Tp G fr A F1 H1 (allTrue .And rest env) Q E else Q false F1 H1) E) : Tp G fr A F H (allTrue .And (x :: rest) env) Q E := fun K m R s hR => by
  have e : allTrue .And (x :: rest) env = (isTrue x env (eval x env) >>= fun b => match b with | false => pure false | true => allTrue .And rest env) := by
    show (isTrue x env (eval x env) >>= fun b => _) = _
    exact congrArg _ (funext fun b => by cases b <;> rfl)
  rw [e]
  refine wpAny_bind (h.seq m hR (.refl K) fun b F1 K1 H1 s1 l1 m1 r1 q => ?_)
  cases b with
  | true => exact (show Tp _ _ _ _ _ _ _ _ from q).last m1 r1 l1
  | false => exact wpAny_pure (upPQ l1 (tret (Q := Q) r1 m1 q))
theorem It_or {x rest} (h : Tp G fr A F H (isTrue x env (eval x env)) (fun b F1 H1 => if b then Q true F1 H1 else Tp G fr A F1 H1 (allTrue .Or rest env) Q E) E) : Tp G fr A F H (allTrue .Or (x :: rest) env) Q E := fun K m R s hR => by
  have e : allTrue .Or (x :: rest) env = (isTrue x env (eval x env) >>= fun b => match b with | true => pure true | false => allTrue .Or rest env) := by
    show (isTrue x env (eval x env) >>= fun b => _) = _
    exact congrArg _ (funext fun b => by cases b <;> rfl)
  rw [e]
  refine wpAny_bind (h.seq m hR (.refl K) fun b F1 K1 H1 s1 l1 m1 r1 q => ?_)
  cases b with
  | false => exact (show Tp _ _ _ _ _ _ _ _ from q).last m1 r1 l1
  | true => exact wpAny_pure (upPQ l1 (tret (Q := Q) r1 m1 q))
end
section
variable {G : Glob} {fr : List Env} {A : Around} {env : Env} {F : Fz} {H : Hp} {E : Value → Fz → Hp → Prop} {Q : FV → Fz → Hp → Prop}
theorem Ex_Break {pos} (h : Q .brk F H) : Ex G fr A F H (exec (.Break pos) env) Q E := fun K m R s hR => wpAny_Break (fret hR .brk m h)
theorem Ex_Continue {pos} (h : Q .cont F H) : Ex G fr A F H (exec (.Continue pos) env) Q E := fun K m R s hR => wpAny_Continue (fret hR .cont m h)
theorem Ex_Return {e pos} (h : Ev G fr A F H (eval e env) (fun x F1 H1 => Q (.ret x) F1 H1) E) : Ex G fr A F H (exec (.Return (some e) pos) env) Q E := fun K m R s hR =>
  wpAny_Return_some (h.go m hR (.refl K) fun v x F1 K1 H1 s1 l1 m1 r1 hx q => upPQ l1 (fret r1 (.ret hx) m1 q))
theorem Ex_If {test body orelse pos} (h : Tp G fr A F H (isTrue test env (eval test env)) (fun b F1 H1 => if b then Ex G fr A F1 H1 (execs body env) Q E else Ex G fr A F1 H1 (execs orelse env) Q E) E) :
    Ex G fr A F H (exec (.If test body orelse pos) env) Q E := fun K m R s hR => by
  refine wpAny_If (h.seq m hR (.refl K) fun b F1 K1 H1 s1 l1 m1 r1 q => ?_)
  cases b with
  | true => exact (show Ex _ _ _ _ _ _ _ _ from q).last m1 r1 l1
  | false => exact (show Ex _ _ _ _ _ _ _ _ from q).last m1 r1 l1
theorem ns_set {w : World} {ρ ρ' : List (Str × Option V)} {h' : Heap} {L : Addr} {m : Str → Option Value} {x : Str} {v : Value} {y : V} (hn : h'.Ns L (fun z => if z = x then some v else m z)) (hs : SetL ρ x (some y) ρ') (nd : (ρ.map (·.1)).Nodup) (hv : RV F v y)
    (hp : ∀ p ∈ ρ, match p.2 with | none => True | some x => ∃ v, m p.1 = some v ∧ RV F v x) : ∃ o, h'.get? L = some o ∧ RO w F o (.ns ρ') := by
  obtain ⟨o, es, ep, ho, hd, hk, hf⟩ := hn
  refine ⟨o, ho, es, ep, hd, hk, by rw [hs.names.1]; exact nd, fun p hpm => ?_⟩
  rcases hs.spec nd p hpm with ⟨h1, h2⟩ | ⟨h1, h2⟩
  · rw [h2]
    exact ⟨v, (hf _).trans (if_pos h1), hv⟩
  · have q := hp p h2
    cases e : p.2 with
    | none => trivial
    | some z => simp only [e] at q ⊢; obtain ⟨u, q1, q2⟩ := q; exact ⟨u, ((hf _).trans (if_neg h1)).trans q1, q2⟩
inductive Store (env : Env) (x : Str) (y : V) (F : Fz) (H : Hp) (Q : Fz → Hp → Prop) : Prop where
  | intro (ρ ρ' : List (Str × Option V)) (H' : Hp) (hu : Upd H env.locals (.ns ρ) (.ns ρ') H') (hs : SetL ρ x (some y) ρ') (h : Q F H')
theorem Store.mk {env : Env} {x : Str} {y : V} {Q : Fz → Hp → Prop} {ρ ρ' : List (Str × Option V)} {H' : Hp} (hu : Upd H env.locals (.ns ρ) (.ns ρ') H') (hs : SetL ρ x (some y) ρ') (h : Q F H') : Store env x y F H Q := ⟨ρ, ρ', H', hu, hs, h⟩
theorem store {K : Fz} {x : Str} {v : Value} {y : V} {Q : Fz → Hp → Prop} (m : F.le K) (hv : RV K v y) (h : Store env x y F H Q)
    (hk : autoParam (env.scope.kind = .function) tac0) (hl : autoParam (env.kindOf x = some .local) tac0) : TpAt G fr A K H (storeName env x v) (fun _ => Dn Q) E := fun R s hR => by
  obtain ⟨ρ, ρ', H', hu, hs, h⟩ := h
  obtain ⟨o, ho, r⟩ := hR.get hu.mem
  obtain ⟨ms, hn, nd, hp⟩ := nsOf ho r
  refine wpAny_storeName_local hl hn (fun h' hn' hs' => ?_) (by rw [hk]; rfl)
  obtain ⟨o', ho', r'⟩ := ns_set (w := G.w) hn' hs nd hv hp
  exact ⟨K, H', .refl K, hR.upd' hu hs'.extBut ho' r' fun _ => ⟨_, rfl⟩, F, m, h⟩
theorem Ex_Assign_Name {x : Str} {pos' value pos} (h : Ev G fr A F H (eval value env) (fun y F1 H1 => Store env x y F1 H1 (Q .next)) E)
    (hs : autoParam (swapsWith value (some (.Name x pos')) pos.line env = pure false) tac0) (hk : autoParam (env.scope.kind = .function) tac0) (hl : autoParam (env.kindOf x = some .local) tac0) :
    Ex G fr A F H (exec (.Assign [.Name x pos'] value pos) env) Q E := fun K m R s hR =>
  wpAny_Assign_Name (h.go m hR (.refl K) fun v y F1 K1 H1 s1 l1 m1 r1 hy hq =>
    (store m1 hy hq hk hl).seq r1 l1 fun _ K2 H2 s2 l2 r2 ⟨F2, m2, q⟩ => upPQ (l1.trans l2) (fret r2 .next m2 q)) hs
end
section
variable {G : Glob} {fr : List Env} {A : Around} {F : Fz} {H : Hp} {E : Value → Fz → Hp → Prop} {Q : V → Fz → Hp → Prop} {i j : Int}
theorem ii {K : Fz} {P : Value → Value → Prop} (k : ∀ t u, P (.int i t) (.int j u)) : ∀ a b, RV K a (.int i) → RV K b (.int j) → P a b := fun _ b ha hb => ha.e_int (P := fun a => P a b) fun t => hb.e_int (k t)
theorem add_ii (h : Q (.int (i + j)) F H) : Op2 G fr A F H (binaryOp .Add) (.int i) (.int j) Q E := fun K m => ii fun t u R s hR => PySem.P.add_int (vret (hR.toks _) .int m h)
theorem sub_ii (h : Q (.int (i - j)) F H) : Op2 G fr A F H (binaryOp .Sub) (.int i) (.int j) Q E := fun K m => ii fun t u R s hR => PySem.P.sub_int (vret (hR.toks _) .int m h)
theorem iadd_ii (h : Q (.int (i + j)) F H) : Op2 G fr A F H (inplaceOp .Add) (.int i) (.int j) Q E := fun K m => ii fun t u R s hR => PySem.P.iadd_int (vret (hR.toks _) .int m h)
theorem mul_ii (hm : IntMulOk i j) (h : Q (.int (i * j)) F H) : Op2 G fr A F H (binaryOp .Mult) (.int i) (.int j) Q E := fun K m => ii fun t u R s hR => PySem.P.mul_int (vret (hR.toks _) .int m h) hm
theorem neg_i (h : Q (.int (-i)) F H) : Op1 G fr A F H (unaryOp .USub) (.int i) Q E := fun K m a ha => ha.e_int (P := fun a => EvAt _ _ _ _ _ (unaryOp .USub a) _ _) fun t R s hR => PySem.P.neg_int (vret (hR.toks _) .int m h)
theorem eq_ii (h : Q (.bool (i == j)) F H) : Op2 G fr A F H (compareOp .Eq) (.int i) (.int j) Q E := fun K m => ii fun t u R s hR => PySem.P.eq_int (vret hR .bool m h)
theorem lt_ii (h : Q (.bool (decide (i < j))) F H) : Op2 G fr A F H (compareOp .Lt) (.int i) (.int j) Q E := fun K m => ii fun t u R s hR => PySem.P.lt_int (vret hR .bool m h)
theorem ge_ii (h : Q (.bool (decide (i ≥ j))) F H) : Op2 G fr A F H (compareOp .GtE) (.int i) (.int j) Q E := fun K m => ii fun t u R s hR => PySem.P.ge_int (vret hR .bool m h)
end
noncomputable def Noted (G : Glob) (fr : List Env) (A : Around) (env : Env) (E : Value → Fz → Hp → Prop) : Prop :=
  ∀ K R e s, PQ G fr K R (fun e => Dn (E e)) e s → notedBy G.M A env (cameBackBy G.M A env (PQ G fr K R fun e => Dn (E e))) e s
noncomputable abbrev No : Value → Fz → Hp → Prop := fun _ _ _ => False
theorem noted_no {G : Glob} {fr : List Env} {A : Around} {env : Env} : Noted G fr A env No := fun _ _ _ _ h => (noPQ h).elim
noncomputable def Turn (I : Fz → Hp → Prop) (Q : FV → Fz → Hp → Prop) : FV → Fz → Hp → Prop
  | .next, F, H => I F H
  | .cont, F, H => I F H
  | .brk, F, H => Q .next F H
  | .ret x, F, H => Q (.ret x) F H
section
variable {G : Glob} {fr : List Env} {A : Around} {env : Env} {F : Fz} {H : Hp} {E : Value → Fz → Hp → Prop} {Q : FV → Fz → Hp → Prop} {I : Fz → Hp → Prop}
theorem Turn.next (h : I F H) : Turn I Q .next F H := h
theorem Turn.brk (h : Q .next F H) : Turn I Q .brk F H := h
theorem Turn.ret {x : V} (h : Q (.ret x) F H) : Turn I Q (.ret x) F H := h

theorem Ex_While {test body pos} (I : Nat → Fz → Hp → Prop) (n : Nat) (h0 : I n F H)
    (step : ∀ n F1 H1, I n F1 H1 → ∀ Qn : Fz → Hp → Prop, (∀ m F3 H3, m < n → I m F3 H3 → Qn F3 H3) → Tp G fr A F1 H1 (isTrue test env (eval test env)) (fun b F2 H2 => if b then Ex G fr A F2 H2 (execs body env) (Turn Qn Q) E else Q .next F2 H2) E)
    (hE : Noted G fr A env E) : Ex G fr A F H (exec (.While test body [] pos) env) Q E := fun K m R s hR => by
  refine wpAny_While (codeAny_whileLoop (I := fun n s => ∃ F1 K1 H1, K.le K1 ∧ Fz.le F1 K1 ∧ Rep G fr K1 (H1 ++ R) s ∧ I n F1 H1) (fun n s hI => ?_) n ⟨F, K, H, .refl K, m, hR, h0⟩)
  obtain ⟨F1, K1, H1, l1, m1, r1, hI⟩ := hI
  have hE' : ∀ e s', PQ G fr K R (fun e => Dn (E e)) e s' → notedBy G.M A env (fun e s' => cameBackBy G.M A env (PQ G fr K R fun e => Dn (E e)) e s') e s' := fun e s' q => hE K R e s' q
  refine wpAny_mono ((step n F1 H1 hI (fun F3 H3 => ∃ m, m < n ∧ I m F3 H3) fun m F3 H3 hm q => ⟨m, hm, q⟩).seq m1 r1 l1 (P := fun b s₂ => if b then wpAny G.M A (execs body env) (fun f s₃ => match f with
            | .next | .cont => ∃ m, m < n ∧ ∃ F1 K1 H1, K.le K1 ∧ Fz.le F1 K1 ∧ Rep G fr K1 (H1 ++ R) s₃ ∧ I m F1 H1
            | .brk => PQ G fr K R (FQ Q) .next s₃
            | .ret v => PQ G fr K R (FQ Q) (.ret v) s₃) (PQ G fr K R fun e => Dn (E e)) s₂ else PQ G fr K R (FQ Q) .next s₂) fun b F2 K2 H2 s2 l2 m2 r2 q => ?_) (fun b s₂ hb => ?_) hE'
  · cases b with
    | false => exact upPQ (l1.trans l2) (fret r2 .next m2 q)
    | true =>
      refine (show Ex _ _ _ _ _ _ _ _ from q).go m2 r2 (l1.trans l2) fun f fv F3 K3 H3 s3 l3 m3 r3 hf q => ?_
      have l := l1.trans (l2.trans l3)
      cases hf with
      | next => obtain ⟨m, hm, q⟩ := q; exact ⟨m, hm, F3, K3, H3, l, m3, r3, q⟩
      | cont => obtain ⟨m, hm, q⟩ := q; exact ⟨m, hm, F3, K3, H3, l, m3, r3, q⟩
      | brk => exact upPQ l (fret r3 .next m3 q)
      | ret hx => exact upPQ l (fret r3 (.ret hx) m3 q)
  · cases b with
    | false =>
      show wpAny _ _ (execs [] env) _ _ _
      exact wpAny_execs_nil hb
    | true => exact wpAny_mono (show wpAny _ _ _ _ _ _ from hb) (fun f s₃ h₃ => by cases f <;> exact h₃) hE'
end
theorem pick {α : Type} {l : List α} {k : Nat} : l[k]? = none ↔ l.length ≤ k := List.getElem?_eq_none_iff
structure IterP (G : Glob) (A : Around) (F : Fz) (it : Addr) (l : List V) (I : Nat → AO) : Prop where
  item : ∀ (k : Nat) (y : V) (s : Shared) (F2 : Fz) {Q : Option Value → Shared → Prop} {E : Value → Shared → Prop}, F.le F2 → (∃ o, s.heap.get? it = some o ∧ RO G.w F2 o (I k)) → (∀ b o, F2 b = some o → s.heap.get? b = some o) → l[k]? = some y →
    (∀ v h' o tk, RV F2 v y → h'.get? it = some o → RO G.w F2 o (I (k + 1)) → Heap.SameBut it s.heap h' → Q (some v) { s with heap := h', toks := tk }) → wpAny G.M A (pyNext (.ref it)) Q E s
  fin : ∀ (s : Shared) (F2 : Fz) {Q : Option Value → Shared → Prop} {E : Value → Shared → Prop}, F.le F2 → (∃ o, s.heap.get? it = some o ∧ RO G.w F2 o (I l.length)) → (∀ b o, F2 b = some o → s.heap.get? b = some o) →
    (∀ h', Heap.ExtBut it s.heap h' → Q none { s with heap := h' }) → wpAny G.M A (pyNext (.ref it)) Q E s
  notNs : ∀ k ρ, I k ≠ .ns ρ
  go : ∀ (k : Nat) (target : Expr) (v : Value) (s : Shared) (F2 : Fz) {Q : Unit → Shared → Prop} {E : Value → Shared → Prop}, (∃ o, s.heap.get? it = some o ∧ RO G.w F2 o (I k)) → Q () s → wpAny G.M A (letOwnedTupleGo target (.ref it) v) Q E s
  self : ∀ (k : Nat) (s : Shared) (F2 : Fz) {Q : Value → Shared → Prop} {E : Value → Shared → Prop}, (∃ o, s.heap.get? it = some o ∧ RO G.w F2 o (I k)) → Q (.ref it) s → wpAny G.M A (pyIter (.ref it)) Q E s
theorem go_other {G : Glob} {A : Around} {it : Addr} {n : String} {vs : Array Value} {o : Obj} {s : Shared} (hc : o.cls = .type n) (hd : o.data = .fields vs) (ho : s.heap.get? it = some o) (hn : ["enumerate", "zip", "dict_itemiterator", "dict_reverseitemiterator", "odict_iterator", "itertools.zip_longest", "itertools.pairwise"].contains n = false) (target : Expr) (v : Value) {Q : Unit → Shared → Prop} {E : Value → Shared → Prop} (hQ : Q () s) :
    wpAny G.M A (letOwnedTupleGo target (.ref it) v) Q E s := by
  have key : ∀ a, wpAny G.M A (do
      let o ← load it
      match o.cls, o.data with
      | .type n, .fields vs =>
        if ["enumerate", "zip", "dict_itemiterator", "dict_reverseitemiterator", "odict_iterator", "itertools.zip_longest", "itertools.pairwise"].contains n && vs[0]? == some (rawInt a) then
          rule "for.unpacks-the-owned-tuple"
          updateField it 0 .none
      | _, _ => pure ()) Q E s := fun a => by
    refine wpAny_bind (wpAny_load ho ?_)
    rw [hc, hd]
    simp only [hn, Bool.false_and, Bool.false_eq_true, if_false]
    exact wpAny_pure hQ
  cases target <;> first
    | exact wpAny_pure hQ
    | (cases v <;> first | exact wpAny_pure hQ | exact key _)
noncomputable def Iterable (G : Glob) (A : Around) (x : V) (l : List V) : Prop := ∀ (F : Fz) (s : Shared) (v : Value) {Q E : Value → Shared → Prop}, (∀ b o, F b = some o → s.heap.get? b = some o) → RV F v x →
  (∀ it h' o I, s.heap.get? it = none → (∀ b o, s.heap.get? b = some o → h'.get? b = some o) → h'.get? it = some o → RO G.w F o (I 0) → IterP G A F it l I → Q (.ref it) { s with heap := h' }) → wpAny G.M A (pyIter v) Q E s
theorem iter_lst {G : Glob} {A : Around} {l : List V} (hh : A.handled = none) : Iterable G A (.lst l) l := fun F s v Q E hf hv k => by
    refine hv.e_lst (P := fun v => wpAny _ _ (pyIter v) _ _ _) fun a vs n o ha hcl hdt hlen hrv => ?_
    refine wpAny_pyIter_list ⟨o, hf _ _ ha, hcl, n, hdt⟩ (k _ _ _ (fun k => AO.flds "list_iterator" #[.ref a, .int (k : Nat) 0]) (none_at_size _) (fun b o e => Heap.get?_push_of_some _ e) (Heap.get?_push_size _ rfl) ⟨rfl, rfl⟩ ⟨?_, ?_, (fun _ _ q => nomatch q), fun _ t v _ _ _ _ ⟨o', g, c1, c2⟩ hQ => go_other c1 c2 g (by decide) t v hQ, fun _ _ _ _ _ ⟨o', g, c1, c2⟩ hQ => wpAny_pyIter_listiter ⟨o', g, c1, c2⟩ hQ⟩)
    · intro k y s F2 Q E le ⟨o', g, c1, c2⟩ hfz hy hQ
      have hk : k < vs.length := by
        rcases Nat.lt_or_ge k l.length with q | q
        · lia
        · rw [List.getElem?_eq_none q] at hy; cases hy
      refine wpAny_pyNext_list_item (items := vs.toArray) (x := vs[k]) ⟨o', g, c1, c2⟩ ⟨_, hfz _ _ (le _ _ ha), hcl, n, hdt⟩ (by simp [hk]) fun h' ⟨o'', g', c1', c2'⟩ hs' => hQ _ h' o'' s.toks ((hrv k _ y (List.getElem?_eq_getElem hk) hy).mono le) g' ⟨c1', c2'⟩ hs'
    · intro s F2 Q E le ⟨o', g, c1, c2⟩ hfz hQ
      exact wpAny_pyNext_list_end hh ⟨o', g, c1, c2⟩ ⟨_, hfz _ _ (le _ _ ha), hcl, n, hdt⟩ (by simp [hlen]) hQ
noncomputable def rngV (a b c : Int) : List V := (List.range (Builtin.Range.rangeSize a b c).toNat).map fun (k : Nat) => .int (a + (k : Int) * c)
theorem rngV_get {a b c : Int} {k : Nat} {y : V} (h : (rngV a b c)[k]? = some y) : k < (Builtin.Range.rangeSize a b c).toNat ∧ y = .int (a + (k : Int) * c) := by
  unfold rngV at h
  rw [List.getElem?_map] at h
  rcases Nat.lt_or_ge k (Builtin.Range.rangeSize a b c).toNat with q | q
  · rw [List.getElem?_range q] at h; exact ⟨q, by simpa using h.symm⟩
  · rw [List.getElem?_eq_none (by simpa using q)] at h; cases h
theorem iter_rng {G : Glob} {A : Around} {a b c : Int} (hh : A.handled = none) (hs : Builtin.Range.small a b c = true) : Iterable G A (.rng a b c) (rngV a b c) := fun F s v Q E hf hv k => by
    refine hv.e_rng (P := fun v => wpAny _ _ (pyIter v) _ _ _) fun r t u v ha => ?_
    refine wpAny_pyIter_range (hf _ _ ha) hs (k _ _ _ (fun k => AO.raw { cls := .type "range_iterator", dict := none, data := .fields #[rawInt (a + (k : Int) * c), rawInt (Builtin.Range.rangeSize a b c - k), rawInt c], slots := #[] }) (none_at_size _) (fun b o e => Heap.get?_push_of_some _ e) (Heap.get?_push_size _ rfl) ?_ ⟨?_, ?_, (fun _ _ q => nomatch q), fun _ t v _ _ _ _ ⟨o', g, ro⟩ hQ => go_other (n := "range_iterator") rfl rfl (g.trans (congrArg some ro)) (by decide) t v hQ, fun _ _ _ _ _ ⟨o', g, ro⟩ hQ => wpAny_pyIter_rangeiter (g.trans (congrArg some ro)) hQ⟩)
    · show _ = _
      simp
    · intro k y s F2 Q E le ⟨o', g, ro⟩ hfz hy hQ
      obtain ⟨hk, rfl⟩ := rngV_get hy
      have ro' : o' = { cls := .type "range_iterator", dict := none, data := .fields #[rawInt (a + (k : Int) * c), rawInt (Builtin.Range.rangeSize a b c - k), rawInt c], slots := #[] } := ro
      subst ro'
      refine wpAny_pyNext_range_item g (Int.sub_pos_of_lt (Int.lt_toNat.mp hk)) fun h' hi hs' => hQ _ h' _ (s.toks + 1) .int hi ?_ hs'
      show _ = _
      have e1 : a + ((k + 1 : Nat) : Int) * c = a + (k : Int) * c + c := by
        have : ((k + 1 : Nat) : Int) = (k : Int) + 1 := rfl
        rw [this, Int.add_mul, Int.one_mul, Int.add_assoc]
      have e2 : Builtin.Range.rangeSize a b c - ((k + 1 : Nat) : Int) = Builtin.Range.rangeSize a b c - k - 1 := (Int.sub_sub (Builtin.Range.rangeSize a b c) k 1).symm
      rw [e1, e2]
    · intro s F2 Q E le ⟨o', g, ro⟩ hfz hQ
      have ro' : o' = { cls := .type "range_iterator", dict := none, data := .fields #[rawInt (a + ((rngV a b c).length : Int) * c), rawInt (Builtin.Range.rangeSize a b c - ((rngV a b c).length : Nat)), rawInt c], slots := #[] } := ro
      subst ro'
      exact wpAny_pyNext_range_end hh g (by simp [rngV]; lia) hQ
noncomputable def As (G : Glob) (fr : List Env) (A : Around) (env : Env) (F : Fz) (H : Hp) (target : Expr) (y : V) (Q : Fz → Hp → Prop) (E : Value → Fz → Hp → Prop) : Prop := ∀ K, F.le K → ∀ v, RV K v y → TpAt G fr A K H (assign target env v) (fun _ => Dn Q) E
section
variable {G : Glob} {fr : List Env} {A : Around} {env : Env} {F : Fz} {H : Hp} {E : Value → Fz → Hp → Prop} {Q : FV → Fz → Hp → Prop}
inductive ForI (G : Glob) (fr : List Env) (K1 : Fz) (it : Addr) (J : Nat → AO) (R : Hp) (l : List V) (I : Nat → Fz → Hp → Prop) (n : Nat) (s : Shared) : Prop where
  | mk (k : Nat) (F2 K2 : Fz) (H2 : Hp) (e : n + k = l.length) (l2 : K1.le K2) (m2 : Fz.le F2 K2) (r : Rep G fr K2 (H2 ++ (it, J k) :: R) s) (h : I k F2 H2)
theorem Rep.away {it : Addr} {x : AO} {s : Shared} (r : Rep G fr F ((it, x) :: H) s) (hx : ∀ ρ, x ≠ .ns ρ) {h' : Heap} (he : ∀ b o, b ≠ it → s.heap.get? b = some o → h'.get? b = some o) : Rep G fr F H { s with heap := h' } := by
  have d := r.dropNot hx
  have nit : ∀ p ∈ H, p.1 ≠ it := fun p hp q => (List.nodup_cons.mp r.nd).1 (mem_keys hp q)
  have fit : F it = none := (r.own _ (.head _)).1
  exact ⟨d.gok, d.base, fun b o e => he b o (fun q => by subst q; rw [fit] at e; cases e) (d.fz b o e), fun p hp => (d.own p hp).imp id fun q => q.imp fun o q => ⟨he _ _ (nit p hp) q.1, q.2⟩, d.nd, d.frs, d.gens, d.os⟩
structure IterG (G : Glob) (A : Around) (F : Fz) (it : Addr) (tg : Expr) (l : List V) (J : Nat → Hp) : Prop where
  item : ∀ {fr : List Env} {R : Hp} {k : Nat} {y : V} {s : Shared} {K : Fz} {Q : Option Value → Shared → Prop} {E : Value → Shared → Prop}, F.le K → l[k]? = some y → Rep G fr K (J k ++ R) s →
    (∀ v K1 s1, K.le K1 → RV K1 v y → (∀ {Q : Unit → Shared → Prop} {E : Value → Shared → Prop}, (∀ s2, Rep G fr K1 (J (k + 1) ++ R) s2 → Q () s2) → wpAny G.M A (letOwnedTupleGo tg (.ref it) v) Q E s1) → Q (some v) s1) → wpAny G.M A (pyNext (.ref it)) Q E s
  fin : ∀ {fr : List Env} {R : Hp} {s : Shared} {K : Fz} {Q : Option Value → Shared → Prop} {E : Value → Shared → Prop}, F.le K → Rep G fr K (J l.length ++ R) s → (∀ s1, Rep G fr K R s1 → Q none s1) → wpAny G.M A (pyNext (.ref it)) Q E s
  self : ∀ {fr : List Env} {R : Hp} {k : Nat} {s : Shared} {K : Fz} {Q : Value → Shared → Prop} {E : Value → Shared → Prop}, Rep G fr K (J k ++ R) s → Q (.ref it) s → wpAny G.M A (pyIter (.ref it)) Q E s
noncomputable def IterO (G : Glob) (A : Around) (tg : Expr) (F : Fz) (H : Hp) (x : V) (l : List V) (H' : Hp) : Prop := ∀ {fr : List Env} {R : Hp} {K : Fz} {s : Shared} {v : Value} {Q E : Value → Shared → Prop}, F.le K → Rep G fr K (H ++ R) s → RV K v x →
  (∀ it K1 s1 J, K.le K1 → Rep G fr K1 (J 0 ++ (H' ++ R)) s1 → IterG G A K1 it tg l J → Q (.ref it) s1) → wpAny G.M A (pyIter v) Q E s
theorem IterP.toG {it : Addr} {tg : Expr} {l : List V} {I : Nat → AO} (P : IterP G A F it l I) : IterG G A F it tg l fun k => [(it, I k)] where
  item := fun {fr R k y s K Q E} le hy r h => P.item k y s K le (r.own _ (.head _)).2 r.fz hy fun v h' o tk hv ho hro hs => by
    have r1 : Rep G fr K ((it, I (k + 1)) :: R) { s with heap := h', toks := tk } := Rep.upd (tk := tk) (dr := s.drawn) r hs.extBut ho hro fun hq => hq.elim fun ρ q => absurd q (P.notNs k ρ)
    exact h v K _ (.refl K) hv fun {Q E} hq => P.go (k + 1) tg v _ K (r1.own _ (.head _)).2 (hq _ r1)
  fin := fun {fr R s K Q E} le r h => P.fin s K le (r.own _ (.head _)).2 r.fz fun h' he => h _ (Rep.away r (P.notNs _) he)
  self := fun {fr R k s K Q E} r h => P.self k s K (r.own _ (.head _)).2 h
theorem Iterable.o {tg : Expr} {x : V} {l : List V} (h : Iterable G A x l) : IterO G A tg F H x l H := fun {fr R K s v Q E} m r hv hq =>
  h K s v r.fz hv fun it h' o I hit0 hkp hit hro P => hq it K _ _ (.refl K) (r.new (tk := s.toks) (dr := s.drawn) hkp hit0 hit hro) P.toG
theorem Ex_For {target iter body pos} (hE : Noted G fr A env E)
    (h : Ev G fr A F H (eval iter env) (fun x F1 H1 => ∃ l, Iterable G A x l ∧ ∃ I : Nat → Fz → Hp → Prop, I 0 F1 H1 ∧
      (∀ k y F2 H2, l[k]? = some y → I k F2 H2 → ∀ Qn : Fz → Hp → Prop, (∀ F3 H3, I (k + 1) F3 H3 → Qn F3 H3) → As G fr A env F2 H2 target y (fun F3 H3 => Ex G fr A F3 H3 (execs body env) (Turn Qn Q) E) E) ∧
      (∀ F2 H2, I l.length F2 H2 → Q .next F2 H2)) E)
    (hs : ∀ x, foldedSetIterable iter env x = pure x := by intro _; rfl) :
    Ex G fr A F H (exec (.For target iter body [] pos) env) Q E := fun K m R s hR => by
  refine wpAny_For (h.go m hR (.refl K) fun x y F1 K1 H1 s1 l1 m1 r1 hy hq => ?_) hs
  obtain ⟨l, itr, I, h0, step, fin⟩ := hq
  have hE' : ∀ e s', PQ G fr K R (fun e => Dn (E e)) e s' → notedBy G.M A env (fun e s' => cameBackBy G.M A env (PQ G fr K R fun e => Dn (E e)) e s') e s' := fun e s' q => hE K R e s' q
  refine itr K1 s1 x r1.fz hy fun it h' o J hit0 hkp hit hro P => ?_
  have perm : ∀ (H : Hp) (p : Addr × AO) (R : Hp), (H ++ p :: R).Perm (p :: (H ++ R)) := fun H p R => List.perm_middle
  have r2 : Rep G fr K1 (H1 ++ (it, J 0) :: R) { s1 with heap := h' } := (r1.new (tk := s1.toks) (dr := s1.drawn) hkp hit0 hit hro).perm (perm H1 _ R).symm
  refine codeAny_forLoop_any (I := ForI G fr K1 it J R l I)
    (fun n s hI => ?_) l.length ⟨0, F1, K1, H1, by lia, .refl K1, m1, r2, h0⟩
  obtain ⟨k, F2, K2, H2, hnk, l2, m2, r2, hI⟩ := hI
  have hro : ∃ o, s.heap.get? it = some o ∧ RO G.w K2 o (J k) := (r2.own (it, _) (List.mem_append_right _ (.head _))).2
  cases hv : l[k]? with
  | none =>
    have hk : l.length ≤ k := pick.mp hv
    have hkl : k = l.length := by lia
    subst hkl
    refine wpAny_mono (P.fin s K2 (E := PQ G fr K R fun e => Dn (E e)) l2 hro r2.fz (Q := fun r s₁ => r = none ∧ PQ G fr K R (FQ Q) .next s₁) fun h' he => ⟨rfl, ?_⟩) (fun r s₁ hr => ?_) hE'
    · have r4 := (r2.perm (perm H2 _ R)).away (P.notNs _) he
      exact upPQ (l1.trans l2) (fret r4 .next m2 (fin F2 H2 hI))
    · obtain ⟨rfl, hr⟩ := hr
      exact wpAny_execs_nil hr
  | some y =>
    have hk : k < l.length := (List.getElem?_eq_some_iff.mp hv).1
    refine wpAny_mono (P.item k y s K2 (E := PQ G fr K R fun e => Dn (E e)) l2 hro r2.fz hv (Q := fun r s₁ => ∃ v, r = some v ∧ RV K2 v y ∧ Rep G fr K2 (H2 ++ (it, J (k + 1)) :: R) s₁) fun v h' o tk rv ho hro' hs => ⟨v, rfl, rv, ?_⟩) (fun r s₁ hr => ?_) hE'
    · have r3 := (r2.perm (perm H2 _ R)).upd (h' := h') (tk := tk) (dr := s.drawn) (o' := o) (x' := J (k + 1)) hs.extBut ho hro' (fun hq => by obtain ⟨ρ, q⟩ := hq; exact absurd q (P.notNs k ρ))
      exact r3.perm (perm H2 _ R).symm
    · obtain ⟨v, rfl, ry, r3⟩ := hr
      show wpAny _ _ (letOwnedTupleGo target (.ref it) v) _ _ s₁
      refine P.go (k + 1) target v s₁ K2 (r3.own (it, _) (List.mem_append_right _ (.head _))).2 ?_
      have dropIt : ∀ {K4 H4 s4}, Rep G fr K4 (H4 ++ (it, J (k + 1)) :: R) s4 → Rep G fr K4 (H4 ++ R) s4 := fun r => (r.perm (perm _ _ R)).dropNot (P.notNs _)
      have dropE : ∀ {K4 : Fz} (_ : K.le K4) e s', PQ G fr K4 ((it, J (k + 1)) :: R) (fun e => Dn (E e)) e s' → PQ G fr K R (fun e => Dn (E e)) e s' := fun l4 e s' q => by
        obtain ⟨K5, H5, l5, r5, q⟩ := q
        exact ⟨K5, H5, l4.trans l5, dropIt r5, q⟩
      refine wpAny_mono (step k y F2 H2 hv hI (I (k + 1)) (fun _ _ q => q) K2 m2 v ry _ s₁ r3) (fun _ s₂ hq => ?_) fun e s' q => hE' e s' (dropE (l1.trans l2) e s' q)
      obtain ⟨K3, H3, l3, r3', F3, m3, q⟩ := hq
      have l13 := l1.trans (l2.trans l3)
      refine wpAny_mono (q K3 m3 _ s₂ r3') (fun f s4 hq => ?_) fun e s' q => hE' e s' (dropE l13 e s' q)
      obtain ⟨K4, H4, l4, r4, fv, hf, F4, m4, q⟩ := hq
      have l := l13.trans l4
      cases hf with
      | next => exact ⟨n - 1, nk1 hnk hk, k + 1, F4, K4, H4, nk2 hnk hk, l2.trans (l3.trans l4), m4, r4, q⟩
      | cont => exact ⟨n - 1, nk1 hnk hk, k + 1, F4, K4, H4, nk2 hnk hk, l2.trans (l3.trans l4), m4, r4, q⟩
      | brk => exact upPQ l (fret (dropIt r4) .next m4 q)
      | ret hx => exact upPQ l (fret (dropIt r4) (.ret hx) m4 q)
end
section
variable {G : Glob} {fr : List Env} {A : Around} {env : Env} {F : Fz} {H : Hp} {E : Value → Fz → Hp → Prop} {Q : V → Fz → Hp → Prop}
theorem Ev_global {x : Str} {pos} {v : Value} {y : V} (hv : G.mg x = some v) (hr : RV F v y) (h : Q y F H) (hk : autoParam (env.scope.kind = .function) tac0) (hx : autoParam (env.kindOf x = some .globalImplicit) tac0) (hg : autoParam (env.globals = mainGlobals) tac0)
    (hd : autoParam ((x == ("__debug__" : Str)) = false) tac14) : Ev G fr A F H (eval (.Name x pos) env) Q E := fun K m R s hR =>
  Name_function_global hk hx (loadGlobal_global (by rw [hg]; exact hR.glob.1) hv (vret hR (hr.mono m) m h)) hd
theorem Ev_blt {x : Str} {pos} {v : Value} {y : V} (hn : G.mg x = none) (hv : G.mb x = some v) (hr : RV F v y) (h : Q y F H) (hk : autoParam (env.scope.kind = .function) tac0) (hx : autoParam (env.kindOf x = some .globalImplicit) tac0) (hg : autoParam (env.globals = mainGlobals) tac0) (hb : autoParam (env.builtins = builtinsNs) tac0)
    (hd : autoParam ((x == ("__debug__" : Str)) = false) tac14) : Ev G fr A F H (eval (.Name x pos) env) Q E := fun K m R s hR =>
  Name_function_global hk hx (loadGlobal_builtin (by rw [hg]; exact hR.glob.1) hn (by rw [hb]; exact hR.glob.2.1) hv (vret hR (hr.mono m) m h)) hd
theorem Ev_cell {x : Str} {pos} {c : Addr} {y : V} (hc : env.cells.lookup x = some c) (hm : Has H c (.cell (some y))) (h : Q y F H) (hk : autoParam (env.scope.kind = .function) tac0) (hx : autoParam (env.kindOf x = some .cell) tac0)
    (hd : autoParam ((x == ("__debug__" : Str)) = false) tac14) : Ev G fr A F H (eval (.Name x pos) env) Q E := fun K m R s hR => by
  obtain ⟨o, ho, v, hd', hv⟩ := hR.has hm
  exact wpAny_Name (wpAny_loadName_cell hk hx hc ⟨o, ho, hd'⟩ (vret hR hv m h)) hd
inductive CellF (F : Fz) (c : Addr) (y : V) : Prop where
  | intro (o : Obj) (v : Value) (h1 : F c = some o) (h2 : o.data = .cell (some v)) (h3 : RV F v y)
theorem CellF.mono {F F' : Fz} {c : Addr} {y : V} (le : F.le F') (h : CellF F c y) : CellF F' c y := by obtain ⟨o, v, a, b, r⟩ := h; exact ⟨o, v, le _ _ a, b, r.mono le⟩
theorem Ev_freeF {x : Str} {pos} {c : Addr} {y : V} (hc : env.cells.lookup x = some c) (hm : CellF F c y) (h : Q y F H) (hk : autoParam (env.scope.kind = .function) tac0) (hx : autoParam (env.kindOf x = some .free) tac0)
    (hd : autoParam ((x == ("__debug__" : Str)) = false) tac14) (hn : autoParam ((x == ("__classdict__" : Str)) = false) tac14) : Ev G fr A F H (eval (.Name x pos) env) Q E := fun K m R s hR => by
  obtain ⟨o, v, ho, hd', hv⟩ := hm
  exact wpAny_Name (wpAny_loadName_free hk hx hc ⟨o, hR.fz _ _ (m _ _ ho), hd'⟩ (vret hR (hv.mono m) m h) hn) hd
end

section
variable {G : Glob} {fr : List Env} {A : Around} {env : Env} {F : Fz} {H : Hp} {E : Value → Fz → Hp → Prop}
theorem Evs_nil {pos} {Q : List V → Fz → Hp → Prop} (h : Q [] F H) : Evs G fr A F H (spliced (backTo pos (starEach [] env))) Q E := fun K m R s hR => args_nil ⟨K, H, .refl K, hR, [], .nil, F, m, h⟩
theorem Evs_cons {e : Expr} {rest : List Expr} {pos} {Q : List V → Fz → Hp → Prop} (h : Ev G fr A F H (eval e env) (fun x F1 H1 => Evs G fr A F1 H1 (spliced (backTo pos (starEach rest env))) (fun xs F2 H2 => Q (x :: xs) F2 H2) E) E)
    (he : autoParam (starEach (e :: rest) env = (false, eval e env) :: starEach rest env) tac0) : Evs G fr A F H (spliced (backTo pos (starEach (e :: rest) env))) Q E := fun K m R s hR =>
  args_cons (h.go m hR (.refl K) fun v x F1 K1 H1 s1 l1 m1 r1 hx h1 => h1.go m1 r1 l1 fun vs xs F2 K2 H2 s2 l2 m2 r2 hxs q => ⟨K2, H2, l1.trans l2, r2, x :: xs, .cons (hx.mono l2) hxs, F2, m2, q⟩) he
inductive KOk (F : Fz) : V → Prop where
  | blt {n : String} : KOk F (.blt n)
  | typ {n : String} : KOk F (.typ n)
  | fn {a : Addr} {o : Obj} {fd : FuncData} (h : F a = some o) (hd : o.data = .func fd) : KOk F (.ref a)
  | meth {a : Addr} {o : Obj} {vs : Array Value} (h : F a = some o) (hd : o.data = .fields vs) (hc : o.cls = .type "builtin_function_or_method") : KOk F (.ref a)
theorem callWith_meth' {M : Model} {pos : Pos} {a : Addr} {o : Obj} {vs : Array Value} {args : List (Bool × Sem Value)} {Q E : Value → Shared → Prop} {s : Shared} (hd : o.data = .fields vs) (hc : o.cls = .type "builtin_function_or_method") (hplain : args.any (·.1) = false)
    (h : wpAny M A (evalArgs (.ref a) true args []) (fun x s₁ => s₁.heap.get? a = some o ∧ wpAny M A (call (.ref a) ([] ++ x.pos) x.kw) Q E s₁) E s) : wpAny M A (callWith pos (.ref a) [] args []) Q E s := by
  unfold callWith
  refine wpAny_bind (wpAny_holding (wpAny_mono h (fun x s₁ h₁ => wpAny_bind (wpAny_standAt ?_)) fun _ _ x => x))
  rw [hplain]
  refine wpAny_bind (m := keeperOf (.ref a)) (wpAny_bind (wpAny_load h₁.1 ?_))
  rw [hd, hc]
  refine wpAny_pure (?_ : wpAny _ _ (_ >>= _) _ _ _)
  exact (wpAny_bind (wpAny_mono h₁.2 (fun r s₂ hr => wpAny_bind (wpAny_holding (wpAny_point (wpAny_pure hr)))) fun _ _ x => x))
theorem KOk.mono {F F' : Fz} {x : V} (le : F.le F') (h : KOk F x) : KOk F' x := by
  cases h with
  | blt => exact .blt
  | typ => exact .typ
  | fn h hd => exact .fn (le _ _ h) hd
  | meth h hd hc => exact .meth (le _ _ h) hd hc
noncomputable def Cl (G : Glob) (fr : List Env) (A : Around) (F : Fz) (H : Hp) (f : V) (xs : List V) (Q : V → Fz → Hp → Prop) (E : Value → Fz → Hp → Prop) : Prop :=
  ∀ K, F.le K → ∀ v vs, RV K v f → RVs K vs xs → EvAt G fr A K H (call v vs) Q E
variable {Q : V → Fz → Hp → Prop}
theorem callW {pos : Pos} {s : Shared} {F1 : Fz} {f : Value} {x : V} {args : List (Bool × Sem Value)} {P E' : Value → Shared → Prop} (hx : RV F1 f x) (hk : KOk F1 x) (hp : args.any (·.1) = false)
    (key : wpAny G.M A (evalArgs f true args []) (fun a s2 => a.kw = [] ∧ (∀ b o, F1 b = some o → s2.heap.get? b = some o) ∧ wpAny G.M A (call f a.pos) P E' s2) E' s) : wpAny G.M A (callWith pos f [] args []) P E' s := by
  have key' : wpAny G.M A (evalArgs f true args []) (fun a s2 => (∀ b o, F1 b = some o → s2.heap.get? b = some o) ∧ wpAny G.M A (call f ([] ++ a.pos) a.kw) P E' s2) E' s :=
    wpAny_mono key (fun a s2 h => ⟨h.2.1, h.1.symm ▸ h.2.2⟩) fun _ _ x => x
  clear key
  cases hk with
  | blt => exact hx.e_blt (P := fun f => wpAny G.M A (evalArgs f true args []) (fun a s2 => (∀ b o, F1 b = some o → s2.heap.get? b = some o) ∧ wpAny G.M A (call f ([] ++ a.pos) a.kw) P E' s2) E' s → wpAny G.M A (callWith pos f [] args []) P E' s) (fun key => callWith_builtin hp (wpAny_mono key (fun _ _ h => h.2) fun _ _ x => x)) key'
  | typ => exact hx.e_typ (P := fun f => wpAny G.M A (evalArgs f true args []) (fun a s2 => (∀ b o, F1 b = some o → s2.heap.get? b = some o) ∧ wpAny G.M A (call f ([] ++ a.pos) a.kw) P E' s2) E' s → wpAny G.M A (callWith pos f [] args []) P E' s) (fun key => PyProof.Rows.callWith_type hp (wpAny_mono key (fun _ _ h => h.2) fun _ _ x => x)) key'
  | fn h hd => exact hx.e_ref (P := fun f => wpAny G.M A (evalArgs f true args []) (fun a s2 => (∀ b o, F1 b = some o → s2.heap.get? b = some o) ∧ wpAny G.M A (call f ([] ++ a.pos) a.kw) P E' s2) E' s → wpAny G.M A (callWith pos f [] args []) P E' s) (fun key => callWith_function (wpAny_mono key (fun _ _ q => ⟨⟨q.1 _ _ h, hd⟩, q.2⟩) fun _ _ x => x)) key'
  | meth h hd hc => exact hx.e_ref (P := fun f => wpAny G.M A (evalArgs f true args []) (fun a s2 => (∀ b o, F1 b = some o → s2.heap.get? b = some o) ∧ wpAny G.M A (call f ([] ++ a.pos) a.kw) P E' s2) E' s → wpAny G.M A (callWith pos f [] args []) P E' s) (fun key => callWith_meth' hd hc hp (wpAny_mono key (fun _ _ q => ⟨q.1 _ _ h, q.2⟩) fun _ _ x => x)) key'
theorem Ev_Call {func e : Expr} {rest : List Expr} {pos} (h : Ev G fr A F H (eval func env) (fun f F1 H1 => KOk F1 f ∧ Evs G fr A F1 H1 (spliced (backTo pos (starEach (e :: rest) env))) (fun xs F2 H2 => Cl G fr A F2 H2 f xs Q E) E) E)
    (he : autoParam (eval (.Call func (e :: rest) [] pos) env = (do callWith pos (← eval func env) [] (backTo pos (starEach (e :: rest) env)) (backToKw pos (keywordEach [] env)))) tac0)
    (hs : autoParam (starEach (e :: rest) env = (false, eval e env) :: starEach rest env) tac0) (hplain : autoParam ((backTo pos (starEach rest env)).any (·.1) = false) tac0) :
    Ev G fr A F H (eval (.Call func (e :: rest) [] pos) env) Q E := fun K m R s hR => by
  refine Call_ (h.go m hR (.refl K) fun f x F1 K1 H1 s1 l1 m1 r1 hx hq => ?_) he
  obtain ⟨hk, h1⟩ := hq
  have hp : (backTo pos (starEach (e :: rest) env)).any (·.1) = false := by rw [hs]; show (false || (backTo pos (starEach rest env)).any (·.1)) = false; rw [hplain]; rfl
  refine callW hx (hk.mono m1) hp ?_
  rw [hs] at h1 ⊢
  refine evalArgs_plain ?_
  exact (show Evs G fr A F1 H1 (spliced ((false, eval e env) :: backTo pos (starEach rest env))) _ E from h1).go m1 r1 l1 fun vs xs F2 K2 H2 s2 l2 m2 r2 hxs q => ⟨rfl, fun b o e => r2.fz b o (l2 b o e), (q K2 m2 f vs (hx.mono l2) hxs).last r2 (l1.trans l2)⟩
theorem Ev_Call0 {func : Expr} {pos} (h : Ev G fr A F H (eval func env) (fun f F1 H1 => KOk F1 f ∧ Cl G fr A F1 H1 f [] Q E) E)
    (he : autoParam (eval (.Call func [] [] pos) env = (do callWith pos (← eval func env) [] (backTo pos (starEach [] env)) (backToKw pos (keywordEach [] env)))) tac0) :
    Ev G fr A F H (eval (.Call func [] [] pos) env) Q E := fun K m R s hR => by
  refine Call_ (h.go m hR (.refl K) fun f x F1 K1 H1 s1 l1 m1 r1 hx hq => ?_) he
  obtain ⟨hk, h1⟩ := hq
  refine callW hx (hk.mono m1) rfl (PyProof.Rows.evalArgs_none ⟨rfl, fun b o e => r1.fz b o e, (h1 K1 m1 f [] hx .nil).last r1 l1⟩)
inductive TyIs (F : Fz) (H : Hp) : V → String → Prop where
  | str {x : Str} : TyIs F H (.str x) "str"
  | int {i : Int} : TyIs F H (.int i) "int"
  | tup {l : List V} : TyIs F H (.tup l) "tuple"
  | list {a : Addr} {l : List V} (h : Has H a (.list l)) : TyIs F H (.ref a) "list"
  | dict {a : Addr} {l : List (V × V)} (h : Has H a (.dict l)) : TyIs F H (.ref a) "dict"
  | frz {a : Addr} {o : Obj} {T : String} (h : F a = some o) (hc : o.cls = .type T) (hd : o.dict = none) : TyIs F H (.ref a) T
theorem TyIs.mono {F F' : Fz} {H : Hp} {x : V} {T : String} (le : F.le F') (h : TyIs F H x T) : TyIs F' H x T := by
  cases h with
  | str => exact .str
  | int => exact .int
  | tup => exact .tup
  | list h => exact .list h
  | dict h => exact .dict h
  | frz h hc hd => exact .frz (le _ _ h) hc hd
noncomputable def TyOf (s : Shared) (T : String) (v : Value) : Prop := s.TypeIs v T ∧ ∀ a, v = .ref a → ∃ ob, s.heap.get? a = some ob ∧ ob.dict = none
theorem ty_of {s : Shared} {a : Addr} {o : Obj} {T : String} (h : s.heap.get? a = some o) (hc : o.cls = .type T) (hd : o.dict = none) : TyOf s T (.ref a) :=
  ⟨⟨_, h, hc⟩, fun b e => by cases e; exact ⟨_, h, hd⟩⟩
theorem TyIs.typeIs {R : Hp} {s : Shared} {x : V} {T : String} {v : Value} (h : TyIs F H x T) (hR : Rep G fr F (H ++ R) s) (hv : RV F v x) : TyOf s T v := by
  cases h with
  | str => exact hv.e_str (P := TyOf s _) fun _ => ⟨typeIs_str _ _ _, fun _ e => nomatch e⟩
  | int => exact hv.e_int (P := TyOf s _) fun _ => ⟨typeIs_int _ _ _, fun _ e => nomatch e⟩
  | tup => exact hv.e_tup (P := TyOf s _) fun _ _ _ h _ _ => ty_of (hR.fz _ _ h) rfl rfl
  | list h =>
    obtain ⟨o, ho, vs, n, rfl, _⟩ := hR.has h
    exact hv.e_ref (P := TyOf s _) (ty_of ho rfl rfl)
  | dict h =>
    obtain ⟨o, ho, vs, n, rfl, _⟩ := hR.has h
    exact hv.e_ref (P := TyOf s _) (ty_of ho rfl rfl)
  | frz h hc hd => exact hv.e_ref (P := TyOf s _) (ty_of (hR.fz _ _ h) hc hd)

inductive Meth (G : Glob) (fr : List Env) (A : Around) (env : Env) (pos : Pos) (args : List Expr) (name : Str) (Q : V → Fz → Hp → Prop) (E : Value → Fz → Hp → Prop) (x : V) (F1 : Fz) (H1 : Hp) : Prop where
  | mk (T id : String) (h1 : PlainAttrs T) (h2 : Slot T name id) (h3 : typeOf (.builtin id) = pure (.type "method_descriptor")) (h4 : TyIs F1 H1 x T)
    (h : Evs G fr A F1 H1 (spliced (backTo pos (starEach args env))) (fun xs F2 H2 => Cl G fr A F2 H2 (.blt id) (x :: xs) Q E) E)
theorem Ev_method {o : Expr} {name : Str} {apos pos : Pos} {args : List Expr}
    (h : Ev G fr A F H (eval o env) (Meth G fr A env pos args name Q E) E)
    (hbase : autoParam (attributeBase o name env (eval o env) = eval o env) tac0)
    (hfew : autoParam (((backTo pos (starEach args env)).all (fun x => !x.1) && (backToKw pos (keywordEach [] env)).all (fun x => x.1.isSome)
      && decide (args.length + ([] : List Keyword).length + (if ([] : List Keyword).isEmpty then 0 else 1) < 30)) = true) tac0)
    (hline : autoParam ((apos.endLine == pos.line) = true) tac0)
    (hargs : ∀ f (Q : Args → Shared → Prop) E s, wpAny G.M A (spliced (backTo pos (starEach args env))) (fun vs s' => Q ⟨vs, []⟩ s') E s → wpAny G.M A (evalArgs f true (backTo pos (starEach args env)) []) Q E s := by intro _ _ _ _ h; first | exact evalArgs_plain h | exact Mine.evalArgs_nil' h)
    (hplain : autoParam ((backTo pos (starEach args env)).any (·.1) = false) tac0) :
    Ev G fr A F H (eval (.Call (.Attribute o name apos) args [] pos) env) Q E := fun K m R s hR => by
  refine wpAny_Call_method_lateS hbase hfew hline (h.go m hR (.refl K) fun v x F1 K1 H1 s1 l1 m1 r1 hx hq => ?_)
  obtain ⟨T, id, pa, sl, ht, ty, h1⟩ := hq
  obtain ⟨t1, t2⟩ := (ty.mono m1).typeIs r1 hx
  refine ⟨T, id, pa, sl, ht, t1, t2, callWith_builtin hplain (hargs _ _ _ _ ?_)⟩
  exact h1.go m1 r1 l1 fun vs xs F2 K2 H2 s2 l2 m2 r2 hxs q => (q K2 m2 (.builtin id) (v :: vs) .blt (.cons (hx.mono l2) hxs)).last r2 (l1.trans l2)
theorem evalArgs_nil' {M : Model} {pos : Pos} {f : Value} {E : Value → Shared → Prop} {s : Shared} {Q : Args → Shared → Prop} (h : wpAny M A (spliced (backTo pos (starEach [] env))) (fun vs s' => Q ⟨vs, []⟩ s') E s) : wpAny M A (evalArgs f true (backTo pos (starEach [] env)) []) Q E s := by
  have h' : wpAny M A (pure [] : Sem (List Value)) (fun vs s' => Q ⟨vs, []⟩ s') E s := h
  intro Γ p hΓ
  exact PyProof.Rows.evalArgs_none (h' Γ p hΓ) Γ p hΓ
end

section
variable {G : Glob} {fr : List Env} {A : Around} {F : Fz} {H : Hp} {E : Value → Fz → Hp → Prop} {E' : Addr → Value → Fz → Hp → Prop} {Q : V → Fz → Hp → Prop}
inductive CodeF (F : Fz) (cd : Value) (q : Str) : Prop where
  | intro (c : Addr) (o : Obj) (vs : Array Value) (t : Tok) (h1 : cd = .ref c) (h2 : F c = some o) (h3 : o.data = .fields vs) (h4 : vs[1]? = some (.str q t))
theorem CodeF.mono {F F' : Fz} {cd : Value} {q : Str} (le : F.le F') (h : CodeF F cd q) : CodeF F' cd q := by obtain ⟨c, o, vs, t, e, g, d, r⟩ := h; exact ⟨c, o, vs, t, e, le _ _ g, d, r⟩
theorem CodeF.crec {cd : Value} {q : Str} {h : Heap} (x : CodeF F cd q) (k : ∀ a o, F a = some o → h.get? a = some o) : h.CodeRec cd q := by obtain ⟨c, o, vs, t, e, g, d, r⟩ := x; exact ⟨c, o, vs, t, e, k _ _ g, d, r⟩
structure Deep (A A' : Around) (env : Env) : Prop where
  handled : A'.handled = A.handled
  depth : A'.depth = A.depth + 1
  units : A'.units = A.units + 3
  guards : A'.guards = A.guards
  frames : A'.frames = A.frames.map (env :: ·)
theorem deep (A : Around) (env : Env) : Deep A (A.deeper env) env := ⟨rfl, rfl, rfl, rfl, rfl⟩
structure Ok (fr : List Env) (A : Around) (n : Nat) : Prop where
  handled : A.handled = none
  depth : A.depth + n < recursionLimit
  units : A.units + 8 * n < cLine
  guards : A.guards = some []
  frames : A.frames = some fr
theorem Ok.room {fr : List Env} {A : Around} {n : Nat} (h : Ok fr A n) : A.depth < recursionLimit := Nat.lt_of_le_of_lt (Nat.le_add_right _ _) h.depth
theorem Ok.deep {fr : List Env} {A A' : Around} {env : Env} {n : Nat} (h : Ok fr A (n + 1)) (d : Deep A A' env) : Ok (env :: fr) A' n :=
  ⟨d.handled.trans h.handled, by rw [d.depth]; have := h.depth; lia, by rw [d.units]; have := h.units; lia, d.guards.trans h.guards, by rw [d.frames, h.frames]; rfl⟩
theorem Ok.less {fr : List Env} {A : Around} {n m : Nat} (h : Ok fr A n) (hm : m ≤ n) : Ok fr A m := ⟨h.handled, Nat.lt_of_le_of_lt (Nat.add_le_add_left hm _) h.depth, Nat.lt_of_le_of_lt (Nat.add_le_add_left (Nat.mul_le_mul_left 8 hm) _) h.units, h.guards, h.frames⟩
inductive Ret (L : Addr) (Q : V → Fz → Hp → Prop) (fv : FV) (F : Fz) (H : Hp) : Prop where
  | intro (ρ : List (Str × Option V)) (H' : Hp) (hr : Rem H L (.ns ρ) H') (h : Q (match fv with | .ret x => x | _ => .none) F H')
noncomputable def Leaves (G : Glob) (fr : List Env) (A : Around) (env : Env) (E E' : Value → Fz → Hp → Prop) : Prop :=
  (∀ e ∈ fr, e.frame ≠ env.frame) → ∀ K R e s, PQ G (env :: fr) K R (fun e => Dn (E e)) e s → wpAny G.M (A.deeper env) (leaving env e) (fun _ s' => PQ G fr K R (fun e => Dn (E' e)) e s') (fun e' s' => PQ G fr K R (fun e => Dn (E' e)) e' s') s
theorem leaves_no {env : Env} : Leaves G fr A env No E := fun _ _ _ _ _ h => (noPQ h).elim
noncomputable def mkRho (ns : List Str) (xs : List V) (r : List Str) : List (Str × Option V) := (ns.zip xs).map (fun p => (p.1, some p.2)) ++ r.map fun n => (n, none)
theorem mkRho_names {ns : List Str} {xs : List V} {r : List Str} (h : ns.length = xs.length) : (mkRho ns xs r).map (·.1) = ns ++ r := by
  unfold mkRho
  rw [List.map_append, List.map_map, List.map_map]
  show (ns.zip xs).map Prod.fst ++ r.map id = _
  rw [List.map_fst_zip (Nat.le_of_eq h), List.map_id]
theorem zip_rv {ns : List Str} {xs : List V} {vs : List Value} (hl : ns.length = xs.length) (hv : RVs F vs xs) : ∀ q ∈ ns.zip xs, ∃ v, (q.1, v) ∈ ns.zip vs ∧ RV F v q.2 := by
    intro q hq
    induction hv generalizing ns with
    | nil => rw [List.zip_nil_right] at hq; cases hq
    | cons h t ih =>
      cases ns with
      | nil => cases hq
      | cons n ns =>
        rcases List.mem_cons.mp hq with rfl | hq
        · exact ⟨_, .head _, h⟩
        · obtain ⟨v, b, c⟩ := ih (Nat.succ.inj hl) hq
          exact ⟨v, .tail _ b, c⟩
theorem mem_mkRho {ns : List Str} {xs : List V} {r : List Str} {vs : List Value} (hl : ns.length = xs.length) (hv : RVs F vs xs) : ∀ p ∈ mkRho ns xs r, (p.1 ∈ r ∧ p.2 = none) ∨ ∃ x v, p.2 = some x ∧ (p.1, v) ∈ ns.zip vs ∧ RV F v x := by
  intro p hp
  rcases List.mem_append.mp hp with hp | hp
  · obtain ⟨q, hq, rfl⟩ := List.mem_map.mp hp
    obtain ⟨v, b, c⟩ := zip_rv hl hv q hq
    exact .inr ⟨_, v, rfl, b, c⟩
  · obtain ⟨n, hn, rfl⟩ := List.mem_map.mp hp
    exact .inl ⟨hn, rfl⟩
theorem lookup_mem {β : Type} {l : List (Str × β)} {n : Str} {v : β} (nd : (l.map (·.1)).Nodup) (h : (n, v) ∈ l) : l.lookup n = some v := by
  induction l with
  | nil => cases h
  | cons p l ih =>
    rw [List.map_cons, List.nodup_cons] at nd
    rcases List.mem_cons.mp h with e | h
    · subst e
      rw [List.lookup_cons, beq_self_eq_true]
    · have hne : (n == p.1) = false := by
        refine beq_eq_false_iff_ne.mpr fun e => nd.1 ?_
        have := List.mem_map_of_mem (f := fun q : Str × β => q.1) h
        exact e ▸ this
      rw [List.lookup_cons, hne]
      exact ih nd.2 h
theorem zip_names {ns : List Str} {vs : List Value} (h : ns.length = vs.length) : (ns.zip vs).map (·.1) = ns := by
  rw [List.map_fst_zip]; lia
theorem call_def {a : Addr} {fo : Obj} {name qual : Str} {params : Arguments} {scope : Scope} {cl : List (Str × Addr)} {dV kV doc pm cdv ct : Value} {an : Option Addr} {body : List Stmt} {xs : List V} (hf : F a = some fo)
    (hd : fo.data = .func (fnX name qual params body scope cl dV kV doc pm an cdv ct)) (hcd : CodeF F cdv qual)
    (ns rest : List Str) (hn : ns.length = xs.length) (hnd : (ns ++ rest).Nodup) (hbind : ∀ vs : List Value, vs.length = xs.length → bindArgs (fnX name qual params body scope cl dV kV doc pm an cdv ct) ⟨vs, []⟩ = pure (ns.zip vs))
    (hcell : (scope.names.all fun x => x.2 != .cell) = true) (hloc : (ns.all fun x => decide (scope.names.lookup x = some .local)) = true)
    (hroom : A.depth < recursionLimit) (hE : ∀ L, Leaves G fr A (envX qual scope L a cdv cl) (E' L) E)
    (h : ∀ L A', Deep A A' (envX qual scope L a cdv cl) → Ex G (envX qual scope L a cdv cl :: fr) A' F ((L, .ns (mkRho ns xs rest)) :: H) (execs body (envX qual scope L a cdv cl)) (Ret L Q) (E' L))
    (hco : autoParam (scope.isCoroutine = false) tac0) (hgen : autoParam (scope.isGenerator = false) tac0) (hk : autoParam (scope.kind = .function) tac0) :
    Cl G fr A F H (.ref a) xs Q E := fun K m v vs hv hvs R s hR => by
  obtain rfl := hv.i_ref
  have hlen := hvs.length
  refine wpAny_call (codeAny_call_def hroom (hR.fz _ _ (m _ _ hf)) hd hR.glob.2.2 ((hcd.mono m).crec hR.fz) rfl (BindsTo.of_eq (hbind vs hlen)) (fun x hx => by simpa using List.all_eq_true.mp hcell x hx) (fun x hx => of_decide_eq_true (List.all_eq_true.mp hloc _ (List.of_mem_zip hx).1)) (fun h₀ hns₀ hk₀ => ?_) hco hgen hk)
  have nd1 : ((ns.zip vs).reverse.map (·.1)).Nodup := by
    rw [List.map_reverse, (List.reverse_perm _).nodup_iff, zip_names (by lia)]
    exact (List.nodup_append.mp hnd).1
  have fresh : ∀ env ∈ fr, env.frame ≠ some s.heap.objs.size := fun env he e => by
    obtain ⟨L, ρ, q, m⟩ := (hR.frs env he).2
    obtain ⟨_, o, g, _⟩ := hR.own _ m
    rw [Option.some.inj (q.symm.trans e)] at g
    exact absurd (Heap.lt_size g) (Nat.lt_irrefl _)
  have r1 : Rep G (envX qual scope s.heap.objs.size a cdv cl :: fr) K (((s.heap.objs.size, AO.ns (mkRho ns xs rest)) :: H) ++ R) { s with heap := h₀, toks := s.toks + (ns.zip vs).length } := by
    obtain ⟨o, es, ep, ho, hdd, hkk, hff⟩ := hns₀
    have := hR.new (D := s.heap.objs.size) (x := AO.ns (mkRho ns xs rest)) (tk := s.toks + (ns.zip vs).length) (dr := s.drawn) hk₀ (none_at_size _) ho ⟨es, ep, hdd, hkk, by rw [mkRho_names hn]; exact hnd, fun p hp => by
      rcases mem_mkRho hn hvs p hp with ⟨h1, h2⟩ | ⟨x, v, h1, h2, h3⟩
      · rw [h2]
        trivial
      · rw [h1]
        exact ⟨v, (hff _).trans (lookup_mem nd1 (List.mem_reverse.mpr h2)), h3⟩⟩
    exact ⟨this.gok, this.base, this.fz, this.own, this.nd, fun env he => by
      rcases List.mem_cons.mp he with rfl | he
      · exact ⟨hk, _, _, rfl, .head _⟩
      · exact this.frs env he, this.gens, this.os⟩
  refine wpAny_mono (h s.heap.objs.size _ (deep A _) K m R _ r1) (fun f s' hq => ?_) fun e s' q => wpAny_mono (hE _ fresh K R e s' q) (fun _ _ x => x) fun _ _ x => x
  obtain ⟨F', H', l', r', fv, hfv, F1, m1, ρ, H2, hrem, q⟩ := hq
  have r2 : Rep G fr F' (H2 ++ R) s' := (r'.pop.perm (hrem.perm.append_right R)).drop fresh
  refine ⟨F', H2, l', r2, _, ?_, F1, m1, q⟩
  cases hfv with
  | next => exact .none
  | brk => exact .none
  | cont => exact .none
  | ret hx => exact hx
end
section
variable {G : Glob} {fr : List Env} {A : Around} {env : Env} {F : Fz} {H H' : Hp} {E : Value → Fz → Hp → Prop} {Q : V → Fz → Hp → Prop}

theorem RVs.toArr {vs : Array Value} {l : List V} (h : RVs F vs.toList l) : vs.size = l.length := by rw [← h.length]; simp
theorem cl_b1 {n : String} {x : V} (k : ∀ K, F.le K → ∀ a, RV K a x → EvAt G fr A K H (call (.builtin n) [a]) Q E) : Cl G fr A F H (.blt n) [x] Q E := fun K m v vs hv hvs => hv.e_blt (P := fun v => EvAt _ _ _ _ _ (call v vs) _ _) (hvs.e1 (P := fun vs => EvAt _ _ _ _ _ (call _ vs) _ _) (k K m))
theorem cl_b2 {n : String} {x y : V} (k : ∀ K, F.le K → ∀ a b, RV K a x → RV K b y → EvAt G fr A K H (call (.builtin n) [a, b]) Q E) : Cl G fr A F H (.blt n) [x, y] Q E := fun K m v vs hv hvs => hv.e_blt (P := fun v => EvAt _ _ _ _ _ (call v vs) _ _) (hvs.e2 (P := fun vs => EvAt _ _ _ _ _ (call _ vs) _ _) (k K m))
theorem cl_b3 {n : String} {x y z : V} (k : ∀ K, F.le K → ∀ a b c, RV K a x → RV K b y → RV K c z → EvAt G fr A K H (call (.builtin n) [a, b, c]) Q E) : Cl G fr A F H (.blt n) [x, y, z] Q E := fun K m v vs hv hvs => hv.e_blt (P := fun v => EvAt _ _ _ _ _ (call v vs) _ _) (hvs.e3 (P := fun vs => EvAt _ _ _ _ _ (call _ vs) _ _) (k K m))
theorem cl_t0 {n : String} (k : ∀ K, F.le K → EvAt G fr A K H (call (.type n) []) Q E) : Cl G fr A F H (.typ n) [] Q E := fun K m v vs hv hvs => hv.e_typ (P := fun v => EvAt _ _ _ _ _ (call v vs) _ _) (hvs.e0 (P := fun vs => EvAt _ _ _ _ _ (call _ vs) _ _) (k K m))
theorem cl_t1 {n : String} {x : V} (k : ∀ K, F.le K → ∀ a, RV K a x → EvAt G fr A K H (call (.type n) [a]) Q E) : Cl G fr A F H (.typ n) [x] Q E := fun K m v vs hv hvs => hv.e_typ (P := fun v => EvAt _ _ _ _ _ (call v vs) _ _) (hvs.e1 (P := fun vs => EvAt _ _ _ _ _ (call _ vs) _ _) (k K m))
theorem cl_t2 {n : String} {x y : V} (k : ∀ K, F.le K → ∀ a b, RV K a x → RV K b y → EvAt G fr A K H (call (.type n) [a, b]) Q E) : Cl G fr A F H (.typ n) [x, y] Q E := fun K m v vs hv hvs => hv.e_typ (P := fun v => EvAt _ _ _ _ _ (call v vs) _ _) (hvs.e2 (P := fun vs => EvAt _ _ _ _ _ (call _ vs) _ _) (k K m))
theorem cl_t3 {n : String} {x y z : V} (k : ∀ K, F.le K → ∀ a b c, RV K a x → RV K b y → RV K c z → EvAt G fr A K H (call (.type n) [a, b, c]) Q E) : Cl G fr A F H (.typ n) [x, y, z] Q E := fun K m v vs hv hvs => hv.e_typ (P := fun v => EvAt _ _ _ _ _ (call v vs) _ _) (hvs.e3 (P := fun vs => EvAt _ _ _ _ _ (call _ vs) _ _) (k K m))
theorem notNs_dict {l l' : List (V × V)} : (∃ ρ, AO.dict l = .ns ρ) → ∃ ρ, AO.dict l' = .ns ρ := fun h => by obtain ⟨_, q⟩ := h; cases q
theorem notNs_attrs {l l' : List (Str × V)} : (∃ ρ, AO.attrs l = .ns ρ) → ∃ ρ, AO.attrs l' = .ns ρ := fun h => by obtain ⟨_, q⟩ := h; cases q
theorem notNs_list {l l' : List V} : (∃ ρ, AO.list l = .ns ρ) → ∃ ρ, AO.list l' = .ns ρ := fun h => by obtain ⟨_, q⟩ := h; cases q
theorem len_list {a : Addr} {l : List V} (hm : Has H a (.list l)) (hl : l.length < 2 ^ 63) (h : Q (.int l.length) F H) : Cl G fr A F H (.blt "len") [.ref a] Q E := cl_b1 fun K m v hv => by
    refine hv.e_ref (P := fun v => EvAt _ _ _ _ _ (call _ [v]) _ _) fun R s hR => ?_
    obtain ⟨o, ho, items, n, rfl, hr⟩ := hR.has hm
    have e := hr.toArr
    refine call_len_list ⟨_, ho, rfl, n, rfl⟩ (by rw [e]; exact_mod_cast hl) ?_
    rw [e]
    exact vret (hR.toks _) .int m h
theorem divmod_ii {i j : Int} (hj : j ≠ 0) (hs : j.natAbs < 1073741824) (h : Q (.tup [.int (i.fdiv j), .int (i.fmod j)]) F H) : Cl G fr A F H (.blt "divmod") [.int i, .int j] Q E := cl_b2 fun K m v w hv hw => by
      refine hv.e_int (P := fun v => EvAt _ _ _ _ _ (call _ [v, w]) _ _) fun t => hw.e_int (P := fun w => EvAt _ _ _ _ _ (call _ [_, w]) _ _) fun u R s hR => ?_
      refine divmod_int hj ?_ (.inl (PyProof.noPylong_small hs))
      obtain ⟨le, r⟩ := hR.newF (D := s.heap.objs.size) (tk := s.toks + 1 + 1) (dr := s.drawn) (fun b o e => Heap.get?_push_of_some { cls := .type "tuple", data := .seq #[.int (i.fdiv j) s.toks, .int (i.fmod j) (s.toks + 1)] } e) (none_at_size _) (Heap.get?_push_size _ rfl)
      exact ⟨_, H, le, r, _, .tup (vs := [.int (i.fdiv j) s.toks, .int (i.fmod j) (s.toks + 1)]) (Fz.add_self _ _ _) rfl (RVs.get (.cons .int (.cons .int .nil))), F, m.trans le, h⟩
theorem append {a : Addr} {l : List V} {x : V} (hu : Upd H a (.list l) (.list (l ++ [x])) H') (hl : l.length ≤ sizeLine) (h : Q .none F H') : Cl G fr A F H (.blt "list.append") [.ref a, x] Q E := cl_b2 fun K m w v hw h2 => by
      refine hw.e_ref (P := fun w => EvAt _ _ _ _ _ (call _ [w, v]) _ _) fun R s hR => ?_
      obtain ⟨o, ho, items, n, rfl, hr⟩ := hR.get hu.mem
      have e := hr.toArr
      refine call_meets slot_list_append ⟨_, ho, rfl⟩ entry_list_append (args_list_append _ _) (PySem.AutoListH.list_append_list_val_0 a items n v (by rw [e]; exact hl)) ⟨ho, ?_⟩
      have g := Heap.get?_update_self (Obj.mapSeq fun x => x.push v) ho rfl
      exact ⟨K, H', .refl K, hR.upd' (tk := s.toks) (dr := s.drawn) hu (Heap.SameBut.update ..).extBut g ⟨_, _, rfl, by simpa using hr.append (.cons h2 .nil)⟩ notNs_list, _, .none, F, m, h⟩

theorem As_Name {x : Str} {pos} {y : V} {Q : Fz → Hp → Prop} (h : Store env x y F H Q) (hk : autoParam (env.scope.kind = .function) tac0) (hl : autoParam (env.kindOf x = some .local) tac0) :
    As G fr A env F H (.Name x pos) y Q E := fun K m v hv R s hR => wpAny_assign_Name (store m hv h hk hl R s hR)
noncomputable def Stores (env : Env) : List Str → List V → Fz → Hp → (Fz → Hp → Prop) → Prop
  | x :: xs, y :: ys, F, H, Q => Store env x y F H fun F1 H1 => Stores env xs ys F1 H1 Q
  | [], [], F, H, Q => Q F H
  | _, _, _, _, _ => False
noncomputable def nameOf? : Expr → Option (Str × Pos)
  | .Name x p => some (x, p)
  | _ => none
noncomputable def namesOf? : List Expr → Option (List Str)
  | [] => some []
  | e :: r => match nameOf? e, namesOf? r with
    | some p, some xs => some (p.1 :: xs)
    | _, _ => none
theorem nameOf_eq {e : Expr} {p : Str × Pos} (h : nameOf? e = some p) : e = .Name p.1 p.2 := by
  cases e <;> first | (cases h; rfl) | cases h
theorem namesOf_ind {P : List Expr → List Str → Prop} (h0 : P [] []) (h1 : ∀ x pos es xs, P es xs → P (.Name x pos :: es) (x :: xs)) : ∀ (es : List Expr) (xs : List Str), namesOf? es = some xs → P es xs
  | [], xs, h => Option.some.inj h ▸ h0
  | e :: r, xs, h => by
    have h : (match nameOf? e, namesOf? r with
      | some p, some xs => some (p.1 :: xs)
      | _, _ => none) = some xs := h
    cases e1 : nameOf? e with
    | none => rw [e1] at h; cases h
    | some p =>
      cases e2 : namesOf? r with
      | none => rw [e1, e2] at h; cases h
      | some ys =>
        rw [e1, e2] at h
        rw [nameOf_eq e1, ← Option.some.inj h]
        exact h1 _ _ _ _ (namesOf_ind h0 h1 r ys e2)
theorem assignAll_ (hk : env.scope.kind = .function) {es : List Expr} {xs : List Str} {ys : List V} {vs : List Value} {F K : Fz} {H : Hp} {Q : Fz → Hp → Prop} (m : F.le K) (hn : namesOf? es = some xs) (hl : ∀ x ∈ xs, env.kindOf x = some .local) (hv : RVs K vs ys) (h : Stores env xs ys F H Q) :
    TpAt G fr A K H (assignInOrder ((assignEach es env).map (·.2)) vs) (fun _ => Dn Q) E := by
  refine namesOf_ind (P := fun es xs => ∀ (ys : List V) (vs : List Value) (F K : Fz) (H : Hp), F.le K → (∀ x ∈ xs, env.kindOf x = some .local) → RVs K vs ys → Stores env xs ys F H Q → TpAt G fr A K H (assignInOrder ((assignEach es env).map (·.2)) vs) (fun _ => Dn Q) E) ?_ ?_ es xs hn ys vs F K H m hl hv h
  · intro ys vs F K H m hl hv h
    cases hv with
    | nil => exact fun R s hR => wpAny_pure (tret (Q := fun _ => Q) hR m h)
    | cons => exact h.elim
  · intro x pos es xs ih ys vs F K H m hl hv h R s hR
    cases hv with
    | nil => exact h.elim
    | @cons v y vs ys h1 h2 =>
      show wpAny _ _ (do holding vs (assign (.Name x pos) env v); assignInOrder ((assignEach es env).map (·.2)) vs) _ _ s
      refine wpAny_bind (wpAny_holding (wpAny_assign_Name ((store (G := G) (fr := fr) (A := A) (E := E) m h1 (show Store _ _ _ _ _ _ from h) hk (hl x (.head _))).seq hR (.refl K) fun _ K2 H2 s2 l2 r2 hq => ?_)))
      obtain ⟨F2, m2, q⟩ := hq
      exact (ih ys vs F2 K2 H2 m2 (fun x hx => hl x (.tail _ hx)) (h2.mono l2) q).last r2 l2
theorem extBut_keeps {h h' : Heap} (x : Heap.ExtBut h.objs.size h h') : ∀ b o, h.get? b = some o → h'.get? b = some o := fun b o e => x b o (Nat.ne_of_lt (Heap.lt_size e)) e
theorem assignEach_names {env : Env} {es : List Expr} {xs : List Str} (h : namesOf? es = some xs) : (assignEach es env).length = xs.length ∧ (assignEach es env).findIdx? (·.1) = none := by
  refine namesOf_ind (P := fun es xs => (assignEach es env).length = xs.length ∧ (assignEach es env).findIdx? (·.1) = none) ⟨rfl, rfl⟩ ?_ es xs h
  intro x pos es xs ih
  refine ⟨congrArg (· + 1) ih.1, ?_⟩
  show ((false, assign (.Name x pos) env) :: assignEach es env).findIdx? (·.1) = none
  rw [List.findIdx?_cons, ih.2]
  rfl
theorem As_Tuple {es : List Expr} {k pos} {xs : List Str} {ys : List V} {Q : Fz → Hp → Prop} (hh : A.handled = none) (hn : namesOf? es = some xs) (hl : (xs.all fun x => decide (env.kindOf x = some .local)) = true) (hlen : xs.length = ys.length) (h : Stores env xs ys F H Q)
    (hk : autoParam (env.scope.kind = .function) tac0) : As G fr A env F H (.Tuple es k pos) (.tup ys) Q E := fun K m v hv => by
  refine hv.e_tup (P := fun v => TpAt _ _ _ _ _ (assign _ _ v) _ _) fun a vs n ha hlv hr R s hR => ?_
  obtain ⟨e1, e2⟩ := assignEach_names (env := env) hn
  refine assign_Tuple_tuple (items := vs.toArray) hh ⟨_, hR.fz _ _ ha, rfl, n, rfl⟩ (by rw [e1]; simp; lia) e2 fun h' he => ?_
  exact (assignAll_ hk m hn (fun x hx => of_decide_eq_true (List.all_eq_true.mp hl x hx)) (RVs.of hlv hr) h) R _ (hR.keeps (tk := s.toks) (dr := s.drawn) (extBut_keeps he))
theorem Stores.cons {x : Str} {y : V} {xs : List Str} {ys : List V} {Q : Fz → Hp → Prop} (h : Store env x y F H fun F1 H1 => Stores env xs ys F1 H1 Q) : Stores env (x :: xs) (y :: ys) F H Q := h
theorem Stores.nil {Q : Fz → Hp → Prop} (h : Q F H) : Stores env [] [] F H Q := h
theorem Ex_Assign_Tuple {es : List Expr} {k pos' value pos} {xs : List Str} {Q : FV → Fz → Hp → Prop} (hh : A.handled = none) (hn : namesOf? es = some xs) (hl : (xs.all fun x => decide (env.kindOf x = some .local)) = true)
    (h : Ev G fr A F H (eval value env) (fun y F1 H1 => ∃ ys, y = .tup ys ∧ xs.length = ys.length ∧ Stores env xs ys F1 H1 (Q .next)) E)
    (hs : autoParam (swapsWithSole [.Tuple es k pos'] value pos.line env = pure false) tac0) (hw : autoParam (swappedStores [.Tuple es k pos'] value env = pure none) tac0) (hk : autoParam (env.scope.kind = .function) tac0) :
    Ex G fr A F H (exec (.Assign [.Tuple es k pos'] value pos) env) Q E := fun K m R s hR => by
  have he : exec (.Assign [.Tuple es k pos'] value pos) env = (do
    standAt pos
    if ← swapsWithSole [.Tuple es k pos'] value pos.line env then do
      evalThenUse value env fun v => assignAll v ((assignEach [.Tuple es k pos'] env).map (·.2))
      pure .next
    else do
      let v ← eval value env
      assignStores env v (← swappedStores [.Tuple es k pos'] value env) ((assignEach [.Tuple es k pos'] env).map (·.2))) := rfl
  rw [he, hs, hw]
  refine wpAny_bind (wpAny_standAt (wpAny_bind (wpAny_pure ?_)))
  simp only [Bool.false_eq_true, if_false]
  refine wpAny_bind (h.go m hR (.refl K) fun v y F1 K1 H1 s1 l1 m1 r1 hy hq => wpAny_bind (wpAny_pure ?_))
  obtain ⟨ys, rfl, hlen, q⟩ := hq
  show wpAny _ _ (do assignAll v [assign (.Tuple es k pos') env]; pure Flow.next) _ _ s1
  refine wpAny_bind ?_
  show wpAny _ _ (assign (.Tuple es k pos') env v) _ _ s1
  exact (As_Tuple (G := G) (fr := fr) (E := E) hh hn hl hlen q hk K1 m1 v hy).seq r1 l1 fun _ K2 H2 s2 l2 r2 hq => wpAny_pure (by obtain ⟨F2, m2, q⟩ := hq; exact upPQ (l1.trans l2) (fret r2 .next m2 q))
theorem Ex_Expr {e pos} {Q : FV → Fz → Hp → Prop} (h : Ev G fr A F H (eval e env) (fun x F1 H1 => x = .none ∧ Q .next F1 H1) E) (hi : autoParam (interactive env = false) tac0) (hs : autoParam (swapsWith e none pos.line env = pure false) tac0) :
    Ex G fr A F H (exec (.Expr e pos) env) Q E := fun K m R s hR =>
  wpAny_Expr (h.go m hR (.refl K) fun v x F1 K1 H1 s1 l1 m1 r1 hx hq => by
    obtain ⟨rfl, q⟩ := hq
    obtain rfl := hx.i_none
    exact upPQ l1 (fret r1 .next m1 q)) hi hs
theorem Ev_List {elts : List Expr} {pos} (h : Evs G fr A F H (spliced (backTo pos (starEach elts env))) (fun xs F1 H1 => xs.length ≤ sizeLine ∧ ∀ a, Q (.ref a) F1 ((a, .list xs) :: H1)) E) : Ev G fr A F H (eval (.List elts pos) env) Q E := fun K m R s hR =>
  wpAny_List (h.go m hR (.refl K) fun vs xs F1 K1 H1 s1 l1 m1 r1 hxs hq => ⟨hxs.length.symm ▸ hq.1, K1, (s1.heap.objs.size, .list xs) :: H1, l1, r1.new (tk := s1.toks) (dr := s1.drawn) (fun b o e => Heap.get?_push_of_some _ e) (none_at_size _) (Heap.get?_push_size _ rfl) ⟨vs.toArray, 0, rfl, hxs⟩, _, .ref, F1, m1, hq.2 _⟩)
theorem Ev_ListF {elts : List Expr} {pos} (h : Evs G fr A F H (spliced (backTo pos (starEach elts env))) (fun xs F1 H1 => xs.length ≤ sizeLine ∧ Q (.lst xs) F1 H1) E) : Ev G fr A F H (eval (.List elts pos) env) Q E := fun K m R s hR =>
  wpAny_List (h.go m hR (.refl K) fun vs xs F1 K1 H1 s1 l1 m1 r1 hxs hq => by
    obtain ⟨hl, q⟩ := hq
    refine ⟨hxs.length.symm ▸ hl, ?_⟩
    obtain ⟨le, r⟩ := r1.newF (tk := s1.toks) (dr := s1.drawn) (fun b o e => Heap.get?_push_of_some _ e) (none_at_size s1.heap) (Heap.get?_push_size s1.heap (o := { cls := .type "list", data := .seq vs.toArray }) rfl)
    exact ⟨_, H1, l1.trans le, r, _, .lst (Fz.add_self _ _ _) rfl rfl hxs.length (hxs.mono le).get, F1, m1.trans le, q⟩)
theorem Ev_Tuple {elts : List Expr} {k pos} (h : Evs G fr A F H (spliced (backTo pos (starEach elts env))) (fun xs F1 H1 => xs.length ≤ sizeLine ∧ Q (.tup xs) F1 H1) E) : Ev G fr A F H (eval (.Tuple elts k pos) env) Q E := fun K m R s hR =>
  wpAny_Tuple (h.go m hR (.refl K) fun vs xs F1 K1 H1 s1 l1 m1 r1 hxs hq => by
    obtain ⟨hl, q⟩ := hq
    refine ⟨hxs.length.symm ▸ hl, ?_⟩
    obtain ⟨le, r⟩ := r1.newF (tk := s1.toks) (dr := s1.drawn) (fun b o e => Heap.get?_push_of_some _ e) (none_at_size s1.heap) (Heap.get?_push_size s1.heap (o := { cls := .type "tuple", data := .seq vs.toArray }) rfl)
    exact ⟨_, H1, l1.trans le, r, _, .tup (Fz.add_self _ _ _) hxs.length (hxs.mono le).get, F1, m1.trans le, q⟩)
theorem list_freeze {fr : List Env} {R : Hp} {s : Shared} {a : Addr} {l : List V} (r : Rep G fr F ((a, .list l) :: H ++ R) s) : ∃ F', F.le F' ∧ Rep G fr F' (H ++ R) s ∧ RV F' (.ref a) (.lst l) := by
  obtain ⟨o, ⟨vs, n, rfl, hr⟩, le, r'⟩ := Rep.freeze r fun ρ q => nomatch q
  exact ⟨_, le, r', .lst (vs := vs.toList) (n := n) (Fz.add_self _ _ _) rfl rfl hr.length (hr.mono le).get⟩
theorem Cl.freeze {f : V} {xs : List V} (h : Cl G fr A F H f xs (fun x F1 H1 => ∃ a l H2, x = .ref a ∧ Rem H1 a (.list l) H2 ∧ Q (.lst l) F1 H2) E) : Cl G fr A F H f xs Q E := fun K m v vs hv hvs R s hR => by
  refine wpAny_mono (h K m v vs hv hvs R s hR) (fun v s' hq => ?_) fun _ _ x => x
  obtain ⟨K1, H1, l1, r1, x, hx, F1, m1, a, l, H2, rfl, hrem, q⟩ := hq
  obtain rfl := hx.i_ref
  obtain ⟨K2, l2, r2, hv2⟩ := list_freeze (r1.perm (hrem.perm.append_right R))
  exact ⟨K2, H2, l1.trans l2, r2, _, hv2, F1, m1.trans l2, q⟩
theorem Rep.freezeN {R : Hp} {s : Shared} {x : Str} {L a : Addr} {l : List V} {ρ ρ' : List (Str × Option V)} {H1 H2 : Hp} (hr : Rem H a (.list l) H1) (hu : Upd H1 L (.ns ρ) (.ns ρ') H2) (hx : Lk ρ x (.ref a)) (hs : SetL ρ x (some (.lst l)) ρ')
    (hR : Rep G fr F (H ++ R) s) : ∃ F', F.le F' ∧ Rep G fr F' (H2 ++ R) s := by
  obtain ⟨F', le, r1, hv⟩ := list_freeze (hR.perm (hr.perm.append_right R))
  refine ⟨F', le, ?_⟩
  obtain ⟨o, ho, es, ep, hd, hk, nd, hp⟩ := r1.get hu.mem
  refine r1.upd' (h' := s.heap) (tk := s.toks) (dr := s.drawn) (o' := o) hu (Heap.ExtBut.refl _ _) ho ⟨es, ep, hd, hk, by rw [hs.names.1]; exact nd, fun p hpm => ?_⟩ fun _ => ⟨_, rfl⟩
  rcases hs.spec nd p hpm with ⟨h1, h2⟩ | ⟨h1, h2⟩
  · rw [h2]
    obtain ⟨v, q1, q2⟩ := hp _ hx.mem
    obtain rfl := q2.i_ref
    exact ⟨_, by rw [h1]; exact q1, hv⟩
  · exact hp p h2
theorem Ex_freeze {t : Sem Flow} {Q : FV → Fz → Hp → Prop} (x : Str) {L a : Addr} {l : List V} {ρ ρ' : List (Str × Option V)} {H1 H2 : Hp} (hr : Rem H a (.list l) H1) (hu : Upd H1 L (.ns ρ) (.ns ρ') H2) (hx : Lk ρ x (.ref a)) (hs : SetL ρ x (some (.lst l)) ρ')
    (h : Ex G fr A F H2 t Q E) : Ex G fr A F H t Q E := fun K m R s hR => by
  obtain ⟨K', le, r2⟩ := Rep.freezeN hr hu hx hs hR
  exact h.last (m.trans le) r2 le
end
noncomputable def mkRhoB : List Bool → List Str → List V → List Str → List (Str × Option V)
  | true :: ks, n :: ns, x :: xs, r => (n, some x) :: mkRhoB ks ns xs r
  | false :: ks, _ :: ns, _ :: xs, r => mkRhoB ks ns xs r
  | _, _, _, r => r.map fun n => (n, none)
noncomputable def initB : List Bool → List Str → List V → Str → Option V
  | true :: ks, _ :: ns, _ :: xs, c => initB ks ns xs c
  | false :: ks, n :: ns, x :: xs, c => if n = c then some x else initB ks ns xs c
  | _, _, _, _ => none
noncomputable def namesB : List Bool → List Str → List Str
  | true :: ks, n :: ns => n :: namesB ks ns
  | false :: ks, _ :: ns => namesB ks ns
  | _, _ => []
noncomputable def kindB (k : Str → Option NameKind) : List Bool → List Str → Bool
  | true :: ks, n :: ns => decide (k n = some .local) && kindB k ks ns
  | false :: ks, n :: ns => decide (k n = some .cell) && kindB k ks ns
  | [], [] => true
  | _, _ => false
inductive LkO (F : Fz) : Option Value → Option V → Prop where
  | none : LkO F none none
  | some {v : Value} {x : V} (h : RV F v x) : LkO F (some v) (some x)
theorem and_l {a b : Bool} (h : (a && b) = true) : a = true := by cases a with | true => rfl | false => exact h
theorem and_r {a b : Bool} (h : (a && b) = true) : b = true := by cases a with | true => exact h | false => exact Bool.noConfusion h
section
variable {F : Fz}
theorem kindB_ind {k : Str → Option NameKind} {P : List Bool → List Str → Prop} (h0 : P [] []) (h1 : ∀ ks n ns, k n = some .local → P ks ns → P (true :: ks) (n :: ns)) (h2 : ∀ ks n ns, k n = some .cell → P ks ns → P (false :: ks) (n :: ns)) :
    ∀ (ks : List Bool) (ns : List Str), kindB k ks ns = true → P ks ns
  | [], [], _ => h0
  | true :: ks, n :: ns, h => h1 _ _ _ (of_decide_eq_true (and_l h)) (kindB_ind h0 h1 h2 ks ns (and_r h))
  | false :: ks, n :: ns, h => h2 _ _ _ (of_decide_eq_true (and_l h)) (kindB_ind h0 h1 h2 ks ns (and_r h))
  | [], _ :: _, h => Bool.noConfusion (h : false = true)
  | true :: _, [], h => Bool.noConfusion (h : false = true)
  | false :: _, [], h => Bool.noConfusion (h : false = true)
theorem bindL_not {k : Str → Option NameKind} {n : Str} : ∀ {binds : List (Str × Value)} {m : Str → Option Value}, (n ∉ binds.map (·.1) ∨ k n ≠ some .local) → bindL k binds m n = m n
  | [], m, _ => rfl
  | (n', v) :: r, m, h => by
    refine (bindL_not (binds := r) (h.imp (fun q m => q (.tail _ m)) id)).trans ?_
    split
    · rename_i hk
      exact if_neg fun (e : n = n') => h.elim (fun q => q (e ▸ .head _)) fun q => q (e ▸ hk)
    · rfl
theorem bindC_not {k : Str → Option NameKind} {n : Str} : ∀ {binds : List (Str × Value)} {m : Str → Option Value}, n ∉ binds.map (·.1) → bindC k binds m n = m n
  | [], m, _ => rfl
  | (n', v) :: r, m, h => by
    refine (bindC_not (binds := r) fun m => h (.tail _ m)).trans ?_
    split
    · rfl
    · exact if_neg fun (e : n = n') => h (e ▸ .head _)
theorem mem_mkRhoB {k : Str → Option NameKind} {r : List Str} : ∀ {ks : List Bool} {ns : List Str} {xs : List V} {vs : List Value} (m : Str → Option Value), kindB k ks ns = true → ns.length = xs.length → (ns ++ r).Nodup → RVs F vs xs → (∀ n ∈ r, m n = none) →
    ∀ p ∈ mkRhoB ks ns xs r, LkO F (bindL k (ns.zip vs) m p.1) p.2 := fun {ks ns xs vs} m hk => by
  refine kindB_ind (P := fun ks ns => ∀ (xs : List V) (vs : List Value) (m : Str → Option Value), ns.length = xs.length → (ns ++ r).Nodup → RVs F vs xs → (∀ n ∈ r, m n = none) → ∀ p ∈ mkRhoB ks ns xs r, LkO F (bindL k (ns.zip vs) m p.1) p.2) ?_ ?_ ?_ ks ns hk xs vs m
  · intro xs vs m _ _ _ hm p hp
    obtain ⟨n, hn, rfl⟩ := List.mem_map.mp hp
    show LkO F (m n) none
    rw [hm n hn]; exact .none
  · intro ks n ns hk ih xs vs m hl hnd h hm p hp
    cases h with
    | nil => cases hl
    | @cons v x vs xs hv t =>
      have hl' := Nat.succ.inj hl
      have hnd := List.nodup_cons.mp hnd
      show LkO F (bindL k (ns.zip vs) (if _ then _ else _) p.1) p.2
      rw [if_pos hk]
      rcases List.mem_cons.mp hp with rfl | hp
      · show LkO F (bindL k (ns.zip vs) _ n) (some x)
        rw [bindL_not (.inl (by rw [zip_names (hl'.trans t.length.symm)]; exact fun q => hnd.1 (List.mem_append_left _ q))), if_pos rfl]
        exact .some hv
      · exact ih xs vs _ hl' hnd.2 t (fun y hy => (if_neg fun (q : y = n) => hnd.1 (q ▸ List.mem_append_right _ hy)).trans (hm y hy)) p hp
  · intro ks n ns hk ih xs vs m hl hnd h hm p hp
    cases h with
    | nil => cases hl
    | @cons v x vs xs hv t =>
      show LkO F (bindL k (ns.zip vs) (if _ then _ else _) p.1) p.2
      rw [if_neg (by rw [hk]; decide)]
      exact ih xs vs _ (Nat.succ.inj hl) (List.nodup_cons.mp hnd).2 t hm p hp
theorem initB_spec {k : Str → Option NameKind} {c : Str} (hc : k c = some .cell) : ∀ {ks : List Bool} {ns : List Str} {xs : List V} {vs : List Value} (m : Str → Option Value), kindB k ks ns = true → ns.length = xs.length → ns.Nodup → RVs F vs xs → m c = none →
    LkO F (bindC k (ns.zip vs) m c) (initB ks ns xs c) := fun {ks ns xs vs} m hk => by
  refine kindB_ind (P := fun ks ns => ∀ (xs : List V) (vs : List Value) (m : Str → Option Value), ns.length = xs.length → ns.Nodup → RVs F vs xs → m c = none → LkO F (bindC k (ns.zip vs) m c) (initB ks ns xs c)) ?_ ?_ ?_ ks ns hk xs vs m
  · intro xs vs m _ _ _ hm
    show LkO F (m c) none
    rw [hm]; exact .none
  · intro ks n ns hk ih xs vs m hl hnd h hm
    cases h with
    | nil => cases hl
    | @cons v x vs xs hv t =>
      show LkO F (bindC k (ns.zip vs) (if _ then _ else _) c) _
      rw [if_pos hk]
      exact ih xs vs _ (Nat.succ.inj hl) (List.nodup_cons.mp hnd).2 t hm
  · intro ks n ns hk ih xs vs m hl hnd h hm
    cases h with
    | nil => cases hl
    | @cons v x vs xs hv t =>
      have hl' := Nat.succ.inj hl
      show LkO F (bindC k (ns.zip vs) (if _ then _ else _) c) (if n = c then some x else _)
      rw [if_neg (by rw [hk]; decide)]
      by_cases hnc : n = c
      · rw [if_pos hnc, bindC_not (by rw [zip_names (hl'.trans t.length.symm), ← hnc]; exact (List.nodup_cons.mp hnd).1), if_pos hnc.symm]
        exact .some hv
      · rw [if_neg hnc]
        exact ih xs vs _ hl' (List.nodup_cons.mp hnd).2 t ((if_neg fun q => hnc q.symm).trans hm)
theorem mkRhoB_names {k : Str → Option NameKind} {ks : List Bool} {ns : List Str} {xs : List V} {r : List Str} (hk : kindB k ks ns = true) (hl : ns.length = xs.length) : (mkRhoB ks ns xs r).map (·.1) = namesB ks ns ++ r := by
  refine kindB_ind (P := fun ks ns => ∀ xs : List V, ns.length = xs.length → (mkRhoB ks ns xs r).map (·.1) = namesB ks ns ++ r) ?_ ?_ ?_ ks ns hk xs hl
  · exact fun xs _ => (List.map_map ..).trans (List.map_id r)
  · intro ks n ns _ ih xs hl
    cases xs with
    | nil => cases hl
    | cons x xs => exact congrArg (n :: ·) (ih xs (Nat.succ.inj hl))
  · intro ks n ns _ ih xs hl
    cases xs with
    | nil => cases hl
    | cons x xs => exact ih xs (Nat.succ.inj hl)
theorem kindB_mem {k : Str → Option NameKind} {ks : List Bool} {ns : List Str} (hk : kindB k ks ns = true) : ∀ n ∈ ns, k n = some .local ∨ (k n = some .cell ∧ (false, n) ∈ ks.zip ns) := by
  refine kindB_ind (P := fun ks ns => ∀ n ∈ ns, k n = some .local ∨ (k n = some .cell ∧ (false, n) ∈ ks.zip ns)) (fun _ h => nomatch h) ?_ ?_ ks ns hk
  · exact fun ks n ns hk ih x hx => (List.mem_cons.mp hx).elim (fun e => .inl (e ▸ hk)) fun hx => (ih x hx).imp id fun q => ⟨q.1, .tail _ q.2⟩
  · exact fun ks n ns hk ih x hx => (List.mem_cons.mp hx).elim (fun e => .inr ⟨e ▸ hk, e ▸ .head _⟩) fun hx => (ih x hx).imp id fun q => ⟨q.1, .tail _ q.2⟩
end
theorem zip_unzip' {α β : Type} : ∀ (l : List (α × β)), (l.map (·.1)).zip (l.map (·.2)) = l
  | [] => rfl
  | (a, b) :: l => congrArg ((a, b) :: ·) (zip_unzip' l)
theorem lookup_isSome {β : Type} : ∀ {l : List (Str × β)} {n : Str}, n ∈ l.map (·.1) → (l.lookup n).isSome = true
  | (n', v') :: l, n, h => by
    show (match n == n' with | true => some v' | false => l.lookup n).isSome = true
    cases e : n == n' with
    | true => rfl
    | false => exact lookup_isSome ((List.mem_cons.mp h).resolve_left (ne_of_beq_false e))
section
variable {G : Glob} {fr : List Env} {A : Around} {F : Fz} {H : Hp} {E : Value → Fz → Hp → Prop} {E' : Addr → Value → Fz → Hp → Prop} {Q : V → Fz → Hp → Prop}
theorem Rep.newCells {R : Hp} {s : Shared} (hR : Rep G fr F R s) : ∀ (cells : List (Str × Addr)) (f : Str → Option V) (H0 : Hp), (∀ p ∈ cells, F p.2 = none ∧ ∃ o, s.heap.get? p.2 = some o ∧ RO G.w F o (.cell (f p.1))) → (cells.map (·.2)).Nodup → (∀ p ∈ cells, p.2 ∉ R.map (·.1)) →
    Rep G fr F (cells.map (fun p => (p.2, AO.cell (f p.1))) ++ R) s
  | [], f, H0, _, _, _ => hR
  | p :: cells, f, H0, h, hnd, hR' => by
    rw [List.map_cons, List.nodup_cons] at hnd
    have ih := Rep.newCells hR cells f H0 (fun q hq => h q (.tail _ hq)) hnd.2 (fun q hq => hR' q (.tail _ hq))
    obtain ⟨h1, o, h2, h3⟩ := h p (.head _)
    rw [List.map_cons, List.cons_append]
    refine ⟨ih.gok, ih.base, ih.fz, fun q hq => ?_, ?_, fun e he => ⟨(ih.frs e he).1, by obtain ⟨L, ρ, a, b⟩ := (ih.frs e he).2; exact ⟨L, ρ, a, .tail _ b⟩⟩, ih.gens, ih.os⟩
    · rcases List.mem_cons.mp hq with rfl | hq
      · exact ⟨h1, o, h2, h3⟩
      · exact ih.own q hq
    · rw [List.map_cons, List.nodup_cons]
      refine ⟨fun q => ?_, ih.nd⟩
      rw [List.map_append, List.mem_append] at q
      rcases q with q | q
      · rw [List.map_map] at q
        exact hnd.1 q
      · exact hR' p (.head _) q
theorem code_cells {a : Addr} {fo : Obj} {name qual : Str} {params : Arguments} {scope : Scope} {dV kV doc pm cdv ct : Value} {an : Option Addr} {body : List Stmt} {xs : List V} (hf : F a = some fo)
    (hd : fo.data = .func (fnX name qual params body scope [] dV kV doc pm an cdv ct)) (hcd : CodeF F cdv qual)
    (ks : List Bool) (ns rest cns : List Str) {inits : List (Option V)} (hn : ns.length = xs.length) (hnd : (ns ++ rest).Nodup) (hndB : (namesB ks ns ++ rest).Nodup) (hbind : ∀ vs : List Value, vs.length = xs.length → bindArgs (fnX name qual params body scope [] dV kV doc pm an cdv ct) ⟨vs, []⟩ = pure (ns.zip vs))
    (hkind : kindB (fun x => scope.names.lookup x) ks ns = true) (hcm : ((ks.zip ns).all fun p => p.1 || cns.contains p.2) = true) (hcn : ∀ n, (cellsFrom n scope.names []).map (·.1) = cns) (hcnd : cns.Nodup) (hck : (cns.all fun x => decide (scope.names.lookup x = some .cell)) = true) (hin : cns.map (initB ks ns xs) = inits)
    (hroom : A.depth < recursionLimit) (hE : ∀ L cl, Leaves G fr A (envX qual scope L a cdv cl) (E' L) E)
    (h : ∀ L cs A', cs.length = cns.length → Deep A A' (envX qual scope L a cdv (cns.zip cs)) → Ex G (envX qual scope L a cdv (cns.zip cs) :: fr) A' F ((L, .ns (mkRhoB ks ns xs rest)) :: (cs.zip (inits.map AO.cell) ++ H)) (execs body (envX qual scope L a cdv (cns.zip cs))) (Ret L Q) (E' L))
    {K : Fz} (m : F.le K) {vs : List Value} (hvs : RVs K vs xs) {R : Hp} {s : Shared} (hR : Rep G fr K (H ++ R) s)
    (hco : autoParam (scope.isCoroutine = false) tac0) (hgen : autoParam (scope.isGenerator = false) tac0) (hk : autoParam (scope.kind = .function) tac0) :
    codeAny G.M A (.call (.ref a) ⟨vs, []⟩) (fun r s' => match r with | .ok (.ret v) => PQ G fr K R (VQ Q) v s' | .ok _ => False | .error e => PQ G fr K R (fun e => Dn (E e)) e s') s := by
  have hlen := hvs.length
  have hz : (ns.zip vs).map (·.1) = ns := zip_names (by lia)
  refine codeAny_call_cells hroom (hR.fz _ _ (m _ _ hf)) hd hR.glob.2.2 ((hcd.mono m).crec hR.fz) rfl (hbind vs hlen) rfl (fun x hx => ?_) (fun s₁ x => ?_) hco hgen hk
  · have hx' := (List.of_mem_zip hx).1
    rcases kindB_mem hkind x.1 hx' with q | ⟨q, q'⟩
    · exact .inl q
    · refine .inr ⟨q, lookup_isSome ?_⟩
      rw [hcn]
      have := List.all_eq_true.mp hcm _ q'
      simpa using this
  · have henv : callEnvC (fnX name qual params body scope [] dV kV doc pm an cdv ct) s.heap.objs.size a = envX qual scope s.heap.objs.size a cdv (cns.zip ((cellsFrom (s.heap.objs.size + 1) scope.names []).map (·.2))) := by
      rw [← hcn (s.heap.objs.size + 1), zip_unzip']; rfl
    have hcells : cns.zip ((cellsFrom (s.heap.objs.size + 1) scope.names []).map (·.2)) = cellsFrom (s.heap.objs.size + 1) scope.names [] := by rw [← hcn (s.heap.objs.size + 1), zip_unzip']
    obtain ⟨⟨⟨h₁, tk, rfl⟩, hns, hkeep, hfresh⟩, hcell, hapart, habove⟩ := x
    rw [henv]
    have hns' : h₁.Ns s.heap.objs.size (bindL (fun x => scope.names.lookup x) (ns.zip vs) fun _ => none) := hns
    have hcell' : ∀ n c, (n, c) ∈ cellsFrom (s.heap.objs.size + 1) scope.names [] → h₁.IsCell c (bindC (fun x => scope.names.lookup x) (ns.zip vs) (fun _ => none) n) := fun n c hm => hcell n c (lookup_mem (l := cellsFrom (s.heap.objs.size + 1) scope.names []) (by rw [hcn]; exact hcnd) hm)
    have habove' : ∀ n c, (n, c) ∈ cellsFrom (s.heap.objs.size + 1) scope.names [] → s.heap.objs.size < c := habove
    have hapart' : (cellsFrom (s.heap.objs.size + 1) scope.names []).Pairwise fun x y => x.2 ≠ y.2 := hapart
    have hkeep' : ∀ b o, s.heap.get? b = some o → h₁.get? b = some o := hkeep
    have fresh : ∀ env ∈ fr, env.frame ≠ some s.heap.objs.size := fun env he e => by
      obtain ⟨L, ρ, q, m⟩ := (hR.frs env he).2
      obtain ⟨_, o, g, _⟩ := hR.own _ m
      rw [Option.some.inj (q.symm.trans e)] at g
      exact absurd (Heap.lt_size g) (Nat.lt_irrefl _)
    have gone : ∀ c, s.heap.objs.size ≤ c → s.heap.get? c = none := fun c hc => by
      cases q : s.heap.get? c with
      | none => rfl
      | some o => exact absurd (Heap.lt_size q) (Nat.not_lt.mpr hc)
    have r0 : Rep G fr K (H ++ R) { s with heap := h₁, toks := tk } := hR.keeps (tk := tk) (dr := s.drawn) hkeep'
    have r1 : Rep G fr K ((cellsFrom (s.heap.objs.size + 1) scope.names []).map (fun p => (p.2, AO.cell (initB ks ns xs p.1))) ++ (H ++ R)) { s with heap := h₁, toks := tk } := by
      refine r0.newCells _ (initB ks ns xs) [] (fun p hp => ?_) ?_ fun p hp => ?_
      · have hs := habove' p.1 p.2 hp
        obtain ⟨o, ho, hdd⟩ := hcell' p.1 p.2 hp
        refine ⟨(hR.fresh (gone _ (by lia))).1, o, ho, ?_⟩
        have hkc : scope.names.lookup p.1 = some .cell := of_decide_eq_true (List.all_eq_true.mp hck p.1 (by rw [← hcn (s.heap.objs.size + 1)]; exact List.mem_map_of_mem hp))
        have q := initB_spec (F := K) hkc (fun _ => none) hkind hn (List.nodup_append.mp hnd).1 hvs rfl
        generalize initB ks ns xs p.1 = z at q ⊢
        generalize bindC (fun x => scope.names.lookup x) (ns.zip vs) (fun _ => none) p.1 = y at q hdd
        cases q with
        | none => exact hdd
        | some h2 => exact ⟨_, hdd, h2⟩
      · exact List.pairwise_map.mpr hapart'
      · exact (hR.fresh (gone _ (Nat.le_of_lt (habove' p.1 p.2 hp)))).2
    have r2 : Rep G (envX qual scope s.heap.objs.size a cdv (cns.zip ((cellsFrom (s.heap.objs.size + 1) scope.names []).map (·.2))) :: fr) K ((s.heap.objs.size, AO.ns (mkRhoB ks ns xs rest)) :: ((cellsFrom (s.heap.objs.size + 1) scope.names []).map (fun p => (p.2, AO.cell (initB ks ns xs p.1))) ++ (H ++ R))) { s with heap := h₁, toks := tk } := by
      obtain ⟨o, es, ep, ho, hdd, hkk, hff⟩ := hns'
      refine ⟨r1.gok, r1.base, r1.fz, fun q hq => ?_, ?_, fun env he => ?_, r1.gens, r1.os⟩
      · rcases List.mem_cons.mp hq with rfl | hq
        · refine ⟨(hR.fresh (none_at_size _)).1, o, ho, es, ep, hdd, hkk, by rw [mkRhoB_names hkind hn]; exact hndB, fun p hp => ?_⟩
          have q := mem_mkRhoB (F := K) (fun _ => none) hkind hn hnd hvs (fun _ _ => rfl) p hp
          generalize hz : bindL (fun x => scope.names.lookup x) (ns.zip vs) (fun _ => none) p.1 = z at q
          generalize p.2 = y at q ⊢
          cases q with
          | none => trivial
          | some h2 => exact ⟨_, (hff _).trans hz, h2⟩
        · exact r1.own q hq
      · rw [List.map_cons, List.nodup_cons]
        refine ⟨fun q => ?_, r1.nd⟩
        rw [List.map_append, List.mem_append] at q
        rcases q with q | q
        · rw [List.map_map] at q
          obtain ⟨p, hp, e⟩ := List.mem_map.mp q
          have := habove' p.1 p.2 hp
          have e' : p.2 = s.heap.objs.size := e
          rw [e'] at this
          exact Nat.lt_irrefl _ this
        · exact (hR.fresh (none_at_size _)).2 q
      · rcases List.mem_cons.mp he with rfl | he
        · exact ⟨hk, _, _, rfl, .head _⟩
        · exact ⟨(r1.frs env he).1, by obtain ⟨L, ρ, a, b⟩ := (r1.frs env he).2; exact ⟨L, ρ, a, .tail _ b⟩⟩
    have e3 : (cellsFrom (s.heap.objs.size + 1) scope.names []).map (fun p => (p.2, AO.cell (initB ks ns xs p.1))) = ((cellsFrom (s.heap.objs.size + 1) scope.names []).map (·.2)).zip (inits.map AO.cell) := by
      rw [← hin, ← hcn (s.heap.objs.size + 1)]
      generalize cellsFrom (s.heap.objs.size + 1) scope.names [] = l
      induction l with
      | nil => rfl
      | cons p l ih => simp only [List.map_cons, List.zip_cons_cons, ih]
    rw [e3, ← List.append_assoc, ← List.cons_append] at r2
    refine wpAny_mono (h s.heap.objs.size ((cellsFrom (s.heap.objs.size + 1) scope.names []).map (·.2)) _ (by rw [List.length_map, ← hcn (s.heap.objs.size + 1), List.length_map]) (deep A _) K m R _ r2) (fun f s' hq => ?_) fun e s' q => wpAny_mono (hE _ _ fresh K R e s' q) (fun _ _ x => x) fun _ _ x => x
    obtain ⟨F', H', l', r', fv, hfv, F1, m1, ρ, H2, hrem, q⟩ := hq
    have r3 : Rep G fr F' (H2 ++ R) s' := (r'.pop.perm (hrem.perm.append_right R)).drop fresh
    refine ⟨F', H2, l', r3, _, ?_, F1, m1, q⟩
    cases hfv with
    | next => exact .none
    | brk => exact .none
    | cont => exact .none
    | ret hx => exact hx
theorem call_cells {a : Addr} {fo : Obj} {name qual : Str} {params : Arguments} {scope : Scope} {dV kV doc pm cdv ct : Value} {an : Option Addr} {body : List Stmt} {xs : List V} (hf : F a = some fo)
    (hd : fo.data = .func (fnX name qual params body scope [] dV kV doc pm an cdv ct)) (hcd : CodeF F cdv qual)
    (ks : List Bool) (ns rest cns : List Str) {inits : List (Option V)} (hn : ns.length = xs.length) (hnd : (ns ++ rest).Nodup) (hndB : (namesB ks ns ++ rest).Nodup) (hbind : ∀ vs : List Value, vs.length = xs.length → bindArgs (fnX name qual params body scope [] dV kV doc pm an cdv ct) ⟨vs, []⟩ = pure (ns.zip vs))
    (hkind : kindB (fun x => scope.names.lookup x) ks ns = true) (hcm : ((ks.zip ns).all fun p => p.1 || cns.contains p.2) = true) (hcn : ∀ n, (cellsFrom n scope.names []).map (·.1) = cns) (hcnd : cns.Nodup) (hck : (cns.all fun x => decide (scope.names.lookup x = some .cell)) = true) (hin : cns.map (initB ks ns xs) = inits)
    (hroom : A.depth < recursionLimit) (hE : ∀ L cl, Leaves G fr A (envX qual scope L a cdv cl) (E' L) E)
    (h : ∀ L cs A', cs.length = cns.length → Deep A A' (envX qual scope L a cdv (cns.zip cs)) → Ex G (envX qual scope L a cdv (cns.zip cs) :: fr) A' F ((L, .ns (mkRhoB ks ns xs rest)) :: (cs.zip (inits.map AO.cell) ++ H)) (execs body (envX qual scope L a cdv (cns.zip cs))) (Ret L Q) (E' L))
    (hco : autoParam (scope.isCoroutine = false) tac0) (hgen : autoParam (scope.isGenerator = false) tac0) (hk : autoParam (scope.kind = .function) tac0) : Cl G fr A F H (.ref a) xs Q E := fun K m v vs hv hvs R s hR => by
  obtain rfl := hv.i_ref
  exact wpAny_call (code_cells hf hd hcd ks ns rest cns hn hnd hndB hbind hkind hcm hcn hcnd hck hin hroom hE h m hvs hR hco hgen hk)
end
noncomputable def tabsH (tabs : List (Addr × Addr)) : Hp := tabs.map fun q => (q.2, AO.raw (tabObj #[]))
noncomputable def topG (prog : Program) (w : World) (s₁ : Shared) (tabs : List (Addr × Addr)) (mg mb : Str → Option Value) : Glob := { prog, w, F0 := (ghostOf s₁.heap tabs).get?, os := s₁.os, mg, mb }
theorem ints_rv {F : Fz} {vs : List Value} {zs : List Int} (h : IntsAre vs zs) : RVs F vs (zs.map .int) := by
  induction h with
  | nil => exact .nil
  | cons => rename_i ih; exact .cons .int ih
theorem grown_all {h : Heap} : ∀ {tabs : List (Addr × Addr)}, (∀ q ∈ tabs, GrownAt q.2 h) → GrownAll tabs h
  | [], _ => trivial
  | q :: _, k => ⟨k q (.head _), grown_all fun q hq => k q (.tail _ hq)⟩
theorem law_top {prog : Program} {w : World} {s₁ : Shared} {cw : ClaimW} {cl : Str → Option Addr} {mean : ExcName → Option Value} {args : List WData} {tabs : List (Addr × Addr)} {mg mb : Str → Option Value} {fa a : Addr} {vs : List Value} {zs : List Int}
    (hT : TabsAt tabs s₁.heap) (hnd : (tabs.map (·.2)).Nodup) (hr : ∀ a x, cw.raises a x = false) (hpost : cw.post args (.bool true) args = true) (hg : s₁.gens = #[]) (hL : s₁.heap.IsList a vs.toArray) (hI : IntsAre vs zs) (gok : GOk (topG prog w s₁ tabs mg mb))
    (h : ∀ R s, Rep (topG prog w s₁ tabs mg mb) [] (ghostOf s₁.heap tabs).get? (tabsH tabs ++ R) s → ∀ xs, RVs (ghostOf s₁.heap tabs).get? xs [.lst (zs.map .int)] →
      codeAny (model prog w) callerA (.call (.ref fa) ⟨xs, []⟩) (fun r s' => match r with
        | .ok (.ret v) => PQ (topG prog w s₁ tabs mg mb) [] (ghostOf s₁.heap tabs).get? R (VQ fun x _ H' => x = .bool true ∧ ∀ q ∈ tabs, ∃ ps, (q.2, AO.raw (tabObj ps)) ∈ H') v s'
        | .ok _ => False
        | .error e => PQ (topG prog w s₁ tabs mg mb) [] (ghostOf s₁.heap tabs).get? R (fun e => Dn (No e)) e s') s) :
    wpAny (model prog w) callerA (call (.ref fa) [.ref a]) (fun v s' => GoodWG cw cl mean args s₁ (.ok (.ret v)) s') (fun e s' => GoodWG cw cl mean args s₁ (.error e) s') s₁ := by
  have gn : ∀ q ∈ tabs, (ghostOf s₁.heap tabs).get? q.2 = none := fun q hq => hideAll_none _ (List.mem_map_of_mem hq)
  have rep : Rep (topG prog w s₁ tabs mg mb) [] (ghostOf s₁.heap tabs).get? (tabsH tabs ++ []) s₁ := by
    refine ⟨gok, fun _ _ e => e, fun a o e => of_hideAll _ e, fun p hp => ?_, ?_, (fun _ h => nomatch h), hg, rfl⟩
    · rw [List.append_nil] at hp
      obtain ⟨q, hq, rfl⟩ := List.mem_map.mp hp
      exact ⟨gn q hq, _, (hT q hq).2, rfl⟩
    · rw [List.append_nil]
      unfold tabsH
      rw [List.map_map]
      exact hnd
  have hl : RVs (ghostOf s₁.heap tabs).get? [.ref a] [.lst (zs.map .int)] := by
    obtain ⟨o, ho, hc, n, hd⟩ := hL
    have hr := ints_rv (F := (ghostOf s₁.heap tabs).get?) hI
    refine .cons (.lst (o := o) (vs := vs) (n := n) ?_ hc hd hr.length hr.get) .nil
    refine ghost_ne ho fun hm => ?_
    obtain ⟨q, hq, rfl⟩ := List.mem_map.mp hm
    rw [(hT q hq).2] at ho
    cases ho
    cases hc
  refine wpAny_call (codeAny_mono (kn_post (cl := cl) (mean := mean) (args := args) hT hr (codeAny_mono (h [] s₁ rep _ hl) fun r s' hq => ?_)) fun r s' hq => ?_)
  · cases r with
    | error e => exact (noPQ (v := e) hq).elim
    | ok f =>
      cases f with
      | ret v =>
        obtain ⟨F', H', le, r', x, hx, _, _, e, ht⟩ := hq
        subst e
        cases hx
        refine ⟨⟨.inl ⟨_, .bool true, [], rfl, fun _ => hr _ _, .bool true, hpost, fun _ => ⟨.nil, (fun _ h => nomatch h)⟩⟩, fun b o e => r'.fz b o (le b o e), r'.os, r'.gens⟩, ?_⟩
        exact grown_all fun q hq => by
          obtain ⟨ps, hm⟩ := ht q hq
          obtain ⟨o, ho, hro⟩ := r'.get hm
          exact ⟨ps, by rw [ho]; exact congrArg some hro⟩
      | _ => exact hq.elim
  · cases r with
    | error e => exact hq
    | ok f =>
      have hv : ∃ v, f = .ret v := by
        rcases hq.1 with ⟨v, _, _, q, _⟩ | ⟨_, _, _, q, _⟩
        · cases q; exact ⟨_, rfl⟩
        · cases q
      obtain ⟨v, rfl⟩ := hv
      exact hq
theorem len0 {α : Type} {l : List α} (h : l.length = 0) : l = [] := List.length_eq_zero_iff.mp h
theorem lenC {α : Type} {l : List α} {n : Nat} (h : l.length = n + 1) : ∃ a t, l = a :: t ∧ t.length = n := by
  cases l with
  | nil => cases h
  | cons a t => exact ⟨a, t, rfl, Nat.succ.inj h⟩
theorem len1 {α : Type} {l : List α} (h : l.length = 1) : ∃ a, l = [a] := by obtain ⟨a, _, e, h⟩ := lenC h; exact ⟨a, by rw [e, len0 h]⟩
theorem len2 {α : Type} {l : List α} (h : l.length = 2) : ∃ a b, l = [a, b] := by obtain ⟨a, _, e, h⟩ := lenC h; exact by obtain ⟨b, e'⟩ := len1 h; exact ⟨a, b, by rw [e, e']⟩
theorem len3 {α : Type} {l : List α} (h : l.length = 3) : ∃ a b c, l = [a, b, c] := by obtain ⟨a, _, e, h⟩ := lenC h; exact by obtain ⟨b, c, e'⟩ := len2 h; exact ⟨a, b, c, by rw [e, e']⟩
theorem len4 {α : Type} {l : List α} (h : l.length = 4) : ∃ a b c d, l = [a, b, c, d] := by obtain ⟨a, _, e, h⟩ := lenC h; exact by obtain ⟨b, c, d, e'⟩ := len3 h; exact ⟨a, b, c, d, by rw [e, e']⟩
theorem len5 {α : Type} {l : List α} (h : l.length = 5) : ∃ a b c d e, l = [a, b, c, d, e] := by obtain ⟨a, _, e, h⟩ := lenC h; exact by obtain ⟨b, c, d, f, e'⟩ := len4 h; exact ⟨a, b, c, d, f, by rw [e, e']⟩
theorem len6 {α : Type} {l : List α} (h : l.length = 6) : ∃ a b c d e f, l = [a, b, c, d, e, f] := by obtain ⟨a, _, e, h⟩ := lenC h; exact by obtain ⟨b, c, d, f, g, e'⟩ := len5 h; exact ⟨a, b, c, d, f, g, by rw [e, e']⟩
theorem nm2 {ρ : List (Str × Option V)} {x y : Str} (h : ρ.map (·.1) = [x, y]) : ∃ a b, ρ = [(x, a), (y, b)] := by
  obtain ⟨p, q, rfl⟩ := len2 (l := ρ) (by rw [← List.length_map (f := fun p : Str × Option V => p.1), h]; rfl)
  simp only [List.map_cons, List.map_nil, List.cons.injEq, and_true] at h
  exact ⟨p.2, q.2, by rw [← h.1, ← h.2]⟩
inductive LstIs (H : Hp) : V → List V → Prop where
  | lst {l : List V} : LstIs H (.lst l) l
  | own {a : Addr} {l : List V} (h : Has H a (.list l)) : LstIs H (.ref a) l
section
variable {G : Glob} {fr : List Env} {A : Around} {env : Env} {F : Fz} {H H' : Hp} {E : Value → Fz → Hp → Prop} {Q : V → Fz → Hp → Prop}
theorem LstIs.is {R : Hp} {s : Shared} {x : V} {l : List V} {v : Value} (h : LstIs H x l) (hR : Rep G fr F (H ++ R) s) (hv : RV F v x) : ∃ a vs, v = .ref a ∧ s.heap.IsList a vs ∧ RVs F vs.toList l := by
  cases h with
  | lst => exact hv.e_lst (P := fun v => ∃ a vs, v = .ref a ∧ s.heap.IsList a vs ∧ RVs F vs.toList l) fun a vs n o h hc hd hl hr => ⟨a, vs.toArray, rfl, ⟨o, hR.fz _ _ h, hc, n, hd⟩, RVs.of hl hr⟩
  | own h =>
    obtain ⟨o, ho, vs, n, rfl, hr⟩ := hR.has h
    exact hv.e_ref (P := fun v => ∃ a vs, v = .ref a ∧ s.heap.IsList a vs ∧ RVs F vs.toList l) ⟨_, vs, rfl, ⟨_, ho, rfl, n, rfl⟩, hr⟩
theorem RV.isTup {R : Hp} {s : Shared} {l : List V} {v : Value} (hv : RV F v (.tup l)) (hR : Rep G fr F (H ++ R) s) : ∃ a vs, v = .ref a ∧ IsTup s.heap a vs ∧ RVs F vs.toList l := by
  exact hv.e_tup (P := fun v => ∃ a vs, v = .ref a ∧ IsTup s.heap a vs ∧ RVs F vs.toList l) fun a vs n h hl hr => ⟨a, vs.toArray, rfl, ⟨_, hR.fz _ _ h, rfl, n, rfl⟩, RVs.of hl hr⟩
theorem RVs.atA {vs : Array Value} {l : List V} (h : RVs F vs.toList l) {i : Nat} {x : V} (e : l[i]? = some x) : ∃ v, vs[i]? = some v ∧ RV F v x := by
  obtain ⟨v, h1, h2⟩ := h.at e
  exact ⟨v, by simpa using h1, h2⟩

theorem Ev_Subscript {value slice pos} (h : Ev G fr A F H (eval value env) (fun o F1 H1 => Ev G fr A F1 H1 (eval slice env) (fun i F2 H2 => Op2 G fr A F2 H2 (subscriptTail value slice) o i Q E) E) E) :
    Ev G fr A F H (eval (.Subscript value slice pos) env) Q E := fun K m R s hR =>
  Subscript_ (h.go m hR (.refl K) fun a x F1 K1 H1 s1 l1 m1 r1 hx h1 => h1.go m1 r1 l1 fun b y F2 K2 H2 s2 l2 m2 r2 hy h2 => (h2 K2 m2 a b (hx.mono l2) hy).last r2 (l1.trans l2))
noncomputable def notSlice : Expr → Bool
  | .Slice .. => false
  | _ => true
theorem sub_of {slice : Expr} {o i : Value} (h : notSlice slice = true) : subscripted slice false o i = operate [o, i] (getItem o i) := by
  cases slice <;> first | rfl | cases h
theorem sub_lst {value slice : Expr} {x y : V} {l : List V} {i : Int} (hl : LstIs H x l) (h0 : 0 ≤ i) (hi : i < 2 ^ 63) (he : l[i.toNat]? = some y) (h : Q y F H) (hs : autoParam (notSlice slice = true) tac0) :
    Op2 G fr A F H (subscriptTail value slice) x (.int i) Q E := fun K m vo vi ho hi' R s hR => by
  obtain ⟨a, vs, rfl, hL, hr⟩ := hl.is hR ho
  refine hi'.e_int (P := fun vi => wpAny _ _ (subscriptTail value slice _ vi) _ _ _) fun t => ?_
  obtain ⟨v, h1, h2⟩ := hr.atA he
  exact tail_any hL.typeIs slot_list_getitem.lookup (wpAny_getItem_list hL h0 hi h1 (vret hR h2 m h)) (sub_of hs)
theorem sub_lstN {value slice : Expr} {x y : V} {l : List V} {k : Nat} (hl : LstIs H x l) (hi : k < 2 ^ 63) (he : l[k]? = some y) (h : Q y F H) (hs : autoParam (notSlice slice = true) tac0) :
    Op2 G fr A F H (subscriptTail value slice) x (.int k) Q E :=
  sub_lst hl (Int.natCast_nonneg k) (by lia) (by rw [Int.toNat_natCast]; exact he) h hs
theorem sub_lst_neg {value slice : Expr} {x y : V} {l : List V} {i : Int} (hl : LstIs H x l) (h0 : i < 0) (h1 : 0 ≤ i + l.length) (h2 : -(2 ^ 63) ≤ i) (he : l[(i + l.length).toNat]? = some y) (h : Q y F H) (hs : autoParam (notSlice slice = true) tac0) :
    Op2 G fr A F H (subscriptTail value slice) x (.int i) Q E := fun K m vo vi ho hi' R s hR => by
  obtain ⟨a, vs, rfl, hL, hr⟩ := hl.is hR ho
  refine hi'.e_int (P := fun vi => wpAny _ _ (subscriptTail value slice _ vi) _ _ _) fun t => ?_
  obtain ⟨v, q1, q2⟩ := hr.atA he
  have e := hr.toArr
  exact tail_any hL.typeIs slot_list_getitem.lookup (wpAny_getItem_list_neg hL h0 (by rw [e]; lia) h2 (by rw [e]; exact q1) (vret hR q2 m h)) (sub_of hs)
theorem sub_tup {value slice : Expr} {y : V} {l : List V} {i : Int} (h0 : 0 ≤ i) (hi : i < 2 ^ 63) (he : l[i.toNat]? = some y) (h : Q y F H) (hs : autoParam (notSlice slice = true) tac0) :
    Op2 G fr A F H (subscriptTail value slice) (.tup l) (.int i) Q E := fun K m vo vi ho hi' R s hR => by
  obtain ⟨a, vs, rfl, hL, hr⟩ := ho.isTup hR
  refine hi'.e_int (P := fun vi => wpAny _ _ (subscriptTail value slice _ vi) _ _ _) fun t => ?_
  obtain ⟨v, h1, h2⟩ := hr.atA he
  have e := hr.toArr
  have hlt : i.toNat < l.length := (List.getElem?_eq_some_iff.mp he).1
  refine tail_any hL.typeIs slot_tuple_getitem.lookup (PyProof.Rows.getItem_tuple (j := i.toNat) hL (Int.le_trans (by decide) h0) hi ?_ h1 (vret hR h2 m h)) (sub_of hs)
  unfold seqIndex?
  simp only [if_neg (Int.not_lt.mpr h0)]
  rw [if_pos (by simp; exact toN h0 (by rw [e]; exact hlt))]
theorem sub_str {value slice : Expr} {x : Str} {i : Int} {c : Nat} (h0 : 0 ≤ i) (hi : i < 2 ^ 63) (he : x.cps[i.toNat]? = some c) (h : Q (.str ⟨#[c]⟩) F H) (hs : autoParam (notSlice slice = true) tac0) :
    Op2 G fr A F H (subscriptTail value slice) (.str x) (.int i) Q E := fun K m vo vi ho hi' R s hR => by
  refine ho.e_str (P := fun vo => wpAny _ _ (subscriptTail value slice vo vi) _ _ _) fun t => hi'.e_int (P := fun vi => wpAny _ _ (subscriptTail value slice _ vi) _ _ _) fun u => ?_
  have hlt : i.toNat < x.cps.size := (Array.getElem?_eq_some_iff.mp he).1
  refine tail_any (typeIs_str _ _ _) PySem.F.slot_str_getitem.lookup (PySem.P.getItem_str (c := c) (by rw [decide_eq_false (Int.not_lt.mpr (Int.le_trans (by decide) h0)), decide_eq_false (Int.not_le.mpr hi)]; rfl) ?_ (vret (hR.toks _) .str m h)) (sub_of hs)
  have : seqIndex? i x.length = some i.toNat := by
    unfold seqIndex?
    simp only [if_neg (Int.not_lt.mpr h0)]
    rw [if_pos (by
      have : x.length = x.cps.size := rfl
      simp only [Bool.and_eq_true, decide_eq_true_eq]
      exact toN h0 hlt)]
  rw [this]
  exact he

noncomputable def EvP (G : Glob) (fr : List Env) (A : Around) (env : Env) (F : Fz) (H : Hp) (e : Option Expr) (Q : Option Int → Fz → Hp → Prop) (E : Value → Fz → Hp → Prop) : Prop :=
  match e with
  | none => Q none F H
  | some e => Ev G fr A F H (eval e env) (AInt Q) E
theorem EvP_some {e : Expr} {Q : Option Int → Fz → Hp → Prop} (h : Ev G fr A F H (eval e env) (AInt Q) E) : EvP G fr A env F H (some e) Q E := h
theorem EvP.seq {e : Option Expr} {Q : Option Int → Fz → Hp → Prop} {R : Hp} {s : Shared} {K K₀ : Fz} (h : EvP G fr A env F H e Q E) (m : F.le K) (hR : Rep G fr K (H ++ R) s) (le : K₀.le K) {P : Value → Shared → Prop}
    (k : ∀ o F1 K1 H1 s1, K.le K1 → Fz.le F1 K1 → Rep G fr K1 (H1 ++ R) s1 → Q (o.map (·.1)) F1 H1 → P (partValue o) s1) : wpAny G.M A (evalPart e env) P (PQ G fr K₀ R fun e => Dn (E e)) s := by
  cases e with
  | none => exact wpAny_pure (k none F K H s (.refl K) m hR h)
  | some e =>
    refine Ev.go (show Ev _ _ _ _ _ _ _ _ from h) m hR le fun v x F1 K1 H1 s1 l1 m1 r1 hx hq => ?_
    obtain ⟨i, rfl, q⟩ := hq
    exact hx.e_int (P := fun v => P v s1) fun t => k (some (i, t)) F1 K1 H1 s1 l1 m1 r1 q
theorem Ev_slice_str {value : Expr} {lower upper : Option Expr} {p pos} (h : Ev G fr A F H (eval value env) (fun o F1 H1 => ∃ x, o = .str x ∧ x.length ≤ sizeLine ∧ EvP G fr A env F1 H1 lower (fun l F2 H2 => EvP G fr A env F2 H2 upper (fun u F3 H3 => Q (.str (Txt.slice x l u)) F3 H3) E) E) E) :
    Ev G fr A F H (eval (.Subscript value (.Slice lower upper none p) pos) env) Q E := fun K m R s hR => by
    refine Subscript_ (h.go m hR (.refl K) fun v _ F1 K1 H1 s1 l1 m1 r1 hx hq => ?_)
    obtain ⟨x, rfl, hsz, h1⟩ := hq
    refine wpAny_Slice (h1.seq m1 r1 l1 fun o1 F2 K2 H2 s2 l2 m2 r2 h2 => h2.seq m2 r2 (l1.trans l2) fun o2 F3 K3 H3 s3 l3 m3 r3 q => wpAny_pure ?_)
    refine hx.e_str (P := fun v => wpAny _ _ (subscriptTail value _ v _) _ _ _) fun t => ?_
    refine tail_any (typeIs_str _ _ _) PySem.F.slot_str_getitem.lookup (wpAny_getItem_str_slice (l := o1) (u := o2) (st := none) ⟨_, Heap.get?_push_size _ rfl, rfl, rfl⟩ rfl (post_val_or_str ⟨Nat.le_trans (Txt.slice_le x _ _) hsz, fun t' k => ?_⟩)) rfl
    exact ⟨K3, H3, l1.trans (l2.trans l3), r3.keeps (tk := k) (dr := s3.drawn) fun b o e => Heap.get?_push_of_some _ e, _, .str, F3, m3, q⟩

variable {x y : Str}
theorem ss {K : Fz} {P : Value → Value → Prop} (k : ∀ t u, P (.str x t) (.str y u)) : ∀ a b, RV K a (.str x) → RV K b (.str y) → P a b := fun _ b ha hb => ha.e_str (P := fun a => P a b) fun t => hb.e_str (k t)
theorem add_ss (hs : x.length + y.length ≤ sizeLine) (h : Q (.str (x ++ y)) F H) : Op2 G fr A F H (binaryOp .Add) (.str x) (.str y) Q E := fun K m => ss fun t u R s hR => PySem.SB.add (fun t' k => vret (hR.toks _) .str m h) hs
theorem eq_ss (h : Q (.bool (x.cps.toList == y.cps.toList)) F H) : Op2 G fr A F H (compareOp .Eq) (.str x) (.str y) Q E := fun K m => ss fun t u R s hR => PySem.P.eq_str (vret hR .bool m h)
theorem eq_ssb {b : Bool} (e : (x.cps.toList == y.cps.toList) = b) (h : Q (.bool b) F H) : Op2 G fr A F H (compareOp .Eq) (.str x) (.str y) Q E := eq_ss (e.symm ▸ h)
theorem ne_ss (h : Q (.bool (x.cps.toList != y.cps.toList)) F H) : Op2 G fr A F H (compareOp .NotEq) (.str x) (.str y) Q E := fun K m => ss fun t u R s hR => PySem.P.ne_str (vret hR .bool m h)
theorem len_s (hl : x.length < 2 ^ 63) (h : Q (.int x.length) F H) : Cl G fr A F H (.blt "len") [.str x] Q E := cl_b1 fun K m v hv => hv.e_str (P := fun v => EvAt _ _ _ _ _ (call _ [v]) _ _) fun t R s hR => PySem.P.len_str (by lia) (vret (hR.toks _) .int m h)
theorem len_lst {z : V} {l : List V} (hz : LstIs H z l) (hl : l.length < 2 ^ 63) (h : Q (.int l.length) F H) : Cl G fr A F H (.blt "len") [z] Q E := cl_b1 fun K m v h1 R s hR => by
    obtain ⟨a, vs, rfl, hL, hr⟩ := hz.is hR h1
    have e := hr.toArr
    refine call_len_list hL (by rw [e]; exact_mod_cast hl) ?_
    rw [e]
    exact vret (hR.toks _) .int m h
theorem isNot_none {z : V} (h : Q (.bool (!z.isN)) F H) : Op2 G fr A F H (compareOp .IsNot) z .none Q E := fun K m a b ha hb => hb.e_none (P := fun b => EvAt _ _ _ _ _ (compareOp _ a b) _ _) fun R s hR => by
  refine PySem.isNot_none ?_
  rw [RV.isN ha]
  exact vret hR .bool m h
end
section
variable {G : Glob} {fr : List Env} {A : Around} {env : Env} {F : Fz} {H : Hp} {E : Value → Fz → Hp → Prop}
noncomputable def Tests (G : Glob) (fr : List Env) (A : Around) (env : Env) (F : Fz) (H : Hp) (ifs : List Expr) (Q : Bool → Fz → Hp → Prop) (E : Value → Fz → Hp → Prop) : Prop :=
  match ifs with
  | [] => Q true F H
  | [c] => Tp G fr A F H (isTrue c env (eval c env)) Q E
  | _ => False
theorem Tests_one {c : Expr} {Q : Bool → Fz → Hp → Prop} (h : Tp G fr A F H (isTrue c env (eval c env)) Q E) : Tests G fr A env F H [c] Q E := h
inductive Off (C : Addr) (nms : List Str) (Q : Fz → Hp → Prop) (F : Fz) (H : Hp) : Prop where
  | intro (ρ : List (Str × Option V)) (H' : Hp) (hr : Rem H C (.ns ρ) H') (hn : ρ.map (·.1) = nms) (h : Q F H')
structure Turns (G : Glob) (fr : List Env) (A : Around) (cenv : Addr → Env) (nms : List Str) (target elt : Expr) (ifs : List Expr) (l : List V) (I : Nat → List V → Fz → Hp → Prop) : Prop where
  turn : ∀ k y acc F2 H2 C ρ, l[k]? = some y → I k acc F2 H2 → ρ.map (·.1) = nms → ∀ Qn : List V → Fz → Hp → Prop, (∀ acc' F3 H3, I (k + 1) acc' F3 H3 → Qn acc' F3 H3) →
    As G fr A (cenv C) F2 ((C, .ns ρ) :: H2) target y (fun F3 H3 => Tests G fr A (cenv C) F3 H3 ifs (fun b F4 H4 =>
      if b then Ev G fr A F4 H4 (eval elt (cenv C)) (fun z F5 H5 => Off C nms (Qn (acc ++ [z])) F5 H5) No else Off C nms (Qn acc) F4 H4) No) No
noncomputable def Nv {α : Type} : α → Shared → Prop := fun _ _ => False
theorem compLoopG {elt target iter : Expr} {ifs : List Expr} {scope : Scope} {pos : Pos} {it acc : Value} {cenv : Env} {P : Result → Shared → Prop} {s : Shared} (I : Nat → Shared → Prop)
    (turn : ∀ n s, I n s → wpAny G.M A (pyNext it) (fun r s₁ => match r with
      | none => P (.ok .next) s₁
      | some v => wpAny G.M A (letOwnedTupleGo target it v) (fun _ s₁ => wpAny G.M A (assign target cenv v) (fun _ s₂ =>
          wpAny G.M A (forIn ifs true fun c r => if r = true then do let ok ← isTrue c cenv (eval c cenv); pure (ForInStep.yield ok) else pure (ForInStep.yield r)) (fun ok s₃ =>
            if ok = true then wpAny G.M A (eval elt cenv) (fun x s₄ => wpAny G.M A (call (.builtin "list.append") [acc, x]) (fun _ s₅ => ∃ m, m < n ∧ I m s₅) Nv s₄) Nv s₃
            else ∃ m, m < n ∧ I m s₃) Nv s₂) Nv s₁) Nv s₁) Nv s)
    (n : Nat) (h : I n s) : codeAny G.M A (.compLoop (.ListComp elt [⟨target, iter, ifs, 0⟩] scope pos) 0 it acc cenv) P s := by
  refine codeAny_loop rfl I (fun n s hI => ?_) n h
  show wpAny _ A ((compTurn (.ListComp elt [⟨target, iter, ifs, 0⟩] scope pos) 0 it acc cenv).onRaise (fun x => do noteFrame x cenv; theTreesLotGoes x)) _ _ s
  refine wpAny_noted ?_
  rw [compTurn_list]
  refine wpAny_bind (wpAny_standAt (wpAny_bind (wpAny_mono (turn n s hI) (fun r s₁ h₁ => ?_) fun _ _ h' => h'.elim)))
  cases r with
  | none => exact wpAny_pure h₁
  | some v =>
    refine wpAny_bind (wpAny_mono h₁ (fun _ s₁ h₁ => wpAny_bind (wpAny_mono h₁ (fun _ s₂ h₂ => wpAny_bind (wpAny_mono h₂ (fun ok s₃ h₃ => ?_) fun _ _ h' => h'.elim)) fun _ _ h' => h'.elim)) fun _ _ h' => h'.elim)
    cases ok with
    | false => exact wpAny_pure ⟨rfl, h₃⟩
    | true => exact wpAny_bind (wpAny_bind (wpAny_mono h₃ (fun x s₄ h₄ => wpAny_bind (wpAny_mono h₄ (fun _ s₅ h₅ => wpAny_pure (wpAny_pure ⟨rfl, h₅⟩)) fun _ _ h' => h'.elim)) fun _ _ h' => h'.elim))
inductive CompI (G : Glob) (fr : List Env) (K1 : Fz) (nms : List Str) (C D : Addr) (J : Nat → Hp) (R : Hp) (l : List V) (I : Nat → List V → Fz → Hp → Prop) (n : Nat) (s : Shared) : Prop where
  | mk (k : Nat) (acc : List V) (F2 K2 : Fz) (H2 : Hp) (ρ : List (Str × Option V)) (e1 : n + k = l.length) (e2 : acc.length ≤ k) (l2 : K1.le K2) (m2 : Fz.le F2 K2) (hρ : ρ.map (·.1) = nms) (r : Rep G fr K2 (J k ++ ((C, AO.ns ρ) :: (D, AO.list acc) :: (H2 ++ R))) s) (h : I k acc F2 H2)
noncomputable def CompL (G : Glob) (fr : List Env) (K1 : Fz) (nms : List Str) (C D : Addr) (J : Nat → Hp) (R : Hp) (l : List V) (I : Nat → List V → Fz → Hp → Prop) (n : Nat) (s : Shared) : Prop := ∃ m, m < n ∧ CompI G fr K1 nms C D J R l I m s
theorem perm_in {c d : Addr × AO} {J H R : Hp} : (J ++ (c :: d :: (H ++ R))).Perm ((c :: H) ++ (d :: (J ++ R))) :=
  (List.perm_middle.trans (List.perm_middle.cons c)).trans ((((List.perm_append_comm_assoc ..).cons d).trans List.perm_middle.symm).cons c)
theorem emap {nms : List Str} : (nms.map fun n => (n, (none : Option V))).map (·.1) = nms := by rw [List.map_map]; exact List.map_id nms
theorem comp_core {elt target iter : Expr} {ifs : List Expr} {scope : Scope} {cl : List (Str × Addr)} {pos : Pos} {l : List V} {F1 K1 : Fz} {H1 H1' R : Hp} {s1 : Shared} {x : Value} {y : V} {I : Nat → List V → Fz → Hp → Prop} {nms : List Str} {E0 : Value → Shared → Prop} {P : Value → Addr → Result → Shared → Prop}
    (m1 : F1.le K1) (hy : RV K1 x y) (r1 : Rep G fr K1 (H1 ++ R) s1) (itr : IterO G A target F1 H1 y l H1') (hsz : l.length ≤ sizeLine) (h0 : I 0 [] F1 H1') (T : Turns G fr A (fun C => compEnvC scope cl C env) nms target elt ifs l I)
    (hkind : scope.kind = .function) (hcell : ∀ z ∈ scope.names, z.2 ≠ .cell) (hnd : nms.Nodup)
    (fin : ∀ D C acc F2 K2 H2 ρ s', (∀ e ∈ fr, e.frame ≠ some C) → K1.le K2 → Fz.le F2 K2 → I l.length acc F2 H2 → acc.length ≤ l.length → Rep G fr K2 ((C, AO.ns ρ) :: (D, AO.list acc) :: (H2 ++ R)) s' → P (.ref D) C (.ok .next) s') :
    wpAny G.M A (pyIter x) (fun it s₂ => wpAny G.M A (newList []) (fun acc s₃ => wpAny G.M A (newFunctionEnv scope env.globals cl [] env.qual none .none (some env)) (fun cenv s₄ =>
      codeAny G.M A (.compStart (.ListComp elt [⟨target, iter, ifs, 0⟩] scope pos) 0 it acc { cenv with scope := relabel scope env }) (P acc cenv.locals) s₄) E0 s₃) E0 s₂) E0 s1 := by
  refine itr m1 r1 hy fun it K1' s2 J l1 r2 Pi => ?_
  refine wpAny_newObj_type ?_
  have r3 := r2.new (D := s2.heap.objs.size) (x := AO.list []) (tk := s2.toks) (dr := s2.drawn) (fun b o e => Heap.get?_push_of_some { cls := .type "list", data := .seq ([] : List Value).toArray } e) (none_at_size _) (Heap.get?_push_size _ rfl) ⟨#[], 0, rfl, .nil⟩
  refine wpAny_newFunctionEnv hcell (by intro y hy; simp at hy) (fun h₁ hns₁ hsb₁ => ?_) hkind
  generalize hH2 : (s2.heap.push { cls := .type "list", dict := none, data := .seq ([] : List Value).toArray }) = H2 at hns₁ hsb₁ r3
  have r4 : Rep G fr K1' ((H2.objs.size, AO.ns (nms.map fun n => (n, none))) :: (s2.heap.objs.size, AO.list []) :: (J 0 ++ (H1' ++ R))) { s2 with heap := h₁, toks := s2.toks + ([] : List (Str × Value)).length } := by
    obtain ⟨o, es, ep, ho, hd, hk, hf⟩ := hns₁
    refine r3.new (s := { s2 with heap := H2 }) (D := H2.objs.size) (tk := s2.toks + ([] : List (Str × Value)).length) (dr := s2.drawn) (fun b o e => hsb₁.extBut b o (Nat.ne_of_lt (Heap.lt_size e)) (Heap.get?_push_of_some _ e)) (none_at_size _) ho ⟨es, ep, hd, hk, emap.symm ▸ hnd, fun p hp => ?_⟩
    obtain ⟨n, _, rfl⟩ := List.mem_map.mp hp
    trivial
  have hfrC : ∀ e ∈ fr, e.frame ≠ some H2.objs.size := fun e he q => by
    obtain ⟨L, ρ, q', m⟩ := (r3.frs e he).2
    obtain ⟨_, o, g, _⟩ := r3.own _ m
    rw [Option.some.inj (q'.symm.trans q)] at g
    exact absurd (Heap.lt_size g) (Nat.lt_irrefl _)
  generalize H2.objs.size = C at r4 hfrC
  generalize s2.heap.objs.size = D at r4
  generalize ({ s2 with heap := h₁, toks := s2.toks + ([] : List (Str × Value)).length } : Shared) = s4 at r4
  have r5 : Rep G fr K1' (J 0 ++ ((C, AO.ns (nms.map fun n => (n, none))) :: (D, AO.list []) :: (H1' ++ R))) s4 := r4.perm (List.perm_middle.trans (List.perm_middle.cons _)).symm
  have goal : codeAny G.M A (.compLoop (.ListComp elt [⟨target, iter, ifs, 0⟩] scope pos) 0 (.ref it) (.ref D) (compEnvC scope cl C env)) (P (.ref D) C) s4 := by
    refine compLoopG (CompI G fr K1' nms C D J R l I) (fun n s hI => ?_) l.length ⟨0, [], F1, K1', H1', _, Nat.add_zero _, Nat.le_refl _, .refl K1', m1.trans l1, emap, r5, h0⟩
    obtain ⟨k, acc, F2, K2, H2, ρ, hnk, hak, l2, m2, hρ, r, hI⟩ := hI
    cases hv : l[k]? with
    | none =>
      obtain rfl : k = l.length := by have := pick.mp hv; lia
      exact Pi.fin l2 r fun s' r => fin D C acc F2 K2 H2 ρ s' hfrC (l1.trans l2) m2 hI hak r
    | some y =>
      have hk : k < l.length := (List.getElem?_eq_some_iff.mp hv).1
      refine Pi.item l2 hv r fun v K3 s₁ l3 hvy go => go fun s₂ r => ?_
      have m3 := m2.trans l3
      refine wpAny_mono (T.turn k y acc F2 H2 C ρ hv hI hρ (I (k + 1)) (fun _ _ _ q => q) K3 m3 v hvy _ s₂ (r.perm perm_in)) (fun _ s₃ hq => ?_) fun e s₃ q => (noPQ (v := e) q).elim
      obtain ⟨K4, H4, l4, r4, F4, m4, q⟩ := hq
      have after : ∀ (b : Bool) F5 K5 H5 s5, K4.le K5 → Fz.le F5 K5 → Rep G fr K5 (H5 ++ ((D, AO.list acc) :: (J (k + 1) ++ R))) s5 → (if b then Ev G fr A F5 H5 (eval elt (compEnvC scope cl C env)) (fun z F5 H5 => Off C nms (I (k + 1) (acc ++ [z])) F5 H5) No else Off C nms (I (k + 1) acc) F5 H5) →
          if b = true then wpAny G.M A (eval elt (compEnvC scope cl C env)) (fun x s₄ => wpAny G.M A (call (.builtin "list.append") [.ref D, x]) (fun _ s₅ => CompL G fr K1' nms C D J R l I n s₅) Nv s₄) Nv s5 else CompL G fr K1' nms C D J R l I n s5 := by
        intro b F5 K5 H5 s5 l5 m5 r5 q
        have l25 := l2.trans (l3.trans (l4.trans l5))
        cases b with
        | true =>
          refine wpAny_mono ((show Ev _ _ _ _ _ _ _ _ from q) K5 m5 _ s5 r5) (fun x s6 hq => ?_) fun e s' q => (noPQ (v := e) q).elim
          obtain ⟨K6, H6, l6, r6, z, hz, F6, m6, ρ', H7, hrem, hρ', q⟩ := hq
          have r7 : Rep G fr K6 ((D, AO.list acc) :: ((C, AO.ns ρ') :: (J (k + 1) ++ (H7 ++ R)))) s6 := r6.perm (((hrem.perm.append_right _).trans (perm_in.symm.trans (List.perm_middle.trans (List.perm_middle.cons _)))).trans (.swap ..))
          have ap : EvAt G fr A K6 [(D, AO.list acc)] (call (.builtin "list.append") [.ref D, x]) (fun v F6 H6' => H6' = [(D, AO.list (acc ++ [z]))]) No :=
            append (F := K6) .hd (by lia) rfl K6 (.refl K6) (.builtin "list.append") [.ref D, x] .blt (.cons .ref (.cons hz .nil))
          refine wpAny_mono (ap _ s6 r7) (fun v s7 hq => ?_) fun e s' q => (noPQ (v := e) q).elim
          obtain ⟨K8, H8, l8, r8, _, _, _, _, e2⟩ := hq
          subst e2
          exact ⟨n - 1, nk1 hnk hk, k + 1, acc ++ [z], F6, K8, H7, ρ', nk2 hnk hk, by rw [List.length_append, List.length_singleton]; exact Nat.succ_le_succ hak, l25.trans (l6.trans l8), m6.trans l8, hρ', r8.perm ((List.Perm.swap ..).trans (List.perm_middle.trans (List.perm_middle.cons _)).symm), q⟩
        | false =>
          obtain ⟨ρ', H6, hrem, hρ', q⟩ := q
          exact ⟨n - 1, nk1 hnk hk, k + 1, acc, F5, K5, H6, ρ', nk2 hnk hk, Nat.le_succ_of_le hak, l25, m5, hρ', r5.perm ((hrem.perm.append_right _).trans perm_in.symm), q⟩
      match ifs, q with
      | [], q => exact wpAny_tests_nil (after true F4 K4 H4 s₃ (.refl K4) m4 r4 q)
      | [c], q => exact wpAny_tests_one (wpAny_mono ((show Tp _ _ _ _ _ _ _ _ from q) K4 m4 _ s₃ r4) (fun b s5 hq => by obtain ⟨K5, H5, l5, r5, F5, m5, q⟩ := hq; exact after b F5 K5 H5 s5 l5 m5 r5 q) fun e s' q => (noPQ (v := e) q).elim)
      | _ :: _ :: _, q => exact q.elim
  exact codeAny_compStart_list goal (Pi.self r5 goal)
theorem Rep.other {s : Shared} {h' : Heap} {C : Addr} {x : AO} (r : Rep G fr F ((C, x) :: H) s) (hfr : ∀ e ∈ fr, e.frame ≠ some C) (hs : Heap.SameBut C s.heap h') : Rep G fr F H { s with heap := h' } := by
  have d := r.drop hfr
  have fC : F C = none := (r.own _ (.head _)).1
  have nC : ∀ p ∈ H, p.1 ≠ C := fun p hp q => (List.nodup_cons.mp r.nd).1 (mem_keys hp q)
  exact ⟨d.gok, d.base, fun b o e => hs.extBut b o (fun q => by subst q; rw [fC] at e; cases e) (d.fz b o e), fun p hp => by obtain ⟨n, o, g, rr⟩ := d.own p hp; exact ⟨n, o, hs.extBut _ _ (nC p hp) g, rr⟩, d.nd, d.frs, d.gens, d.os⟩
theorem names_ok {scope : Scope} (h : (scope.names.all fun x => (x.2 != .local) || decide (scope.names.lookup x.1 = some .local)) = true) : ∀ x ∈ scope.names, x.2 = .local → scope.names.lookup x.1 = some .local := fun x hx hl => by
  have := List.all_eq_true.mp h x hx
  rw [hl] at this
  simpa using this
inductive CompS (G : Glob) (fr : List Env) (A : Around) (cenv : Addr → Env) (nms : List Str) (target elt : Expr) (ifs : List Expr) (y : V) (F1 : Fz) (H1 : Hp) (Fin : List V → Fz → Hp → Prop) : Prop where
  | mk (l : List V) (H1' : Hp) (itr : IterO G A target F1 H1 y l H1') (hl : l.length ≤ sizeLine) (I : Nat → List V → Fz → Hp → Prop) (h0 : I 0 [] F1 H1') (T : Turns G fr A cenv nms target elt ifs l I) (fin : ∀ acc F2 H2, I l.length acc F2 H2 → Fin acc F2 H2)
theorem Ev_ListCompO {elt target iter : Expr} {ifs : List Expr} {scope : Scope} {cl : List (Str × Addr)} {pos : Pos} {Q : V → Fz → Hp → Prop} (nms : List Str)
    (hclos : closureFor scope env = pure cl)
    (h : Ev G fr A F H (eval iter env) (fun y F1 H1 => CompS G fr A (fun C => compEnvC scope cl C env) nms target elt ifs y F1 H1 fun acc F2 H2 => Q (.lst acc) F2 H2) E)
    (hnd : nms.Nodup) (hcell : autoParam ((scope.names.all fun x => x.2 != .cell) = true) tac0) (hkind : autoParam (scope.kind = .function) tac0) (hnames : autoParam ((scope.names.all fun x => (x.2 != .local) || decide (scope.names.lookup x.1 = some .local)) = true) tac0)
    (hs : ∀ x, foldedSetIterable iter env x = pure x := by intro _; rfl) :
    Ev G fr A F H (eval (.ListComp elt [⟨target, iter, ifs, 0⟩] scope pos) env) Q E := fun K m R s hR => by
  rw [eval_ListComp]
  refine wpAny_comprehension_free (use := none) rfl hs hclos hkind (names_ok hnames) (h.go m hR (.refl K) fun x y F1 K1 H1 s1 l1 m1 r1 hy hq => ?_)
  obtain ⟨l, H1', itr, hsz, I, h0, T, fin⟩ := hq
  refine comp_core m1 hy r1 itr hsz h0 T hkind (fun z hz => by simpa using List.all_eq_true.mp hcell z hz) hnd fun D C acc F2 K2 H2 ρ s' hfr l2 m2 hI hak r => ?_
  obtain ⟨o, ho, hro⟩ := (r.own _ (.head _)).2
  obtain ⟨ms, hn, _, _⟩ := nsOf ho hro
  refine ⟨ms, hn, fun h' hs' => ?_⟩
  obtain ⟨K3, l3, r3, hv⟩ := list_freeze (H := H2) (R := R) (r.other hfr hs')
  exact ⟨K3, H2, l1.trans (l2.trans l3), r3, _, hv, F2, m2.trans l3, fin acc F2 H2 hI⟩
theorem Ev_ListComp {elt target iter : Expr} {ifs : List Expr} {scope : Scope} {cl : List (Str × Addr)} {pos : Pos} {Q : V → Fz → Hp → Prop} (nms : List Str)
    (hclos : closureFor scope env = pure cl)
    (h : Ev G fr A F H (eval iter env) (fun y F1 H1 => ∃ l, Iterable G A y l ∧ l.length ≤ sizeLine ∧ ∃ I : Nat → List V → Fz → Hp → Prop, I 0 [] F1 H1 ∧ Turns G fr A (fun C => compEnvC scope cl C env) nms target elt ifs l I ∧
      ∀ acc F2 H2, I l.length acc F2 H2 → Q (.lst acc) F2 H2) E)
    (hnd : nms.Nodup) (hcell : autoParam ((scope.names.all fun x => x.2 != .cell) = true) tac0) (hkind : autoParam (scope.kind = .function) tac0) (hnames : autoParam ((scope.names.all fun x => (x.2 != .local) || decide (scope.names.lookup x.1 = some .local)) = true) tac0)
    (hs : ∀ x, foldedSetIterable iter env x = pure x := by intro _; rfl) :
    Ev G fr A F H (eval (.ListComp elt [⟨target, iter, ifs, 0⟩] scope pos) env) Q E :=
  Ev_ListCompO nms hclos (h.mono (fun _ _ _ hq => by obtain ⟨l, itr, hl, I, h0, T, fin⟩ := hq; exact ⟨l, _, itr.o, hl, I, h0, T, fin⟩) fun _ _ _ e => e) hnd hcell hkind hnames hs
theorem Ex_Assign_ListCompO {elt target iter : Expr} {ifs : List Expr} {scope : Scope} {cl : List (Str × Addr)} {pos py spos : Pos} {y : Str} {Q : FV → Fz → Hp → Prop} (nms : List Str)
    (hclos : closureFor scope env = pure cl)
    (h : Ev G fr A F H (eval iter env) (fun x F1 H1 => CompS G fr A (fun C => compEnvC scope cl C env) nms target elt ifs x F1 H1 fun acc F2 H2 => Store env y (.lst acc) F2 H2 (Q .next)) E)
    (hnd : nms.Nodup) (hsw : autoParam (swapsWith (.ListComp elt [⟨target, iter, ifs, 0⟩] scope pos) (some (.Name y py)) spos.line env = pure true) tac0) (hcell : autoParam ((scope.names.all fun x => x.2 != .cell) = true) tac0) (hkind : autoParam (scope.kind = .function) tac0) (hnames : autoParam ((scope.names.all fun x => (x.2 != .local) || decide (scope.names.lookup x.1 = some .local)) = true) tac0)
    (hk : autoParam (env.scope.kind = .function) tac0) (hl : autoParam (env.kindOf y = some .local) tac0)
    (hs : ∀ x, foldedSetIterable iter env x = pure x := by intro _; rfl) :
    Ex G fr A F H (exec (.Assign [.Name y py] (.ListComp elt [⟨target, iter, ifs, 0⟩] scope pos) spos) env) Q E := fun K m R s hR => by
  rw [exec_Assign_Name_used _ _ _ _ hsw]
  refine wpAny_bind (wpAny_standAt (wpAny_bind ?_))
  show wpAny _ A (do let _ ← comprehension (.ListComp elt [⟨target, iter, ifs, 0⟩] scope pos) scope env _ (newList []) false (eval iter env) (some (assign (.Name y py) env))) _ _ s
  refine wpAny_bind (wpAny_mono (wpAny_comprehension_free (use := some (assign (.Name y py) env)) (Q := fun _ s' => PQ G fr K R (FQ Q) .next s') rfl hs hclos hkind (names_ok hnames)
    (h.go m hR (.refl K) fun x y' F1 K1 H1 s1 l1 m1 r1 hy hq => ?_)) (fun _ s' hq => wpAny_pure (wpAny_pure hq)) fun _ _ e => e)
  obtain ⟨l, H1', itr, hsz, I, h0, T, fin⟩ := hq
  refine comp_core m1 hy r1 itr hsz h0 T hkind (fun z hz => by simpa using List.all_eq_true.mp hcell z hz) hnd fun D C acc F2 K2 H2 ρ s' hfr l2 m2 hI hak r => ?_
  obtain ⟨K3, l3, r3, hv⟩ := list_freeze (H := (C, AO.ns ρ) :: H2) (R := R) (r.perm (.swap ..))
  have l13 := l1.trans (l2.trans l3)
  show wpAny _ A (assign (.Name y py) env (.ref D)) _ _ s'
  refine wpAny_mono (wpAny_assign_Name (TpAt.seq (R := (C, AO.ns ρ) :: R) (P := fun _ s'' => ∃ m, s''.heap.Ns C m ∧ ∀ h', Heap.SameBut C s''.heap h' → PQ G fr K R (FQ Q) .next { s'' with heap := h' })
    (store (G := G) (fr := fr) (A := A) (E := E) (m2.trans l3) hv (fin acc F2 H2 hI) hk hl) (r3.perm List.perm_middle.symm) (.refl K3) fun _ K4 H4 s4 l4 r4 hq => ?_)) (fun _ _ x => x) fun e s5 hq => ?_
  · obtain ⟨F4, m4, q⟩ := hq
    have r5 : Rep G fr K4 ((C, AO.ns ρ) :: (H4 ++ R)) s4 := r4.perm List.perm_middle
    obtain ⟨o, ho, hro⟩ := (r5.own _ (.head _)).2
    obtain ⟨ms, hn, _, _⟩ := nsOf ho hro
    exact ⟨ms, hn, fun h' hs' => upPQ (l13.trans l4) (fret (r5.other hfr hs') .next m4 q)⟩
  · obtain ⟨K5, H5, l5, r5, q⟩ := hq
    exact ⟨K5, H5, l13.trans l5, (r5.perm List.perm_middle).drop hfr, q⟩
theorem Ex_Assign_ListComp {elt target iter : Expr} {ifs : List Expr} {scope : Scope} {cl : List (Str × Addr)} {pos py spos : Pos} {y : Str} {Q : FV → Fz → Hp → Prop} (nms : List Str)
    (hclos : closureFor scope env = pure cl)
    (h : Ev G fr A F H (eval iter env) (fun x F1 H1 => ∃ l, Iterable G A x l ∧ l.length ≤ sizeLine ∧ ∃ I : Nat → List V → Fz → Hp → Prop, I 0 [] F1 H1 ∧ Turns G fr A (fun C => compEnvC scope cl C env) nms target elt ifs l I ∧
      ∀ acc F2 H2, I l.length acc F2 H2 → Store env y (.lst acc) F2 H2 (Q .next)) E)
    (hnd : nms.Nodup) (hsw : autoParam (swapsWith (.ListComp elt [⟨target, iter, ifs, 0⟩] scope pos) (some (.Name y py)) spos.line env = pure true) tac0) (hcell : autoParam ((scope.names.all fun x => x.2 != .cell) = true) tac0) (hkind : autoParam (scope.kind = .function) tac0) (hnames : autoParam ((scope.names.all fun x => (x.2 != .local) || decide (scope.names.lookup x.1 = some .local)) = true) tac0)
    (hk : autoParam (env.scope.kind = .function) tac0) (hl : autoParam (env.kindOf y = some .local) tac0)
    (hs : ∀ x, foldedSetIterable iter env x = pure x := by intro _; rfl) :
    Ex G fr A F H (exec (.Assign [.Name y py] (.ListComp elt [⟨target, iter, ifs, 0⟩] scope pos) spos) env) Q E :=
  Ex_Assign_ListCompO nms hclos (h.mono (fun _ _ _ hq => by obtain ⟨l, itr, hl, I, h0, T, fin⟩ := hq; exact ⟨l, _, itr.o, hl, I, h0, T, fin⟩) fun _ _ _ e => e) hnd hsw hcell hkind hnames hk hl hs
end
section
variable {G : Glob} {fr : List Env} {A : Around} {env : Env} {F : Fz} {H H' : Hp} {E : Value → Fz → Hp → Prop} {Q : V → Fz → Hp → Prop} {i j : Int}
theorem mod_ii (hj : j ≠ 0) (h : Q (.int (i.fmod j)) F H) : Op2 G fr A F H (binaryOp .Mod) (.int i) (.int j) Q E := fun K m => ii fun t u R s hR => PySem.AutoIntOps.mod_1 (by simpa using hj) (vret (hR.toks _) .int m h)
theorem Ex_AugAssign {ρ : List (Str × Option V)} {x : Str} {y : V} {pos' op value pos} {Q : FV → Fz → Hp → Prop} (hm : Has H env.locals (.ns ρ)) (hx : Lk ρ x y)
    (h : Ev G fr A F H (eval value env) (fun z F1 H1 => Op2 G fr A F1 H1 (inplaceOp op) y z (fun r F2 H2 => Store env x r F2 H2 (Q .next)) E) E)
    (hk : autoParam (env.scope.kind = .function) tac0) (hl : autoParam (env.kindOf x = some .local) tac0) : Ex G fr A F H (exec (.AugAssign (.Name x pos') op value pos) env) Q E := fun K m R s hR => by
  obtain ⟨o, ho, r⟩ := hR.has hm
  obtain ⟨ms, hn, nd, hp⟩ := nsOf ho r
  obtain ⟨v, hv, hr⟩ := hp _ hx.mem
  refine wpAny_AugAssign_Name (wpAny_loadName_local hk hl hn hv (h.go m hR (.refl K) fun b z F1 K1 H1 s1 l1 m1 r1 hz h1 => (h1 K1 m1 v b (hr.mono l1) hz).go r1 l1 fun c q F2 K2 H2 s2 l2 m2 r2 hq hqq => ?_))
  exact (store m2 hq hqq hk hl).seq r2 (l1.trans l2) fun _ K3 H3 s3 l3 r3 hq => by
    obtain ⟨F3, m3, q⟩ := hq
    exact upPQ (l1.trans (l2.trans l3)) (fret r3 .next m3 q)
theorem range1 (h : Q (.rng 0 i 1) F H) : Cl G fr A F H (.typ "range") [.int i] Q E := cl_t1 fun K m v hv => by
    refine hv.e_int (P := fun v => EvAt _ _ _ _ _ (call _ [v]) _ _) fun t R s hR => ?_
    refine call_range_1 ?_
    obtain ⟨le, r⟩ := hR.newF (tk := s.toks + 1 + 1) (dr := s.drawn) (fun b o e => Heap.get?_push_of_some { cls := .type "range", data := .fields #[.int 0 s.toks, .int i _, .int 1 (s.toks + 1)] } e) (none_at_size s.heap) (Heap.get?_push_size s.heap rfl)
    exact ⟨_, H, le, r, _, .rng (Fz.add_self _ _ _), F, m.trans le, h⟩
theorem small_n {n : Nat} (h : n < 2 ^ 62) : Builtin.Range.small 0 n 1 = true := by
  have e : Builtin.Range.rangeSize 0 n 1 = n := by
    unfold Builtin.Range.rangeSize
    simp
    try lia
  unfold Builtin.Range.small
  rw [e]
  simp [Builtin.Range.rangeFitsLong]
  lia
end
section
variable {G : Glob} {fr : List Env} {A : Around} {env : Env} {F : Fz} {H H' : Hp} {E : Value → Fz → Hp → Prop} {Q : V → Fz → Hp → Prop}
theorem Ev_Attribute {value : Expr} {attr : Str} {pos : Pos} (h : Ev G fr A F H (eval value env) (fun x F1 H1 => Op1 G fr A F1 H1 (fun v => getAttr v attr true) x Q E) E)
    (he : autoParam (eval (.Attribute value attr pos) env = (do
      let o ← eval value env
      standAt pos.atName
      let r ← holding [o] (getAttr o attr true)
      letTemporaryGo value o r
      pure r)) tac3) : Ev G fr A F H (eval (.Attribute value attr pos) env) Q E := fun K m R s hR =>
  Attribute_any_ (h.go m hR (.refl K) fun v x F1 K1 H1 s1 l1 m1 r1 hx h1 => (h1 K1 m1 v hx).last r1 l1) he
noncomputable def noBlt : V → Prop
  | .blt _ => False
  | _ => True
theorem noBlt.handed {v : Value} {y : V} (h : noBlt y) (hv : RV F v y) : handedOut v = pure v := by
  cases hv <;> first | rfl | exact h.elim
theorem get_exc {x D : Addr} {c : String} {args : List V} {tb : Option Addr} {cx : Bool} {ρ : List (Str × V)} {name : Str} {y : V} (hx : Has H x (.exc "Exception" args tb (some D) cx)) (hD : Has H D (.attrs ρ)) (hy : ρ.lookup name = some y) (hn : noBlt y) (hB : typeLookup (.type "Exception") name = pure none) (h : Q y F H) :
    Op1 G fr A F H (fun v => getAttr v name true) (.ref x) Q E := fun K m v hv R s hR => by
  obtain rfl := hv.i_ref
  obtain ⟨o, ho, vs, a, v5, hc, hd, hdt, _⟩ := hR.has hx
  obtain ⟨oD, hoD, es, ep, hed, hk, hu, hf⟩ := hR.has hD
  have := hf name
  rw [hy] at this
  obtain ⟨v, hv, hr⟩ := this
  exact exc_get ho hc hd hdt ⟨oD, es, ep, hoD, hed, hk, fun _ => rfl⟩ hv hB (hn.handed hr) (vret (hR.toks _) hr m h)
noncomputable def SetA (G : Glob) (fr : List Env) (A : Around) (F : Fz) (H : Hp) (attr : Str) (x y : V) (Q : Fz → Hp → Prop) (E : Value → Fz → Hp → Prop) : Prop := ∀ K, F.le K → ∀ a v, RV K a x → RV K v y → TpAt G fr A K H (setAttr a attr v) (fun _ => Dn Q) E
theorem Ex_Assign_Attr {o : Expr} {attr : Str} {pos' value pos} {Q : FV → Fz → Hp → Prop}
    (h : Ev G fr A F H (eval value env) (fun y F1 H1 => Ev G fr A F1 H1 (eval o env) (fun x F2 H2 => SetA G fr A F2 H2 attr x y (Q .next) E) E) E)
    (hs : autoParam (swapsWith value (some (.Attribute o attr pos')) pos.line env = pure false) tac0) : Ex G fr A F H (exec (.Assign [.Attribute o attr pos'] value pos) env) Q E := fun K m R s hR =>
  plainObj_wpAny_Assign_Attribute (h.go m hR (.refl K) fun v y F1 K1 H1 s1 l1 m1 r1 hy h1 => h1.go m1 r1 l1 fun a x F2 K2 H2 s2 l2 m2 r2 hx h2 =>
    (h2 K2 m2 a v hx (hy.mono l2)).seq r2 (l1.trans l2) fun _ K3 H3 s3 l3 r3 hq => by
      obtain ⟨F3, m3, q⟩ := hq
      exact upPQ (l1.trans (l2.trans l3)) (fret r3 .next m3 q)) hs
theorem lookup_cons' {ρ : List (Str × V)} {name n : Str} {y : V} : ((name, y) :: ρ).lookup n = if n = name then some y else ρ.lookup n := by
  by_cases e : n = name
  · subst e; simp [List.lookup]
  · have hne : (n == name) = false := beq_eq_false_iff_ne.mpr e
    simp [List.lookup, hne, e]
theorem attrs_of {w : World} {h : Heap} {D : Addr} {ρ : List (Str × V)} {m : Str → Option Value} {name : Str} {v : Value} {y : V} (hn : h.Ns1 D (fun z => if z = name then some v else m z)) (hv : RV F v y) (hm : ∀ n, match ρ.lookup n with | none => m n = none | some x => ∃ v, m n = some v ∧ RV F v x) :
    ∃ o, h.get? D = some o ∧ RO w F o (.attrs ((name, y) :: ρ)) := by
  obtain ⟨o, es, ep, ho, hd, hk, hu, hf⟩ := hn
  refine ⟨o, ho, es, ep, hd, hk, hu, fun n => ?_⟩
  rw [lookup_cons', hf n]
  dsimp only
  by_cases e : n = name
  · rw [if_pos e, if_pos e]; exact ⟨v, rfl, hv⟩
  · rw [if_neg e, if_neg e]; exact hm n
theorem set_exc {x D : Addr} {args : List V} {tb : Option Addr} {cx : Bool} {ρ : List (Str × V)} {name : Str} {y : V} {Q : Fz → Hp → Prop} (hx : Has H x (.exc "Exception" args tb (some D) cx)) (hD : Upd H D (.attrs ρ) (.attrs ((name, y) :: ρ)) H') (hsz : ρ.length + 1 ≤ sizeLine) (hB : typeLookup (.type "Exception") name = pure none) (h : Q F H') :
    SetA G fr A F H name (.ref x) y Q E := fun K m a v ha hv R s hR => by
  obtain rfl := ha.i_ref
  obtain ⟨o, ho, vs, a, v5, hc, hd, hdt, _⟩ := hR.has hx
  obtain ⟨oD, hoD, es, ep, hed, hk, hu, hf⟩ := hR.get hD.mem
  have hn1 : s.heap.Ns1 D (fun n => nsFind es n) := ⟨oD, es, ep, hoD, hed, hk, hu, fun _ => rfl⟩
  refine exc_set ho hc fun tk P E' A' hP => excset_more (ns := ρ.map (·.1)) ho hc hd hdt hB hn1 (fun n hne => ?_) (by rw [List.length_map]; exact hsz) fun h' tk' hn' hs' => hP _ ?_
  · have := hf n
    cases q : ρ.lookup n with
    | none => rw [q] at this; exact absurd this hne
    | some z =>
      have : ∀ {l : List (Str × V)} {n : Str} {z : V}, l.lookup n = some z → n ∈ l.map (·.1) := by
        intro l
        induction l with
        | nil => intro n z h; cases h
        | cons p l ih =>
          intro n z h
          rw [lookup_cons'] at h
          by_cases e : n = p.1
          · exact e ▸ .head _
          · rw [if_neg e] at h; exact .tail _ (ih h)
      exact this q
  · obtain ⟨o', ho', r'⟩ := attrs_of (w := G.w) hn' hv hf
    exact ⟨K, H', .refl K, hR.upd' (tk := tk') (dr := s.drawn) hD hs'.extBut ho' r' notNs_attrs, F, m, h⟩
theorem Rep.adopt {s : Shared} {D : Addr} {o : Obj} {x : AO} (h : Rep G fr F H s) (hF : F D = none) (hH : D ∉ H.map (·.1)) (ho : s.heap.get? D = some o) (r : RO G.w F o x) : Rep G fr F ((D, x) :: H) s :=
  ⟨h.gok, h.base, h.fz, fun p hp => by
    cases hp with
    | head => exact ⟨hF, o, ho, r⟩
    | tail _ hp => exact h.own p hp, List.nodup_cons.mpr ⟨hH, h.nd⟩, fun e he => ⟨(h.frs e he).1, by obtain ⟨L, ρ, a, b⟩ := (h.frs e he).2; exact ⟨L, ρ, a, .tail _ b⟩⟩, h.gens, h.os⟩
theorem set_exc_first {x : Addr} {args : List V} {name : Str} {y : V} {H1 : Hp} {cx : Bool} {Q : Fz → Hp → Prop} (hx : Rem H x (.exc "Exception" args none none cx) H1) (hB : typeLookup (.type "Exception") name = pure none)
    (h : ∀ D, Q F ((D, .attrs [(name, y)]) :: (x, .exc "Exception" args none (some D) cx) :: H1)) :
    SetA G fr A F H name (.ref x) y Q E := fun K m a v ha hv R s hR => by
  obtain rfl := ha.i_ref
  have r1 := hR.perm (hx.perm.append_right R)
  obtain ⟨_, o, ho, hro⟩ := r1.own _ (.head _)
  obtain ⟨vs, a, v5, hc, hd, hdt, h0, ha, h1, h5, h5s, hcx⟩ := id hro
  refine exc_set ho hc fun tk P E' A' hP => excset_first ho hc hd hdt hB fun h' tk' D hD hx' hn' hk => hP _ ?_
  have r2 : Rep G fr K ((x, .exc "Exception" args none (some D) cx) :: (H1 ++ R)) { s with heap := h', toks := tk' } :=
    Rep.upd (dr := s.drawn) (x := .exc "Exception" args none none cx) (x' := .exc "Exception" args none (some D) cx) r1 (fun b o hb e => hk b o hb e) hx' ⟨vs, a, v5, hc, rfl, hdt, h0, ha, h1, h5, h5s, hcx⟩ (fun hq => by obtain ⟨_, e⟩ := hq; cases e)
  obtain ⟨o', ho', r'⟩ := attrs_of (w := G.w) (F := K) (ρ := []) hn' hv (fun n => rfl)
  have fr1 := r1.fresh hD
  exact ⟨K, _, .refl K, r2.adopt fr1.1 fr1.2 ho' r', F, m, h D⟩
theorem exc_new0 (h : ∀ a, Q (.ref a) F ((a, .exc "Exception" [] none none true) :: H)) : Cl G fr A F H (.typ "Exception") [] Q E := cl_t0 fun K m R s hR => by
  refine wpAny_call_exc PySem.F.excCall_Exception fun h' e hm => ?_
  obtain ⟨hk, hn, t, he, ht, hto⟩ := hm
  obtain ⟨le, r1⟩ := hR.newF (tk := s.toks) (dr := s.drawn) hk ht hto
  have fr1 := hR.fresh hn
  have hne : e ≠ t := fun q => by
    subst q
    rw [he] at hto
    exact absurd (congrArg Obj.cls (Option.some.inj hto)) (by simp)
  have r2 := Rep.adopt (x := .exc "Exception" [] none none true) r1 (by unfold Fz.add; rw [if_neg hne]; exact fr1.1) fr1.2 he ⟨_, t, _, rfl, rfl, rfl, rfl, .tup (vs := []) (l := []) (Fz.add_self _ _ _) rfl (fun i v x e => by simp at e), rfl, rfl, (fun q => absurd q (by decide)), fun _ => rfl⟩
  exact ⟨_, _, le, r2, _, .ref, F, m.trans le, h e⟩
theorem Ev_Dict0 {pos} (h : ∀ a, Q (.ref a) F ((a, .dict []) :: H)) : Ev G fr A F H (eval (.Dict [] [] pos) env) Q E := fun K m R s hR =>
  wpAny_Dict_empty ⟨K, (s.heap.objs.size, .dict []) :: H, .refl K, hR.new (x := .dict []) (tk := s.toks) (dr := s.drawn) (fun b o e => Heap.get?_push_of_some _ e) (none_at_size _) (Heap.get?_push_size _ rfl) ⟨#[], 0, rfl, .nil⟩, _, .ref, F, m, h _⟩
theorem RD.length {w : World} {es : List DictEntry} {l : List (V × V)} (h : RD w F es l) : es.length = l.length := by
  induction h with
  | nil => rfl
  | cons _ _ _ ih => simp [ih]
theorem clear {a : Addr} {l : List (V × V)} (hu : Upd H a (.dict l) (.dict []) H') (hl : l.length ≤ sizeLine) (h : Q .none F H') : Cl G fr A F H (.blt "dict.clear") [.ref a] Q E := cl_b1 fun K m v hv R s hR => by
    obtain rfl := hv.i_ref
    obtain ⟨o, ho, es, n, rfl, hr⟩ := hR.get hu.mem
    have hes : es.size ≤ sizeLine := by have := hr.length; simp at this; lia
    refine wpAny_call_entry PySem.F.slot_dict_clear ⟨_, ho, rfl⟩ PySem.F.entry_dict_clear ?_ (PySem.F.args_dict_clear_1 _)
    unfold Builtin.«dict.clear»
    refine wpAny_bind ?_
    unfold Builtin.Dict.noArgs
    refine wpAny_bind (wpAny_notOrdered_dict ⟨_, ho, rfl⟩ ?_)
    show wpAny _ _ (pure a) _ _ s
    refine wpAny_pure ?_
    refine wpAny_bind (wpAny_dictEntries ho rfl ?_)
    refine wpAny_bind ?_
    unfold bearsInstanceDictMark
    refine wpAny_bind (wpAny_load ho (wpAny_pure ?_))
    refine wpAny_bind (wpAny_updateDictKeys (hz := hes) ho rfl ?_)
    have g := Heap.get?_update_self (Obj.mapDictKeys fun _ => #[]) ho (Obj.isFreed_of_dict (Obj.data_mapDictKeys rfl _))
    have r2 : Rep G fr K (H' ++ R) { s with heap := s.heap.update a (Obj.mapDictKeys fun _ => #[]) } := hR.upd' (tk := s.toks) (dr := s.drawn) hu (Heap.SameBut.update ..).extBut g ⟨#[], n + 1, rfl, .nil⟩ notNs_dict
    split
    · exact wpAny_bind (wpAny_letGo (wpAny_pure ⟨.none, rfl, K, H', .refl K, r2, _, .none, F, m, h⟩))
    · exact wpAny_bind (wpAny_pure (wpAny_pure ⟨.none, rfl, K, H', .refl K, r2, _, .none, F, m, h⟩))
inductive PatF (F : Fz) (p : Addr) : Prop where
  | intro (o : Obj) (fs items : Array Value) (c : Addr) (oc : Obj) (n : Nat) (t3 t6 : Tok) (h1 : F p = some o) (h2 : o.cls = .type "re.Pattern") (h3 : o.dict = none) (h4 : o.data = .fields fs) (h5 : fs.getD 6 .none = .int 0 t6) (h6 : fs.getD 5 .none = .ref c) (h7 : fs.getD 2 .none = .int 3 t3)
    (h8 : F c = some oc) (h9 : oc.data = .seq items n) (h10 : Code (wordsOf items)) (h11 : Sre.header (wordsOf items) = (1, 5))
theorem PatF.mono {F F' : Fz} {p : Addr} (le : F.le F') (h : PatF F p) : PatF F' p := by
  obtain ⟨o, fs, items, c, oc, n, t3, t6, h1, h2, h3, h4, h5, h6, h7, h8, h9, h10, h11⟩ := h
  exact ⟨o, fs, items, c, oc, n, t3, t6, le _ _ h1, h2, h3, h4, h5, h6, h7, le _ _ h8, h9, h10, h11⟩
noncomputable def BoundF (F : Fz) (b p : Addr) : Prop := F b = some (boundM "re.Pattern.match" (.ref p)) ∧ PatF F p
theorem BoundF.mono {F F' : Fz} {b p : Addr} (le : F.le F') (h : BoundF F b p) : BoundF F' b p := ⟨le _ _ h.1, h.2.mono le⟩
theorem BoundF.ok {b p : Addr} (h : BoundF F b p) : KOk F (.ref b) := .meth h.1 rfl rfl
theorem get_match {p : Addr} (hp : PatF F p) (h : ∀ b F', F.le F' → BoundF F' b p → Q (.ref b) F' H) : Op1 G fr A F H (fun v => getAttr v "match" true) (.ref p) Q E := fun K m v hv R s hR => by
  obtain rfl := hv.i_ref
  obtain ⟨o, fs, items, c, oc, n, t3, t6, h1, h2, h3, h4, _⟩ := id hp
  refine pat_match (hR.fz _ _ (m _ _ h1)) h2 h3 h4 ?_
  obtain ⟨le, r⟩ := hR.newF (tk := s.toks + 1) (dr := s.drawn) (fun b o e => Heap.get?_push_of_some (boundM "re.Pattern.match" (.ref p)) e) (none_at_size _) (Heap.get?_push_size _ rfl)
  exact ⟨_, H, le, r, _, .ref, _, .refl _, h _ _ (m.trans le) ⟨Fz.add_self _ _ _, hp.mono (m.trans le)⟩⟩
inductive MatchF (F : Fz) (m : Addr) (T : Str) (st hd : Nat) (s0 s1 s2 : Option (Nat × Nat)) : Prop where
  | intro (tk : Tok) (pat : Value) (lim : Nat) (li : Int) (u : Addr) (h1 : F m = some (matchObj (.str T tk) pat st lim li u)) (h2 : F u = some { cls := .type "tuple", data := .seq (spanTup st hd s0 s1 s2).toArray })
theorem MatchF.mono {F F' : Fz} {m : Addr} {T : Str} {st hd : Nat} {s0 s1 s2 : Option (Nat × Nat)} (le : F.le F') (h : MatchF F m T st hd s0 s1 s2) : MatchF F' m T st hd s0 s1 s2 := by obtain ⟨a, b, c, d, e, h1, h2⟩ := h; exact ⟨a, b, c, d, e, le _ _ h1, le _ _ h2⟩
theorem MatchF.ty {m : Addr} {T : Str} {st hd : Nat} {s0 s1 s2 : Option (Nat × Nat)} (h : MatchF F m T st hd s0 s1 s2) : TyIs F H (.ref m) "re.Match" := by obtain ⟨a, b, c, d, e, h1, h2⟩ := h; exact .frz h1 rfl rfl
theorem match_num {b p : Addr} {T : Str} {i : Nat} (hb : BoundF F b p) (hi : i < T.cps.size) (hT : T.cps.size ≤ Sre.maxRepeat)
    (hnone : intAt T.cps T.cps.size (signAt T.cps T.cps.size i) = none → Q .none F H)
    (hsome : ∀ p, intAt T.cps T.cps.size (signAt T.cps T.cps.size i) = some p → ∀ m F', F.le F' → MatchF F' m T i (expEnd T.cps T.cps.size (fracEnd T.cps T.cps.size p)) (some (i, p)) ((fracAt T.cps T.cps.size p).map fun e => (p, e)) ((expAt T.cps T.cps.size (fracEnd T.cps T.cps.size p)).map fun e => (fracEnd T.cps T.cps.size p, e)) → Q (.ref m) F' H) :
    Cl G fr A F H (.ref b) [.str T, .int i] Q E := fun K m v vs hv hvs => by
      obtain rfl := hv.i_ref
      refine hvs.e2 (P := fun vs => EvAt _ _ _ _ _ (call _ vs) _ _) fun x y hx hy => hx.e_str (P := fun x => EvAt _ _ _ _ _ (call _ [x, y]) _ _) fun t => hy.e_int (P := fun y => EvAt _ _ _ _ _ (call _ [_, y]) _ _) fun u' R s hR => ?_
      obtain ⟨hb, o, fs, items, c, oc, n, t3, t6, h1, h2, h3, h4, h5, h6, h7, h8, h9, h10, h11⟩ := BoundF.mono m hb
      refine call_match (hR.fz _ _ hb) (hR.fz _ _ h1) h2 h4 fun A' => match_run (hR.fz _ _ h1) h4 h5 h6 h7 (hR.fz _ _ h8) h9 h10 h11 hi hT (fun hn => ⟨_, rfl, K, H, .refl K, hR, _, .none, F, m, hnone hn⟩) fun p hp h' hk u v li n1 n2 n3 hu hv => ?_
      obtain ⟨le1, r1⟩ := hR.newF (tk := s.toks) (dr := s.drawn) hk n1 hu
      have f2 : (K.add u { cls := .type "tuple", data := .seq (spanTup i (expEnd T.cps T.cps.size (fracEnd T.cps T.cps.size p)) (some (i, p)) ((fracAt T.cps T.cps.size p).map fun e => (p, e)) ((expAt T.cps T.cps.size (fracEnd T.cps T.cps.size p)).map fun e => (fracEnd T.cps T.cps.size p, e))).toArray }) v = none := by
        unfold Fz.add; rw [if_neg (fun q => n3 q.symm)]; exact (hR.fresh n2).1
      obtain ⟨o', ho', le2, r2⟩ := Rep.freeze (x := .raw _) (Rep.adopt (x := .raw (matchObj (.str T _) (.ref _) i T.cps.size li u)) r1 f2 (hR.fresh n2).2 hv rfl) (fun _ e => nomatch e)
      have ho'' : o' = matchObj (.str T _) (.ref _) i T.cps.size li u := ho'
      subst ho''
      exact ⟨_, rfl, _, H, le1.trans le2, r2, _, .ref, _, .refl _, hsome p hp v _ (m.trans (le1.trans le2)) ⟨_, _, _, _, u, Fz.add_self _ _ _, le2 _ _ (Fz.add_self _ _ _)⟩⟩
noncomputable def grp? (T : Str) : Option (Nat × Nat) → V
  | none => .none
  | some (x, y) => .str ⟨T.cps.extract x y⟩
theorem grp_rv {T : Str} {b : Tok} {sp : Option (Nat × Nat)} : RV F (grpV T b sp) (grp? T sp) := by
  cases sp with
  | none => exact .none
  | some p => exact .str
theorem groups {m : Addr} {T : Str} {st hd : Nat} {s0 s1 s2 : Option (Nat × Nat)} (hm : MatchF F m T st hd s0 s1 s2) (hT : T.cps.size ≤ sizeLine) (h : Q (.tup [grp? T s0, grp? T s1, grp? T s2]) F H) : Cl G fr A F H (.blt "re.Match.groups") [.ref m] Q E := cl_b1 fun K m v hv R s hR => by
    obtain rfl := hv.i_ref
    obtain ⟨tk, pat, lim, li, u, h1, h2⟩ := hm.mono m
    refine wpAny_call_entry slot_groups ⟨_, hR.fz _ _ h1, rfl⟩ entry_groups (groups_run (hR.fz _ _ h1) (hR.fz _ _ h2) hT fun a b c tk' => ⟨_, rfl, ?_⟩) (args_groups _)
    obtain ⟨le, r⟩ := hR.newF (tk := tk') (dr := s.drawn) (fun b' o e => Heap.get?_push_of_some { cls := .type "tuple", data := .seq #[grpV T a s0, grpV T b s1, grpV T c s2] } e) (none_at_size s.heap) (Heap.get?_push_size s.heap (o := { cls := .type "tuple", data := .seq #[grpV T a s0, grpV T b s1, grpV T c s2] }) rfl)
    exact ⟨_, H, le, r, _, .tup (vs := [grpV T a s0, grpV T b s1, grpV T c s2]) (Fz.add_self _ _ _) rfl (RVs.get (.cons grp_rv (.cons grp_rv (.cons grp_rv .nil)))), F, m.trans le, h⟩
theorem mend {m : Addr} {T : Str} {st hd : Nat} {s0 s1 s2 : Option (Nat × Nat)} (hm : MatchF F m T st hd s0 s1 s2) (h : Q (.int hd) F H) : Cl G fr A F H (.blt "re.Match.end") [.ref m] Q E := cl_b1 fun K m v hv R s hR => by
    obtain rfl := hv.i_ref
    obtain ⟨tk, pat, lim, li, u, h1, h2⟩ := hm.mono m
    exact wpAny_call_entry slot_end ⟨_, hR.fz _ _ h1, rfl⟩ entry_end (end_run (hR.fz _ _ h1) (hR.fz _ _ h2) fun a tk' => ⟨_, rfl, vret (hR.toks _) .int m h⟩) (args_end _)
end
section
variable {G : Glob} {fr : List Env} {A : Around} {env : Env} {F : Fz} {H H' : Hp} {E : Value → Fz → Hp → Prop}
inductive StoreC (env : Env) (x : Str) (y : V) (F : Fz) (H : Hp) (Q : Fz → Hp → Prop) : Prop where
  | intro (c : Addr) (z : Option V) (H' : Hp) (hc : env.cells.lookup x = some c) (hu : Upd H c (.cell z) (.cell (some y)) H') (h : Q F H')
theorem StoreC.mk {env : Env} {x : Str} {y : V} {Q : Fz → Hp → Prop} {c : Addr} {z : Option V} {H' : Hp} (hc : env.cells.lookup x = some c) (hu : Upd H c (.cell z) (.cell (some y)) H') (h : Q F H') : StoreC env x y F H Q := ⟨c, z, H', hc, hu, h⟩
theorem notNs_cell {z z' : Option V} : (∃ ρ, AO.cell z = .ns ρ) → ∃ ρ, AO.cell z' = .ns ρ := fun h => by obtain ⟨_, q⟩ := h; cases q
theorem storeC {K : Fz} {x : Str} {v : Value} {y : V} {Q : Fz → Hp → Prop} (m : F.le K) (hv : RV K v y) (h : StoreC env x y F H Q) (hk : autoParam (env.scope.kind = .function) tac0) (hl : autoParam (env.kindOf x = some .cell) tac0) : TpAt G fr A K H (storeName env x v) (fun _ => Dn Q) E := fun R s hR => by
  obtain ⟨c, z, H', hc, hu, h⟩ := h
  obtain ⟨o, ho, r⟩ := hR.get hu.mem
  have hcell : ∃ v₀, s.heap.IsCell c v₀ := by
    cases z with
    | none => exact ⟨none, o, ho, r⟩
    | some z => obtain ⟨v, e, _⟩ := r; exact ⟨some v, o, ho, e⟩
  obtain ⟨v₀, hcell⟩ := hcell
  refine wpAny_storeName_cell hk hl hc hcell fun h' hc' hs' => ?_
  obtain ⟨o', ho', hd'⟩ := hc'
  exact ⟨K, H', .refl K, hR.upd' (tk := s.toks) (dr := s.drawn) hu hs'.extBut ho' ⟨v, hd', hv⟩ notNs_cell, F, m, h⟩
noncomputable def Sto (G : Glob) (fr : List Env) (A : Around) (env : Env) (F : Fz) (H : Hp) (x : Str) (y : V) (Q : Fz → Hp → Prop) (E : Value → Fz → Hp → Prop) : Prop := ∀ K, F.le K → ∀ v, RV K v y → TpAt G fr A K H (storeName env x v) (fun _ => Dn Q) E
theorem Sto_l {x : Str} {y : V} {Q : Fz → Hp → Prop} (h : Store env x y F H Q) (hk : autoParam (env.scope.kind = .function) tac0) (hl : autoParam (env.kindOf x = some .local) tac0) : Sto G fr A env F H x y Q E := fun K m v hv => store m hv h hk hl
theorem Sto_c {x : Str} {y : V} {Q : Fz → Hp → Prop} (h : StoreC env x y F H Q) (hk : autoParam (env.scope.kind = .function) tac0) (hl : autoParam (env.kindOf x = some .cell) tac0) : Sto G fr A env F H x y Q E := fun K m v hv => storeC m hv h hk hl
theorem Ex_Assign_NameC {x : Str} {pos' value pos} {Q : FV → Fz → Hp → Prop} (h : Ev G fr A F H (eval value env) (fun y F1 H1 => StoreC env x y F1 H1 (Q .next)) E)
    (hs : autoParam (swapsWith value (some (.Name x pos')) pos.line env = pure false) tac0) (hk : autoParam (env.scope.kind = .function) tac0) (hl : autoParam (env.kindOf x = some .cell) tac0) :
    Ex G fr A F H (exec (.Assign [.Name x pos'] value pos) env) Q E := fun K m R s hR =>
  wpAny_Assign_Name (h.go m hR (.refl K) fun v y F1 K1 H1 s1 l1 m1 r1 hy q =>
    (storeC m1 hy q hk hl).seq r1 l1 fun _ K2 H2 s2 l2 r2 hq => by
      obtain ⟨F2, m2, q⟩ := hq
      exact upPQ (l1.trans l2) (fret r2 .next m2 q)) hs
noncomputable def tabOf (l : List (Nat × Nat × Addr)) : Array Value := (l.flatMap fun t => [rawInt t.1, rawInt t.2.1, .ref t.2.2]).toArray
theorem tab_triples : ∀ l : List (Nat × Nat × Addr), TriplesOk (tabOf l).toList
  | [] => trivial
  | t :: l => tab_triples l
noncomputable def tabFind (pos : Pos) : List (Nat × Nat × Addr) → Option Addr
  | [] => none
  | t :: l => if t.1 = pos.line ∧ t.2.1 = pos.col then some t.2.2 else tabFind pos l
theorem tab_among (pos : Pos) : ∀ l : List (Nat × Nat × Addr), codeAmong pos (tabOf l).toList = (tabFind pos l).map .ref
  | [] => rfl
  | t :: l => by
    have e : codeAmong pos (tabOf (t :: l)).toList = if ((t.1 : Int) == (pos.line : Int) && (t.2.1 : Int) == (pos.col : Int)) then some (.ref t.2.2) else codeAmong pos (tabOf l).toList := rfl
    have e2 : tabFind pos (t :: l) = if t.1 = pos.line ∧ t.2.1 = pos.col then some t.2.2 else tabFind pos l := rfl
    rw [e, tab_among pos l, e2]
    by_cases h : t.1 = pos.line ∧ t.2.1 = pos.col
    · rw [if_pos h, if_pos (by simp [h.1, h.2])]; rfl
    · rw [if_neg h, if_neg]
      intro q
      rw [Bool.and_eq_true, beq_iff_eq, beq_iff_eq] at q
      exact h ⟨by exact_mod_cast q.1, by exact_mod_cast q.2⟩
theorem tab_snoc (l : List (Nat × Nat × Addr)) (x y : Nat) (c : Addr) : tabOf l ++ #[rawInt x, rawInt y, .ref c] = tabOf (l ++ [(x, y, c)]) := by
  unfold tabOf
  rw [List.flatMap_append]
  simp
noncomputable def CodeOk (F : Fz) (c P : Addr) : Prop := ∀ h : Heap, (∀ a o, F a = some o → h.get? a = some o) → CodeHd h c P
theorem CodeOk.mono {F F' : Fz} {c P : Addr} (le : F.le F') (h : CodeOk F c P) : CodeOk F' c P := fun hp k => h hp fun a o e => k a o (le a o e)
noncomputable def BOk (G : Glob) (P : Addr) : Prop := mainGlobals ≠ P ∧ ∀ h : Heap, (∀ a o, G.F0 a = some o → h.get? a = some o) → h.BuiltinsAt G.mg P
inductive FnF (F : Fz) (f : Addr) (name qual : Str) (params : Arguments) (body : List Stmt) (scope : Scope) (clos : List (Str × Addr)) : Prop where
  | intro (doc pm : Value) (c : Addr) (ctv : Value) (h1 : F f = some (fnMade name qual params body scope clos doc pm c ctv)) (h2 : CodeF F (.ref c) qual)
inductive LamF (F : Fz) (f : Addr) (name qual : Str) (params : Arguments) (body : Expr) (scope : Scope) (clos : List (Str × Addr)) : Prop where
  | intro (pm : Value) (c : Addr) (ctv : Value) (h1 : F f = some (kla_obj name qual params body scope clos pm c ctv)) (h2 : CodeF F (.ref c) qual)
theorem FnF.mono {F F' : Fz} {f : Addr} {name qual : Str} {params : Arguments} {body : List Stmt} {scope : Scope} {clos : List (Str × Addr)} (le : F.le F') (h : FnF F f name qual params body scope clos) : FnF F' f name qual params body scope clos := by obtain ⟨a, b, c, d, e, g⟩ := h; exact ⟨a, b, c, d, le _ _ e, g.mono le⟩
theorem LamF.mono {F F' : Fz} {f : Addr} {name qual : Str} {params : Arguments} {body : Expr} {scope : Scope} {clos : List (Str × Addr)} (le : F.le F') (h : LamF F f name qual params body scope clos) : LamF F' f name qual params body scope clos := by obtain ⟨b, c, d, e, g⟩ := h; exact ⟨b, c, d, le _ _ e, g.mono le⟩
theorem FnF.ok {f : Addr} {name qual : Str} {params : Arguments} {body : List Stmt} {scope : Scope} {clos : List (Str × Addr)} (h : FnF F f name qual params body scope clos) : KOk F (.ref f) := by obtain ⟨a, b, c, d, e, g⟩ := h; exact .fn e rfl
theorem LamF.ok {f : Addr} {name qual : Str} {params : Arguments} {body : Expr} {scope : Scope} {clos : List (Str × Addr)} (h : LamF F f name qual params body scope clos) : KOk F (.ref f) := by obtain ⟨b, c, d, e, g⟩ := h; exact .fn e rfl
theorem made {R : Hp} {s : Shared} {P : Addr} {l : List (Nat × Nat × Addr)} {x y : Nat} {H1 : Hp} {h' : Heap} {tk : Nat} {o : Obj} {c' : Addr} {qual : Str} (ho : o.isFreed = false) (hR : Rep G fr F (H ++ R) s) (hrem : Rem H P (.raw (tabObj (tabOf l))) H1)
    (he : Heap.ExtBut P s.heap h') (h1 : s.heap.objs.size ≤ c') (h2 : c' < h'.objs.size) (hc : h'.CodeRec (.ref c') qual) (hP : h'.get? P = some (tabObj (tabOf l ++ #[rawInt x, rawInt y, .ref c']))) :
    ∃ F', F.le F' ∧ F' h'.objs.size = some o ∧ CodeF F' (.ref c') qual ∧ Rep G fr F' (((P, .raw (tabObj (tabOf (l ++ [(x, y, c')])))) :: H1) ++ R) { s with heap := h'.push o, toks := tk } := by
  rw [tab_snoc] at hP
  have r1 := hR.perm (hrem.perm.append_right R)
  have r2 : Rep G fr F ((P, .raw (tabObj (tabOf (l ++ [(x, y, c')])))) :: (H1 ++ R)) { s with heap := h' } := Rep.upd (tk := s.toks) (dr := s.drawn) (x := .raw (tabObj (tabOf l))) (x' := .raw (tabObj (tabOf (l ++ [(x, y, c')])))) r1 he hP rfl (fun hq => by obtain ⟨_, e⟩ := hq; cases e)
  obtain ⟨c, oc, vs, t, e1, e2, e3, e4⟩ := hc
  cases e1
  have gone : s.heap.get? c' = none := by
    cases q : s.heap.get? c' with
    | none => rfl
    | some o => exact absurd (Heap.lt_size q) (Nat.not_lt.mpr h1)
  have n1 := r1.fresh gone
  obtain ⟨o', ho', le1, r3⟩ := Rep.freeze (x := .raw oc) (r2.adopt n1.1 n1.2 e2 rfl) (fun _ e => nomatch e)
  have ho'' : o' = oc := ho'
  subst ho''
  obtain ⟨le2, r4⟩ := r3.newF (h' := h'.push o) (tk := tk) (dr := s.drawn) (fun b o e => Heap.get?_push_of_some _ e) (none_at_size _) (Heap.get?_push_size _ ho)
  refine ⟨_, le1.trans le2, Fz.add_self _ _ _, ⟨c', o', vs, t, rfl, le2 _ _ (Fz.add_self _ _ _), e3, e4⟩, r4⟩
theorem Ex_FunctionDef {name : Str} {params : Arguments} {body : List Stmt} {scope : Scope} {pos : Pos} {c P : Addr} {l : List (Nat × Nat × Addr)} {H1 : Hp} {clos : List (Str × Addr)} {Q : FV → Fz → Hp → Prop}
    (hcode : env.code = .ref c) (hC : CodeOk F c P) (hB : BOk G P) (hrem : Rem H P (.raw (tabObj (tabOf l))) H1) (hnew : tabFind pos l = none) (hcl : closureFor scope env = pure clos)
    (h : ∀ f c' F', F.le F' → FnF F' f name (qualnameIn env name name) params body scope clos → Sto G fr A env F' ((P, .raw (tabObj (tabOf (l ++ [(pos.line, pos.col, c')])))) :: H1) name (.ref f) (Q .next) E)
    (hd0 : autoParam (params.defaults = []) tac0) (hk0 : autoParam (params.kw_defaults = []) tac0) (ha : autoParam (annTrees params none env = []) tac0) (hg : autoParam (env.globals = mainGlobals) tac0) :
    Ex G fr A F H (exec (.FunctionDef name params body [] none [] scope none name pos) env) Q E := fun K m R s hR => by
  have hP : s.heap.get? P = some (tabObj (tabOf l)) := by
    obtain ⟨_, o, ho, hro⟩ := (hR.perm (hrem.perm.append_right R)).own _ (.head _)
    have hro' : o = tabObj (tabOf l) := hro
    subst hro'; exact ho
  refine nestDef_K hd0 hk0 ha (makeFunction_K (mg := G.mg) hcl hg hR.glob.1 hcode ((hC.mono m) _ hR.fz) hP (tab_triples l) (by rw [tab_among, hnew]; rfl) hB.1 (hB.2 _ fun a o e => hR.fz a o (hR.base a o e)) fun c' ctv doc h' tk he h1 h2 hc hP' => ?_)
  obtain ⟨F', le, hf, hcf, r⟩ := made (o := fnMade name (qualnameIn env name name) params body scope clos doc ((G.mg "__name__").getD .none) c' ctv) (tk := tk) rfl hR hrem he h1 h2 hc hP'
  exact (h h'.objs.size c' F' (m.trans le) ⟨doc, _, c', ctv, hf, hcf⟩ F' (.refl F') _ .ref).seq r le fun _ K2 H2 s2 l2 r2 hq => by
    obtain ⟨F2, m2, q⟩ := hq
    exact upPQ (le.trans l2) (fret r2 .next m2 q)
theorem Ev_Lambda {params : Arguments} {body : Expr} {scope : Scope} {pos : Pos} {c P : Addr} {l : List (Nat × Nat × Addr)} {H1 : Hp} {clos : List (Str × Addr)} {Q : V → Fz → Hp → Prop}
    (hcode : env.code = .ref c) (hC : CodeOk F c P) (hB : BOk G P) (hrem : Rem H P (.raw (tabObj (tabOf l))) H1) (hnew : tabFind pos l = none) (hcl : closureFor scope env = pure clos)
    (h : ∀ f c' F', F.le F' → LamF F' f "<lambda>" (env.qual ++ "<lambda>") params body scope clos → Q (.ref f) F' ((P, .raw (tabObj (tabOf (l ++ [(pos.line, pos.col, c')])))) :: H1))
    (hdef : autoParam (defaultsOf params env = ([], [])) tac0) (hg : autoParam (env.globals = mainGlobals) tac0) :
    Ev G fr A F H (eval (.Lambda params body scope pos) env) Q E := fun K m R s hR => by
  have hP : s.heap.get? P = some (tabObj (tabOf l)) := by
    obtain ⟨_, o, ho, hro⟩ := (hR.perm (hrem.perm.append_right R)).own _ (.head _)
    have hro' : o = tabObj (tabOf l) := hro
    subst hro'; exact ho
  refine kla_eval hdef (kla_makeFunction (mg := G.mg) hcl hg hR.glob.1 hcode ((hC.mono m) _ hR.fz) hP (tab_triples l) (by rw [tab_among, hnew]; rfl) hB.1 (hB.2 _ fun a o e => hR.fz a o (hR.base a o e)) fun c' ctv h' tk he h1 h2 hc hP' => ?_)
  obtain ⟨F', le, hf, hcf, r⟩ := made (o := kla_obj "<lambda>" (env.qual ++ "<lambda>") params body scope clos ((G.mg "__name__").getD .none) c' ctv) (tk := tk) rfl hR hrem he h1 h2 hc hP'
  exact ⟨F', _, le, r, _, .ref, F', .refl F', h h'.objs.size c' F' (m.trans le) ⟨_, c', ctv, hf, hcf⟩⟩
end
section
variable {G : Glob} {fr : List Env} {A : Around} {F : Fz} {H : Hp} {E : Value → Fz → Hp → Prop} {E' : Addr → Value → Fz → Hp → Prop} {Q : V → Fz → Hp → Prop}
theorem call_fn {a : Addr} {name qual : Str} {params : Arguments} {scope : Scope} {cl : List (Str × Addr)} {body : List Stmt} {xs : List V} (hf : FnF F a name qual params body scope cl)
    (ns rest : List Str) (hn : ns.length = xs.length) (hnd : (ns ++ rest).Nodup) (hbind : ∀ doc pm c ctv, ∀ vs : List Value, vs.length = xs.length → bindArgs (fnX name qual params body scope cl .none .none doc pm none c ctv) ⟨vs, []⟩ = pure (ns.zip vs))
    (hcell : (scope.names.all fun x => x.2 != .cell) = true) (hloc : (ns.all fun x => decide (scope.names.lookup x = some .local)) = true)
    (hroom : A.depth < recursionLimit) (hE : ∀ L c, Leaves G fr A (envX qual scope L a c cl) (E' L) E)
    (h : ∀ L A' c, Deep A A' (envX qual scope L a c cl) → Ex G (envX qual scope L a c cl :: fr) A' F ((L, .ns (mkRho ns xs rest)) :: H) (execs body (envX qual scope L a c cl)) (Ret L Q) (E' L))
    (hco : autoParam (scope.isCoroutine = false) tac0) (hgen : autoParam (scope.isGenerator = false) tac0) (hk : autoParam (scope.kind = .function) tac0) :
    Cl G fr A F H (.ref a) xs Q E := by
  obtain ⟨doc, pm, c, ctv, hf, hc⟩ := hf
  exact call_def hf rfl hc ns rest hn hnd (hbind doc pm _ ctv) hcell hloc hroom (fun L => hE L _) (fun L A' hD => h L A' _ hD) hco hgen hk
inductive RetE (L : Addr) (Q : V → Fz → Hp → Prop) (x : V) (F : Fz) (H : Hp) : Prop where
  | intro (ρ : List (Str × Option V)) (H' : Hp) (hr : Rem H L (.ns ρ) H') (h : Q x F H')
theorem call_lam {a : Addr} {name qual : Str} {params : Arguments} {scope : Scope} {cl : List (Str × Addr)} {body : Expr} {xs : List V} (hf : LamF F a name qual params body scope cl)
    (ns : List Str) (hn : ns.length = xs.length) (hnd : ns.Nodup) (hbind : ∀ pm c ctv, ∀ vs : List Value, vs.length = xs.length → bindArgs (kla_fn name qual params body scope cl pm c ctv) ⟨vs, []⟩ = pure (ns.zip vs))
    (hcell : (scope.names.all fun x => x.2 != .cell) = true) (hloc : (ns.all fun x => decide (scope.names.lookup x = some .local)) = true)
    (hroom : A.depth < recursionLimit) (hE : ∀ L c, Leaves G fr A (envX qual scope L a c cl) (E' L) E)
    (h : ∀ L A' c, Deep A A' (envX qual scope L a c cl) → Ev G (envX qual scope L a c cl :: fr) A' F ((L, .ns (mkRho ns xs [])) :: H) (eval body (envX qual scope L a c cl)) (RetE L Q) (E' L))
    (hco : autoParam (scope.isCoroutine = false) tac0) (hgen : autoParam (scope.isGenerator = false) tac0) (hk : autoParam (scope.kind = .function) tac0) :
    Cl G fr A F H (.ref a) xs Q E := fun K m v vs hv hvs R s hR => by
  obtain rfl := hv.i_ref
  obtain ⟨pm, c, ctv, hf, hc⟩ := hf.mono m
  have hlen := hvs.length
  refine wpAny_call (kla_callFunE hroom (hR.fz _ _ hf) rfl hco hgen rfl (hc.crec hR.fz) ?_)
  rw [hbind pm _ ctv vs hlen]
  refine wpAny_pure (wpAny_newFunctionEnv (fun x hx => by simpa using List.all_eq_true.mp hcell x hx) (fun x hx => of_decide_eq_true (List.all_eq_true.mp hloc _ (List.of_mem_zip hx).1)) (fun h₀ hns₀ hsb => ⟨hR.glob.2.2.fresh _ hsb, ?_⟩) hk)
  have hk₀ : ∀ b o, s.heap.get? b = some o → h₀.get? b = some o := fun b o e => hsb.extBut b o (Nat.ne_of_lt (Heap.lt_size e)) (Heap.get?_push_of_some _ e)
  have nd1 : ((ns.zip vs).reverse.map (·.1)).Nodup := by
    rw [List.map_reverse, (List.reverse_perm _).nodup_iff, zip_names (by lia)]
    exact hnd
  have fresh : ∀ env ∈ fr, env.frame ≠ some s.heap.objs.size := fun env he e => by
    obtain ⟨L, ρ, q, m⟩ := (hR.frs env he).2
    obtain ⟨_, o, g, _⟩ := hR.own _ m
    rw [Option.some.inj (q.symm.trans e)] at g
    exact absurd (Heap.lt_size g) (Nat.lt_irrefl _)
  have r1 : Rep G (envX qual scope s.heap.objs.size a (.ref c) cl :: fr) K (((s.heap.objs.size, AO.ns (mkRho ns xs [])) :: H) ++ R) { s with heap := h₀, toks := s.toks + (ns.zip vs).length } := by
    obtain ⟨o, es, ep, ho, hdd, hkk, hff⟩ := hns₀
    have := hR.new (D := s.heap.objs.size) (x := AO.ns (mkRho ns xs [])) (tk := s.toks + (ns.zip vs).length) (dr := s.drawn) hk₀ (none_at_size _) ho ⟨es, ep, hdd, hkk, by rw [mkRho_names hn, List.append_nil]; exact hnd, fun p hp => by
      rcases mem_mkRho hn hvs p hp with ⟨h1, h2⟩ | ⟨x, v, h1, h2, h3⟩
      · cases h1
      · rw [h1]
        exact ⟨v, (hff _).trans (lookup_mem nd1 (List.mem_reverse.mpr h2)), h3⟩⟩
    exact ⟨this.gok, this.base, this.fz, this.own, this.nd, fun env he => by
      rcases List.mem_cons.mp he with rfl | he
      · exact ⟨hk, _, _, rfl, .head _⟩
      · exact this.frs env he, this.gens, this.os⟩
  refine kla_codeExpr (wpAny_mono (h s.heap.objs.size _ (.ref c) (deep A _) K m R _ r1) (fun f s' hq => ?_) fun e s' q => wpAny_mono (hE _ _ fresh K R e s' q) (fun _ _ x => x) fun _ _ x => x)
  obtain ⟨F', H', l', r', x, hx, F1, m1, ρ, H2, hrem, q⟩ := hq
  exact ⟨F', H2, l', (r'.pop.perm (hrem.perm.append_right R)).drop fresh, _, hx, F1, m1, q⟩
end
section
variable {G : Glob} {fr : List Env} {A : Around} {env : Env} {F : Fz} {H H' : Hp} {E : Value → Fz → Hp → Prop} {Q : V → Fz → Hp → Prop} {i j : Int}
theorem tr_bool {b : Bool} {Q : Bool → Fz → Hp → Prop} (h : Q b F H) : Tr G fr A F H (.bool b) Q E := fun K m a ha => ha.e_bool (P := fun a => TpAt _ _ _ _ _ (truthy a) _ _) fun R s hR => wpAny_truthy_bool (tret (Q := Q) hR m h)
theorem tr_none {Q : Bool → Fz → Hp → Prop} (h : Q false F H) : Tr G fr A F H .none Q E := fun K m a ha R s hR => by
  obtain rfl := ha.i_none
  have e : truthy .none = pure false := by first | rfl | (unfold truthy; rfl)
  rw [e]; exact wpAny_pure (tret (Q := Q) hR m h)
theorem tr_str {x : Str} {Q : Bool → Fz → Hp → Prop} (hx : (x.length : Int) < 2 ^ 63) (h : Q ((x.length : Int) != 0) F H) : Tr G fr A F H (.str x) Q E := fun K m a ha => ha.e_str (P := fun a => TpAt _ _ _ _ _ (truthy a) _ _) fun t R s hR => PySem.P.truthy_str (by lia) (tret (Q := Q) (hR.toks _) m h)
theorem RVs.isEmpty {vs : Array Value} {l : List V} (h : RVs F vs.toList l) : vs.isEmpty = l.isEmpty := by
  have e := h.toArr
  cases l with
  | nil => simpa using e
  | cons y l =>
    have : vs.size ≠ 0 := by rw [e]; simp
    simpa using this
theorem tr_list {a : Addr} {l : List V} {Q : Bool → Fz → Hp → Prop} (hm : Has H a (.list l)) (hl : (l.length : Int) < 2 ^ 63) (h : Q (!l.isEmpty) F H) : Tr G fr A F H (.ref a) Q E := fun K m v hv R s hR => by
  obtain ⟨o, ho, items, n, rfl, hr⟩ := hR.has hm
  obtain rfl := hv.i_ref
  refine wpAny_truthy_list ⟨_, ho, rfl, n, rfl⟩ (by rw [hr.toArr]; exact hl) ?_
  rw [hr.isEmpty]
  exact tret (Q := Q) (hR.toks _) m h
theorem tr_listb {a : Addr} {l : List V} {b : Bool} {Q : Bool → Fz → Hp → Prop} (hm : Has H a (.list l)) (hl : (l.length : Int) < 2 ^ 63) (e : (!l.isEmpty) = b) (h : Q b F H) : Tr G fr A F H (.ref a) Q E := tr_list hm hl (e.symm ▸ h)
theorem tr_lst {l : List V} {Q : Bool → Fz → Hp → Prop} (hl : (l.length : Int) < 2 ^ 63) (h : Q (!l.isEmpty) F H) : Tr G fr A F H (.lst l) Q E := fun K m v hv => by
    refine hv.e_lst (P := fun v => TpAt _ _ _ _ _ (truthy v) _ _) fun a vs n o ha hc hd hlen hr R s hR => ?_
    have hvs : RVs K vs.toArray.toList l := RVs.of hlen hr
    refine wpAny_truthy_list ⟨o, hR.fz _ _ ha, hc, n, hd⟩ (by rw [hvs.toArr]; exact hl) ?_
    rw [hvs.isEmpty]
    exact tret (Q := Q) (hR.toks _) m h
theorem Ev_or {a b : Expr} {pos : Pos} (h : Ev G fr A F H (eval a env) (fun x F1 H1 => Tr G fr A F1 H1 x (fun t F2 H2 => if t then Q x F2 H2 else Ev G fr A F2 H2 (eval b env) Q E) E) E) : Ev G fr A F H (eval (.BoolOp .Or [a, b] pos) env) Q E := fun K m R s hR => by
  rw [arm_eval_BoolOp]
  show wpAny G.M A (do let v ← eval a env; standAt pos; let t ← holding [v] (truthy v); match BoolOp.Or, t with | .And, false | .Or, true => pure v | _, _ => boolOp pos .Or [eval b env]) _ _ s
  refine wpAny_bind (h.go m hR (.refl K) fun v x F1 K1 H1 s1 l1 m1 r1 hx h1 => wpAny_bind (wpAny_standAt (wpAny_bind (wpAny_holding ((h1 K1 m1 v hx).seq r1 l1 fun t K2 H2 s2 l2 r2 hq => ?_)))))
  obtain ⟨F2, m2, q⟩ := hq
  cases t with
  | true => exact wpAny_pure ⟨K2, H2, l1.trans l2, r2, x, hx.mono l2, F2, m2, q⟩
  | false => exact (show Ev _ _ _ _ _ _ _ _ from q).last m2 r2 (l1.trans l2)
theorem strs_of {vs : List Value} {xs : List Str} (h : RVs F vs (xs.map .str)) : ∃ l, vs = strValues l ∧ l.map (·.1) = xs := by
  induction xs generalizing vs with
  | nil => cases h; exact ⟨[], rfl, rfl⟩
  | cons x xs ih =>
    refine h.ec (P := fun vs => ∃ l, vs = strValues l ∧ l.map (·.1) = x :: xs) fun v vs h1 h2 => ?_
    obtain ⟨l, e1, e2⟩ := ih h2
    exact h1.e_str (P := fun v => ∃ l, v :: vs = strValues l ∧ l.map (·.1) = x :: xs) fun t => ⟨(x, t) :: l, by rw [e1]; rfl, by simp [e2]⟩
theorem join_s {x : Str} {xs : List Str} (hok : JoinOk x xs = true) (h : Q (.str (Txt.join x xs)) F H) : Cl G fr A F H (.blt "str.join") [.str x, .lst (xs.map .str)] Q E := cl_b2 fun K m v w hv hw => by
        refine hv.e_str (P := fun v => EvAt _ _ _ _ _ (call _ [v, w]) _ _) fun t => hw.e_lst (P := fun w => EvAt _ _ _ _ _ (call _ [_, w]) _ _) fun a vs n o ha hc hd hlen hr R s hR => ?_
        obtain ⟨l, rfl, hl⟩ := strs_of (RVs.of hlen hr)
        exact PySem.SC.join ⟨o, hR.fz _ _ ha, hc, n, hd⟩ hl hok fun t' k => vret (hR.toks _) .str m h
open Builtin Builtin.Str in
theorem occ_full (x sub : Str) (hi : Nat) : ∀ (l : List Nat) (k f : Nat), (forIn l ((#[k] : Array Nat), f) (StrLaws.occBody x sub hi 1)).run.fst = #[k]
  | [], _, _ => rfl
  | a :: l, k, f => by
    rw [List.forIn_cons]
    unfold StrLaws.occBody
    rw [if_neg (by simp)]
    exact occ_full x sub hi l k f
open Builtin Builtin.Str in
theorem occ_first (x sub : Str) (hi k free : Nat) (hk : k + sub.length ≤ hi ∧ subAt x sub k = true) : ∀ (pre post : List Nat), (∀ i ∈ pre, ¬ (i + sub.length ≤ hi ∧ subAt x sub i = true)) → free ≤ k → (forIn (pre ++ k :: post) ((#[] : Array Nat), free) (StrLaws.occBody x sub hi 1)).run.fst = #[k]
  | [], post, _, hf => by
    rw [List.nil_append, List.forIn_cons]
    unfold StrLaws.occBody
    rw [if_pos ⟨⟨⟨by simp, hf⟩, hk.1⟩, hk.2⟩]
    exact occ_full x sub hi post k _
  | a :: pre, post, hp, hf => by
    rw [List.cons_append, List.forIn_cons]
    unfold StrLaws.occBody
    rw [if_neg fun q => hp a (.head _) ⟨q.1.2, q.2⟩]
    exact occ_first x sub hi k free hk pre post (fun i hi => hp i (.tail _ hi)) hf
open Builtin Builtin.Str in
theorem occ_at {x sub : Str} {lo k : Nat} (hlo : lo ≤ k) (hk : k + sub.length ≤ x.length ∧ subAt x sub k = true) (hn : ∀ i, lo ≤ i → i < k → subAt x sub i = false) : occurrences x sub lo x.length 1 = [k] := by
  rw [StrLaws.occ_eq]
  have e : List.range' lo (x.length + 1 - lo) = List.range' lo (k - lo) ++ k :: List.range' (k + 1) (x.length - k) := by
    have h1 : x.length + 1 - lo = (k - lo) + ((x.length - k) + 1) := occ1 hlo (Nat.le_trans (Nat.le_add_right _ _) hk.1)
    rw [h1, ← List.range'_append_1, List.range'_succ]
    have h2 : lo + (k - lo) = k := Nat.add_sub_cancel' hlo
    rw [h2]
  rw [e, occ_first x sub x.length k lo hk _ _ (fun i hi => ?_) hlo]
  rw [List.mem_range'] at hi
  obtain ⟨j, hj, rfl⟩ := hi
  intro q
  rw [hn _ (Nat.le_add_right _ _) (by rw [Nat.one_mul]; exact Nat.add_lt_of_lt_sub' hj)] at q
  exact absurd q.2 (by simp)
theorem RVs.take {vs : List Value} {l : List V} (h : RVs F vs l) : ∀ k, RVs F (vs.take k) (l.take k) := by
  induction h with
  | nil => intro k; simp; exact .nil
  | cons h t ih => intro k; cases k with
    | zero => exact .nil
    | succ k => exact .cons h (ih k)
end
section
variable {G : Glob} {fr : List Env} {A : Around} {env : Env} {F : Fz} {H H' : Hp} {E : Value → Fz → Hp → Prop} {Q : V → Fz → Hp → Prop} {i j : Int}
theorem RF.mono {F F' : Fz} {f : Flow} {x : FV} (le : F.le F') (h : RF F f x) : RF F' f x := by
  cases h with
  | next => exact .next
  | brk => exact .brk
  | cont => exact .cont
  | ret h => exact .ret (h.mono le)
end
section
variable {G : Glob} {fr : List Env} {A : Around} {env : Env} {F : Fz} {H H' : Hp} {E : Value → Fz → Hp → Prop} {Q : V → Fz → Hp → Prop}
end
noncomputable def StoresM (env : Env) : List Bool → List Str → List V → Fz → Hp → (Fz → Hp → Prop) → Prop
  | true :: bs, x :: xs, y :: ys, F, H, Q => Store env x y F H fun F1 H1 => StoresM env bs xs ys F1 H1 Q
  | false :: bs, x :: xs, y :: ys, F, H, Q => StoreC env x y F H fun F1 H1 => StoresM env bs xs ys F1 H1 Q
  | [], [], [], F, H, Q => Q F H
  | _, _, _, _, _, _ => False
noncomputable abbrev kindsM (env : Env) : List Bool → List Str → Bool := kindB env.kindOf
section
variable {G : Glob} {fr : List Env} {A : Around} {env : Env} {F : Fz} {H H' : Hp} {E : Value → Fz → Hp → Prop} {Q : V → Fz → Hp → Prop}
theorem StoresM.loc {bs : List Bool} {x : Str} {y : V} {xs : List Str} {ys : List V} {Q : Fz → Hp → Prop} (h : Store env x y F H fun F1 H1 => StoresM env bs xs ys F1 H1 Q) : StoresM env (true :: bs) (x :: xs) (y :: ys) F H Q := h
theorem StoresM.cel {bs : List Bool} {x : Str} {y : V} {xs : List Str} {ys : List V} {Q : Fz → Hp → Prop} (h : StoreC env x y F H fun F1 H1 => StoresM env bs xs ys F1 H1 Q) : StoresM env (false :: bs) (x :: xs) (y :: ys) F H Q := h
theorem StoresM.nil {Q : Fz → Hp → Prop} (h : Q F H) : StoresM env [] [] [] F H Q := h
theorem assignAllM (hk : env.scope.kind = .function) {bs : List Bool} {es : List Expr} {xs : List Str} {ys : List V} {vs : List Value} {F K : Fz} {H : Hp} {Q : Fz → Hp → Prop} (m : F.le K) (hn : namesOf? es = some xs) (hl : kindsM env bs xs = true) (hv : RVs K vs ys) (h : StoresM env bs xs ys F H Q) :
    TpAt G fr A K H (assignInOrder ((assignEach es env).map (·.2)) vs) (fun _ => Dn Q) E := by
  refine namesOf_ind (P := fun es xs => ∀ (bs : List Bool) (ys : List V) (vs : List Value) (F K : Fz) (H : Hp), F.le K → kindsM env bs xs = true → RVs K vs ys → StoresM env bs xs ys F H Q → TpAt G fr A K H (assignInOrder ((assignEach es env).map (·.2)) vs) (fun _ => Dn Q) E) ?_ ?_ es xs hn bs ys vs F K H m hl hv h
  · intro bs ys vs F K H m hl hv h
    cases bs with
    | cons b bs => cases b <;> cases hl
    | nil =>
      cases hv with
      | nil => exact fun R s hR => wpAny_pure (tret (Q := fun _ => Q) hR m h)
      | cons => exact h.elim
  · intro x pos es xs ih bs ys vs F K H m hl hv h R s hR
    have fin : ∀ (bs : List Bool) (v : Value) (y : V) (vs : List Value) (ys : List V), RVs K vs ys → kindB env.kindOf bs xs = true → TpAt G fr A K H (storeName env x v) (fun _ => Dn fun F2 H2 => StoresM env bs xs ys F2 H2 Q) E → wpAny G.M A (assignInOrder ((assignEach (.Name x pos :: es) env).map (·.2)) (v :: vs)) (PQ G fr K R fun _ => Dn Q) (PQ G fr K R fun e => Dn (E e)) s := by
      intro bs v y vs ys h2 hl sto
      show wpAny _ _ (do holding vs (assign (.Name x pos) env v); assignInOrder ((assignEach es env).map (·.2)) vs) _ _ s
      refine wpAny_bind (wpAny_holding (wpAny_assign_Name (sto.seq hR (.refl K) fun _ K2 H2 s2 l2 r2 hq => ?_)))
      obtain ⟨F2, m2, q⟩ := hq
      exact (ih bs ys vs F2 K2 H2 m2 hl (h2.mono l2) q).last r2 l2
    cases bs with
    | nil => cases hl
    | cons b bs =>
      cases hv with
      | nil => cases b <;> exact h.elim
      | @cons v y vs ys h1 h2 =>
        cases b with
        | true => exact fin bs v y vs ys h2 (and_r hl) (store m h1 (show Store _ _ _ _ _ _ from h) hk (of_decide_eq_true (and_l hl)))
        | false => exact fin bs v y vs ys h2 (and_r hl) (storeC m h1 (show StoreC _ _ _ _ _ _ from h) hk (of_decide_eq_true (and_l hl)))
theorem As_TupleM (bs : List Bool) {es : List Expr} {k pos} {xs : List Str} {ys : List V} {Q : Fz → Hp → Prop} (hh : A.handled = none) (hn : namesOf? es = some xs) (hl : kindsM env bs xs = true) (hlen : xs.length = ys.length) (h : StoresM env bs xs ys F H Q)
    (hk : autoParam (env.scope.kind = .function) tac0) : As G fr A env F H (.Tuple es k pos) (.tup ys) Q E := fun K m v hv => by
  refine hv.e_tup (P := fun v => TpAt _ _ _ _ _ (assign _ _ v) _ _) fun a vs n ha hlv hr R s hR => ?_
  obtain ⟨e1, e2⟩ := assignEach_names (env := env) hn
  refine assign_Tuple_tuple (items := vs.toArray) hh ⟨_, hR.fz _ _ ha, rfl, n, rfl⟩ (by rw [e1]; simp; lia) e2 fun h' he => ?_
  exact (assignAllM hk m hn hl (RVs.of hlv hr) h) R _ (hR.keeps (tk := s.toks) (dr := s.drawn) (extBut_keeps he))
theorem Ex_Assign_TupleM (bs : List Bool) {es : List Expr} {k pos' value pos} {xs : List Str} {Q : FV → Fz → Hp → Prop} (hh : A.handled = none) (hn : namesOf? es = some xs) (hl : kindsM env bs xs = true)
    (h : Ev G fr A F H (eval value env) (fun y F1 H1 => ∃ ys, y = .tup ys ∧ xs.length = ys.length ∧ StoresM env bs xs ys F1 H1 (Q .next)) E)
    (hs : autoParam (swapsWithSole [.Tuple es k pos'] value pos.line env = pure false) tac0) (hw : autoParam (swappedStores [.Tuple es k pos'] value env = pure none) tac0) (hk : autoParam (env.scope.kind = .function) tac0) :
    Ex G fr A F H (exec (.Assign [.Tuple es k pos'] value pos) env) Q E := fun K m R s hR => by
  have he : exec (.Assign [.Tuple es k pos'] value pos) env = (do
    standAt pos
    if ← swapsWithSole [.Tuple es k pos'] value pos.line env then do
      evalThenUse value env fun v => assignAll v ((assignEach [.Tuple es k pos'] env).map (·.2))
      pure .next
    else do
      let v ← eval value env
      assignStores env v (← swappedStores [.Tuple es k pos'] value env) ((assignEach [.Tuple es k pos'] env).map (·.2))) := rfl
  rw [he, hs, hw]
  refine wpAny_bind (wpAny_standAt (wpAny_bind (wpAny_pure ?_)))
  simp only [Bool.false_eq_true, if_false]
  refine wpAny_bind (h.go m hR (.refl K) fun v y F1 K1 H1 s1 l1 m1 r1 hy hq => wpAny_bind (wpAny_pure ?_))
  obtain ⟨ys, rfl, hlen, q⟩ := hq
  show wpAny _ _ (do assignAll v [assign (.Tuple es k pos') env]; pure Flow.next) _ _ s1
  refine wpAny_bind ?_
  show wpAny _ _ (assign (.Tuple es k pos') env v) _ _ s1
  exact (As_TupleM (G := G) (fr := fr) (E := E) bs hh hn hl hlen q hk K1 m1 v hy).seq r1 l1 fun _ K2 H2 s2 l2 r2 hq => wpAny_pure (by obtain ⟨F2, m2, q⟩ := hq; exact upPQ (l1.trans l2) (fret r2 .next m2 q))
end
section
variable {G : Glob} {fr : List Env} {A : Around} {env : Env} {F : Fz} {H : Hp} {E : Value → Fz → Hp → Prop}
noncomputable def MapTurn (G : Glob) (fr : List Env) (A : Around) (cenv : Addr → Env) (nms : List Str) (target elt : Expr) (l : List V) (F1 : Fz) (H1 : Hp) (f : Nat → V) : Prop :=
  ∀ k y C ρ, l[k]? = some y → ρ.map (·.1) = nms → As G fr A (cenv C) F1 ((C, .ns ρ) :: H1) target y (fun F3 H3 => Ev G fr A F3 H3 (eval elt (cenv C)) (fun z F5 H5 => F5 = F1 ∧ Off C nms (fun _ H6 => z = f k ∧ H6 = H1) F5 H5) No) No
theorem map_turns {cenv : Addr → Env} {nms : List Str} {target elt : Expr} {l : List V} {F1 : Fz} {H1 : Hp} {f : Nat → V} (h : MapTurn G fr A cenv nms target elt l F1 H1 f) :
    Turns G fr A cenv nms target elt [] l (fun j acc F4 H4 => F4 = F1 ∧ acc = (List.range j).map f ∧ H4 = H1) := ⟨by
  rintro k y acc F2 H2 C ρ hy ⟨rfl, rfl, rfl⟩ hρ Qn hn K m v hv R s hR
  refine wpAny_mono (h k y C ρ hy hρ K m v hv R s hR) (fun _ _ hq => ?_) fun _ _ e => e
  obtain ⟨K1, H4, l4, r4, F3, m3, q⟩ := hq
  refine ⟨K1, H4, l4, r4, F3, m3, ?_⟩
  show Ev _ _ _ _ _ _ _ _
  refine q.mono (fun z F4 H4 hq => ?_) fun _ _ _ e => e
  obtain ⟨rfl, ρ', H5, hr, hnn, e1, e2⟩ := hq
  exact ⟨ρ', H5, hr, hnn, hn _ _ _ ⟨rfl, by rw [List.range_succ, List.map_append, e1]; rfl, e2⟩⟩⟩
theorem Ev_map {elt target iter : Expr} {scope : Scope} {cl : List (Str × Addr)} {pos : Pos} {Q : V → Fz → Hp → Prop} (nms : List Str)
    (hclos : closureFor scope env = pure cl)
    (h : Ev G fr A F H (eval iter env) (fun y F1 H1 => ∃ l, Iterable G A y l ∧ l.length ≤ sizeLine ∧ ∃ f : Nat → V, MapTurn G fr A (fun C => compEnvC scope cl C env) nms target elt l F1 H1 f ∧ Q (.lst ((List.range l.length).map f)) F1 H1) E)
    (hnd : nms.Nodup) (hcell : autoParam ((scope.names.all fun x => x.2 != .cell) = true) tac0) (hkind : autoParam (scope.kind = .function) tac0) (hnames : autoParam ((scope.names.all fun x => (x.2 != .local) || decide (scope.names.lookup x.1 = some .local)) = true) tac0)
    (hs : ∀ x, foldedSetIterable iter env x = pure x := by intro _; rfl) :
    Ev G fr A F H (eval (.ListComp elt [⟨target, iter, [], 0⟩] scope pos) env) Q E :=
  Ev_ListComp nms hclos (h.mono (fun y F1 H1 hq => by
    obtain ⟨l, h1, h2, f, h3, h4⟩ := hq
    exact ⟨l, h1, h2, _, ⟨rfl, rfl, rfl⟩, map_turns h3, fun acc F2 H2 e => by obtain ⟨rfl, rfl, rfl⟩ := e; exact h4⟩) fun _ _ _ e => e) hnd hcell hkind hnames hs
theorem Ex_Assign_map {elt target iter : Expr} {scope : Scope} {cl : List (Str × Addr)} {pos py spos : Pos} {y : Str} {Q : FV → Fz → Hp → Prop} (nms : List Str)
    (hclos : closureFor scope env = pure cl)
    (h : Ev G fr A F H (eval iter env) (fun x F1 H1 => ∃ l, Iterable G A x l ∧ l.length ≤ sizeLine ∧ ∃ f : Nat → V, MapTurn G fr A (fun C => compEnvC scope cl C env) nms target elt l F1 H1 f ∧ Store env y (.lst ((List.range l.length).map f)) F1 H1 (Q .next)) E)
    (hnd : nms.Nodup) (hsw : autoParam (swapsWith (.ListComp elt [⟨target, iter, [], 0⟩] scope pos) (some (.Name y py)) spos.line env = pure true) tac0) (hcell : autoParam ((scope.names.all fun x => x.2 != .cell) = true) tac0) (hkind : autoParam (scope.kind = .function) tac0) (hnames : autoParam ((scope.names.all fun x => (x.2 != .local) || decide (scope.names.lookup x.1 = some .local)) = true) tac0)
    (hk : autoParam (env.scope.kind = .function) tac0) (hl : autoParam (env.kindOf y = some .local) tac0)
    (hs : ∀ x, foldedSetIterable iter env x = pure x := by intro _; rfl) :
    Ex G fr A F H (exec (.Assign [.Name y py] (.ListComp elt [⟨target, iter, [], 0⟩] scope pos) spos) env) Q E :=
  Ex_Assign_ListComp nms hclos (h.mono (fun x F1 H1 hq => by
    obtain ⟨l, h1, h2, f, h3, h4⟩ := hq
    exact ⟨l, h1, h2, _, ⟨rfl, rfl, rfl⟩, map_turns h3, fun acc F2 H2 e => by obtain ⟨rfl, rfl, rfl⟩ := e; exact h4⟩) fun _ _ _ e => e) hnd hsw hcell hkind hnames hk hl hs
end
noncomputable def tbH : Option Addr → Hp
  | none => []
  | some t => [(t, .tb)]
section
variable {G : Glob} {fr : List Env} {A : Around} {F K : Fz} {H R : Hp} {s : Shared} {E : Value → Fz → Hp → Prop}
theorem Rep.slots (h : Rep G fr K H s) {h' : Heap} (hs : Heap.SlotsOnly (fr.filterMap (·.frame)) s.heap h') : Rep G fr K H { s with heap := h' } := by
  have fin : ∀ b ∈ fr.filterMap (·.frame), ∃ ρ, (b, AO.ns ρ) ∈ H := fun b hb => by
    obtain ⟨env, he, e⟩ := List.mem_filterMap.mp hb
    obtain ⟨L, ρ, e', m⟩ := (h.frs env he).2
    rw [e] at e'
    cases e'
    exact ⟨ρ, m⟩
  refine ⟨h.gok, h.base, fun a o e => ?_, fun p hp => ?_, h.nd, h.frs, h.gens, h.os⟩
  · refine (hs.2.1 a fun hm => ?_).trans (h.fz a o e)
    obtain ⟨ρ, m⟩ := fin a hm
    rw [(h.own _ m).1] at e
    cases e
  · obtain ⟨n, o, g, r⟩ := h.own p hp
    by_cases hm : p.1 ∈ fr.filterMap (·.frame)
    · obtain ⟨ρ, m⟩ := fin _ hm
      have hpe : p = (p.1, AO.ns ρ) := by
        have := h.nd
        obtain ⟨a, x⟩ := p
        have key : ∀ {H : Hp}, (H.map (·.1)).Nodup → (a, x) ∈ H → (a, AO.ns ρ) ∈ H → x = AO.ns ρ := by
          intro H
          induction H with
          | nil => intro _ q; cases q
          | cons q H ih =>
            intro nd h1 h2
            rw [List.map_cons, List.nodup_cons] at nd
            rcases List.mem_cons.mp h1 with e1 | e1 <;> rcases List.mem_cons.mp h2 with e2 | e2
            · rw [← e1] at e2; exact (Prod.mk.inj e2).2.symm
            · subst e1; exact absurd (mem_keys e2 rfl) nd.1
            · subst e2; exact absurd (mem_keys e1 rfl) nd.1
            · exact ih nd.2 e1 e2
        rw [key this hp m]
      obtain ⟨sl, g'⟩ := hs.2.2 p.1 o g
      rw [hpe] at r ⊢
      obtain ⟨es, ep, e1, e2, e3, e4⟩ := r
      exact ⟨n, _, g', es, ep, e1, e2, e3, e4⟩
    · exact ⟨n, o, (hs.2.1 _ hm).trans g, r⟩
theorem Rep.funFrames (h : Rep G fr K H s) : s.heap.FunFrames { objs := #[] } fr := by
  have : ∀ l : List Env, (∀ e ∈ l, e ∈ fr) → s.heap.FunFrames { objs := #[] } l := by
    intro l
    induction l with
    | nil => intro _; trivial
    | cons env l ih =>
      intro hl
      obtain ⟨hk, L, ρ, hf, m⟩ := h.frs env (hl env (.head _))
      obtain ⟨_, o, g, es, ep, hd, _⟩ := h.own _ m
      exact ⟨by rw [hk]; decide, ⟨L, o, hf, by first | rfl | simp [Heap.get?], g, fun vs q => by rw [hd] at q; cases q⟩, ih fun e he => hl e (.tail _ he)⟩
  exact this fr fun _ h => h
theorem notNs_exc {c : String} {args : List V} {tb : Option Addr} {d : Option Addr} {cx : Bool} {X : AO} : (∃ ρ, AO.exc c args tb d cx = .ns ρ) → ∃ ρ, X = .ns ρ := fun h => by obtain ⟨_, q⟩ := h; cases q
theorem notNs_tb {X : AO} : (∃ ρ, AO.tb = .ns ρ) → ∃ ρ, X = .ns ρ := fun h => by obtain ⟨_, q⟩ := h; cases q
theorem RO.excSet {w : World} {o : Obj} {c : String} {args : List V} {tb : Option Addr} {d : Option Addr} {cx : Bool} (h : RO w K o (.exc c args tb d cx)) (t : Addr) : RO w K (o.mapFields (·.setIfInBounds 1 (.ref t))) (.exc c args (some t) d cx) := by
  obtain ⟨vs, a, v5, e1, e2, e3, e4, e5, e6, e7, e8, e9⟩ := h
  have hsz : 1 < vs.size := (Array.getElem?_eq_some_iff.mp e6).1
  obtain ⟨oc, od, odt, osl⟩ := o
  obtain rfl : odt = .fields vs := e3
  refine ⟨vs.setIfInBounds 1 (.ref t), a, v5, e1, e2, rfl, ?_, e5, ?_, ?_, e8, fun q => ?_⟩
  · rw [Array.getElem?_setIfInBounds_ne (by decide)]; exact e4
  · rw [Array.getElem?_setIfInBounds_self]; simp [hsz]
  · rw [Array.getElem?_setIfInBounds_ne (by decide)]; exact e7
  · rw [Array.getElem?_setIfInBounds_ne (by decide)]; exact e9 q
theorem entry {env : Env} {outer : List Env} (hfr : A.frames = some (env :: outer)) {x : Addr} {c : String} {args : List V} {tb : Option Addr} {d : Option Addr} {cx : Bool} {L : Addr} {head : Value} {had : Bool} (hf : env.frame = some L) :
    TpAt G (env :: outer) A K ((x, .exc c args tb d cx) :: H) (do let a ← frameOf env; let pl ← entryPlaceOf L had; let b ← EntryCells.newEntry head a .none (rawInt L) .none pl; setField (.ref x) 1 b)
      (fun _ K' H' => K' = K ∧ ∃ t, H' = (x, .exc c args (some t) d cx) :: (t, .tb) :: H) E := fun R s hR => by
  refine wpAny_bind (wpAny_frameOf_fun hfr hR.funFrames hf fun h₁ hs₁ => ?_)
  have r1 := hR.slots hs₁
  refine wpAny_bind (wpAny_entryPlaceOf fun pl hpl => ?_)
  unfold EntryCells.newEntry newFields
  refine wpAny_bind (wpAny_newObj_type ?_ (hpl.sizeOk5 _ _ _ _ _))
  have r2 := r1.new (D := h₁.objs.size) (x := .tb) (tk := s.toks) (dr := s.drawn) (fun b o e => Heap.get?_push_of_some { cls := .type "traceback", dict := none, data := .fields ([head, .ref L, .none, rawInt L, .none] ++ (if pl.isEmpty then List.replicate 6 Value.none else pl)).toArray } e) (none_at_size _) (Heap.get?_push_size _ rfl) ⟨_, rfl, rfl, by simp only [List.size_toArray, List.length_append, List.length_cons, List.length_nil]; lia⟩
  have r3 := r2.perm (H' := (x, .exc c args tb d cx) :: (h₁.objs.size, .tb) :: (H ++ R)) (.swap ..)
  obtain ⟨_, o, ho, hro⟩ := r3.own _ (.head _)
  obtain ⟨vs, a, v5, e1, e2, e3, e4, e5, e6, e7⟩ := id hro
  have hsz : 1 < vs.size := (Array.getElem?_eq_some_iff.mp e6).1
  refine wpAny_setField ho e3 hsz ?_
  have g := Heap.get?_update_self (Obj.mapFields (·.setIfInBounds 1 (Value.ref h₁.objs.size))) ho (Obj.isFreed_of_fields (Obj.data_mapFields e3 _))
  exact ⟨K, _, .refl K, r3.upd (tk := s.toks) (dr := s.drawn) (Heap.SameBut.update ..).extBut g (hro.excSet _) notNs_exc, rfl, _, rfl⟩
theorem note {env : Env} {outer : List Env} (hfr : A.frames = some (env :: outer)) {x : Addr} {c : String} {args : List V} {tb : Option Addr} {d : Option Addr} {cx : Bool} :
    TpAt G (env :: outer) A K ((x, .exc c args tb d cx) :: (tbH tb ++ H)) (noteFrame (.ref x) env) (fun _ K' H' => K' = K ∧ ∃ t, H' = (x, .exc c args (some t) d cx) :: (t, .tb) :: H) E := fun R s hR => by
  obtain ⟨_, L, _, hf, _⟩ := hR.frs env (.head _)
  obtain ⟨_, o, ho, hro⟩ := hR.own _ (.head _)
  obtain ⟨vs, a, v5, e1, e2, e3, e4, e5, e6, e7⟩ := id hro
  unfold noteFrame
  simp only [hf]
  refine wpAny_bind (wpAny_field ho e3 e6 ?_)
  cases tb with
  | none =>
    rw [if_neg (by decide)]
    exact entry hfr hf R s hR
  | some t =>
    rw [if_pos (show ((some t).elim Value.none Value.ref != Value.none) = true from by simp)]
    have r1 : Rep G (env :: outer) K ((t, .tb) :: (x, .exc c args (some t) d cx) :: (H ++ R)) s := hR.perm (.swap ..)
    obtain ⟨_, ot, hot, ts, t1, t2, t3⟩ := r1.own _ (.head _)
    refine wpAny_bind (wpAny_field hot t2 (x := ts[3]) (Array.getElem?_eq_getElem t3) ?_)
    by_cases hb : (ts[3] == rawInt L) = true
    · rw [if_pos hb]
      exact wpAny_pure ⟨K, _, .refl K, hR, rfl, t, rfl⟩
    · rw [if_neg hb]
      refine wpAny_bind (wpAny_setField hot t2 t3 ?_)
      have g := Heap.get?_update_self (Obj.mapFields (·.setIfInBounds 3 Value.none)) hot (Obj.isFreed_of_fields (Obj.data_mapFields t2 _))
      have r2 : Rep G (env :: outer) K ((t, .tb) :: (x, .exc c args (some t) d cx) :: (H ++ R)) { s with heap := s.heap.update t (Obj.mapFields (·.setIfInBounds 3 Value.none)) } :=
        r1.upd (x' := .tb) (tk := s.toks) (dr := s.drawn) (Heap.SameBut.update ..).extBut g ⟨_, by rw [Obj.cls_mapFields]; exact t1, Obj.data_mapFields t2 _, by simpa using t3⟩ notNs_tb
      exact entry hfr hf R _ (r2.dropNot fun _ q => nomatch q)
theorem flight {x t : Addr} {c : String} {args : List V} {d : Option Addr} {cx : Bool} {f : Option Addr} :
    TpAt G fr A K ((x, .exc c args (some t) d cx) :: (t, .tb) :: H) (setFlight (.ref x) f) (fun _ K' H' => K' = K ∧ H' = (x, .exc c args (some t) d cx) :: (t, .tb) :: H) E := fun R s hR => by
  obtain ⟨_, o, ho, hro⟩ := hR.own _ (.head _)
  obtain ⟨vs, a, v5, e1, e2, e3, e4, e5, e6, e7⟩ := id hro
  unfold setFlight
  refine wpAny_bind (wpAny_field ho e3 e6 ?_)
  have hb : ((some t).elim Value.none Value.ref != Value.none) = true := by simp
  rw [if_pos hb]
  have r1 : Rep G fr K ((t, .tb) :: (x, .exc c args (some t) d cx) :: (H ++ R)) s := hR.perm (.swap ..)
  obtain ⟨_, ot, hot, ts, t1, t2, t3⟩ := r1.own _ (.head _)
  refine wpAny_setField hot t2 t3 ?_
  have g := Heap.get?_update_self (Obj.mapFields (·.setIfInBounds 3 (f.elim Value.none fun f => rawInt f))) hot (Obj.isFreed_of_fields (Obj.data_mapFields t2 _))
  have r2 : Rep G fr K ((t, .tb) :: (x, .exc c args (some t) d cx) :: (H ++ R)) { s with heap := s.heap.update t (Obj.mapFields (·.setIfInBounds 3 (f.elim Value.none fun f => rawInt f))) } :=
    r1.upd (x' := .tb) (tk := s.toks) (dr := s.drawn) (Heap.SameBut.update ..).extBut g ⟨_, by rw [Obj.cls_mapFields]; exact t1, Obj.data_mapFields t2 _, by simpa using t3⟩ notNs_tb
  exact ⟨K, _, .refl K, r2.perm (.swap ..), rfl, rfl⟩
inductive Thr0 (P : Addr → String → List V → Bool → Fz → Hp → Prop) (e : Value) (F : Fz) (H : Hp) : Prop where
  | intro (x : Addr) (c : String) (args : List V) (tb : Option Addr) (cx : Bool) (H1 : Hp) (e1 : e = .ref x) (e2 : H.Perm ((x, .exc c args tb none cx) :: (tbH tb ++ H1))) (q : P x c args cx F H1)
noncomputable abbrev Thr (P : Addr → String → List V → Fz → Hp → Prop) : Value → Fz → Hp → Prop := Thr0 fun x c args _ F H => P x c args F H
section
variable {P Q : Addr → String → List V → Bool → Fz → Hp → Prop} {e : Value}
theorem Thr0.mk {x : Addr} {c : String} {args : List V} {cx : Bool} {H1 : Hp} (hr : Rem H x (.exc c args none none cx) H1) (p : P x c args cx F H1) : Thr0 P (.ref x) F H := ⟨x, c, args, none, cx, H1, rfl, hr.perm, p⟩
theorem Thr0.mono (h : Thr0 P e F H) (k : ∀ x c a b F1 H1, P x c a b F1 H1 → Q x c a b F1 H1) : Thr0 Q e F H := by obtain ⟨x, c, a, tb, cx, H1, h1, h2, h3⟩ := h; exact ⟨x, c, a, tb, cx, H1, h1, h2, k _ _ _ _ _ _ h3⟩
theorem thr_no (h : Thr0 (fun _ _ _ _ _ _ => False) e F H) : False := by obtain ⟨_, _, _, _, _, _, _, _, h3⟩ := h; exact h3
end
theorem noted_thr2 {A' : Around} {env : Env} {outer : List Env} (hfr : A.frames = some (env :: outer)) {P : Addr → String → List V → Bool → Fz → Hp → Prop} {e : Value} (hq : PQ G (env :: outer) K R (fun e => Dn (Thr0 P e)) e s) :
    notedBy G.M A env (cameBackBy G.M A' env (PQ G (env :: outer) K R fun e => Dn (Thr0 P e))) e s := by
  obtain ⟨K1, H1, l1, r1, F1, m1, x, c, args, tb, cx, H2, rfl, hp, p⟩ := hq
  have r1 : Rep G (env :: outer) K1 (((x, .exc c args tb none cx) :: (tbH tb ++ H2)) ++ R) s := r1.perm (hp.append_right R)
  refine wpAny_mono (note hfr (E := No) R s r1) (fun _ s2 hq => ?_) fun e s2 q => (noPQ (v := e) q).elim
  obtain ⟨K2, H3, l2, r2, rfl, t, rfl⟩ := hq
  obtain ⟨_, o, ho, hro⟩ := r2.own _ (.head _)
  obtain ⟨vs, a, v5, e1, e2, e3, e4, e5, e6, e7⟩ := id hro
  show wpAny G.M A' (do
    if (← field (.ref x) 1) == .none then unsupported "frame.own-activation:exception-without-traceback"
    setFlight (.ref x) env.frame) _ _ s2
  refine wpAny_bind (wpAny_field ho e3 e6 ?_)
  rw [if_neg (show ¬ ((some t).elim Value.none Value.ref == Value.none) = true from by simp)]
  refine wpAny_mono (flight (E := No) R s2 r2) (fun _ s3 hq => ?_) fun e s2 q => (noPQ (v := e) q).elim
  obtain ⟨K3, H3, l3, r3, rfl, rfl⟩ := hq
  exact ⟨K3, _, l1, r3, F1, m1, x, c, args, some t, cx, H2, rfl, .refl _, p⟩
theorem noted_thr {env : Env} {outer : List Env} (hfr : A.frames = some (env :: outer)) {P : Addr → String → List V → Bool → Fz → Hp → Prop} : Noted G (env :: outer) A env (Thr0 P) := fun K R e s hq => noted_thr2 hfr hq
inductive Lv (L : Addr) (P : Addr → String → List V → Bool → Fz → Hp → Prop) (x : Addr) (c : String) (a : List V) (b : Bool) (F : Fz) (H : Hp) : Prop where
  | intro (ρ : List (Str × Option V)) (H' : Hp) (hr : Rem H L (.ns ρ) H') (q : P x c a b F H')
theorem leaves_thr {env : Env} {L : Addr} (hfr : A.frames = some fr) (hL : env.frame = some L) {P : Addr → String → List V → Bool → Fz → Hp → Prop} :
    Leaves G fr A env (Thr0 (Lv L P)) (Thr0 P) := fun fresh K R e s hq => by
  obtain ⟨K1, H1, l1, r1, F1, m1, x, c, args, tb, cx, H2, rfl, hp, ρ, H3, hrem, p⟩ := hq
  have r1 : Rep G (env :: fr) K1 (((x, .exc c args tb none cx) :: (tbH tb ++ H2)) ++ R) s := r1.perm (hp.append_right R)
  have hfr' : (A.deeper env).frames = some (env :: fr) := Around.frames_deeper hfr
  unfold leaving
  refine wpAny_bind (wpAny_mono (note hfr' (E := No) R s r1) (fun _ s2 hq => ?_) fun e s2 q => (noPQ (v := e) q).elim)
  obtain ⟨K2, H4, l2, r2, rfl, t, rfl⟩ := hq
  refine wpAny_mono (flight (E := No) R s2 r2) (fun _ s3 hq => ?_) fun e s2 q => (noPQ (v := e) q).elim
  obtain ⟨K3, H5, l3, r3, rfl, rfl⟩ := hq
  have hr3 : Rem ((x, AO.exc c args (some t) none cx) :: (t, AO.tb) :: H2) L (.ns ρ) ((x, AO.exc c args (some t) none cx) :: (t, AO.tb) :: H3) := .tl (.tl hrem)
  have r4 : Rep G fr K3 (((x, AO.exc c args (some t) none cx) :: (t, AO.tb) :: H3) ++ R) s3 := (r3.pop.perm (hr3.perm.append_right R)).drop fun e he q => fresh e he (q.trans hL.symm)
  exact ⟨K3, _, l1, r4, F1, m1, x, c, args, some t, cx, H3, rfl, .refl _, p⟩
end
section
variable {G : Glob} {fr : List Env} {A : Around} {env : Env} {F K : Fz} {H R : Hp} {s : Shared} {E : Value → Fz → Hp → Prop} {Q : V → Fz → Hp → Prop}
theorem stop_new1 {y : V} (h : ∀ x, Q (.ref x) F ((x, .exc "StopIteration" [y] none none true) :: H)) : Cl G fr A F H (.typ "StopIteration") [y] Q E := cl_t1 fun K m v hv R s hR => by
  refine stop_call fun h' e hm => ?_
  obtain ⟨hk, hn, t, he, ht, hto⟩ := hm
  obtain ⟨le, r1⟩ := hR.newF (tk := s.toks) (dr := s.drawn) hk ht hto
  have fr1 := hR.fresh hn
  have hne : e ≠ t := fun q => by
    subst q
    rw [he] at hto
    exact absurd (congrArg Obj.cls (Option.some.inj hto)) (by simp)
  have r2 := Rep.adopt (x := .exc "StopIteration" [y] none none true) r1 (by unfold Fz.add; rw [if_neg hne]; exact fr1.1) fr1.2 he
    ⟨_, t, v, rfl, rfl, rfl, rfl, .tup (vs := [v]) (l := [y]) (Fz.add_self _ _ _) rfl (RVs.get (.cons (hv.mono le) .nil)), rfl, rfl, fun _ => hv.mono le, fun _ => rfl⟩
  exact ⟨_, _, le, r2, _, .ref, F, m.trans le, h e⟩
theorem raise_any {M : Model} {x : Sem Value} {E : Value → Shared → Prop} {Q : Flow → Shared → Prop} (hh : A.handled = none)
    (h : wpAny M A x (fun v s₁ => ∃ c, ExcRaiseFacts c ∧ ∃ e o vs, v = .ref e ∧ s₁.heap.get? e = some o ∧ o.cls = .type c ∧ o.data = .fields vs ∧ vs[1]? = some .none ∧ E (.ref e) s₁) E s) :
    wpAny M A (raiseStmt env (some x) none) Q E s := by
  unfold raiseStmt
  refine wpAny_bind (wpAny_mono h (fun v s₁ h₁ => ?_) fun _ _ x => x)
  obtain ⟨c, F, e, o, vs, rfl, he, hc, hd, h1, hE⟩ := h₁
  obtain ⟨hp, g, d, tk, os⟩ := s₁
  have hsub := F.isExc
  have hmeta := F.plainMeta
  obtain ⟨oc, od, odt, osl⟩ := o
  obtain rfl : oc = .type c := hc
  obtain rfl : odt = .fields vs := hd
  repeat (first | refine wpAny_loadPart he ?_ | wp_step)
  rw [h1]
  refine wpAny_pure ?_
  rw [if_neg (by decide)]
  refine wpAny_pure ?_
  unfold raiseNew
  refine wpAny_bind (wpAny_handled ?_)
  rw [hh]
  first
    | exact wpAny_throw hE
    | exact wpAny_bind (wpAny_pure (wpAny_throw hE))
theorem Ex_Raise {e : Expr} {pos : Pos} {Q : FV → Fz → Hp → Prop} (hh : A.handled = none)
    (h : Ev G fr A F H (eval e env) (fun v F1 H1 => ∃ x c args cx, v = .ref x ∧ Has H1 x (.exc c args none none cx) ∧ ExcRaiseFacts c ∧ E (.ref x) F1 H1) E) : Ex G fr A F H (exec (.Raise (some e) none pos) env) Q E := fun K m R s hR => by
  rw [arm_exec_Raise]
  show wpAny G.M A (do standAt pos; raiseStmt env (some (do let v ← eval e env; standAt pos; pure v)) none) _ _ s
  refine wpAny_bind (wpAny_standAt ?_)
  have key : wpAny G.M A (do let v ← eval e env; standAt pos; pure v) (fun v s₁ => ∃ c, ExcRaiseFacts c ∧ ∃ e o vs, v = .ref e ∧ s₁.heap.get? e = some o ∧ o.cls = .type c ∧ o.data = .fields vs ∧ vs[1]? = some .none ∧ PQ G fr K R (fun e => Dn (E e)) (.ref e) s₁) (PQ G fr K R fun e => Dn (E e)) s := by
    refine wpAny_bind (h.go m hR (.refl K) fun v x F1 K1 H1 s1 l1 m1 r1 hx hq => wpAny_bind (wpAny_standAt (wpAny_pure ?_)))
    obtain ⟨x, c, args, cx, rfl, hm, hf, q⟩ := hq
    obtain rfl := hx.i_ref
    obtain ⟨o, ho, vs, a, v5, e1, e2, e3, e4, e5, e6, e7⟩ := r1.has hm
    exact ⟨c, hf, x, o, vs, rfl, ho, e1, e3, e6, K1, H1, l1, r1, F1, m1, q⟩
  refine raise_any hh key
end
noncomputable def Hd (G : Glob) (fr : List Env) (A : Around) (env : Env) (F : Fz) (H : Hp) (x : Addr) (hs : List ExceptHandler) (Q : FV → Fz → Hp → Prop) (E : Value → Fz → Hp → Prop) : Prop := ∀ K, F.le K → TpAt G fr A K H (handleBy (.ref x) env hs) (FQ Q) E
structure Cat (c T : String) (b : Bool) : Prop where
  exc : isSubtype (.type T) (.type "BaseException") = pure true
  nt : isSubtype (.type ((Manifest.find? T).elim "type" fun x => x.metatype)) (.type "tuple") = pure false
  sub : isSubtype (.type c) (.type T) = pure b
inductive Drp : Hp → Hp → Prop where
  | nil {H : Hp} : Drp H H
  | cons {H H1 H2 : Hp} {a : Addr} {x : AO} (hr : Rem H a x H1) (hx : ∀ ρ, x ≠ .ns ρ) (t : Drp H1 H2) : Drp H H2
theorem Rep.drp {G : Glob} {fr : List Env} {K : Fz} {H H' R : Hp} {s : Shared} (d : Drp H H') (r : Rep G fr K (H ++ R) s) : Rep G fr K (H' ++ R) s := by
  induction d with
  | nil => exact r
  | cons hr hx _ ih => exact ih ((r.perm (hr.perm.append_right R)).dropNot hx)
theorem Drp.one {H H1 : Hp} {a : Addr} {x : AO} (hr : Rem H a x H1) (hx : ∀ ρ, x ≠ .ns ρ) : Drp H H1 := .cons hr hx .nil
theorem Drp.two {H H1 H2 : Hp} {a b : Addr} {x y : AO} (hr : Rem H a x H1) (hx : ∀ ρ, x ≠ .ns ρ) (hs : Rem H1 b y H2) (hy : ∀ ρ, y ≠ .ns ρ) : Drp H H2 := .cons hr hx (.cons hs hy .nil)
inductive Unb (env : Env) (n : Str) (F : Fz) (H : Hp) (Q : Fz → Hp → Prop) : Prop where
  | intro (ρ ρ' : List (Str × Option V)) (H' : Hp) (hu : Upd H env.locals (.ns ρ) (.ns ρ') H') (hs : SetL ρ n none ρ') (h : Q F H')
theorem Unb.mk {env : Env} {n : Str} {F : Fz} {H H' : Hp} {Q : Fz → Hp → Prop} {ρ ρ' : List (Str × Option V)} (hu : Upd H env.locals (.ns ρ) (.ns ρ') H') (hs : SetL ρ n none ρ') (h : Q F H') : Unb env n F H Q := ⟨ρ, ρ', H', hu, hs, h⟩
section
variable {G : Glob} {fr outer : List Env} {A : Around} {env : Env} {F K : Fz} {H R : Hp} {s : Shared} {E : Value → Fz → Hp → Prop} {Q : FV → Fz → Hp → Prop} {P PB : Addr → String → List V → Bool → Fz → Hp → Prop}
theorem unbind {n : Str} {pos : Pos} {Q : Fz → Hp → Prop} (m : F.le K) (h : Unb env n F H Q) (hk : autoParam (env.scope.kind = .function) tac0) (hl : autoParam (env.kindOf n = some .local) tac0) :
    TpAt G fr A K H (do bindName env n .none; unbindBehindTheSuite env n pos) (fun _ => Dn Q) E := fun R s hR => by
  obtain ⟨ρ, ρ', H', hu, hs, q⟩ := h
  obtain ⟨o, ho, r⟩ := hR.get hu.mem
  obtain ⟨ms, hn, nd, hp⟩ := nsOf ho r
  have hpk : (env.scope.kind == .class || (env.scope.kind == .module && env.locals != env.globals)) = false := by rw [hk]; rfl
  refine wpAny_bind (wpAny_bindName (wpAny_storeName_local hl hn (fun h₁ hn₁ hs₁ => ?_) hpk))
  unfold unbindBehindTheSuite
  refine wpAny_onRaise ?_
  unfold unbindName
  refine wpAny_bind (wpAny_point (wpAny_bind ?_))
  unfold deleteName
  simp only [hl, hpk]
  rw [if_neg (by decide)]
  refine wpAny_bind (wpAny_nsDel_keeps hn₁ fun h₂ v hn₂ hs₂ => ?_)
  simp only [if_true, Option.isSome_some, Bool.not_true, Bool.false_eq_true, if_false]
  refine wpAny_pure (wpAny_point ?_)
  obtain ⟨o', es, ep, ho', hd', hk', hf'⟩ := hn₂
  refine ⟨K, H', .refl K, hR.upd' (tk := s.toks + 1) (dr := s.drawn) hu (hs₁.trans hs₂).extBut ho' ⟨es, ep, hd', hk', by rw [hs.names.1]; exact nd, fun p hpm => ?_⟩ fun _ => ⟨_, rfl⟩, F, m, q⟩
  rcases hs.spec nd p hpm with ⟨h1, h2⟩ | ⟨h1, h2⟩
  · rw [h2]; trivial
  · have q := hp p h2
    cases e : p.2 with
    | none => trivial
    | some z =>
      simp only [e] at q ⊢
      obtain ⟨u, q1, q2⟩ := q
      exact ⟨u, by rw [hf' p.1]; simp only [if_neg h1]; exact q1, q2⟩
theorem pass {what : String} {x t : Addr} {c : String} {args : List V} {d : Option Addr} {cx : Bool} {α : Type} {Q' : α → Shared → Prop} {E' : Value → Shared → Prop} (hR : Rep G fr K (((x, .exc c args (some t) d cx) :: (t, .tb) :: H) ++ R) s)
    (h : ∀ s', Rep G fr K (((x, .exc c args (some t) d cx) :: (t, .tb) :: H) ++ R) s' → E' (.ref x) s') : wpAny G.M A (PySem.passOn what (.ref x) env : Sem α) Q' E' s := by
  obtain ⟨_, o, ho, hro⟩ := hR.own _ (.head _)
  obtain ⟨vs, a, v5, e1, e2, e3, e4, e5, e6, e7⟩ := id hro
  unfold PySem.passOn
  refine wpAny_bind (wpAny_field ho e3 e6 ?_)
  rw [if_neg (show ¬ ((some t).elim Value.none Value.ref == Value.none) = true from by simp)]
  refine wpAny_bind (wpAny_mono (flight (E := No) R s hR) (fun _ s3 hq => ?_) fun e s2 q => (noPQ (v := e) q).elim)
  obtain ⟨K3, H3, l3, r3, rfl, rfl⟩ := hq
  exact wpAny_throw (h s3 r3)
theorem Ex_Try {body : List Stmt} {h₀ : ExceptHandler} {hs : List ExceptHandler} {pos : Pos} (hfr : A.frames = some (env :: outer))
    (h : Ex G (env :: outer) A F H (execs body env) Q (Thr0 PB))
    (hd : ∀ x c args t cx F1 H1, PB x c args cx F1 H1 → Hd G (env :: outer) A env F1 ((x, .exc c args (some t) none cx) :: (t, .tb) :: H1) x (h₀ :: hs) Q E) :
    Ex G (env :: outer) A F H (exec (.Try body (h₀ :: hs) [] [] pos) env) Q E := fun K m R s hR => by
  refine wpAny_Try_except (wpAny_mono (h K m R s hR) (fun f s₁ hq => ?_) fun e s₁ hq => ?_)
  · cases f with
    | next => exact wpAny_execs_nil hq
    | brk => exact hq
    | cont => exact hq
    | ret v => exact hq
  · obtain ⟨K1, H1, l1, r1, F1, m1, x, c, args, tb, cx, H2, rfl, hp, p⟩ := hq
    have r1 : Rep G (env :: outer) K1 (((x, .exc c args tb none cx) :: (tbH tb ++ H2)) ++ R) s₁ := r1.perm (hp.append_right R)
    refine wpAny_mono (note hfr (E := No) R s₁ r1) (fun _ s2 hq => ?_) fun e s2 q => (noPQ (v := e) q).elim
    obtain ⟨K2, H3, l2, r2, rfl, t, rfl⟩ := hq
    refine wpAny_mono (flight (E := No) R s2 r2) (fun _ s3 hq => ?_) fun e s2 q => (noPQ (v := e) q).elim
    obtain ⟨K3, H4, l3, r3, rfl, rfl⟩ := hq
    exact (hd x c args t cx F1 H2 p K3 m1).last r3 l1
theorem Rep.isExc {x : Addr} {c : String} {args : List V} {tb d : Option Addr} {cx : Bool} (hR : Rep G fr K (H ++ R) s) (hx : Has H x (.exc c args tb d cx)) : s.TypeIs (.ref x) c := by
  obtain ⟨o, ho, vs, a, v5, e1, _⟩ := hR.has hx
  exact ⟨o, ho, e1⟩
theorem Hd_yes {x t : Addr} {c T : String} {args : List V} {cx : Bool} {n : Str} {npos pos : Pos} {b₀ : Stmt} {suite : List Stmt} {rest : List ExceptHandler} (hfr : A.frames = some (env :: outer)) (hg : G.mg n = none) (hb : G.mb n = some (.type T)) (cat : Cat c T true)
    (h : Ex G (env :: outer) (A.mark (some (.ref x))) F ((x, .exc c args (some t) none cx) :: (t, .tb) :: H) (execs (b₀ :: suite) env) Q (Thr0 P)) (hk : autoParam (env.scope.kind = .function) tac0) (hkn : autoParam (env.kindOf n = some .globalImplicit) tac0) (hgl : autoParam (env.globals = mainGlobals) tac0) (hbl : autoParam (env.builtins = builtinsNs) tac0) (hd : autoParam ((n == ("__debug__" : Str)) = false) tac14) :
    Hd G (env :: outer) A env F ((x, .exc c args (some t) none cx) :: (t, .tb) :: H) x (.ExceptHandler (some (.Name n npos)) none (b₀ :: suite) pos :: rest) Q (Thr0 P) := fun K m R s hR => by
  refine wpAny_handleBy_builtin (b := true) cat.exc cat.nt cat.sub (Name_function_global hk hkn (loadGlobal_builtin (by rw [hgl]; exact hR.glob.1) hg (by rw [hbl]; exact hR.glob.2.1) hb ⟨rfl, hR.isExc .hd, ?_⟩) hd)
  rw [if_pos rfl]
  refine wpAny_mono (flight (E := No) R s hR) (fun _ s3 hq => ?_) fun e s2 q => (noPQ (v := e) q).elim
  obtain ⟨K3, H3, l3, r3, rfl, rfl⟩ := hq
  exact wpAny_mono (h K3 m R s3 r3) (fun _ _ q => q) fun e s4 q => noted_thr2 (A := A.mark (some (.ref x))) (A' := A) hfr q
theorem Hd_as {x t : Addr} {c T : String} {args : List V} {cx : Bool} {n nm : Str} {npos pos : Pos} {b₀ : Stmt} {suite : List Stmt} {rest : List ExceptHandler} (hfr : A.frames = some (env :: outer)) (hg : G.mg n = none) (hb : G.mb n = some (.type T)) (cat : Cat c T true)
    (h : Store env nm (.ref x) F ((x, .exc c args (some t) none cx) :: (t, .tb) :: H) fun F1 H1 => Ex G (env :: outer) (A.mark (some (.ref x))) F1 H1 (execs (b₀ :: suite) env) (fun fv F2 H2 => Unb env nm F2 H2 (Q fv)) (Thr0 fun x c a b F2 H2 => Unb env nm F2 H2 (P x c a b)))
    (hk : autoParam (env.scope.kind = .function) tac0) (hkn : autoParam (env.kindOf n = some .globalImplicit) tac0) (hl : autoParam (env.kindOf nm = some .local) tac0) (hgl : autoParam (env.globals = mainGlobals) tac0) (hbl : autoParam (env.builtins = builtinsNs) tac0) (hd : autoParam ((n == ("__debug__" : Str)) = false) tac14) :
    Hd G (env :: outer) A env F ((x, .exc c args (some t) none cx) :: (t, .tb) :: H) x (.ExceptHandler (some (.Name n npos)) (some nm) (b₀ :: suite) pos :: rest) Q (Thr0 P) := fun K m R s hR => by
  refine wpAny_handleBy_builtin_as (b := true) cat.exc cat.nt cat.sub (Name_function_global hk hkn (loadGlobal_builtin (by rw [hgl]; exact hR.glob.1) hg (by rw [hbl]; exact hR.glob.2.1) hb ⟨rfl, hR.isExc .hd, ?_⟩) hd)
  rw [if_pos rfl]
  refine wpAny_mono (flight (E := No) R s hR) (fun _ s3 hq => ?_) fun e s2 q => (noPQ (v := e) q).elim
  obtain ⟨K3, H3, l3, r3, rfl, rfl⟩ := hq
  refine wpAny_mono (store (E := No) (A := A.mark (some (.ref x))) m .ref h hk hl R s3 r3) (fun _ s4 hq => ?_) fun e s2 q => (noPQ (v := e) q).elim
  obtain ⟨K4, H4, l4, r4, F4, m4, q⟩ := hq
  refine wpAny_mono (q K4 m4 R s4 r4) (fun f s5 hq => ?_) fun e s5 hq => ?_
  · obtain ⟨K5, H5, l5, r5, fv, hf, F5, m5, q⟩ := hq
    refine wpAny_mono (unbind (E := No) m5 q hk hl R s5 r5) (fun _ s6 hq => ?_) fun e s2 q => (noPQ (v := e) q).elim
    obtain ⟨K6, H6, l6, r6, F6, m6, q⟩ := hq
    exact ⟨K6, H6, l4.trans (l5.trans l6), r6, fv, hf.mono l6, F6, m6, q⟩
  · obtain ⟨K5, H5, l5, r5, F5, m5, x', c', args', tb', cx', H6, rfl, hp, q⟩ := hq
    have r5 : Rep G (env :: outer) K5 (((x', .exc c' args' tb' none cx') :: (tbH tb' ++ H6)) ++ R) s5 := r5.perm (hp.append_right R)
    refine wpAny_mono (note (A := A.mark (some (.ref x))) hfr (E := No) R s5 r5) (fun _ s6 hq => ?_) fun e s2 q => (noPQ (v := e) q).elim
    obtain ⟨K6, H7, l6, r6, rfl, t', rfl⟩ := hq
    have q' : Unb env nm F5 ((x', .exc c' args' (some t') none cx') :: (t', .tb) :: H6) fun F7 H7 => ∃ H8, H7 = (x', .exc c' args' (some t') none cx') :: (t', .tb) :: H8 ∧ P x' c' args' cx' F7 H8 := by
      obtain ⟨ρ, ρ', H8, hu, hs, q⟩ := q
      exact ⟨ρ, ρ', _, .tl (.tl hu), hs, H8, rfl, q⟩
    refine wpAny_mono (unbind (E := No) m5 q' hk hl R s6 r6) (fun _ s7 hq => ?_) fun e s2 q => (noPQ (v := e) q).elim
    obtain ⟨K7, H7, l7, r7, F7, m7, H8, rfl, q⟩ := hq
    refine pass r7 fun s8 r8 => noted_thr2 (A := A.mark (some (.ref x))) (A' := A) hfr ⟨K7, _, l4.trans (l5.trans l7), r8, F7, m7, x', c', args', some t', cx', H8, rfl, .refl _, q⟩
theorem Ex_Finally {body : List Stmt} {f₀ : Stmt} {fs : List Stmt} {pos : Pos} (hfr : A.frames = some (env :: outer))
    (h : Ex G (env :: outer) A F H (execs body env) (fun fv F1 H1 => Ex G (env :: outer) A F1 H1 (execs (f₀ :: fs) env) (fun g F2 H2 => g = .next ∧ Q fv F2 H2) No) (Thr0 PB))
    (hx : ∀ x c args t cx F1 H1, PB x c args cx F1 H1 → Ex G (env :: outer) (A.mark (some (.ref x))) F1 ((x, .exc c args (some t) none cx) :: (t, .tb) :: H1) (execs (f₀ :: fs) env) (fun g F2 H2 => g = .next ∧ ∃ H3, H2 = (x, .exc c args (some t) none cx) :: (t, .tb) :: H3 ∧ P x c args cx F2 H3) No) :
    Ex G (env :: outer) A F H (exec (.Try body [] [] (f₀ :: fs) pos) env) Q (Thr0 P) := fun K m R s hR => by
  have raised : ∀ e s₁, PQ G (env :: outer) K R (fun e => Dn (Thr0 PB e)) e s₁ → FinallyRaised G.prog G.w A (PQ G (env :: outer) K R fun e => Dn (Thr0 P e)) env (f₀ :: fs) (PQ G (env :: outer) K R (FQ Q)) e s₁ := fun e s₁ hq => by
    obtain ⟨K1, H1, l1, r1, F1, m1, x, c, args, tb, cx, H2, rfl, hp, p⟩ := hq
    have r1 : Rep G (env :: outer) K1 (((x, .exc c args tb none cx) :: (tbH tb ++ H2)) ++ R) s₁ := r1.perm (hp.append_right R)
    refine ⟨ref_ne_byPass x, wpAny_mono (note hfr (E := No) R s₁ r1) (fun _ s2 hq => ?_) fun e s2 q => (noPQ (v := e) q).elim⟩
    obtain ⟨K2, H3, l2, r2, rfl, t, rfl⟩ := hq
    refine wpAny_mono (flight (E := No) R s2 r2) (fun _ s3 hq => ?_) fun e s2 q => (noPQ (v := e) q).elim
    obtain ⟨K3, H4, l3, r3, rfl, rfl⟩ := hq
    refine wpAny_mono (hx x c args t cx F1 H2 p K3 m1 R s3 r3) (fun g s4 hq => ?_) fun e s2 q => (noPQ (α := Value) (v := e) q).elim
    obtain ⟨K4, H4, l4, r4, gv, hg, F4, m4, e, H5, rfl, q⟩ := hq
    subst e
    cases hg
    exact pass r4 fun s5 r5 => ⟨K4, _, l1.trans l4, r5, F4, m4, x, c, args, some t, cx, H5, rfl, .refl _, q⟩
  refine wpAny_Try_finally (wpAny_mono (h K m R s hR) (fun f s₁ hq => ?_) fun e s₁ hq => ?_)
  · obtain ⟨K1, H1, l1, r1, fv, hf, F1, m1, q⟩ := hq
    have fin : wpAny G.M A (execs (f₀ :: fs) env) (fun g s' => match g with | .next => PQ G (env :: outer) K R (FQ Q) f s' | g => PQ G (env :: outer) K R (FQ Q) g s') (notedBy G.M A env (cameBackBy G.M A env (PQ G (env :: outer) K R fun e => Dn (Thr0 P e)))) s₁ := by
      refine wpAny_mono (q K1 m1 R s₁ r1) (fun g s' hg => ?_) fun e s₁ q => (noPQ (α := Value) (v := e) q).elim
      obtain ⟨K2, H2, l2, r2, gv, hg, F2, m2, e, q⟩ := hg
      subst e
      cases hg
      exact ⟨K2, H2, l1.trans l2, r2, fv, hf.mono l2, F2, m2, q⟩
    cases f with
    | next => exact wpAny_execs_nil fin
    | brk => exact fin
    | cont => exact fin
    | ret v => exact fin
  · have hq0 := hq
    obtain ⟨K1, H1, l1, r1, F1, m1, x, c, args, tb, cx, H2, rfl, hp, p⟩ := hq
    have r1 : Rep G (env :: outer) K1 (((x, .exc c args tb none cx) :: (tbH tb ++ H2)) ++ R) s₁ := r1.perm (hp.append_right R)
    refine wpAny_mono (note hfr (E := No) R s₁ r1) (fun _ s2 hq => ?_) fun e s2 q => (noPQ (v := e) q).elim
    obtain ⟨K2, H3, l2, r2, rfl, t, rfl⟩ := hq
    exact raised _ _ ⟨K2, _, l1, r2, F1, m1, x, c, args, some t, cx, H2, rfl, .refl _, p⟩
theorem RO.excFrom {w : World} {o : Obj} {c : String} {args : List V} {tb : Option Addr} {d : Option Addr} {cx : Bool} (h : RO w K o (.exc c args tb d cx)) (hx : Addr) : RO w K (((o.mapFields (·.setIfInBounds 3 .none)).mapFields (·.setIfInBounds 4 (.bool true))).mapFields (·.setIfInBounds 2 (.ref hx))) (.exc c args tb d false) := by
  obtain ⟨vs, a, v5, e1, e2, e3, e4, e5, e6, e7, e8, e9⟩ := h
  obtain ⟨oc, od, odt, osl⟩ := o
  obtain rfl : odt = .fields vs := e3
  refine ⟨((vs.setIfInBounds 3 .none).setIfInBounds 4 (.bool true)).setIfInBounds 2 (.ref hx), a, v5, e1, e2, rfl, ?_, e5, ?_, ?_, e8, fun q => nomatch q⟩
  · rw [Array.getElem?_setIfInBounds_ne (by decide), Array.getElem?_setIfInBounds_ne (by decide), Array.getElem?_setIfInBounds_ne (by decide)]; exact e4
  · rw [Array.getElem?_setIfInBounds_ne (by decide), Array.getElem?_setIfInBounds_ne (by decide), Array.getElem?_setIfInBounds_ne (by decide)]; exact e6
  · rw [Array.getElem?_setIfInBounds_ne (by decide), Array.getElem?_setIfInBounds_ne (by decide), Array.getElem?_setIfInBounds_ne (by decide)]; exact e7
theorem Ex_RaiseNone {e : Expr} {k cpos pos} {x' : Addr} {c : String} (hh : A.handled = some (.ref x')) (hf : ExcRaiseFacts c)
    (h : Ev G fr A F H (eval e env) (fun v F1 H1 => ∃ x args H2 c' args' tb' d', v = .ref x ∧ Rem H1 x (.exc c args none none true) H2 ∧ Has H2 x' (.exc c' args' tb' d' true) ∧ ∃ H3, Drp ((x, .exc c args none none false) :: H2) H3 ∧ Thr0 P (.ref x) F1 H3) (Thr0 P)) :
    Ex G fr A F H (exec (.Raise (some e) (some (.Constant .none k cpos)) pos) env) Q (Thr0 P) := fun K m R s hR => by
  rw [arm_exec_Raise]
  show wpAny G.M A (do standAt pos; raiseStmt env (some (do let v ← eval e env; standAt pos; pure v)) (some (do let v ← eval (.Constant .none k cpos) env; standAt pos; pure v))) _ _ s
  refine wpAny_bind (wpAny_standAt (raise_from_none hf hh ?_))
  refine wpAny_bind (h.go m hR (.refl K) fun v x F1 K1 H1 s1 l1 m1 r1 hx hq => wpAny_bind (wpAny_standAt (wpAny_pure ?_)))
  obtain ⟨x, args, H2, c', args', tb', d', rfl, hr, hm, H3, hdr, q⟩ := hq
  obtain rfl := hx.i_ref
  have r2 : Rep G fr K1 ((x, .exc c args none none true) :: (H2 ++ R)) s1 := r1.perm (hr.perm.append_right R)
  obtain ⟨_, o, ho, hro⟩ := r2.own _ (.head _)
  obtain ⟨vs, a, v5, e1, e2, e3, e4, e5, e6, e7, e8, e9⟩ := id hro
  have hmem : (x', AO.exc c' args' tb' d' true) ∈ H2 ++ R := List.mem_append_left _ hm.mem
  obtain ⟨_, oh, hoh, vh, ah, vh5, f1, f2, f3, f4, f5, f6, f7, f8, f9⟩ := r2.own _ (.tail _ hmem)
  have hne : x ≠ x' := fun q => (List.nodup_cons.mp r2.nd).1 (mem_keys hmem q.symm)
  refine wpAny_bind (wpAny_Constant_none (wpAny_bind (wpAny_standAt (wpAny_pure ⟨rfl, x, o, vs, oh, vh, rfl, ho, e1, e3, e6, (Array.getElem?_eq_some_iff.mp e7).1, hne, hoh, f3, f9 rfl, fun h' hs' ho' => ?_⟩))))
  have r3 : Rep G fr K1 (((x, .exc c args none none false) :: H2) ++ R) { s1 with heap := h' } := r2.upd (x' := .exc c args none none false) (tk := s1.toks) (dr := s1.drawn) hs'.extBut ho' (hro.excFrom _) notNs_exc
  exact ⟨K1, _, l1, r3.drp hdr, F1, m1, q⟩
theorem Rep.exc {h' : Heap} {tk : Nat} {e t : Addr} {X : String} {vs : List Value} {l : List V} {v5 : Value} (hR : Rep G fr K H s) (hk : ∀ b o, s.heap.get? b = some o → h'.get? b = some o) (hn : s.heap.get? e = none)
    (he : h'.get? e = some { cls := .type X, data := .fields #[.ref t, .none, .none, .none, .bool false, v5] }) (ht : s.heap.get? t = none) (hto : h'.get? t = some { cls := .type "tuple", data := .seq vs.toArray }) (hv : RVs K vs l) (h5 : X = "StopIteration" → RV K v5 (l.headD .none)) :
    ∃ K', K.le K' ∧ Rep G fr K' ((e, .exc X l none none true) :: H) { s with heap := h', toks := tk } := by
  obtain ⟨le, r1⟩ := hR.newF (tk := tk) (dr := s.drawn) hk ht hto
  have fr1 := hR.fresh hn
  have hne : e ≠ t := fun q => by
    subst q
    rw [he] at hto
    exact absurd (congrArg Obj.data (Option.some.inj hto)) (by simp)
  exact ⟨_, le, Rep.adopt (x := .exc X l none none true) r1 (by unfold Fz.add; rw [if_neg hne]; exact fr1.1) fr1.2 he
    ⟨_, t, v5, rfl, rfl, rfl, rfl, .tup (vs := vs) (l := l) (Fz.add_self _ _ _) hv.length (hv.mono le).get, rfl, rfl, fun q => (h5 q).mono le, fun _ => rfl⟩⟩
theorem raise_words {α : Type} {M : Model} {X msg : String} {Q : α → Shared → Prop} {E' : Value → Shared → Prop} (hp : PlainExc X) (hh : A.handled = none)
    (h : ∀ h' tk e t v5 u, (∀ b o, s.heap.get? b = some o → h'.get? b = some o) → s.heap.get? e = none → h'.get? e = some { cls := .type X, data := .fields #[.ref t, .none, .none, .none, .bool false, v5] } → s.heap.get? t = none → h'.get? t = some { cls := .type "tuple", data := .seq [.str msg u].toArray } → E' (.ref e) { s with heap := h', toks := tk }) :
    wpAny M A (raiseErrorWords X msg : Sem α) Q E' s := by
  unfold raiseErrorWords
  refine wpAny_bind (wpAny_mkText (wpAny_bind ?_))
  unfold newExc newTuple
  refine wpAny_bind (wpAny_newObj_type ?_)
  refine wpAny_bind (m := firstArgMember _ _) (wpAny_of_eq (a := Value.none) (by simp only [firstArgMember, hp.first]; rfl) ?_)
  rw [hp.own]
  refine wpAny_newObj_type ?_
  unfold raiseNew
  refine wpAny_bind (wpAny_handled ?_)
  rw [hh]
  first
    | refine wpAny_throw ?_
    | refine wpAny_bind (wpAny_pure (wpAny_throw ?_))
  exact h _ _ _ s.heap.objs.size _ _ (fun b o hb => Heap.get?_push_of_some _ (Heap.get?_push_of_some _ hb)) (Heap.get?_none_of_le (by simp)) (Heap.get?_push_size _ rfl) (none_at_size _) (Heap.get?_push_of_some _ (Heap.get?_push_size _ rfl))
theorem raise_made' {α : Type} {M : Model} {X msg : String} {Q : α → Shared → Prop} {E' : Value → Shared → Prop} (hp : PlainExc X) (hh : A.handled = none) (hm : (msg : Str).length ≤ sizeLine)
    (h : ∀ h' tk e t v5 u, (∀ b o, s.heap.get? b = some o → h'.get? b = some o) → s.heap.get? e = none → h'.get? e = some { cls := .type X, data := .fields #[.ref t, .none, .none, .none, .bool false, v5] } → s.heap.get? t = none → h'.get? t = some { cls := .type "tuple", data := .seq [.str msg u].toArray } → E' (.ref e) { s with heap := h', toks := tk }) :
    wpAny M A (raiseErrorMade X msg : Sem α) Q E' s := by
  unfold raiseErrorMade
  refine wpAny_bind (wpAny_mkStr (wpAny_bind ?_) hm)
  unfold newExc newTuple
  refine wpAny_bind (wpAny_newObj_type ?_)
  refine wpAny_bind (m := firstArgMember _ _) (wpAny_of_eq (a := Value.none) (by simp only [firstArgMember, hp.first]; rfl) ?_)
  rw [hp.own]
  refine wpAny_newObj_type ?_
  unfold raiseNew
  refine wpAny_bind (wpAny_handled ?_)
  rw [hh]
  first
    | refine wpAny_throw ?_
    | refine wpAny_bind (wpAny_pure (wpAny_throw ?_))
  exact h _ _ _ s.heap.objs.size _ _ (fun b o hb => Heap.get?_push_of_some _ (Heap.get?_push_of_some _ hb)) (Heap.get?_none_of_le (by simp)) (Heap.get?_push_size _ rfl) (none_at_size _) (Heap.get?_push_of_some _ (Heap.get?_push_size _ rfl))
theorem sub_str_out {value slice : Expr} {x : Str} {i : Nat} {Q : V → Fz → Hp → Prop} (hh : A.handled = none) (hi : x.cps.size ≤ i) (h : ∀ e m, E (.ref e) F ((e, .exc "IndexError" [.str m] none none true) :: H)) (hs : autoParam (notSlice slice = true) tac0) :
    Op2 G fr A F H (subscriptTail value slice) (.str x) (.int i) Q E := fun K m vo vi ho hi' R s hR => by
  refine ho.e_str (P := fun vo => wpAny _ _ (subscriptTail value slice vo vi) _ _ _) fun t => hi'.e_int (P := fun vi => wpAny _ _ (subscriptTail value slice _ vi) _ _ _) fun u => ?_
  have post : ∀ (msg : String) h' tk e t v5 u, (∀ b o, s.heap.get? b = some o → h'.get? b = some o) → s.heap.get? e = none → h'.get? e = some { cls := .type "IndexError", data := .fields #[.ref t, .none, .none, .none, .bool false, v5] } → s.heap.get? t = none → h'.get? t = some { cls := .type "tuple", data := .seq [.str msg u].toArray } →
      PQ G fr K R (fun e => Dn (E e)) (.ref e) { s with heap := h', toks := tk } := fun msg h' tk e t v5 u hk hn he ht hto => by
    obtain ⟨K', le, r⟩ := Rep.exc (tk := tk) (l := [.str (msg : Str)]) hR hk hn he ht hto (.cons .str .nil) (fun q => absurd q (by decide))
    exact ⟨K', (e, .exc "IndexError" [.str (msg : Str)] none none true) :: H, le, r, F, m.trans le, h e _⟩
  refine tail_any (typeIs_str _ _ _) PySem.F.slot_str_getitem.lookup (wpAny_getItem_slot (typeIs_str _ _ _) (by decide) PySem.F.slot_str_getitem (wpAny_call_entry PySem.F.slot_str_getitem (typeIs_str _ _ _) PySem.F.entry_str_getitem ?_ (PySem.F.args_str_getitem_2 _ _))) (sub_of hs)
  show wpAny _ _ (if (decide ((i : Int) < -(2 ^ 63 : Int)) || decide ((i : Int) ≥ 2 ^ 63)) = true then _ else
          match (seqIndex? i x.length).bind (x.cps[·]?) with
          | some c => _
          | none => _) _ _ _
  have hnone : (seqIndex? (i : Int) x.length).bind (x.cps[·]?) = none := by
    have hl : x.length = x.cps.size := rfl
    have : seqIndex? (i : Int) x.length = none := by
      unfold seqIndex?
      simp only [if_neg (Int.not_lt.mpr (Int.natCast_nonneg i))]
      rw [if_neg (by simp only [Bool.and_eq_true, decide_eq_true_eq]; lia)]
    rw [this]; rfl
  rw [hnone]
  by_cases hb : (decide ((i : Int) < -(2 ^ 63 : Int)) || decide ((i : Int) ≥ 2 ^ 63)) = true
  · rw [if_pos hb]
    refine wpAny_bind (wpAny_rule ?_)
    refine wpAny_bind (wpAny_of_eq (show PySem.typeNameOf (.int (i : Int) u) = pure "int" by kernel_rfl) ?_)
    exact wpAny_bind (raise_made' (msg := "cannot fit 'int' into an index-sized integer") plainExc_IndexError hh (by decide) (post _))
  · rw [if_neg hb]
    exact wpAny_bind (wpAny_rule (raise_words plainExc_IndexError hh (post _)))
end
inductive Is (y : V) (F : Fz) (H : Hp) : V → Fz → Hp → Prop where
  | mk : Is y F H y F H
inductive IsL (ys : List V) (F : Fz) (H : Hp) : List V → Fz → Hp → Prop where
  | mk : IsL ys F H ys F H
noncomputable def calmFns : List Str := ["len", "int", "str", "abs", "divmod", "repr", "range", "type", "isinstance", "sum", "max", "min"]
noncomputable def calmMeths : List Str := ["index", "find", "startswith", "get", "lower", "split", "join"]
noncomputable def calm : Nat → Expr → Bool
  | 0, _ => false
  | n + 1, e => match e with
    | .Name .. => true
    | .Constant .. => true
    | .BinOp l _ r _ => calm n l && calm n r
    | .UnaryOp _ x _ => calm n x
    | .Subscript v s _ => calm n v && calm n s
    | .Slice l u s _ => l.all (calm n) && u.all (calm n) && s.all (calm n)
    | .Attribute v _ _ => calm n v
    | .Tuple es _ _ => es.all (calm n)
    | .Call (.Name f _) as ks _ => calmFns.contains f && as.all (calm n) && ks.isEmpty
    | .Call (.Attribute o m _) as ks _ => calmMeths.contains m && calm n o && as.all (calm n) && ks.isEmpty
    | _ => false
section
variable {G : Glob} {fr : List Env} {A : Around} {env : Env} {F : Fz} {H : Hp} {E : Value → Fz → Hp → Prop} {Q : V → Fz → Hp → Prop} {x y : V}
theorem Ev.is {t : Sem Value} (h : Ev G fr A F H t (Is x F H) No) (k : Q x F H) : Ev G fr A F H t Q E := h.mono (fun _ _ _ q => by cases q; exact k) fun _ _ _ e => e.elim
theorem Evs.is {t : Sem (List Value)} {xs : List V} {Q : List V → Fz → Hp → Prop} (h : Evs G fr A F H t (IsL xs F H) No) (k : Q xs F H) : Evs G fr A F H t Q E := fun K m R s hR =>
  wpAny_mono (h K m R s hR) (fun _ _ q => by obtain ⟨F1, H1, l, r, x, hx, F2, m2, q⟩ := q; cases q; exact ⟨F1, H, l, r, xs, hx, F, m2, k⟩) fun e _ q => (noPQ (v := e) q).elim
theorem Ev_BinOp' {l op r pos} (h1 : Ev G fr A F H (eval l env) (Is x F H) No) (h2 : Ev G fr A F H (eval r env) (Is y F H) No) (h : Op2 G fr A F H (binaryOp op) x y Q E) (hc : autoParam ((calm 8 l && calm 8 r) = true) tac0) : Ev G fr A F H (eval (.BinOp l op r pos) env) Q E := Ev_BinOp (h1.is (h2.is h))
theorem Ev_UnaryOp' {op e pos} (h1 : Ev G fr A F H (eval e env) (Is x F H) No) (h : Op1 G fr A F H (unaryOp op) x Q E) (hc : autoParam (calm 8 e = true) tac0) : Ev G fr A F H (eval (.UnaryOp op e pos) env) Q E := Ev_UnaryOp (h1.is h)
theorem Ev_Subscript' {value slice pos} (h1 : Ev G fr A F H (eval value env) (Is x F H) No) (h2 : Ev G fr A F H (eval slice env) (Is y F H) No) (h : Op2 G fr A F H (subscriptTail value slice) x y Q E) (hc : autoParam ((calm 8 value && calm 8 slice) = true) tac0) : Ev G fr A F H (eval (.Subscript value slice pos) env) Q E := Ev_Subscript (h1.is (h2.is h))
theorem Ev_Attribute' {value : Expr} {attr : Str} {pos : Pos} (h1 : Ev G fr A F H (eval value env) (Is x F H) No) (h : Op1 G fr A F H (fun v => getAttr v attr true) x Q E) (hc : autoParam (calm 8 value = true) tac0)
    (he : autoParam (eval (.Attribute value attr pos) env = (do
      let o ← eval value env
      standAt pos.atName
      let r ← holding [o] (getAttr o attr true)
      letTemporaryGo value o r
      pure r)) tac3) : Ev G fr A F H (eval (.Attribute value attr pos) env) Q E := Ev_Attribute (h1.is h) he
theorem It_Compare1' {l op r pos whole} {Q : Bool → Fz → Hp → Prop} (h1 : Ev G fr A F H (eval l env) (Is x F H) No) (h2 : Ev G fr A F H (eval r env) (Is y F H) No) (h : Op2 G fr A F H (compareOp op) x y (ABool Q) E)
    (hc : autoParam ((calm 8 l && calm 8 r) = true) tac0) (hm : autoParam (behindInMarks op r = false) tac15) : Tp G fr A F H (isTrue (.Compare l [op] [r] pos) env whole) Q E := It_Compare1 (h1.is (h2.is h)) hm
theorem Evs_nil' {pos} : Evs G fr A F H (spliced (backTo pos (starEach [] env))) (IsL [] F H) No := Evs_nil .mk
theorem Evs_cons' {e : Expr} {rest : List Expr} {pos} {xs : List V} (h1 : Ev G fr A F H (eval e env) (Is x F H) No) (h2 : Evs G fr A F H (spliced (backTo pos (starEach rest env))) (IsL xs F H) No)
    (he : autoParam (starEach (e :: rest) env = (false, eval e env) :: starEach rest env) tac0) : Evs G fr A F H (spliced (backTo pos (starEach (e :: rest) env))) (IsL (x :: xs) F H) No := Evs_cons (h1.is (h2.is .mk)) he
theorem Ev_Call' {func e : Expr} {rest : List Expr} {pos} {xs : List V} (h1 : Ev G fr A F H (eval func env) (Is x F H) No) (hk : KOk F x) (h2 : Evs G fr A F H (spliced (backTo pos (starEach (e :: rest) env))) (IsL xs F H) No) (h : Cl G fr A F H x xs Q E) (hc : autoParam ((e :: rest).all (calm 8) = true) tac0)
    (he : autoParam (eval (.Call func (e :: rest) [] pos) env = (do callWith pos (← eval func env) [] (backTo pos (starEach (e :: rest) env)) (backToKw pos (keywordEach [] env)))) tac0)
    (hs : autoParam (starEach (e :: rest) env = (false, eval e env) :: starEach rest env) tac0) (hplain : autoParam ((backTo pos (starEach rest env)).any (·.1) = false) tac0) :
    Ev G fr A F H (eval (.Call func (e :: rest) [] pos) env) Q E := Ev_Call (h1.is ⟨hk, h2.is h⟩) he hs hplain
theorem Ev_Tuple' {elts : List Expr} {k pos} {xs : List V} (h1 : Evs G fr A F H (spliced (backTo pos (starEach elts env))) (IsL xs F H) No) (hl : xs.length ≤ sizeLine) (h : Q (.tup xs) F H) (hc : autoParam (elts.all (calm 8) = true) tac0) : Ev G fr A F H (eval (.Tuple elts k pos) env) Q E := Ev_Tuple (h1.is ⟨hl, h⟩)
inductive MArgs (G : Glob) (fr : List Env) (A : Around) (env : Env) (F : Fz) (H : Hp) (pos : Pos) (args : List Expr) (x : V) (Q : V → Fz → Hp → Prop) (E : Value → Fz → Hp → Prop) (id : String) : Prop where
  | mk {xs : List V} (h1 : Evs G fr A F H (spliced (backTo pos (starEach args env))) (IsL xs F H) No) (h : Cl G fr A F H (.blt id) (x :: xs) Q E)
inductive MethC (G : Glob) (fr : List Env) (A : Around) (env : Env) (F : Fz) (H : Hp) (pos : Pos) (args : List Expr) (name : Str) (x : V) (Q : V → Fz → Hp → Prop) (E : Value → Fz → Hp → Prop) : Prop where
  | mk (T id : String) (h1 : PlainAttrs T) (h2 : Slot T name id) (h3 : typeOf (.builtin id) = pure (.type "method_descriptor")) (h4 : TyIs F H x T) (h : MArgs G fr A env F H pos args x Q E id)
theorem Ev_method' {o : Expr} {name : Str} {apos pos : Pos} {args : List Expr} (h1 : Ev G fr A F H (eval o env) (Is x F H) No)
    (h : MethC G fr A env F H pos args name x Q E) (hc : autoParam ((calm 8 o && args.all (calm 8)) = true) tac0)
    (hbase : autoParam (attributeBase o name env (eval o env) = eval o env) tac0)
    (hfew : autoParam (((backTo pos (starEach args env)).all (fun x => !x.1) && (backToKw pos (keywordEach [] env)).all (fun x => x.1.isSome)
      && decide (args.length + ([] : List Keyword).length + (if ([] : List Keyword).isEmpty then 0 else 1) < 30)) = true) tac0)
    (hline : autoParam ((apos.endLine == pos.line) = true) tac0)
    (hargs : ∀ f (Q : Args → Shared → Prop) E s, wpAny G.M A (spliced (backTo pos (starEach args env))) (fun vs s' => Q ⟨vs, []⟩ s') E s → wpAny G.M A (evalArgs f true (backTo pos (starEach args env)) []) Q E s := by intro _ _ _ _ h; first | exact evalArgs_plain h | exact Mine.evalArgs_nil' h)
    (hplain : autoParam ((backTo pos (starEach args env)).any (·.1) = false) tac0) :
    Ev G fr A F H (eval (.Call (.Attribute o name apos) args [] pos) env) Q E := by
  refine Ev_method (h1.is ?_) hbase hfew hline hargs hplain
  obtain ⟨T, id, a, b, c, d, e⟩ := h
  obtain ⟨h1, h⟩ := e
  exact ⟨T, id, a, b, c, d, h1.is h⟩
end
section
variable {K : Type} [DecidableEq K]
noncomputable def kvL (emb : K → V) (l : List (K × V)) : List (V × V) := l.map fun p => (emb p.1, p.2)
noncomputable def vAt (l : List (K × V)) (k : K) : Option V := (l.find? fun p => decide (p.1 = k)).map (·.2)
end
structure Kd (G : Glob) (K : Type) [DecidableEq K] where
  emb : K → V
  knd : KeyKind G.prog G.w K
  ok : ∀ k v h, keyHashV G.w (emb k) v h ↔ (knd.is k v = true ∧ h = knd.hash k)
  rv : ∀ F k v, RV F v (emb k) → knd.is k v = true
noncomputable def kStr (G : Glob) : Kd G Str where
  emb := .str
  knd := PySem.strKind G.prog G.w
  ok := fun k v h => by
    constructor
    · rintro (⟨x, t, e, rfl, rfl⟩ | ⟨i, t, e, _⟩)
      · cases e; exact ⟨PySem.strKind_is _ _ _ _, rfl⟩
      · cases e
    · rintro ⟨h1, rfl⟩
      obtain ⟨t, rfl⟩ := Value.isStrOf_shape h1
      exact .inl ⟨_, _, rfl, rfl, rfl⟩
  rv := fun F k v h => h.e_str (P := fun v => (PySem.strKind G.prog G.w).is k v = true) fun _ => PySem.strKind_is _ _ _ _
noncomputable def kInt (G : Glob) : Kd G Int where
  emb := .int
  knd := PySem.intKind G.prog G.w
  ok := fun k v h => by
    constructor
    · rintro (⟨x, t, e, _⟩ | ⟨i, t, e, rfl, rfl⟩)
      · cases e
      · cases e; exact ⟨PySem.intKind_is _ _ _ _, rfl⟩
    · rintro ⟨h1, rfl⟩
      obtain ⟨t, rfl⟩ := Value.isInt_shape h1
      exact .inr ⟨_, _, rfl, rfl, rfl⟩
  rv := fun F k v h => h.e_int (P := fun v => (PySem.intKind G.prog G.w).is k v = true) fun _ => PySem.intKind_is _ _ _ _
section
variable {G : Glob} {K : Type} [DecidableEq K] (kd : Kd G K) {F : Fz}
theorem RD.pairs : ∀ {es : List DictEntry} {l : List (K × V)}, RD G.w F es (kvL kd.emb l) → ∃ kvs : List (K × Value), (∀ e ∈ es, ∃ k, kd.knd.is k e.key = true ∧ e.hash = kd.knd.hash k) ∧ Pairs kd.knd es kvs ∧ kvs.map (·.1) = l.map (·.1) ∧ RVs F (kvs.map (·.2)) (l.map (·.2))
  | es, [], h => by
    cases h
    exact ⟨[], by simp, .nil, rfl, .nil⟩
  | es, p :: l, h => by
    cases h with
    | @cons e _ _ es _ hk hv t =>
      obtain ⟨kvs, h1, h2, h3, h4⟩ := RD.pairs t
      have hk' := (kd.ok _ _ _).mp hk
      refine ⟨(p.1, e.val) :: kvs, fun e' he => ?_, .cons hk'.1 rfl h2, by simp [h3], .cons hv h4⟩
      rcases List.mem_cons.mp he with rfl | he
      · exact ⟨p.1, hk'⟩
      · exact h1 e' he
theorem RD.of {es : List DictEntry} {l : List (K × V)} {kvs : List (K × Value)} (hk : ∀ e ∈ es, ∃ k, kd.knd.is k e.key = true ∧ e.hash = kd.knd.hash k) (hp : Pairs kd.knd es kvs) (he : kvs.map (·.1) = l.map (·.1)) (hr : RVs F (kvs.map (·.2)) (l.map (·.2))) : RD G.w F es (kvL kd.emb l) := by
  induction hp generalizing l with
  | nil =>
    cases l with
    | nil => exact .nil
    | cons _ _ => simp at he
  | @cons e kv es kvs h1 h2 h3 ih =>
    cases l with
    | nil => simp at he
    | cons p l =>
      simp only [List.map_cons, List.cons.injEq] at he hr
      cases hr with
      | cons r1 r2 =>
        obtain ⟨k, q1, q2⟩ := hk e (.head _)
        have : kv.1 = k := kd.knd.inj _ _ _ h1 q1
        exact .cons ((kd.ok _ _ _).mpr ⟨by rw [← he.1]; exact h1, by rw [← he.1, this]; exact q2⟩) (by rw [h2]; exact r1) (ih (fun e he => hk e (.tail _ he)) he.2 r2)
theorem vAt_rel {kvs : List (K × Value)} : ∀ {l : List (K × V)} (k : K), kvs.map (·.1) = l.map (·.1) → RVs F (kvs.map (·.2)) (l.map (·.2)) → match vAt l k with | none => valueAt kvs k = none | some x => ∃ v, valueAt kvs k = some v ∧ RV F v x := by
  induction kvs with
  | nil =>
    intro l k he hr
    cases l with
    | nil => rfl
    | cons => cases he
  | cons p kvs ih =>
    intro l k he hr
    cases l with
    | nil => cases he
    | cons q l =>
      rw [List.map_cons, List.map_cons] at he hr
      cases hr with
      | cons r1 r2 =>
        unfold vAt valueAt
        rw [List.find?_cons, List.find?_cons, (List.cons.inj he).1]
        by_cases hk : q.1 = k
        · rw [decide_eq_true hk]; exact ⟨_, rfl, r1⟩
        · rw [decide_eq_false hk]; exact ih k (List.cons.inj he).2 r2
end
noncomputable def DictF (G : Glob) (F : Fz) (a : Addr) (l : List (V × V)) : Prop := (a == sysModules) = false ∧ ∃ es n, F a = some { cls := .type "dict", dict := none, data := .dict es n, slots := #[] } ∧ RD G.w F es.toList l
theorem DictF.mono {G : Glob} {F F' : Fz} {a : Addr} {l : List (V × V)} (le : F.le F') (h : DictF G F a l) : DictF G F' a l := by obtain ⟨h1, es, n, h2, h3⟩ := h; exact ⟨h1, es, n, le _ _ h2, h3.mono le⟩
inductive DctIs (G : Glob) (F : Fz) (H : Hp) : Addr → List (V × V) → Prop where
  | frz {a : Addr} {l : List (V × V)} (h : DictF G F a l) : DctIs G F H a l
  | own {a : Addr} {l : List (V × V)} (ha : (a == sysModules) = false) (h : Has H a (.dict l)) : DctIs G F H a l
section
variable {G : Glob} {fr : List Env} {A : Around} {env : Env} {F : Fz} {H H' : Hp} {E : Value → Fz → Hp → Prop} {Q : V → Fz → Hp → Prop} {K : Type} [DecidableEq K] {kd : Kd G K}
theorem DctIs.obj {R : Hp} {s : Shared} {K' : Fz} {a : Addr} {l : List (V × V)} (h : DctIs G F H a l) (m : F.le K') (hR : Rep G fr K' (H ++ R) s) : (a == sysModules) = false ∧ ∃ es n, s.heap.get? a = some { cls := .type "dict", dict := none, data := .dict es n, slots := #[] } ∧ RD G.w K' es.toList l := by
  cases h with
  | frz h => obtain ⟨h1, es, n, h2, h3⟩ := h.mono m; exact ⟨h1, es, n, hR.fz _ _ h2, h3⟩
  | own ha h => obtain ⟨o, ho, es, n, rfl, hr⟩ := hR.has h; exact ⟨ha, es, n, ho, hr⟩
theorem dictOf {s : Shared} {K' : Fz} {a : Addr} {l : List (K × V)} {es : Array DictEntry} {n : Nat} (hnd : (l.map (·.1)).Nodup) (ho : s.heap.get? a = some { cls := .type "dict", dict := none, data := .dict es n, slots := #[] }) (hr : RD G.w K' es.toList (kvL kd.emb l)) :
    ∃ kvs, s.heap.DictOf kd.knd a kvs ∧ kvs.map (·.1) = l.map (·.1) ∧ RVs K' (kvs.map (·.2)) (l.map (·.2)) := by
  obtain ⟨kvs, h1, h2, h3, h4⟩ := hr.pairs
  exact ⟨kvs, ⟨_, es, n, ho, ⟨rfl, rfl, rfl⟩, rfl, fun e he => h1 e (by simpa using he), h2, by rw [h3]; exact hnd⟩, h3, h4⟩
theorem sub_dict {value slice : Expr} {a : Addr} {l : List (K × V)} {k : K} {y : V} (hd : DctIs G F H a (kvL kd.emb l)) (hnd : (l.map (·.1)).Nodup) (hy : vAt l k = some y) (h : Q y F H) (hs : autoParam (notSlice slice = true) tac0) :
    Op2 G fr A F H (subscriptTail value slice) (.ref a) (kd.emb k) Q E := fun K' m vo vi ho hi R s hR => by
  obtain rfl := ho.i_ref
  obtain ⟨ha, es, n, hob, hr⟩ := hd.obj m hR
  obtain ⟨kvs, hD, e1, e2⟩ := dictOf hnd hob hr
  have := vAt_rel k e1 e2
  rw [hy] at this
  obtain ⟨v, hv, hrv⟩ := this
  exact tail_any hD.typeIs slot_dict_getitem.lookup (wpAny_getItem_of (kd.rv _ _ _ hi) hD.mapOf hv (vret (hR.toks _) hrv m h)) (sub_of hs)
theorem get_dict {a : Addr} {l : List (K × V)} {k : K} {dflt : V} (hd : DctIs G F H a (kvL kd.emb l)) (hnd : (l.map (·.1)).Nodup) (h : Q ((vAt l k).getD dflt) F H) :
    Cl G fr A F H (.blt "dict.get") [.ref a, kd.emb k, dflt] Q E := cl_b3 fun K' m vo vk vd ho hk hd' R s hR => by
  obtain rfl := ho.i_ref
  obtain ⟨ha, es, n, hob, hr⟩ := hd.obj m hR
  obtain ⟨kvs, hD, e1, e2⟩ := dictOf hnd hob hr
  have := vAt_rel k e1 e2
  refine call_meetsIn PySem.F.slot_dict_get hD.typeIs PySem.F.entry_dict_get (PySem.F.args_dict_get_3 _ _ _) (meets_dict_get_default kd.knd a (kd.rv _ _ _ hk) ha vd) ⟨_, hD.mapOf, ?_⟩
  cases hx : vAt l k with
  | none => rw [hx] at this h; simp only at this; rw [this]; exact vret (hR.toks _) hd' m h
  | some x => rw [hx] at this h; obtain ⟨v, hv, hrv⟩ := this; rw [hv]; exact vret (hR.toks _) hrv m h
end
theorem each_opt {env : Env} : ∀ ks : List Expr, evalEachOpt (ks.map some) env = ks.map fun k => some (eval k env)
  | [] => rfl
  | k :: ks => by
    show some (eval k env) :: evalEachOpt (ks.map some) env = _
    rw [each_opt ks]; rfl
theorem each_map {env : Env} : ∀ vs : List Expr, evalEach vs env = vs.map fun v => eval v env
  | [] => rfl
  | v :: vs => by
    show eval v env :: evalEach vs env = _
    rw [each_map vs]; rfl
theorem dict_sh {env : Env} {pos : Pos} (ks vs : List Expr) : (evalEachOpt (ks.map some) env).zip ((evalEach vs env).map fun v => do let x ← v; standAt pos; pure x) = ((ks.map fun k => eval k env).zip (vs.map fun v => (do let x ← eval v env; standAt pos; pure x : Sem Value))).map fun p => (some p.1, p.2) := by
  rw [each_opt, each_map, List.map_map, show (ks.map fun k => some (eval k env)) = (ks.map fun k => eval k env).map some from (List.map_map ..).symm, List.zip_map_left]
  rfl
section
variable {G : Glob} {fr : List Env} {A : Around} {env : Env} {F : Fz} {H H' : Hp} {E : Value → Fz → Hp → Prop} {Q : V → Fz → Hp → Prop} {K : Type} [DecidableEq K]
noncomputable def Evp (G : Glob) (fr : List Env) (A : Around) (env : Env) (E : Value → Fz → Hp → Prop) : List Expr → List Expr → Fz → Hp → (List (V × V) → Fz → Hp → Prop) → Prop
  | k :: ks, v :: vs, F, H, Q => Ev G fr A F H (eval k env) (fun x F1 H1 => Ev G fr A F1 H1 (eval v env) (fun y F2 H2 => Evp G fr A env E ks vs F2 H2 fun r F3 H3 => Q ((x, y) :: r) F3 H3) E) E
  | [], [], F, H, Q => Q [] F H
  | _, _, _, _, _ => False
theorem Evp.cons {k v : Expr} {ks vs : List Expr} {Q : List (V × V) → Fz → Hp → Prop} (h : Ev G fr A F H (eval k env) (fun x F1 H1 => Ev G fr A F1 H1 (eval v env) (fun y F2 H2 => Evp G fr A env E ks vs F2 H2 fun r F3 H3 => Q ((x, y) :: r) F3 H3) E) E) : Evp G fr A env E (k :: ks) (v :: vs) F H Q := h
theorem Evp.nil {Q : List (V × V) → Fz → Hp → Prop} (h : Q [] F H) : Evp G fr A env E [] [] F H Q := h
inductive RPs (K : Fz) : List (Value × Value) → List (V × V) → Prop where
  | nil : RPs K [] []
  | cons {a b : Value} {x y : V} {vs : List (Value × Value)} {l : List (V × V)} (h1 : RV K a x) (h2 : RV K b y) (t : RPs K vs l) : RPs K ((a, b) :: vs) ((x, y) :: l)
theorem Evp.run {pos : Pos} : ∀ {ks vs : List Expr} {F K K₀ : Fz} {H R : Hp} {s : Shared} {Q : List (V × V) → Fz → Hp → Prop} {P : List (Value × Value) → Shared → Prop}, Evp G fr A env E ks vs F H Q → F.le K → Rep G fr K (H ++ R) s → K₀.le K →
    (∀ ps l F1 K1 H1 s1, K.le K1 → Fz.le F1 K1 → Rep G fr K1 (H1 ++ R) s1 → RPs K1 ps l → Q l F1 H1 → P ps s1) → wpAny G.M A (evalPairs ((ks.map fun k => eval k env).zip (vs.map fun v => do let x ← eval v env; standAt pos; pure x))) P (PQ G fr K₀ R fun e => Dn (E e)) s := by
  intro ks
  induction ks with
  | nil =>
    intro vs F K K₀ H R s Q P h m hR le k
    cases vs with
    | cons => exact h.elim
    | nil => exact evalPairs_nil (k [] [] F K H s (.refl K) m hR .nil h)
  | cons ke ks ih =>
    intro vs F K K₀ H R s Q P h m hR le k
    cases vs with
    | nil => exact h.elim
    | cons ve vs =>
      refine evalPairs_cons ((show Ev _ _ _ _ _ _ _ _ from h).go m hR le fun a x F1 K1 H1 s1 l1 m1 r1 hx h1 => wpAny_bind (h1.go m1 r1 (le.trans l1) fun b y F2 K2 H2 s2 l2 m2 r2 hy h2 => wpAny_bind (wpAny_standAt (wpAny_pure ?_))))
      exact ih h2 m2 r2 (le.trans (l1.trans l2)) fun ps l F3 K3 H3 s3 l3 m3 r3 hps q => k _ _ F3 K3 H3 s3 (l1.trans (l2.trans l3)) m3 r3 (.cons (hx.mono (l2.trans l3)) (hy.mono l3) hps) q
theorem merged_nodup : ∀ {kvs acc : List (K × Value)}, ((acc ++ kvs).map (·.1)).Nodup → merged acc kvs = acc ++ kvs
  | [], acc, _ => by simp [merged]
  | p :: kvs, acc, h => by
    have hn : p.1 ∉ acc.map (·.1) := fun hm => by
      rw [List.map_append, List.map_cons, List.nodup_append] at h
      exact h.2.2 _ hm _ (.head _) rfl
    have hs : stored acc p.1 p.2 = acc ++ [p] := by
      unfold stored
      rw [if_neg]
      rw [List.any_eq_true]
      rintro ⟨q, hq, e⟩
      exact hn (List.mem_map.mpr ⟨q, hq, of_decide_eq_true e⟩)
    have : merged acc (p :: kvs) = merged (stored acc p.1 p.2) kvs := by simp [merged]
    rw [this, hs, merged_nodup (by simpa using h)]
    simp
theorem carries (kd : Kd G K) {Kz : Fz} : ∀ {ps : List (Value × Value)} {l : List (K × V)}, RPs Kz ps (kvL kd.emb l) → ∃ kvs, Carries kd.knd ps kvs ∧ kvs.map (·.1) = l.map (·.1) ∧ RVs Kz (kvs.map (·.2)) (l.map (·.2))
  | _, [], h => by cases h; exact ⟨[], trivial, rfl, .nil⟩
  | _, p :: l, h => by
    cases h with
    | @cons a b _ _ vs _ h1 h2 t =>
      obtain ⟨kvs, c1, c2, c3⟩ := carries kd t
      exact ⟨(p.1, b) :: kvs, ⟨kd.rv _ _ _ h1, rfl, c1⟩, by simp [c2], .cons h2 c3⟩
theorem Ev_Dict (kd : Kd G K) {keys : List (Option Expr)} {values ks : List Expr} {pos : Pos} (hks : keys = ks.map some) (hl0 : ks ≠ []) (hlen : ks.length ≤ 15) (hlen2 : ks.length = values.length)
    (h : Evp G fr A env E ks values F H (fun l F1 H1 => ∃ m : List (K × V), l = kvL kd.emb m ∧ (m.map (·.1)).Nodup ∧ ∀ a, (a == sysModules) = false → Q (.ref a) F1 ((a, .dict (kvL kd.emb m)) :: H1))) :
    Ev G fr A F H (eval (.Dict keys values pos) env) Q E := fun K' m R s hR => by
  have hsh := dict_sh (env := env) (pos := pos) ks values
  rw [← hks] at hsh
  refine wpAny_Dict_pairs (knd := kd.knd) hsh ?_ ?_ ?_
  · intro e
    have := congrArg List.length e
    simp only [List.length_zip, List.length_map, List.length_nil] at this
    have : 0 < ks.length := List.length_pos_iff.mpr hl0
    lia
  · simp only [List.length_zip, List.length_map]; lia
  have hlo : (s.heap.objs.size == sysModules) = false := beq_eq_false_iff_ne.mpr (Nat.ne_of_gt (modules_low hR.glob.2.2))
  have r1 := hR.new (D := s.heap.objs.size) (x := .dict []) (tk := s.toks) (dr := s.drawn) (fun b o e => Heap.get?_push_of_some { cls := .type "dict", data := .dict #[] } e) (none_at_size _) (Heap.get?_push_size _ rfl) ⟨#[], 0, rfl, .nil⟩
  refine wpAny_mono (Evp.run (pos := pos) (R := (s.heap.objs.size, .dict []) :: R) (P := fun vs s₁ => ∃ kvs, Carries kd.knd vs kvs ∧ s₁.heap.DictOf kd.knd s.heap.objs.size [] ∧ ∀ h', h'.DictOf kd.knd s.heap.objs.size (merged [] kvs) → Heap.SameBut s.heap.objs.size s₁.heap h' → PQ G fr K' R (VQ Q) (.ref s.heap.objs.size) { s₁ with heap := h', toks := s₁.toks + vs.length })
    h m (r1.perm List.perm_middle.symm) (.refl K') fun ps l F1 K1 H1 s1 l1 m1 r2 hps hq => ?_) (fun _ _ x => x) fun e s1 q => ?_
  · obtain ⟨ml, rfl, hnd, hq⟩ := hq
    obtain ⟨kvs, c1, c2, c3⟩ := carries kd hps
    have r3 : Rep G fr K1 ((s.heap.objs.size, .dict []) :: (H1 ++ R)) s1 := r2.perm List.perm_middle
    obtain ⟨_, o, ho, es, n, rfl, hr⟩ := r3.own _ (.head _)
    have hD : s1.heap.DictOf kd.knd s.heap.objs.size [] := by
      obtain ⟨kvs', hD, e1, e2⟩ := dictOf (kd := kd) (l := []) .nil ho hr
      cases kvs' with
      | nil => exact hD
      | cons _ _ => simp at e1
    refine ⟨kvs, c1, hD, fun h' hD' hs' => ?_⟩
    rw [merged_nodup (by simpa [c2] using hnd)] at hD'
    obtain ⟨o', es', n', ho', hx, hd', hk', hp', hn'⟩ := hD'
    obtain ⟨x1, x2, x3⟩ := hx
    obtain ⟨oc, od, odt, osl⟩ := o'
    subst x1 x2 x3 hd'
    exact ⟨K1, _, l1, r3.upd (x' := .dict (kvL kd.emb ml)) (tk := s1.toks + ps.length) (dr := s1.drawn) hs'.extBut ho' ⟨es', n', rfl, RD.of kd (fun e he => hk' e (by simpa using he)) (by simpa using hp') c2 c3⟩ notNs_dict, _, .ref, F1, m1, hq _ hlo⟩
  · obtain ⟨K1, H1, l1, r2, q⟩ := q
    exact ⟨K1, H1, l1, (r2.perm List.perm_middle).dropNot (fun _ e => nomatch e), q⟩
theorem Rep.freezeD {R : Hp} {s : Shared} {a : Addr} {l : List (V × V)} {K' : Fz} (ha : (a == sysModules) = false) (r : Rep G fr K' ((a, .dict l) :: H ++ R) s) : ∃ K2, K'.le K2 ∧ Rep G fr K2 (H ++ R) s ∧ DictF G K2 a l := by
  obtain ⟨o, ⟨es, n, rfl, hr⟩, le, r'⟩ := Rep.freeze r fun ρ q => nomatch q
  exact ⟨_, le, r', ha, es, n, Fz.add_self _ _ _, hr.mono le⟩
theorem Ev_DictF (kd : Kd G K) {keys : List (Option Expr)} {values ks : List Expr} {pos : Pos} (hks : keys = ks.map some) (hl0 : ks ≠ []) (hlen : ks.length ≤ 15) (hlen2 : ks.length = values.length)
    (h : Evp G fr A env E ks values F H (fun l F1 H1 => ∃ m : List (K × V), l = kvL kd.emb m ∧ (m.map (·.1)).Nodup ∧ ∀ a F', F1.le F' → DictF G F' a (kvL kd.emb m) → Q (.ref a) F' H1)) :
    Ev G fr A F H (eval (.Dict keys values pos) env) Q E := fun K' m R s hR => by
  refine wpAny_mono (Ev_Dict (Q := fun x F2 H2 => ∃ a l H1, x = .ref a ∧ (a == sysModules) = false ∧ H2 = (a, .dict l) :: H1 ∧ ∀ F', F2.le F' → DictF G F' a l → Q (.ref a) F' H1) kd hks hl0 hlen hlen2 ?_ K' m R s hR) (fun v s1 hq => ?_) fun _ _ e => e
  · have mono : ∀ {ks vs : List Expr} {F : Fz} {H : Hp} {P P' : List (V × V) → Fz → Hp → Prop}, Evp G fr A env E ks vs F H P → (∀ l F1 H1, P l F1 H1 → P' l F1 H1) → Evp G fr A env E ks vs F H P' := by
      intro ks
      induction ks with
      | nil => intro vs F H P P' hh k; cases vs with
        | nil => exact k _ _ _ hh
        | cons _ _ => exact hh.elim
      | cons ke ks ih => intro vs F H P P' hh k; cases vs with
        | nil => exact hh.elim
        | cons ve vs => exact Ev.mono hh (fun x F1 H1 q => Ev.mono q (fun y F2 H2 q => ih q fun l F3 H3 q => k _ _ _ q) fun _ _ _ e => e) fun _ _ _ e => e
    exact mono h fun l F1 H1 q => by
      obtain ⟨m, e1, e2, e3⟩ := q
      exact ⟨m, e1, e2, fun a ha => ⟨a, _, H1, rfl, ha, rfl, fun F' le hd => e3 a F' le hd⟩⟩
  · obtain ⟨K1, H1, l1, r1, x, hx, F1, m1, a, l, H2, rfl, ha, rfl, q⟩ := hq
    obtain rfl := hx.i_ref
    obtain ⟨K2, l2, r2, hd⟩ := Rep.freezeD ha r1
    exact ⟨K2, H2, l1.trans l2, r2, _, .ref, K2, .refl _, q K2 (m1.trans l2) hd⟩
inductive EvBox (p : Prop) : Prop where
  | mk : p → EvBox p
theorem EvBox.out {p : Prop} : EvBox p → p
  | ⟨h⟩ => h
theorem Ev_DictB (kd : Kd G K) {keys : List (Option Expr)} {values ks : List Expr} {pos : Pos} (hks : keys = ks.map some) (hl0 : ks ≠ []) (hlen : ks.length ≤ 15) (hlen2 : ks.length = values.length)
    (h : Evp G fr A env E ks values F H (fun l F1 H1 => ∃ m : List (K × V), l = kvL kd.emb m ∧ (m.map (·.1)).Nodup ∧ ∀ a F', F1.le F' → DictF G F' a (kvL kd.emb m) → Q (.ref a) F' H1)) :
    EvBox (Ev G fr A F H (eval (.Dict keys values pos) env) Q E) := ⟨Ev_DictF kd hks hl0 hlen hlen2 h⟩
end
section
variable {G : Glob} {fr : List Env} {A : Around} {env : Env} {F : Fz} {H H' : Hp} {E : Value → Fz → Hp → Prop} {Q : V → Fz → Hp → Prop}
theorem find_s {x y : Str} {i : Int} (h : Q (.int (Txt.find3 x y i)) F H) : Cl G fr A F H (.blt "str.find") [.str x, .str y, .int i] Q E := cl_b3 fun K m a b c ha hb hc =>
  ha.e_str (P := fun a => EvAt _ _ _ _ _ (call _ [a, b, c]) _ _) fun t => hb.e_str (P := fun b => EvAt _ _ _ _ _ (call _ [_, b, c]) _ _) fun u => hc.e_int (P := fun c => EvAt _ _ _ _ _ (call _ [_, _, c]) _ _) fun v R s hR => SC.find3 (vret (hR.toks _) .int m h)
theorem starts_s {x y : Str} {i : Int} (h : Q (.bool (Txt.startswith3 x y i)) F H) : Cl G fr A F H (.blt "str.startswith") [.str x, .str y, .int i] Q E := cl_b3 fun K m a b c ha hb hc =>
  ha.e_str (P := fun a => EvAt _ _ _ _ _ (call _ [a, b, c]) _ _) fun t => hb.e_str (P := fun b => EvAt _ _ _ _ _ (call _ [_, b, c]) _ _) fun u => hc.e_int (P := fun c => EvAt _ _ _ _ _ (call _ [_, _, c]) _ _) fun v R s hR => SC.startswith3 (vret hR .bool m h)
theorem in_ss {x y : Str} (h : Q (.bool !(Builtin.Str.occurrences x y 0 x.length 1).isEmpty) F H) : Op2 G fr A F H (compareOp .In) (.str y) (.str x) Q E := fun K m => ss fun t u R s hR => PySem.P.in_str (vret hR .bool m h)
theorem abs_i {i : Int} (h : Q (.int (if i < 0 then -i else i)) F H) : Cl G fr A F H (.blt "abs") [.int i] Q E := cl_b1 fun K m a ha => ha.e_int (P := fun a => EvAt _ _ _ _ _ (call _ [a]) _ _) fun t R s hR => call_abs_int fun u tk => vret (hR.toks _) .int m h
theorem preSum_list (l : List Int) (f : Nat → Int) (hf : ∀ i (h : i < l.length), f i = l[i]) : preSum f l.length = l.sum := by
  have key : ∀ n, n ≤ l.length → preSum f n = (l.take n).sum := by
    intro n
    induction n with
    | zero => intro _; simp [preSum]
    | succ n ih =>
      intro hn
      have h1 : preSum f (n + 1) = preSum f n + f n := rfl
      rw [h1, ih (by lia), hf n (by lia), List.take_add_one, List.getElem?_eq_getElem (show n < l.length by lia), Option.toList_some, List.sum_append, List.sum_singleton]
  rw [key _ (Nat.le_refl _), List.take_length]
theorem sum_lst {zs : List Int} {x : V} (hx : LstIs H x (zs.map .int)) (hh : A.handled = none) (h : Q (.int zs.sum) F H) : Cl G fr A F H (.blt "sum") [x] Q E := cl_b1 fun K m v hv R s hR => by
  obtain ⟨a, vs, rfl, hL, hr⟩ := hx.is hR hv
  have hlt : a < s.heap.objs.size := by obtain ⟨_, e, _⟩ := hL; exact Heap.lt_size e
  have hsz : vs.size = zs.length := by rw [hr.toArr, List.length_map]
  refine call_sum_walkAnyS (wpAny_pyIter_list hL ?_)
  refine ⟨_, _, _, _, _, _, _, fun i => zs.getD i 0, rfl, (Walks.list (A := A.in1) hh _ a (Nat.ne_of_lt hlt) vs).toS, ⟨⟨_, Heap.get?_push_size _ rfl, rfl, rfl⟩, hL.push _⟩, fun b hb => ?_, fun i v hv => ?_, fun s' t' hm => ?_⟩
  · show b < (s.heap.push _).objs.size
    rw [Heap.size_push]
    rcases List.mem_cons.mp hb with rfl | hb
    · exact Nat.lt_succ_self _
    · rcases List.mem_cons.mp hb with rfl | hb
      · exact Nat.lt_succ_of_lt hlt
      · cases hb
  · have hv' : vs.toList[i]? = some v := by simpa using hv
    have hi : i < zs.length := by
      rcases Nat.lt_or_ge i zs.length with q | q
      · exact q
      · rw [List.getElem?_eq_none (by simp; lia)] at hv'; cases hv'
    have := hr.get i v (.int zs[i]) hv' (by simp [hi])
    show ∃ t, v = .int (zs.getD i 0) t
    rw [List.getD_eq_getElem?_getD, List.getElem?_eq_getElem hi]
    exact this.e_int (P := fun v => ∃ t, v = .int zs[i] t) fun t => ⟨t, rfl⟩
  · rw [hsz, preSum_list zs _ fun i hi => by rw [List.getD_eq_getElem?_getD, List.getElem?_eq_getElem hi]; rfl]
    have hk : ∀ b o, s.heap.get? b = some o → s'.heap.get? b = some o := fun b o e => hm.heap b o (fun q => by
      rw [List.mem_singleton] at q; exact absurd (q ▸ Heap.lt_size e) (Nat.lt_irrefl _)) (Heap.get?_push_of_some _ e)
    obtain ⟨hp, gg, dd, tk, os⟩ := s'
    have e1 := hm.gens
    have e2 := hm.drawn
    have e3 := hm.os
    subst e1 e2 e3
    exact vret (hR.keeps (h' := hp) (tk := tk) (dr := s.drawn) hk) .int m h
theorem all_lst {bs : List Bool} (hh : A.handled = none) (h : Q (.bool (bs.all id)) F H) : Cl G fr A F H (.blt "all") [.lst (bs.map .bool)] Q E := cl_b1 fun K m v hv R s hR => by
  obtain ⟨a, vs, rfl, hL, hr⟩ := (LstIs.lst (H := H)).is hR hv
  have hlt : a < s.heap.objs.size := by obtain ⟨_, e, _⟩ := hL; exact Heap.lt_size e
  have hsz : vs.size = bs.length := by rw [hr.toArr, List.length_map]
  refine call_all_walk (wpAny_pyIter_list hL ?_)
  refine ⟨_, _, _, _, _, _, fun i => bs.getD i true, rfl, Walks.list (A := A.in1) hh _ a (Nat.ne_of_lt hlt) vs, ⟨⟨_, Heap.get?_push_size _ rfl, rfl, rfl⟩, hL.push _⟩, fun i v s Q E hv hQ => ?_, fun h' tk hk => ?_⟩
  · have hv' : vs.toList[i]? = some v := by simpa using hv
    have hi : i < bs.length := by
      rcases Nat.lt_or_ge i bs.length with q | q
      · exact q
      · rw [List.getElem?_eq_none (by simp; lia)] at hv'; cases hv'
    have := hr.get i v (.bool bs[i]) hv' (by simp [hi])
    replace hQ : Q (bs.getD i true) s := hQ
    rw [List.getD_eq_getElem?_getD, List.getElem?_eq_getElem hi] at hQ
    exact this.e_bool (P := fun v => wpAny _ _ (truthy v) _ _ _) (wpAny_truthy_bool hQ)
  · have e : (List.range vs.size).all (fun i => bs.getD i true) = bs.all id := by
      rw [hsz]
      clear hsz hr hlt hL h hk
      rw [Bool.eq_iff_iff, List.all_eq_true, List.all_eq_true]
      constructor
      · intro hx b hb
        obtain ⟨i, hi, rfl⟩ := List.getElem_of_mem hb
        have := hx i (List.mem_range.mpr hi)
        rw [List.getD_eq_getElem?_getD, List.getElem?_eq_getElem hi] at this
        exact this
      · intro hx i hi
        have hi := List.mem_range.mp hi
        rw [List.getD_eq_getElem?_getD, List.getElem?_eq_getElem hi]
        exact hx _ (List.getElem_mem hi)
    rw [e]
    exact vret (hR.keeps (tk := tk) (dr := s.drawn) fun b o e => hk b o (fun q => by
      rw [List.mem_singleton] at q; exact absurd (q ▸ Heap.lt_size e) (Nat.lt_irrefl _)) (Heap.get?_push_of_some _ e)) .bool m h
theorem add_own {a b : Addr} {l1 l2 : List V} {H1 H2 : Hp} (h1 : Rem H a (.list l1) H1) (h2 : Rem H1 b (.list l2) H2) (hl : l1.length + l2.length ≤ sizeLine) (h : Q (.lst (l1 ++ l2)) F H2) : Op2 G fr A F H (binaryOp .Add) (.ref a) (.ref b) Q E := fun K m v w hv hw R s hR => by
  obtain rfl := hv.i_ref
  obtain rfl := hw.i_ref
  have r1 : Rep G fr K ((a, .list l1) :: (b, .list l2) :: (H2 ++ R)) s := hR.perm ((h1.perm.trans (h2.perm.cons _)).append_right R)
  obtain ⟨_, o1, ho1, i1, n1, rfl, q1⟩ := r1.own _ (.head _)
  obtain ⟨_, o2, ho2, i2, n2, rfl, q2⟩ := r1.own _ (.tail _ (.head _))
  have e1 := q1.toArr
  have e2 := q2.toArr
  refine concat_meets ⟨_, ho1, rfl⟩ ⟨_, ho2, rfl⟩ noFill_list_add seq_list_add PySem.F.slot_list_add PySem.F.entry_list_add (PySem.F.args_list_add_2 _ _) (AutoSeq1.list___add___list_list_0 a i1 n1 b i2 n2 (by rw [e1, e2]; exact hl)) ⟨ho1, ho2, ?_⟩
  have r2 : Rep G fr K (H2 ++ R) s := (r1.dropNot fun _ e => nomatch e).dropNot fun _ e => nomatch e
  obtain ⟨le, r⟩ := r2.newF (tk := s.toks) (dr := s.drawn) (fun b o e => Heap.get?_push_of_some { cls := .type "list", data := .seq (i1 ++ i2) } e) (none_at_size s.heap) (Heap.get?_push_size s.heap (o := { cls := .type "list", data := .seq (i1 ++ i2) }) rfl)
  have hq : RVs K (i1 ++ i2).toList (l1 ++ l2) := by rw [Array.toList_append]; exact q1.append q2
  exact ⟨_, H2, le, r, _, .lst (vs := (i1 ++ i2).toList) (Fz.add_self _ _ _) rfl rfl hq.length (hq.mono le).get, F, m.trans le, h⟩
theorem list_rngO {n : Nat} (hh : A.handled = none) (hn : n ≤ 2 ^ 24) (h : ∀ a, Q (.ref a) F ((a, .list ((List.range n).map fun (k : Nat) => .int k)) :: H)) : Cl G fr A F H (.typ "list") [.rng 0 n 1] Q E := cl_t1 fun K m v hv => by
      refine hv.e_rng (P := fun v => EvAt _ _ _ _ _ (call _ [v]) _ _) fun r t u v ha R s hR => ?_
      have hsz : Builtin.Range.rangeSize 0 n 1 = n := by
        unfold Builtin.Range.rangeSize
        simp
        try lia
      refine call_list_range hh (hR.fz _ _ ha) (small_n (by lia)) hsz hn fun h' tk acc' c' hk ho hit => ?_
      have hrv : RVs K acc'.toList ((List.range n).map fun (k : Nat) => V.int k) := by
        refine RVs.of (by simp [hit.1]) fun q v x h1 h2 => ?_
        have h1' : acc'[q]? = some v := by rw [← Array.getElem?_toList]; exact h1
        obtain ⟨t, rfl⟩ := hit.2 q v h1'
        rw [List.getElem?_map] at h2
        have hq : q < n := by
          rcases Nat.lt_or_ge q n with w | w
          · exact w
          · rw [List.getElem?_eq_none (by simpa using w)] at h2; cases h2
        rw [List.getElem?_range hq] at h2
        cases h2
        have : (0 : Int) + (q : Int) * 1 = q := by lia
        rw [this]; exact .int
      exact ⟨K, _, .refl K, hR.new (x := .list _) (tk := tk) (dr := s.drawn) hk (none_at_size _) ho ⟨_, _, rfl, hrv⟩, _, .ref, F, m, h _⟩
theorem pop_last {a : Addr} {l : List V} {x : V} (hu : Upd H a (.list (l ++ [x])) (.list l) H') (hl : l.length + 1 ≤ sizeLine) (h : Q x F H') : Cl G fr A F H (.blt "list.pop") [.ref a] Q E := cl_b1 fun K m v hv R s hR => by
  obtain rfl := hv.i_ref
  obtain ⟨o, ho, items, n, rfl, hr⟩ := hR.get hu.mem
  have e := hr.toArr
  rw [List.length_append, List.length_singleton] at e
  have hgx := hr.atA (i := l.length) (x := x) (by simp)
  obtain ⟨y, hy, hyx⟩ := hgx
  have hz : items.size ≤ sizeLine := Nat.le_trans (Nat.le_of_eq e) hl
  refine call_meets PySem.F.slot_list_pop ⟨_, ho, rfl⟩ PySem.F.entry_list_pop (PySem.F.args_list_pop_1 _) (PySem.MeetsSeq.list_pop_last a items n y (by rw [e]; exact hy) hz) ⟨ho, ?_⟩
  have g := Heap.get?_update_self (Obj.mapSeq fun xs => xs.eraseIdxIfInBounds (items.size - 1)) ho rfl
  refine ⟨K, H', .refl K, hR.upd' (tk := s.toks) (dr := s.drawn) hu (Heap.SameBut.update ..).extBut g ⟨_, _, rfl, ?_⟩ notNs_list, _, hyx, F, m, h⟩
  have e2 : (items.eraseIdxIfInBounds (items.size - 1)).toList = items.toList.take l.length := by
    unfold Array.eraseIdxIfInBounds
    rw [dif_pos (by rw [e]; exact Nat.lt_succ_self _), Array.toList_eraseIdx]
    have : items.size - 1 = l.length := by rw [e]; rfl
    rw [this, List.eraseIdx_eq_take_drop_succ, List.drop_eq_nil_of_le (by simp; lia)]
    simp
  show RVs K (items.eraseIdxIfInBounds (items.size - 1)).toList l
  rw [e2]
  have := hr.take l.length
  simpa using this
theorem isNot_typ {a b : String} (h : Q (.bool (!(Value.type a == Value.type b))) F H) : Op2 G fr A F H (compareOp .IsNot) (.typ a) (.typ b) Q E := fun K m v w hv hw R s hR => by
  refine hv.e_typ (P := fun v => wpAny _ _ (compareOp _ v w) _ _ _) (hw.e_typ (P := fun w => wpAny _ _ (compareOp _ _ w) _ _ _) ?_)
  exact wpAny_isNot_plain rfl (vret hR .bool m h)
end
section
variable {G : Glob} {fr : List Env} {A : Around} {env : Env} {F : Fz} {H H' : Hp} {E : Value → Fz → Hp → Prop} {Q : V → Fz → Hp → Prop}
theorem get_stop {x : Addr} {args : List V} {tb d : Option Addr} {cx : Bool} (hx : Has H x (.exc "StopIteration" args tb d cx)) (hn : noBlt (args.headD .none)) (h : Q (args.headD .none) F H) :
    Op1 G fr A F H (fun v => getAttr v (Str.ofString "value") true) (.ref x) Q E := fun K m v hv R s hR => by
  obtain rfl := hv.i_ref
  obtain ⟨o, ho, vs, a, v5, hc, hd, hdt, _, _, _, h5, h8, _⟩ := hR.has hx
  exact stop_value ho hc hdt h5 (hn.handed (h8 rfl)) (vret (hR.toks _) (h8 rfl) m h)
end
noncomputable def seqV : Bool → List V → V
  | true, l => .tup l
  | false, l => .lst l
noncomputable def itN : Bool → String
  | true => "tuple_iterator"
  | false => "list_iterator"
section
variable {prog : Program} {w : World} {A : Around} {E : Value → Shared → Prop} {s : Shared}
theorem nextOf_tuple_item {it t : Addr} {i : Nat} {items : Array Value} {x : Value} {Q : Value → Shared → Prop} (hit : IsTupIter s.heap it t i) (ht : IsTup s.heap t items) (hx : items[i]? = some x)
    (hQ : ∀ h', IsTupIter h' it t (i + 1) → Heap.SameBut it s.heap h' → Q x { s with heap := h' }) : wpAny (model prog w) A (Builtin.SmallTypes.nextOf (.ref it)) Q E s := by
  obtain ⟨o, ho, hc, hd⟩ := id hit
  obtain ⟨ol, hol, _, nl, hdl⟩ := ht
  unfold Builtin.SmallTypes.nextOf
  refine wpAny_bind (wpAny_callSpecial?_slot (name := Str.ofString "__next__") hit.typeIs slot_tupleiter_next (wpAny_call_entry slot_tupleiter_next hit.typeIs entry_tupleiter_next ?_ (args_tupleiter_next _)))
  show wpAny _ _ (field (.ref it) 0 >>= _) _ _ s
  refine wpAny_bind (wpAny_field ho hd (x := .ref t) rfl ?_)
  show wpAny _ _ (if (Value.ref t == Value.none) = true then _ else _) _ _ s
  rw [if_neg (show ¬ ((Value.ref t == Value.none) = true) from Bool.false_ne_true)]
  show wpAny _ _ (field (.ref it) 1 >>= _) _ _ s
  refine wpAny_bind (wpAny_field ho hd (x := .int i 0) rfl ?_)
  show wpAny _ _ (seqItems? (.ref t) >>= _) _ _ s
  refine wpAny_bind (wpAny_seqItems hol hdl ?_)
  simp only [Int.toNat_natCast, hx]
  refine wpAny_bind (wpAny_setField ho hd (by simp) (wpAny_pure ⟨x, rfl, wpAny_pure (hQ _ ⟨_, Heap.get?_update_self _ ho (Obj.isFreed_of_fields (Obj.data_mapFields hd _)), (Obj.cls_mapFields ..).trans hc, ?_⟩ (Heap.SameBut.update ..))⟩))
  rw [Obj.data_mapFields hd]; simp [rawInt]
theorem nextOf_tuple_end {it t : Addr} {i : Nat} {items : Array Value} {Q : Value → Shared → Prop} (hh : A.handled = none) (hit : IsTupIter s.heap it t i) (ht : IsTup s.heap t items) (hx : items[i]? = none)
    (hE : ∀ h' e, Heap.ExtBut it s.heap h' → (∃ o, h'.get? e = some o ∧ o.cls = .type "StopIteration") → E (.ref e) { s with heap := h' }) : wpAny (model prog w) A (Builtin.SmallTypes.nextOf (.ref it)) Q E s := by
  obtain ⟨o, ho, hc, hd⟩ := id hit
  obtain ⟨ol, hol, _, nl, hdl⟩ := ht
  unfold Builtin.SmallTypes.nextOf
  refine wpAny_bind (wpAny_callSpecial?_slot (name := Str.ofString "__next__") hit.typeIs slot_tupleiter_next (wpAny_call_entry slot_tupleiter_next hit.typeIs entry_tupleiter_next ?_ (args_tupleiter_next _)))
  show wpAny _ _ (field (.ref it) 0 >>= _) _ _ s
  refine wpAny_bind (wpAny_field ho hd (x := .ref t) rfl ?_)
  show wpAny _ _ (if (Value.ref t == Value.none) = true then _ else _) _ _ s
  rw [if_neg (show ¬ ((Value.ref t == Value.none) = true) from Bool.false_ne_true)]
  show wpAny _ _ (field (.ref it) 1 >>= _) _ _ s
  refine wpAny_bind (wpAny_field ho hd (x := .int i 0) rfl ?_)
  show wpAny _ _ (seqItems? (.ref t) >>= _) _ _ s
  refine wpAny_bind (wpAny_seqItems hol hdl ?_)
  simp only [Int.toNat_natCast, hx]
  refine wpAny_bind (wpAny_rule (wpAny_bind (wpAny_setField ho hd (by simp) ?_)))
  refine wpAny_bind (m := newExc (.type "StopIteration") []) ?_
  simp only [newExc, newTuple]
  refine wpAny_bind (wpAny_newObj_type ?_ (by size_fits))
  refine wpAny_bind (m := firstArgMember _ _) (wpAny_of_eq (a := Value.none) (by first | rfl | (simp only [firstArgMember]; rfl)) ?_)
  refine wpAny_newObj_type ?_ (by size_fits)
  simp only [raiseNew]
  refine wpAny_bind (wpAny_handled ?_)
  first | rw [show A.in1.handled = none from hh] | rw [hh]
  refine wpAny_bind (wpAny_pure (wpAny_throw ?_))
  exact hE _ _ (((Heap.SameBut.update ..).extBut.push _).push _) ⟨_, Heap.get?_push_size _ rfl, rfl⟩
end
section
variable {G : Glob} {fr : List Env} {A : Around} {F K : Fz} {H H' R : Hp} {s : Shared} {E : Value → Shared → Prop}
theorem next_item (b : Bool) {a i : Addr} {k : Nat} {l : List V} {y : V} {Q : Value → Shared → Prop} (ha : RV K (.ref a) (seqV b l)) (hy : l[k]? = some y) (r : Rep G fr K (H ++ R) s) (u : Upd H i (.flds (itN b) #[.ref a, .int (k : Nat) 0]) (.flds (itN b) #[.ref a, .int ((k + 1 : Nat) : Int) 0]) H')
    (h : ∀ v s', RV K v y → Rep G fr K (H' ++ R) s' → Q v s') : wpAny G.M A (Builtin.SmallTypes.nextOf (.ref i)) Q E s := by
  obtain ⟨o, ho, c1, c2⟩ := r.get u.mem
  cases b with
  | true =>
    obtain ⟨a', vs, n, ⟨f1, hl, hr⟩, e⟩ := ha.inv
    cases e
    have hk : k < vs.length := by rw [hl]; exact (List.getElem?_eq_some_iff.mp hy).1
    refine nextOf_tuple_item (items := vs.toArray) (x := vs[k]) ⟨o, ho, c1, c2⟩ ⟨_, r.fz _ _ f1, rfl, n, rfl⟩ (by simp [hk]) fun h' ⟨o', g', d1, d2⟩ hs => h _ _ (hr k _ y (List.getElem?_eq_getElem hk) hy) (r.upd' u (tk := s.toks) (dr := s.drawn) hs.extBut g' ⟨d1, d2⟩ fun q => q.elim fun ρ q => nomatch q)
  | false =>
    obtain ⟨a', vs, n, ol, ⟨f1, g1, g2, hl, hr⟩, e⟩ := ha.inv
    cases e
    have hk : k < vs.length := by rw [hl]; exact (List.getElem?_eq_some_iff.mp hy).1
    refine wpAny_nextOf_list_item (items := vs.toArray) (x := vs[k]) ⟨o, ho, c1, c2⟩ ⟨ol, r.fz _ _ f1, g1, n, g2⟩ (by simp [hk]) fun h' ⟨o', g', d1, d2⟩ hs => h _ _ (hr k _ y (List.getElem?_eq_getElem hk) hy) (r.upd' u (tk := s.toks) (dr := s.drawn) hs.extBut g' ⟨d1, d2⟩ fun q => q.elim fun ρ q => nomatch q)
theorem next_end (b : Bool) {a i : Addr} {l : List V} {H1 : Hp} {Q : Value → Shared → Prop} (hh : A.handled = none) (ha : RV K (.ref a) (seqV b l)) (r : Rep G fr K (H ++ R) s) (u : Rem H i (.flds (itN b) #[.ref a, .int (l.length : Nat) 0]) H1)
    (h : ∀ e h', (∃ o, h'.get? e = some o ∧ o.cls = .type "StopIteration") → Rep G fr K (H1 ++ R) { s with heap := h' } → E (.ref e) { s with heap := h' }) : wpAny G.M A (Builtin.SmallTypes.nextOf (.ref i)) Q E s := by
  have r1 := r.perm (u.perm.append_right R)
  obtain ⟨o, ho, c1, c2⟩ := (r1.own _ (.head _)).2
  cases b with
  | true =>
    obtain ⟨a', vs, n, ⟨f1, hl, hr⟩, e⟩ := ha.inv
    cases e
    exact nextOf_tuple_end (items := vs.toArray) hh ⟨o, ho, c1, c2⟩ ⟨_, r.fz _ _ f1, rfl, n, rfl⟩ (by simp [hl]) fun h' e hs he => h e h' he (r1.away (fun _ q => nomatch q) hs)
  | false =>
    obtain ⟨a', vs, n, ol, ⟨f1, g1, g2, hl, hr⟩, e⟩ := ha.inv
    cases e
    exact wpAny_nextOf_list_end (items := vs.toArray) hh ⟨o, ho, c1, c2⟩ ⟨ol, r.fz _ _ f1, g1, n, g2⟩ (by simp [hl]) fun h' e hs he => h e h' he (r1.away (fun _ q => nomatch q) hs)
end
noncomputable abbrev zO (f0 : Value) (TI TO : Addr) : Obj := { cls := .type "zip", dict := none, data := .fields #[f0, .bool false, .bool false, .ref TI, .ref TO], slots := #[] }
noncomputable abbrev pO (a b : Value) : Obj := { cls := .type "tuple", data := .seq #[a, b] }
noncomputable abbrev ZH (f0 : Value) (o : AO) (c : String) (z TI TO i1 i2 a1 a2 : Addr) (k1 k2 : Nat) : Hp :=
  [(z, .raw (zO f0 TI TO)), (TI, .raw (pO (.ref i1) (.ref i2))), (TO, o), (i1, .flds c #[.ref a1, .int (k1 : Nat) 0]), (i2, .flds c #[.ref a2, .int (k2 : Nat) 0])]
noncomputable abbrev anyP : AO := .such fun o => ∃ a b, o = pO a b
theorem notNs_raw {o : Obj} {x : AO} : (∃ ρ, AO.raw o = .ns ρ) → ∃ ρ, x = .ns ρ := fun h => h.elim fun _ q => nomatch q
theorem notNs_such {P : Obj → Prop} {x : AO} : (∃ ρ, AO.such P = .ns ρ) → ∃ ρ, x = .ns ρ := fun h => h.elim fun _ q => nomatch q
section
variable {G : Glob} {fr : List Env} {A : Around} {F K : Fz} {H H' R : Hp} {s : Shared} {E : Value → Shared → Prop} {b : Bool} {z TI TO i1 i2 a1 a2 : Addr}
theorem zset {f0 f1 : Value} {i : Nat} {v : Value} {Q : Unit → Shared → Prop} (r : Rep G fr K (H ++ R) s) (u : Upd H z (.raw (zO f0 TI TO)) (.raw (zO f1 TI TO)) H') (hi : i < 5) (e : (#[f0, .bool false, .bool false, .ref TI, .ref TO] : Array Value).setIfInBounds i v = #[f1, .bool false, .bool false, .ref TI, .ref TO])
    (h : ∀ s', Rep G fr K (H' ++ R) s' → Q () s') : wpAny G.M A (setField (.ref z) i v) Q E s := by
  obtain ⟨o, ho, ro⟩ := r.get u.mem
  obtain rfl : o = _ := ro
  refine wpAny_setField_rec ho (by simpa using hi) fun h₁ hz₁ hs₁ => h _ (r.upd' u (tk := s.toks) (dr := s.drawn) hs₁.extBut hz₁ ?_ notNs_raw)
  show _ = zO f1 TI TO
  unfold zO
  rw [← e]
theorem zfield {f0 : Value} {i : Nat} {v : Value} {Q : Value → Shared → Prop} (r : Rep G fr K (H ++ R) s) (m : Has H z (.raw (zO f0 TI TO))) (e : (#[f0, .bool false, .bool false, .ref TI, .ref TO] : Array Value)[i]? = some v) (h : Q v s) : wpAny G.M A (field (.ref z) i) Q E s := by
  obtain ⟨o, ho, ro⟩ := r.has m
  obtain rfl : o = _ := ro
  exact wpAny_field ho rfl e h
theorem pset {i : Nat} {x : Value} {P : Obj → Prop} {x' : AO} {Q : Unit → Shared → Prop} (r : Rep G fr K (H ++ R) s) (u : Upd H TO (.such P) x' H') (hP : ∀ o, P o → ∃ a b, o = pO a b ∧ RO G.w K { cls := .type "tuple", data := .seq ((#[a, b] : Array Value).setIfInBounds i x) } x')
    (h : ∀ a b s', s.heap.get? TO = some (pO a b) → Rep G fr K (H' ++ R) s' → Q () s') : wpAny G.M A (updateSeq TO (·.setIfInBounds i x)) Q E s := by
  obtain ⟨o, ho, ro⟩ := r.get u.mem
  obtain ⟨a, b, rfl, q⟩ := hP o ro
  exact wpAny_updateSeq_pair ho fun h' hT hs => h a b _ ho (r.upd' u (tk := s.toks) (dr := s.drawn) hs.extBut hT q notNs_such)
theorem items_pair {a b : Value} {Q : Option (Array Value) → Shared → Prop} (ho : s.heap.get? TO = some (pO a b)) (h : Q (some #[a, b]) s) : wpAny G.M A (seqItems? (.ref TO)) Q E s := wpAny_seqItems ho rfl h
theorem zip_item {k : Nat} {l1 l2 : List V} {y1 y2 : V} {Q : Value → Shared → Prop} (h1 : RV K (.ref a1) (seqV b l1)) (h2 : RV K (.ref a2) (seqV b l2)) (e1 : l1[k]? = some y1) (e2 : l2[k]? = some y2) (r : Rep G fr K (ZH .none anyP (itN b) z TI TO i1 i2 a1 a2 k k ++ R) s)
    (h : ∀ T v1 v2 s', RV K v1 y1 → RV K v2 y2 → Rep G fr K ((T, .raw (pO v1 v2)) :: (ZH (rawInt T) anyP (itN b) z TI TO i1 i2 a1 a2 (k + 1) (k + 1) ++ R)) s' → Q (.ref T) s') :
    wpAny G.M A (Builtin.«zip.__next__» ⟨[.ref z], []⟩) (fun fin s' => ∃ v, fin = .done (.ret v) ∧ Q v s') E s := by
  show wpAny _ _ (field (.ref z) 2 >>= _) _ _ _
  refine wpAny_bind (zfield r .hd (v := .bool false) rfl ?_)
  show wpAny _ _ (field (.ref z) 3 >>= _) _ _ _
  refine wpAny_bind (zfield r .hd (v := .ref TI) rfl ?_)
  obtain ⟨oT, hoT, rT⟩ := r.has (.tl .hd)
  obtain rfl : oT = _ := rT
  refine wpAny_bind (items_pair hoT ?_)
  show wpAny _ _ (Builtin.SmallTypes.ownedTupleIsFree (.ref z) >>= _) _ _ _
  refine wpAny_bind ?_
  unfold Builtin.SmallTypes.ownedTupleIsFree
  refine wpAny_bind (zfield r .hd (v := .none) rfl (wpAny_pure ?_))
  simp only [if_true]
  refine wpAny_bind (wpAny_rule ?_)
  refine wpAny_bind (zfield r .hd (v := .ref TO) rfl ?_)
  refine wpAny_bind (zset r (f1 := .ellipsis) .hd (by decide) rfl fun s1 r1 => ?_)
  refine wpAny_bind ?_
  simp only [List.zipIdx_cons, List.zipIdx_nil, List.forIn_cons, List.forIn_nil]
  refine wpAny_bind (wpAny_bind (wpAny_onRaise ?_))
  show wpAny _ _ (Builtin.SmallTypes.nextOf (.ref i1) >>= _) _ _ _
  refine wpAny_bind (next_item b h1 e1 r1 (.tl (.tl (.tl .hd))) fun v1 s2 hv1 r2 => wpAny_pure ?_)
  obtain ⟨oT, hoT, a, c, rfl⟩ := r2.has (.tl (.tl .hd))
  refine wpAny_bind (items_pair hoT ?_)
  refine wpAny_bind (pset (x' := .such fun o => ∃ d, o = pO v1 d) r2 (.tl (.tl .hd)) (fun o ⟨a, b, e⟩ => ⟨a, b, e, b, rfl⟩) fun a b s3 _ r3 => ?_)
  refine wpAny_bind (wpAny_letGo (wpAny_pure ?_))
  refine wpAny_bind (wpAny_bind (wpAny_onRaise ?_))
  show wpAny _ _ (Builtin.SmallTypes.nextOf (.ref i2) >>= _) _ _ _
  refine wpAny_bind (next_item _ h2 e2 r3 (.tl (.tl (.tl (.tl .hd)))) fun v2 s4 hv2 r4 => wpAny_pure ?_)
  obtain ⟨oT, hoT, d, rfl⟩ := r4.has (.tl (.tl .hd))
  refine wpAny_bind (items_pair hoT ?_)
  refine wpAny_bind (pset (x' := .raw (pO v1 v2)) r4 (.tl (.tl .hd)) (fun o ⟨d, e⟩ => ⟨v1, d, e, rfl⟩) fun a b s5 _ r5 => ?_)
  refine wpAny_bind (wpAny_letGo (wpAny_pure (wpAny_pure ?_)))
  obtain ⟨oT, hoT, rT⟩ := r5.has (.tl (.tl .hd))
  obtain rfl : oT = _ := rT
  refine wpAny_bind (items_pair hoT ?_)
  refine wpAny_bind (wpAny_newTuple ?_)
  have r6 := r5.new (D := s5.heap.objs.size) (x := .raw (pO v1 v2)) (tk := s5.toks) (dr := s5.drawn) (fun b o e => Heap.get?_push_of_some (pO v1 v2) e) (none_at_size _) (Heap.get?_push_size _ rfl) rfl
  generalize s5.heap.objs.size = T at r6 ⊢
  show wpAny _ _ (Builtin.SmallTypes.ownedTupleHandOut (.ref z) (.ref T) >>= _) _ _ _
  refine wpAny_bind ?_
  unfold Builtin.SmallTypes.ownedTupleHandOut
  refine wpAny_bind (zset (H := (T, .raw (pO v1 v2)) :: ZH .ellipsis (.raw (pO v1 v2)) _ z TI TO i1 i2 a1 a2 (k + 1) (k + 1)) (f1 := rawInt T) r6 (.tl .hd) (by decide) rfl fun s7 r7 => ?_)
  refine zset r7 (f1 := rawInt T) (.tl .hd) (by decide) rfl fun s8 r8 => ?_
  refine wpAny_pure ⟨_, rfl, h T v1 v2 s8 hv1 hv2 ?_⟩
  obtain ⟨oT, hoT, rT⟩ := r8.has (a := TO) (.tl (.tl (.tl .hd)))
  exact r8.upd' (H' := (T, .raw (pO v1 v2)) :: ZH (rawInt T) anyP _ z TI TO i1 i2 a1 a2 (k + 1) (k + 1)) (.tl (.tl (.tl .hd))) (tk := s8.toks) (dr := s8.drawn) (fun b o _ e => e) hoT ⟨v1, v2, rT⟩ notNs_raw
theorem zip_end {l1 : List V} {k2 : Nat} {Q : Fin → Shared → Prop} (hh : A.handled = none) (h1 : RV K (.ref a1) (seqV b l1)) (r : Rep G fr K (ZH .none anyP (itN b) z TI TO i1 i2 a1 a2 l1.length k2 ++ R) s)
    (h : ∀ e s', (∃ o, s'.heap.get? e = some o ∧ o.cls = .type "StopIteration") → Rep G fr K R s' → E (.ref e) s') :
    wpAny G.M A (Builtin.«zip.__next__» ⟨[.ref z], []⟩) Q E s := by
  show wpAny _ _ (field (.ref z) 2 >>= _) _ _ _
  refine wpAny_bind (zfield r .hd (v := .bool false) rfl ?_)
  show wpAny _ _ (field (.ref z) 3 >>= _) _ _ _
  refine wpAny_bind (zfield r .hd (v := .ref TI) rfl ?_)
  obtain ⟨oT, hoT, rT⟩ := r.has (.tl .hd)
  obtain rfl : oT = _ := rT
  refine wpAny_bind (items_pair hoT ?_)
  show wpAny _ _ (Builtin.SmallTypes.ownedTupleIsFree (.ref z) >>= _) _ _ _
  refine wpAny_bind ?_
  unfold Builtin.SmallTypes.ownedTupleIsFree
  refine wpAny_bind (zfield r .hd (v := .none) rfl (wpAny_pure ?_))
  simp only [if_true]
  refine wpAny_bind (wpAny_rule ?_)
  refine wpAny_bind (zfield r .hd (v := .ref TO) rfl ?_)
  refine wpAny_bind (zset r (f1 := .ellipsis) .hd (by decide) rfl fun s1 r1 => ?_)
  refine wpAny_bind ?_
  simp only [List.zipIdx_cons, List.zipIdx_nil, List.forIn_cons, List.forIn_nil]
  refine wpAny_bind (wpAny_bind (wpAny_onRaise ?_))
  show wpAny _ _ (Builtin.SmallTypes.nextOf (.ref i1) >>= _) _ _ _
  refine wpAny_bind (next_end b hh h1 r1 (.tl (.tl (.tl .hd))) fun e h' he r2 => ?_)
  obtain ⟨o, ho, hc⟩ := he
  obtain ⟨oz, hoz, rz⟩ := r2.has (a := z) .hd
  have hez : e ≠ z := fun q => by subst q; rw [hoz] at ho; cases ho; rw [show o = _ from rz] at hc; exact absurd (show Value.type "zip" = Value.type "StopIteration" from hc) (by decide)
  obtain rfl : oz = _ := rz
  refine wpAny_setField_rec hoz (by simp) fun h₃ hz₃ hs₃ => h e _ ⟨o, hs₃.extBut _ _ hez ho, hc⟩ ?_
  have r3 := Rep.away (it := z) r2 (fun _ q => nomatch q) (h' := h₃) fun b o q e => hs₃.extBut b o q e
  exact ((r3.dropNot fun _ q => nomatch q).dropNot fun _ q => nomatch q).dropNot fun _ q => nomatch q
end
noncomputable def zipV (l1 l2 : List V) : List V := List.zipWith (fun a b => .tup [a, b]) l1 l2
theorem Rep.adds {G : Glob} {fr : List Env} {F : Fz} {R : Hp} {s : Shared} (hR : Rep G fr F R s) : ∀ (N : Hp), (∀ p ∈ N, F p.1 = none ∧ ∃ o, s.heap.get? p.1 = some o ∧ RO G.w F o p.2) → (N.map (·.1)).Nodup → (∀ p ∈ N, p.1 ∉ R.map (·.1)) → Rep G fr F (N ++ R) s
  | [], _, _, _ => hR
  | p :: N, h, hnd, hR' => by
    rw [List.map_cons, List.nodup_cons] at hnd
    have ih := Rep.adds hR N (fun q hq => h q (.tail _ hq)) hnd.2 (fun q hq => hR' q (.tail _ hq))
    refine ⟨ih.gok, ih.base, ih.fz, fun q hq => (List.mem_cons.mp hq).elim (fun e => e ▸ h p (.head _)) (ih.own q), ?_, fun e he => ⟨(ih.frs e he).1, (ih.frs e he).2.imp fun L q => q.imp fun ρ q => ⟨q.1, .tail _ q.2⟩⟩, ih.gens, ih.os⟩
    refine List.nodup_cons.mpr ⟨fun q => ?_, ih.nd⟩
    rw [show N.append R = N ++ R from rfl, List.map_append, List.mem_append] at q
    exact q.elim hnd.1 (hR' p (.head _))
noncomputable abbrev itO (b : Bool) (a : Addr) : Obj := { cls := .type (itN b), data := .fields #[.ref a, .int 0 0] }
noncomputable def zipN (b : Bool) (h : Heap) (l1 l2 : Addr) : Heap := ((((h.push (itO b l1)).push (itO b l2)).push (pO (.ref h.objs.size) (.ref (h.objs.size + 1)))).push (pO .none .none)).push (zO .none (h.objs.size + 2) (h.objs.size + 3))
noncomputable def SeqAt (b : Bool) (h : Heap) (a : Addr) (xs : Array Value) : Prop := match b with
  | true => IsTup h a xs
  | false => h.IsList a xs
theorem meets_zip (b : Bool) (l1 l2 : Addr) (xs ys : Array Value) :
    Meets (Builtin.«zip.__new__» ⟨[.type "zip", .ref l1, .ref l2], []⟩) (fun _ R s => SeqAt b s.heap l1 xs ∧ SeqAt b s.heap l2 ys ∧ R (.ok (.ret (.ref (s.heap.objs.size + 4)))) { s with heap := zipN b s.heap l1 l2 }) :=
  .of_wp fun prog w A R s h => by
    obtain ⟨hp, g, d, tk, os⟩ := s; obtain ⟨hl1, hl2, h⟩ := h
    have hsub := sub_zip
    unfold zipN at h
    cases b with
    | true =>
      have hL1 : IsTup (Shared.heap ⟨hp, g, d, tk, os⟩) l1 xs := hl1
      have hL2 : IsTup (Shared.heap ⟨hp.push { cls := .type "tuple_iterator", data := .fields #[.ref l1, .int 0 0] }, g, d, tk, os⟩) l2 ys := by
        obtain ⟨o, ho, q⟩ := hl2; exact ⟨o, Heap.get?_push_of_some _ ho, q⟩
      wp_walk using iter_tuple hL1, iter_tuple hL2
      refine ⟨_, rfl, ?_⟩
      simp only [Heap.size_push]
      exact h
    | false =>
      have hL1 : Heap.IsList (Shared.heap ⟨hp, g, d, tk, os⟩) l1 xs := hl1
      have hL2 : Heap.IsList (Shared.heap ⟨hp.push { cls := .type "list_iterator", data := .fields #[.ref l1, .int 0 0] }, g, d, tk, os⟩) l2 ys := Heap.IsList.push hl2 _
      wp_walk using wpAny_pyIter_list hL1, wpAny_pyIter_list hL2
      refine ⟨_, rfl, ?_⟩
      simp only [Heap.size_push]
      exact h
theorem zipN_at (b : Bool) (h : Heap) (l1 l2 : Addr) : (zipN b h l1 l2).get? h.objs.size = some (itO b l1) ∧ (zipN b h l1 l2).get? (h.objs.size + 1) = some (itO b l2) ∧ (zipN b h l1 l2).get? (h.objs.size + 2) = some (pO (.ref h.objs.size) (.ref (h.objs.size + 1))) ∧
    (zipN b h l1 l2).get? (h.objs.size + 3) = some (pO .none .none) ∧ (zipN b h l1 l2).get? (h.objs.size + 4) = some (zO .none (h.objs.size + 2) (h.objs.size + 3)) ∧ ∀ c o, h.get? c = some o → (zipN b h l1 l2).get? c = some o := by
  have up : ∀ (h : Heap) (o : Obj) (n : Nat), h.objs.size = n → o.isFreed = false → (h.push o).get? n = some o := fun h o n e f => e ▸ Heap.get?_push_size _ f
  unfold zipN
  refine ⟨?_, ?_, ?_, ?_, ?_, ?_⟩
  · exact Heap.get?_push_of_some _ (Heap.get?_push_of_some _ (Heap.get?_push_of_some _ (Heap.get?_push_of_some _ (up _ _ _ rfl rfl))))
  · exact Heap.get?_push_of_some _ (Heap.get?_push_of_some _ (Heap.get?_push_of_some _ (up _ _ _ (by simp only [Heap.size_push]) rfl)))
  · exact Heap.get?_push_of_some _ (Heap.get?_push_of_some _ (up _ _ _ (by simp only [Heap.size_push]) rfl))
  · exact Heap.get?_push_of_some _ (up _ _ _ (by simp only [Heap.size_push]) rfl)
  · exact up _ _ _ (by simp only [Heap.size_push]) rfl
  · exact fun c o e => Heap.get?_push_of_some _ (Heap.get?_push_of_some _ (Heap.get?_push_of_some _ (Heap.get?_push_of_some _ (Heap.get?_push_of_some _ e))))
section
variable {G : Glob} {fr : List Env} {A : Around} {F : Fz} {H : Hp} {E : Value → Fz → Hp → Prop} {Q : V → Fz → Hp → Prop} {b : Bool} {l1 l2 : List V}
theorem seq_at {K : Fz} {R : Hp} {s : Shared} {v : Value} {l : List V} (r : Rep G fr K R s) (hv : RV K v (seqV b l)) : ∃ a vs, v = .ref a ∧ SeqAt b s.heap a vs := by
  cases b with
  | true => obtain ⟨a, vs, n, ⟨f1, _, _⟩, e⟩ := hv.inv; exact ⟨a, vs.toArray, e, _, r.fz _ _ f1, rfl, n, rfl⟩
  | false => obtain ⟨a, vs, n, o, ⟨f1, g1, g2, _, _⟩, e⟩ := hv.inv; exact ⟨a, vs.toArray, e, o, r.fz _ _ f1, g1, n, g2⟩
theorem call_zip (h : ∀ F1 z TI TO i1 i2 a1 a2, F.le F1 → RV F1 (.ref a1) (seqV b l1) → RV F1 (.ref a2) (seqV b l2) → Q (.ref z) F1 (ZH .none anyP (itN b) z TI TO i1 i2 a1 a2 0 0 ++ H)) :
    Cl G fr A F H (.typ "zip") [seqV b l1, seqV b l2] Q E := cl_t2 fun K m v1 v2 hv1 hv2 R s r => by
  obtain ⟨a1, vs1, rfl, s1⟩ := seq_at r hv1
  obtain ⟨a2, vs2, rfl, s2⟩ := seq_at r hv2
  refine callType_new PySem.F.called_zip (by decide) (PySem.F.typeCall_zip_2 _ _) (PySem.F.newCall_zip_2 _ _) (fun obj => PySem.F.args_object_init_3 obj _ _) PySem.F.entry_zip_new (meets_zip b a1 a2 vs1 vs2) ⟨s1, s2, ?_⟩
  obtain ⟨g0, g1, g2, g3, g4, gk⟩ := zipN_at b s.heap a1 a2
  have fresh : ∀ k, s.heap.get? (s.heap.objs.size + k) = none := fun k => by
    cases q : s.heap.get? (s.heap.objs.size + k) with
    | none => rfl
    | some o => exact absurd (Heap.lt_size q) (by lia)
  generalize zipN b s.heap a1 a2 = h' at g0 g1 g2 g3 g4 gk
  generalize s.heap.objs.size = n at *
  have r1 : Rep G fr K (ZH .none anyP (itN b) (n + 4) (n + 2) (n + 3) n (n + 1) a1 a2 0 0 ++ (H ++ R)) { s with heap := h' } := by
    refine (r.keeps (tk := s.toks) (dr := s.drawn) gk).adds _ (fun p hp => ?_) ?_ fun p hp => ?_
    · simp only [ZH, List.mem_cons, List.mem_nil_iff, or_false] at hp
      rcases hp with rfl | rfl | rfl | rfl | rfl
      · exact ⟨(r.fresh (fresh 4)).1, _, g4, rfl⟩
      · exact ⟨(r.fresh (fresh 2)).1, _, g2, rfl⟩
      · exact ⟨(r.fresh (fresh 3)).1, _, g3, _, _, rfl⟩
      · exact ⟨(r.fresh (fresh 0)).1, _, g0, rfl, rfl⟩
      · exact ⟨(r.fresh (fresh 1)).1, _, g1, rfl, rfl⟩
    · simp [ZH]
    · simp only [ZH, List.mem_cons, List.mem_nil_iff, or_false] at hp
      rcases hp with rfl | rfl | rfl | rfl | rfl
      · exact (r.fresh (fresh 4)).2
      · exact (r.fresh (fresh 2)).2
      · exact (r.fresh (fresh 3)).2
      · exact (r.fresh (fresh 0)).2
      · exact (r.fresh (fresh 1)).2
  refine ⟨⟨_, g4, rfl⟩, K, ZH .none anyP (itN b) (n + 4) (n + 2) (n + 3) n (n + 1) a1 a2 0 0 ++ H, .refl K, ?_, _, .ref, K, .refl K, h K _ _ _ _ _ _ _ m hv1 hv2⟩
  rw [List.append_assoc]
  exact r1
theorem zip_walk {A : Around} {z TI TO i1 i2 a1 a2 : Addr} {elts : List Expr} {x1} {pos : Pos} (hh : A.handled = none) (hl : l1.length = l2.length) (h1 : RV F (.ref a1) (seqV b l1)) (h2 : RV F (.ref a2) (seqV b l2)) :
    IterG G A F z (.Tuple elts x1 pos) (zipV l1 l2) fun k => ZH .none anyP (itN b) z TI TO i1 i2 a1 a2 k k where
  item := fun {fr R k y s K Q E} le hy r h => by
    obtain ⟨y1, y2, e1, e2, rfl⟩ : ∃ y1 y2, l1[k]? = some y1 ∧ l2[k]? = some y2 ∧ y = .tup [y1, y2] := by
      unfold zipV at hy
      rw [List.getElem?_zipWith] at hy
      cases q1 : l1[k]? with
      | none => rw [q1] at hy; cases hy
      | some y1 =>
        cases q2 : l2[k]? with
        | none => rw [q1, q2] at hy; cases hy
        | some y2 => rw [q1, q2] at hy; exact ⟨y1, y2, rfl, rfl, (Option.some.inj hy).symm⟩
    obtain ⟨oz, hoz, rz⟩ := r.has (a := z) .hd
    obtain rfl : oz = _ := rz
    have hT : s.TypeIs (.ref z) "zip" := ⟨_, hoz, rfl⟩
    unfold pyNext
    refine wpAny_bind (wpAny_attempt (wpAny_callSpecial?_slot (name := Str.ofString "__next__") hT PySem.F.slot_zip_next
      (wpAny_call_entry PySem.F.slot_zip_next hT PySem.F.entry_zip_next (zip_item (h1.mono le) (h2.mono le) e1 e2 r fun T v1 v2 s' hv1 hv2 r' => wpAny_pure ?_) (PySem.F.args_zip_next_1 _))))
    obtain ⟨o, ro, l3, r3⟩ := r'.freeze fun _ q => nomatch q
    obtain rfl : o = _ := ro
    refine h _ _ s' l3 (.tup (vs := [v1, v2]) (n := 0) (Fz.add_self _ _ _) rfl (RVs.get (.cons (hv1.mono l3) (.cons (hv2.mono l3) .nil)))) fun {Q E} hq => ?_
    obtain ⟨oz, hoz, rz⟩ := r3.has (a := z) .hd
    obtain rfl : oz = _ := rz
    exact wpAny_letOwnedTupleGo_zip hoz fun h' hz' hs' => hq _ (r3.upd' (H' := ZH .none anyP _ z TI TO i1 i2 a1 a2 (k + 1) (k + 1)) .hd (tk := s'.toks) (dr := s'.drawn) hs'.extBut hz' rfl notNs_raw)
  fin := fun {fr R s K Q E} le r h => by
    have e : (zipV l1 l2).length = l1.length := by unfold zipV; rw [List.length_zipWith, ← hl, Nat.min_self]
    rw [e] at r
    obtain ⟨oz, hoz, rz⟩ := r.has (a := z) .hd
    obtain rfl : oz = _ := rz
    have hT : s.TypeIs (.ref z) "zip" := ⟨_, hoz, rfl⟩
    unfold pyNext
    refine wpAny_bind (wpAny_attempt (wpAny_callSpecial?_slot (name := Str.ofString "__next__") hT PySem.F.slot_zip_next
      (wpAny_call_entry PySem.F.slot_zip_next hT PySem.F.entry_zip_next (zip_end (A := A.in1) hh (h1.mono le) r fun e s' he r' => ?_) (PySem.F.args_zip_next_1 _))))
    obtain ⟨o, ho, hc⟩ := he
    exact wpAny_bind (wpAny_isInstance (T := "StopIteration") (b := true) ⟨o, ho, hc⟩ isSubtype_stop (wpAny_pure (h _ r')))
  self := fun {fr R k s K Q E} r h => by
    obtain ⟨oz, hoz, rz⟩ := r.has (a := z) .hd
    obtain rfl : oz = _ := rz
    exact wpAny_pyIter_zip hoz h
theorem zip_iterO {A : Around} {z TI TO i1 i2 a1 a2 : Addr} {elts : List Expr} {x1} {pos : Pos} (hh : A.handled = none) (hl : l1.length = l2.length) (h1 : RV F (.ref a1) (seqV b l1)) (h2 : RV F (.ref a2) (seqV b l2)) :
    IterO G A (.Tuple elts x1 pos) F (ZH .none anyP (itN b) z TI TO i1 i2 a1 a2 0 0 ++ H) (.ref z) (zipV l1 l2) H := fun {fr R K s v Q E} m r hv hq => by
  obtain rfl := hv.i_ref
  rw [List.append_assoc] at r
  exact (zip_walk (G := G) (F := K) (elts := elts) (x1 := x1) (pos := pos) hh hl (h1.mono m) (h2.mono m)).self r (hq z K s (fun k => ZH .none anyP (itN b) z TI TO i1 i2 a1 a2 k k) (.refl K) r (zip_walk hh hl (h1.mono m) (h2.mono m)))
end
section
variable {prog : Program} {w : World} {A : Around} {E : Value → Shared → Prop}
theorem nested_tup {P : Shared → Prop} (hP : ∀ s tk, P s → P { s with toks := tk }) {x : Value} {Tx : String} {tp : Addr} {cs : List Value} {n : Nat} {vs : List Bool} {tk : Tok} {s : Shared} {Q : Fin → Shared → Prop}
    (hx : s.TypeIs x Tx) (htp : s.heap.get? tp = some { cls := .type "tuple", dict := none, data := .seq cs.toArray n, slots := #[] }) (ha : AnswersAll P x cs vs) (hs : P s)
    (hq : ∀ tk', Q (.done (.ret (.bool (vs.any id)))) { s with toks := tk' }) : wpAny (model prog w) A (Builtin.«isinstance.nested» ⟨[x, .ref tp, .int 0 tk], []⟩) Q E s := by
  obtain ⟨h, g, d, t, os⟩ := s
  have hT2 : (⟨h, g, d, t, os⟩ : Shared).TypeIs (.ref tp) "tuple" := ⟨_, htp, rfl⟩
  have f1 := PySem.F.isi_sub_tuple
  repeat (any_goals (first | assumption | wp_step))
  refine wpAny_arrayLoop ?_
  simp only [Option.getD_some, List.toList_toArray]
  refine isinstance_items (dep := 0) hP cs vs _ _ ha hs fun tk' => ?_
  cases hv : vs.any id with
  | true =>
    simp only [if_true]
    repeat (any_goals (first | assumption | wp_step))
    exact hv ▸ hq tk'
  | false =>
    simp only [Bool.false_eq_true, if_false]
    repeat (any_goals (first | assumption | wp_step))
    exact hv ▸ hq tk'
end
inductive KnV : V → String → Prop where
  | none : KnV .none "NoneType"
  | bool {b : Bool} : KnV (.bool b) "bool"
  | int {i : Int} : KnV (.int i) "int"
  | str {x : Str} : KnV (.str x) "str"
  | tup {l : List V} : KnV (.tup l) "tuple"
  | lst {l : List V} : KnV (.lst l) "list"
noncomputable def isSeq : V → Bool
  | .tup _ => true
  | .lst _ => true
  | _ => false
section
variable {G : Glob} {fr : List Env} {A : Around} {env : Env} {F : Fz} {H : Hp} {E : Value → Fz → Hp → Prop} {Q : V → Fz → Hp → Prop}
theorem KnV.typeIs {x : V} {T : String} {K : Fz} {R : Hp} {s : Shared} {v : Value} (h : KnV x T) (r : Rep G fr K R s) (hv : RV K v x) : s.TypeIs v T := by
  cases h with
  | none => exact hv.e_none (P := fun v => s.TypeIs v _) rfl
  | bool => exact hv.e_bool (P := fun v => s.TypeIs v _) rfl
  | int => exact hv.e_int (P := fun v => s.TypeIs v _) fun _ => rfl
  | str => exact hv.e_str (P := fun v => s.TypeIs v _) fun _ => rfl
  | tup => exact hv.e_tup (P := fun v => s.TypeIs v _) fun a vs n f _ _ => ⟨_, r.fz _ _ f, rfl⟩
  | lst => exact hv.e_lst (P := fun v => s.TypeIs v _) fun a vs n o f hc _ _ _ => ⟨_, r.fz _ _ f, hc⟩
theorem type_kn {x : V} {T : String} (hx : KnV x T) (h : Q (.typ T) F H) : Cl G fr A F H (.typ "type") [x] Q E := cl_t1 fun K m v hv R s hR => by
  refine call_type_of (hx.typeIs hR hv) ?_ (vret hR .typ m h)
  cases hx <;> decide
theorem isNot_same {T : String} (h : Q (.bool false) F H) : Op2 G fr A F H (compareOp .IsNot) (.typ T) (.typ T) Q E := isNot_typ (by rw [show (Value.type T == Value.type T) = true from beq_self_eq_true _]; exact h)
theorem ans_none {T : String} (hne : (Value.type "NoneType" == Value.type T) = false) (hty : typeOf (.type T) = pure (.type "type")) (hsub : isSubtype (.type "NoneType") (.type T) = pure false) : Answers (fun s => s.TypeIs .none "NoneType") .none (.type T) false := fun _ _ _ _ _ _ s hs => by
  obtain ⟨h, g, d, t, os⟩ := s
  exact isinstance_nested_false_none hne hty hsub (hs.2 (t + 1))
theorem isi_lt {x : V} {T : String} (hx : KnV x T) (h : Q (.bool (isSeq x)) F H) : Cl G fr A F H (.blt "isinstance") [x, .tup [.typ "list", .typ "tuple"]] Q E := cl_b2 fun K m v1 v2 hv1 hv2 R s r => by
  obtain ⟨tp, vs, n, ⟨f1, hl, hr⟩, rfl⟩ := hv2.inv
  have e : vs = [.type "list", .type "tuple"] := (RVs.of hl hr).e2 (P := fun vs => vs = [.type "list", .type "tuple"]) fun a b ha hb => by rw [ha.i_typ, hb.i_typ]
  subst e
  have hT := hx.typeIs r hv1
  have key : ∀ {bs : List Bool}, AnswersAll (fun s => s.TypeIs v1 T) v1 [.type "list", .type "tuple"] bs → bs.any id = isSeq x → wpAny G.M A (call (.builtin "isinstance") [v1, .ref tp]) (PQ G fr K R (VQ Q)) (PQ G fr K R fun e => Dn (E e)) s := fun {bs} ha hb => by
    refine call_isinstance (S := fun _ R s => s.TypeIs v1 T ∧ s.heap.get? tp = some { cls := .type "tuple", dict := none, data := .seq [Value.type "list", Value.type "tuple"].toArray n, slots := #[] } ∧ ∀ tk, R (.ok (.ret (.bool (bs.any id)))) { s with toks := tk })
      (fun _ _ _ _ _ hs => isinstance_outer (nested_tup (fun _ tk h => h.toks tk) hs.1 hs.2.1 ha hs.1 hs.2.2) (Shared.TypeIs.not_mainsLoader hs.1)) ⟨hT, r.fz _ _ f1, fun tk => ?_⟩
    rw [hb]
    exact vret (r.toks tk) .bool m h
  clear hT
  cases hx with
  | none => obtain rfl := hv1.i_none; exact key (bs := [false, false]) ⟨ans_none (by decide) PySem.F.isi_meta_list PySem.F.sub_NoneType_list, ans_none (by decide) PySem.F.isi_meta_tuple PySem.F.sub_NoneType_tuple, trivial⟩ rfl
  | bool => obtain rfl := hv1.i_bool; exact key (bs := [false, false]) ⟨.of_false_bool (by decide) PySem.F.isi_meta_list PySem.F.sub_bool_list, .of_false_bool (by decide) PySem.F.isi_meta_tuple PySem.F.sub_bool_tuple, trivial⟩ rfl
  | int => obtain ⟨t, rfl⟩ := hv1.inv; exact key (bs := [false, false]) ⟨.of_false_int (by decide) PySem.F.isi_meta_list PySem.F.sub_int_list, .of_false_int (by decide) PySem.F.isi_meta_tuple PySem.F.sub_int_tuple, trivial⟩ rfl
  | str => obtain ⟨t, rfl⟩ := hv1.inv; exact key (bs := [false, false]) ⟨.of_false_str (by decide) PySem.F.isi_meta_list PySem.F.sub_str_list, .of_false_str (by decide) PySem.F.isi_meta_tuple PySem.F.sub_str_tuple, trivial⟩ rfl
  | tup => obtain ⟨a, vs, n, _, rfl⟩ := hv1.inv; exact key (bs := [false, true]) ⟨.of_false_tuple (by decide) PySem.F.isi_meta_list PySem.F.sub_tuple_list, .of_true PySem.F.isi_meta_tuple PySem.F.sub_tuple_tuple, trivial⟩ rfl
  | lst => obtain ⟨a, vs, n, o, _, rfl⟩ := hv1.inv; exact key (bs := [true, false]) ⟨.of_true PySem.F.isi_meta_list PySem.F.sub_list_list, .of_false_list (by decide) PySem.F.isi_meta_tuple PySem.F.sub_list_tuple, trivial⟩ rfl
theorem Ev_and {a b : Expr} {pos : Pos} (h : Ev G fr A F H (eval a env) (fun x F1 H1 => Tr G fr A F1 H1 x (fun t F2 H2 => if t then Ev G fr A F2 H2 (eval b env) Q E else Q x F2 H2) E) E) : Ev G fr A F H (eval (.BoolOp .And [a, b] pos) env) Q E := fun K m R s hR => by
  rw [arm_eval_BoolOp]
  show wpAny G.M A (do let v ← eval a env; standAt pos; let t ← holding [v] (truthy v); match BoolOp.And, t with | .And, false | .Or, true => pure v | _, _ => boolOp pos .And [eval b env]) _ _ s
  refine wpAny_bind (h.go m hR (.refl K) fun v x F1 K1 H1 s1 l1 m1 r1 hx h1 => wpAny_bind (wpAny_standAt (wpAny_bind (wpAny_holding ((h1 K1 m1 v hx).seq r1 l1 fun t K2 H2 s2 l2 r2 hq => ?_)))))
  obtain ⟨F2, m2, q⟩ := hq
  cases t with
  | false => exact wpAny_pure ⟨K2, H2, l1.trans l2, r2, x, hx.mono l2, F2, m2, q⟩
  | true => exact (show Ev _ _ _ _ _ _ _ _ from q).last m2 r2 (l1.trans l2)
theorem len_tup {l : List V} (hl : l.length < 2 ^ 63) (h : Q (.int l.length) F H) : Cl G fr A F H (.blt "len") [.tup l] Q E := cl_b1 fun K m v hv R s hR => by
  obtain ⟨a, vs, n, ⟨f1, e, hr⟩, rfl⟩ := hv.inv
  have e2 : vs.toArray.size = l.length := by rw [← e]; simp
  refine PyProof.Rows.len_tuple ⟨_, hR.fz _ _ f1, rfl, n, rfl⟩ (by rw [e2]; exact_mod_cast hl) ?_
  rw [e2]
  exact vret (hR.toks _) .int m h
theorem eq_nn (h : Q (.bool true) F H) : Op2 G fr A F H (compareOp .Eq) .none .none Q E := fun K m a b ha hb R s hR => by
  rw [ha.i_none, hb.i_none]
  exact PySem.EqNone.eq_none_none (vret hR .bool m h)
theorem eq_bb {x y : Bool} (h : Q (.bool (x == y)) F H) : Op2 G fr A F H (compareOp .Eq) (.bool x) (.bool y) Q E := fun K m a b ha hb R s hR => by
  rw [ha.i_bool, hb.i_bool]
  exact PyProof.Rows.eq_bool (vret hR .bool m h)
theorem range3 {i j k : Int} (hk : k ≠ 0) (hs : k.natAbs < 1073741824) (h : Q (.rng i j k) F H) : Cl G fr A F H (.typ "range") [.int i, .int j, .int k] Q E := cl_t3 fun K m v1 v2 v3 h1 h2 h3 R s hR => by
  obtain ⟨t, rfl⟩ := h1.inv
  obtain ⟨u, rfl⟩ := h2.inv
  obtain ⟨w, rfl⟩ := h3.inv
  refine call_range_3 hk ?_ (.inl (PyProof.noPylong_small hs))
  obtain ⟨le, r⟩ := hR.newF (tk := s.toks) (dr := s.drawn) (fun b o e => Heap.get?_push_of_some { cls := .type "range", data := .fields #[.int i t, .int j u, .int k w] } e) (none_at_size s.heap) (Heap.get?_push_size s.heap rfl)
  exact ⟨_, H, le, r, _, .rng (Fz.add_self _ _ _), F, m.trans le, h⟩
end
theorem sub1 {T : Str} {c k : Nat} : Builtin.Str.subAt T ⟨#[c]⟩ k = decide (T.cps[k]? = some c) := by
  unfold Builtin.Str.subAt
  have e : Str.length ⟨#[c]⟩ = 1 := rfl
  rw [e]
  rcases Nat.lt_or_ge k T.cps.size with hk | hk
  · have e2 : T.cps.extract k (k + 1) = #[T.cps[k]] := by
      apply Array.ext'
      rw [Array.toList_extract, List.extract, Nat.add_sub_cancel_left, List.drop_eq_getElem_cons (by simpa using hk)]
      simp
    rw [e2, Array.getElem?_eq_getElem hk]
    by_cases q : T.cps[k] = c
    · rw [q]; simp
    · simp [q]
  · have e2 : T.cps.extract k (k + 1) = #[] := by simp; lia
    rw [e2, Array.getElem?_eq_none hk]
    rfl
theorem occ_no {x sub : Str} {lo : Nat} (hn : ∀ i, lo ≤ i → Builtin.Str.subAt x sub i = false) : Builtin.Str.occurrences x sub lo x.length 1 = [] := by
  rw [StrLaws.occ_eq]
  have : ∀ (l : List Nat) (f : Nat), (∀ i ∈ l, lo ≤ i) → (forIn l ((#[] : Array Nat), f) (StrLaws.occBody x sub x.length 1)).run.fst = #[] := by
    intro l
    induction l with
    | nil => intro f _; rfl
    | cons a l ih =>
      intro f hl
      rw [List.forIn_cons]
      unfold StrLaws.occBody
      rw [if_neg (by rw [hn a (hl a (.head _))]; simp)]
      exact ih f fun i hi => hl i (.tail _ hi)
  rw [this _ _ fun i hi => by rw [List.mem_range'] at hi; obtain ⟨j, hj, rfl⟩ := hi; lia]
theorem least {P : Nat → Prop} [DecidablePred P] : ∀ {n : Nat}, P n → ∃ k, k ≤ n ∧ P k ∧ ∀ j, j < k → ¬ P j := by
  intro n
  induction n using Nat.strongRecOn with
  | _ n ih =>
    intro h
    by_cases q : ∃ j, j < n ∧ P j
    · obtain ⟨j, hj, hp⟩ := q
      obtain ⟨k, h1, h2, h3⟩ := ih j hj hp
      exact ⟨k, by lia, h2, h3⟩
    · exact ⟨n, Nat.le_refl _, h, fun j hj hp => q ⟨j, hj, hp⟩⟩
theorem in_1 {x : Str} {c : Nat} : (!(Builtin.Str.occurrences x ⟨#[c]⟩ 0 x.length 1).isEmpty) = decide (c ∈ x.cps.toList) := by
  by_cases h : c ∈ x.cps.toList
  · obtain ⟨n, hn⟩ := List.mem_iff_getElem?.mp h
    rw [Array.getElem?_toList] at hn
    obtain ⟨k, hk, h1, h2⟩ := least (P := fun k => x.cps[k]? = some c) hn
    have hlt := (Array.getElem?_eq_some_iff.mp h1).1
    rw [occ_at (k := k) (Nat.zero_le _) ⟨by show k + 1 ≤ x.cps.size; lia, by rw [sub1, decide_eq_true h1]⟩ fun i _ h5 => by rw [sub1, decide_eq_false (h2 i h5)]]
    rw [decide_eq_true h]; rfl
  · rw [occ_no fun i _ => by rw [sub1, decide_eq_false]; exact fun e => h (by rw [← Array.getElem?_toList] at e; exact List.mem_of_getElem? e), decide_eq_false h]; rfl
theorem Ex_AugAssignC {G : Glob} {fr : List Env} {A : Around} {env : Env} {F : Fz} {H : Hp} {E : Value → Fz → Hp → Prop} {x : Str} {c : Addr} {y : V} {pos' op value pos} {Q : FV → Fz → Hp → Prop} (hc : env.cells.lookup x = some c) (hm : Has H c (.cell (some y)))
    (h : Ev G fr A F H (eval value env) (fun z F1 H1 => Op2 G fr A F1 H1 (inplaceOp op) y z (fun r F2 H2 => StoreC env x r F2 H2 (Q .next)) E) E)
    (hk : autoParam (env.scope.kind = .function) tac0) (hl : autoParam (env.kindOf x = some .cell) tac0) : Ex G fr A F H (exec (.AugAssign (.Name x pos') op value pos) env) Q E := fun K m R s hR => by
  obtain ⟨o, ho, v, hd', hv⟩ := hR.has hm
  refine wpAny_AugAssign_Name (wpAny_loadName_cell hk hl hc ⟨o, ho, hd'⟩ (h.go m hR (.refl K) fun b z F1 K1 H1 s1 l1 m1 r1 hz h1 => (h1 K1 m1 v b (hv.mono l1) hz).go r1 l1 fun c q F2 K2 H2 s2 l2 m2 r2 hq hqq => ?_))
  exact (storeC m2 hq hqq hk hl).seq r2 (l1.trans l2) fun _ K3 H3 s3 l3 r3 hq => by
    obtain ⟨F3, m3, q⟩ := hq
    exact upPQ (l1.trans (l2.trans l3)) (fret r3 .next m3 q)
noncomputable def Mid (P : Fz → Hp → Prop) (Q : FV → Fz → Hp → Prop) : FV → Fz → Hp → Prop
  | .next, F, H => P F H
  | fv, F, H => Q fv F H
theorem Ex_mid {G : Glob} {fr : List Env} {A : Around} {env : Env} {F : Fz} {H : Hp} {E : Value → Fz → Hp → Prop} {Q : FV → Fz → Hp → Prop} {st : Stmt} {rest : List Stmt} (P : Fz → Hp → Prop) (h : Ex G fr A F H (exec st env) (Mid P Q) E) (k : ∀ F1 H1, P F1 H1 → Ex G fr A F1 H1 (execs rest env) Q E) : Ex G fr A F H (execs (st :: rest) env) Q E :=
  Ex_cons (h.mono (fun x F1 H1 q => by
    cases x with
    | next => exact k _ _ q
    | _ => exact q) fun _ _ _ e => e)
noncomputable def word (T : Str) (i : Nat) (w : Str) : Bool := (Txt.slice T (some i) (some (i + (w.length : Int)))).cps.toList == w.cps.toList
noncomputable def chr (c : Nat) (w : Str) : Bool := (⟨#[c]⟩ : Str).cps.toList == w.cps.toList
theorem len_le {x y : Nat} {T : Str} : (⟨T.cps.extract x y⟩ : Str).length ≤ T.cps.size := by
  show (T.cps.extract x y).size ≤ _
  rw [Array.size_extract]; exact Nat.le_trans (Nat.sub_le _ _) (Nat.min_le_right _ _)
theorem ext_app {T : Str} {i j k : Nat} (h1 : i ≤ j) (h2 : j ≤ k) : (⟨T.cps.extract i j⟩ : Str) ++ (⟨T.cps.extract j k⟩ : Str) = ⟨T.cps.extract i k⟩ := by
  show (⟨T.cps.extract i j ++ T.cps.extract j k⟩ : Str) = _
  rw [Array.extract_append_extract]
  congr 2 <;> lia
structure Nothing (T : Str) (i c : Nat) : Prop where
  str : chr c "\"" = false
  obj : chr c "{" = false
  arr : chr c "[" = false
  null : (chr c "n" && word T i "null") = false
  tru : (chr c "t" && word T i "true") = false
  fls : (chr c "f" && word T i "false") = false
  num : intAt T.cps T.cps.size (signAt T.cps T.cps.size i) = none
  nan : (chr c "N" && word T i "NaN") = false
  inf : (chr c "I" && word T i "Infinity") = false
  ninf : (chr c "-" && word T i "-Infinity") = false
theorem slice_ext {T : Str} {i j : Nat} (h : i ≤ j) (hj : j ≤ T.cps.size) : Txt.slice T (some (i : Int)) (some (j : Int)) = ⟨T.cps.extract i j⟩ := by
  have e := slice_closes (x := T) (i := i) (j := j) ⟨by lia, by lia, by simp; lia⟩
  rw [beq_iff_eq] at e
  rw [e]
  congr 1
  apply Array.ext'
  rw [Array.toList_extract, List.extract]
  have : ((j : Int) - (i : Int)).toNat = j - i := Int.toNat_sub _ _
  rw [this, Int.toNat_natCast]
noncomputable def digL : List Nat → Nat
  | [] => 0
  | c :: r => if dig c then 1 + digL r else 0
noncomputable def sgnL : List Nat → Nat
  | [] => 0
  | c :: _ => if c = 45 then 1 else 0
noncomputable def intL : List Nat → Option Nat
  | [] => none
  | c :: r => if c = 48 then some 1 else if 49 ≤ c ∧ c ≤ 57 then some (1 + digL r) else none
noncomputable def fracL : List Nat → Nat
  | [] => 0
  | c :: r => if c = 46 then (if digL r = 0 then 0 else 1 + digL r) else 0
noncomputable def esgnL : List Nat → Nat
  | [] => 0
  | c :: _ => if c = 45 ∨ c = 43 then 1 else 0
noncomputable def expL : List Nat → Nat
  | [] => 0
  | c :: r => if c = 101 ∨ c = 69 then (if digL (r.drop (esgnL r)) = 0 then 0 else 1 + esgnL r + digL (r.drop (esgnL r))) else 0
noncomputable def numL (l : List Nat) : Option (Nat × Nat × Nat) := match intL (l.drop (sgnL l)) with
  | none => none
  | some k => some (sgnL l + k, fracL (l.drop (sgnL l + k)), expL (l.drop (sgnL l + k + fracL (l.drop (sgnL l + k)))))
section
variable {T : Array Nat}
theorem drop_cases (p : Nat) : (T.toList.drop p = [] ∧ T.size ≤ p) ∨ ∃ c, T.toList.drop p = c :: T.toList.drop (p + 1) ∧ p < T.size ∧ T.getD p 0 = c := by
  rcases Nat.lt_or_ge p T.size with h | h
  · refine .inr ⟨T[p], ?_, h, ?_⟩
    · rw [List.drop_eq_getElem_cons (by simpa using h)]; simp
    · simp [Array.getD, h]
  · exact .inl ⟨List.drop_eq_nil_of_le (by simpa using h), h⟩
theorem many_dig : ∀ (n p : Nat), n = T.size - p → many dig T n p = digL (T.toList.drop p)
  | 0, p, h => by
    rcases drop_cases (T := T) p with ⟨e, _⟩ | ⟨c, e, hp, _⟩
    · rw [e]; rfl
    · exact absurd h (Nat.ne_of_lt (Nat.sub_pos_of_lt hp))
  | n + 1, p, h => by
    rcases drop_cases (T := T) p with ⟨e, hz⟩ | ⟨c, e, hp, hc⟩
    · exact absurd (h.trans (Nat.sub_eq_zero_of_le hz)) (Nat.succ_ne_zero _)
    · have m : many dig T (n + 1) p = if dig (T.getD p 0) then 1 + many dig T n (p + 1) else 0 := rfl
      rw [m, e, hc, many_dig n (p + 1) (by rw [Nat.sub_succ, ← h]; rfl)]
      rfl
theorem digs_L (p : Nat) : digs T T.size p = digL (T.toList.drop p) := many_dig _ p rfl
theorem sign_L (p : Nat) : signAt T T.size p = p + sgnL (T.toList.drop p) := by
  unfold signAt
  rcases drop_cases (T := T) p with ⟨e, hz⟩ | ⟨c, e, hp, hc⟩
  · rw [e, if_neg (nlt hz)]; rfl
  · rw [e, hc]
    simp only [sgnL]
    by_cases h : c = 45
    · rw [if_pos ⟨hp, h⟩, if_pos h]
    · rw [if_neg (fun q => h q.2), if_neg h]; rfl
theorem int_L (p : Nat) : intAt T T.size p = (intL (T.toList.drop p)).map (p + ·) := by
  unfold intAt
  rcases drop_cases (T := T) p with ⟨e, hz⟩ | ⟨c, e, hp, hc⟩
  · rw [e, if_neg (nlt hz), if_neg (nlt hz)]; rfl
  · rw [e, hc, digs_L]
    simp only [intL]
    by_cases h : c = 48
    · rw [if_pos ⟨hp, h⟩, if_pos h]; rfl
    · rw [if_neg (fun q => h q.2), if_neg h]
      by_cases h2 : 49 ≤ c ∧ c ≤ 57
      · rw [if_pos ⟨hp, h2⟩, if_pos h2]; exact congrArg some (Nat.add_assoc p 1 _)
      · rw [if_neg (fun q => h2 q.2), if_neg h2]; rfl
theorem frac_L (p : Nat) : fracAt T T.size p = if fracL (T.toList.drop p) = 0 then none else some (p + fracL (T.toList.drop p)) := by
  unfold fracAt
  rcases drop_cases (T := T) p with ⟨e, hz⟩ | ⟨c, e, hp, hc⟩
  · rw [e, if_neg (nlt hz)]; rfl
  · rw [e, hc, digs_L]
    have d : fracL (c :: List.drop (p + 1) T.toList) = if c = 46 then (if digL (List.drop (p + 1) T.toList) = 0 then 0 else 1 + digL (List.drop (p + 1) T.toList)) else 0 := rfl
    by_cases h : c = 46
    · rw [if_pos h] at d
      by_cases h2 : digL (T.toList.drop (p + 1)) = 0
      · rw [if_pos h2] at d
        rw [d, if_neg (fun q => absurd q.2.2 (by rw [h2]; decide))]; rfl
      · rw [if_neg h2] at d
        rw [d, if_pos ⟨hp, h, Nat.pos_of_ne_zero h2⟩, if_neg (fun q => absurd (Nat.add_eq_zero_iff.mp q).1 (by decide))]
        exact congrArg some (Nat.add_assoc ..)
    · rw [if_neg h] at d
      rw [d, if_neg (fun q => h q.2.1)]; rfl
theorem esgn_L (p : Nat) : expSign T T.size p = p + esgnL (T.toList.drop p) := by
  unfold expSign
  rcases drop_cases (T := T) p with ⟨e, hz⟩ | ⟨c, e, hp, hc⟩
  · rw [e, if_neg (nlt hz)]; rfl
  · rw [e, hc]
    simp only [esgnL]
    by_cases h : c = 45 ∨ c = 43
    · rw [if_pos ⟨hp, h⟩, if_pos h]
    · rw [if_neg (fun q => h q.2), if_neg h]; rfl
theorem exp_L (p : Nat) : expAt T T.size p = if expL (T.toList.drop p) = 0 then none else some (p + expL (T.toList.drop p)) := by
  unfold expAt
  rcases drop_cases (T := T) p with ⟨e, hz⟩ | ⟨c, e, hp, hc⟩
  · rw [e, if_neg (nlt hz)]; rfl
  · rw [e, hc, esgn_L, digs_L]
    have d : expL (c :: List.drop (p + 1) T.toList) = if c = 101 ∨ c = 69 then (if digL ((List.drop (p + 1) T.toList).drop (esgnL (List.drop (p + 1) T.toList))) = 0 then 0 else 1 + esgnL (List.drop (p + 1) T.toList) + digL ((List.drop (p + 1) T.toList).drop (esgnL (List.drop (p + 1) T.toList)))) else 0 := rfl
    rw [List.drop_drop] at d
    by_cases h : c = 101 ∨ c = 69
    · rw [if_pos h] at d
      by_cases h2 : digL (T.toList.drop (p + 1 + esgnL (T.toList.drop (p + 1)))) = 0
      · rw [if_pos h2] at d
        rw [d, if_neg (fun q => absurd q.2.2 (by rw [h2]; decide))]; rfl
      · rw [if_neg h2] at d
        rw [d, if_pos ⟨hp, h, Nat.pos_of_ne_zero h2⟩, if_neg (fun q => absurd (Nat.add_eq_zero_iff.mp (Nat.add_eq_zero_iff.mp q).1).1 (by decide))]
        rw [Nat.add_assoc p 1, Nat.add_assoc p]
    · rw [if_neg h] at d
      rw [d, if_neg (fun q => h q.2.1)]; rfl
end
inductive Lx where
  | str | obj | arr
  | null | tru | fls
  | whole (n : Nat) | broken (n : Nat)
  | con (w : Str)
  | stop
noncomputable def preL (w : Str) (l : List Nat) : Bool := w.cps.toList.isPrefixOf l
noncomputable def lexL : List Nat → Lx
  | [] => .stop
  | c :: r =>
    if c = 34 then .str else if c = 123 then .obj else if c = 91 then .arr
    else if preL "null" (c :: r) then .null else if preL "true" (c :: r) then .tru else if preL "false" (c :: r) then .fls
    else match numL (c :: r) with
      | some (n1, n2, n3) => if n2 = 0 ∧ n3 = 0 then .whole n1 else .broken (n1 + n2 + n3)
      | none => if preL "NaN" (c :: r) then .con "NaN" else if preL "Infinity" (c :: r) then .con "Infinity" else if preL "-Infinity" (c :: r) then .con "-Infinity" else .stop
theorem chr_eq {c a : Nat} {w : Str} (hw : w.cps.toList = [a]) : chr c w = decide (c = a) := by
  unfold chr; rw [hw]
  by_cases h : c = a
  · subst h; simp
  · simp [h]
theorem slice_nat {T : Str} {i n : Nat} (hi : i ≤ T.cps.size) : (Txt.slice T (some (i : Int)) (some ((i : Int) + (n : Int)))).cps.toList = (T.cps.toList.drop i).take n := by
  rcases Nat.le_total (i + n) T.cps.size with h | h
  · have := slice_ext (T := T) (i := i) (j := i + n) (by lia) h
    rw [show ((i + n : Nat) : Int) = (i : Int) + (n : Int) by lia] at this
    rw [this]
    show (T.cps.extract i (i + n)).toList = _
    rw [Array.toList_extract, List.extract, Nat.add_sub_cancel_left]
  · have hcl : Txt.slice T (some (i : Int)) (some ((i : Int) + (n : Int))) = Txt.slice T (some (i : Int)) (some ((T.cps.size : Nat) : Int)) := by
      have hs : T.length = T.cps.size := rfl
      unfold Txt.slice
      have : ∀ x : Int, (T.cps.size : Int) ≤ x → Builtin.Str.strSliceIndices (some (i : Int)) (some x) 1 T.length = Builtin.Str.strSliceIndices (some (i : Int)) (some ((T.cps.size : Nat) : Int)) 1 T.length := fun x hx => by
        unfold Builtin.Str.strSliceIndices
        rw [hs]
        have e1 : min x (T.cps.size : Int) = min ((T.cps.size : Nat) : Int) (T.cps.size : Int) := by lia
        simp only [show (1 : Int) > 0 by decide, if_true]
        congr 1
        all_goals first | rfl | (try simp only [e1]) | skip
        all_goals (repeat' split) <;> lia
      rw [this _ (by lia)]
    rw [hcl, slice_ext hi (Nat.le_refl _)]
    show (T.cps.extract i T.cps.size).toList = _
    rw [Array.toList_extract, List.extract]
    rw [List.take_of_length_le (by simp), List.take_of_length_le (by simp; lia)]
theorem word_pre {T : Str} {i : Nat} {w : Str} (hi : i ≤ T.cps.size) : word T i w = preL w (T.cps.toList.drop i) := by
  unfold word preL
  have := slice_nat (T := T) (i := i) (n := w.length) hi
  rw [this]
  have hl : w.length = w.cps.toList.length := by simp [Str.length]
  rw [hl]
  generalize w.cps.toList = l
  generalize T.cps.toList.drop i = m
  induction l generalizing m with
  | nil => rfl
  | cons a l ih =>
    cases m with
    | nil => rfl
    | cons b m =>
      simp only [List.length_cons, List.take_succ_cons, List.isPrefixOf_cons_cons]
      rw [← ih m]
      have : ((b :: List.take l.length m) == (a :: l)) = ((b == a) && (List.take l.length m == l)) := rfl
      rw [this]
      congr 1
      by_cases h : a = b
      · subst h; simp
      · have h' : b ≠ a := fun q => h q.symm
        rw [beq_eq_false_iff_ne.mpr h, beq_eq_false_iff_ne.mpr h']
theorem pre_first {w : Str} {a : Nat} {l' : List Nat} (hw : w.cps.toList = a :: l') {c : Nat} {r : List Nat} (h : preL w (c :: r) = true) : c = a := by
  unfold preL at h
  rw [hw, List.isPrefixOf_cons_cons, Bool.and_eq_true] at h
  exact (beq_iff_eq.mp h.1).symm
theorem cw {T : Str} {i c : Nat} {r : List Nat} {w v : Str} {a : Nat} {l' : List Nat} (hi : i ≤ T.cps.size) (hl : T.cps.toList.drop i = c :: r) (hv : v.cps.toList = [a]) (hw : w.cps.toList = a :: l') : (chr c v && word T i w) = preL w (c :: r) := by
  rw [word_pre hi, hl, chr_eq hv]
  cases h : preL w (c :: r) with
  | false => simp
  | true => have := pre_first hw h; simp [this]
section
variable {T : Str} {i c : Nat}
theorem lex_at (hc : T.cps[i]? = some c) : i ≤ T.cps.size ∧ T.cps.toList.drop i = c :: T.cps.toList.drop (i + 1) := by
  rcases drop_cases (T := T.cps) i with ⟨e, hi⟩ | ⟨c', e, hi, hc'⟩
  · rw [Array.getElem?_eq_none hi] at hc; cases hc
  · have : T.cps.getD i 0 = c := by simp [Array.getD_eq_getD_getElem?, hc]
    rw [hc'] at this
    subst this
    exact ⟨Nat.le_of_lt hi, e⟩
theorem lex_end (hi : T.cps.size ≤ i) : lexL (T.cps.toList.drop i) = .stop := by
  rw [List.drop_eq_nil_of_le (by simpa using hi)]; rfl
theorem lex_str (hc : T.cps[i]? = some c) (h : chr c "\"" = true) : lexL (T.cps.toList.drop i) = .str := by
  rw [chr_eq rfl, decide_eq_true_eq] at h
  rw [(lex_at hc).2]; simp [lexL, h]
theorem lex_obj (hc : T.cps[i]? = some c) (h : chr c "{" = true) : lexL (T.cps.toList.drop i) = .obj := by
  rw [chr_eq rfl, decide_eq_true_eq] at h
  rw [(lex_at hc).2]; simp [lexL, h]
theorem lex_arr (hc : T.cps[i]? = some c) (h : chr c "[" = true) : lexL (T.cps.toList.drop i) = .arr := by
  rw [chr_eq rfl, decide_eq_true_eq] at h
  rw [(lex_at hc).2]; simp [lexL, h]
theorem no_pre {w : Str} {a : Nat} {l' r : List Nat} (hw : w.cps.toList = a :: l') (hne : c ≠ a) : preL w (c :: r) = false := by
  cases q : preL w (c :: r) with
  | false => rfl
  | true => exact absurd (pre_first hw q) hne
theorem lex_null (hc : T.cps[i]? = some c) (h : (chr c "n" && word T i "null") = true) : lexL (T.cps.toList.drop i) = .null := by
  obtain ⟨hi, e⟩ := lex_at hc
  rw [cw hi e rfl rfl] at h
  have hcc := pre_first (w := "null") (a := 110) rfl h
  subst hcc
  rw [e]; simp [lexL, h]
theorem lex_tru (hc : T.cps[i]? = some c) (h : (chr c "t" && word T i "true") = true) : lexL (T.cps.toList.drop i) = .tru := by
  obtain ⟨hi, e⟩ := lex_at hc
  rw [cw hi e rfl rfl] at h
  have hcc := pre_first (w := "true") (a := 116) rfl h
  subst hcc
  rw [e]; simp [lexL, h, no_pre (w := "null") (a := 110) (c := 116) rfl (by decide)]
theorem lex_fls (hc : T.cps[i]? = some c) (h : (chr c "f" && word T i "false") = true) : lexL (T.cps.toList.drop i) = .fls := by
  obtain ⟨hi, e⟩ := lex_at hc
  rw [cw hi e rfl rfl] at h
  have hcc := pre_first (w := "false") (a := 102) rfl h
  subst hcc
  rw [e]; simp [lexL, h, no_pre (w := "null") (a := 110) (c := 102) rfl (by decide), no_pre (w := "true") (a := 116) (c := 102) rfl (by decide)]
theorem lex_rest (hc : c ≠ 34) (h2 : c ≠ 123) (h3 : c ≠ 91) (h4 : c ≠ 110) (h5 : c ≠ 116) (h6 : c ≠ 102) (r : List Nat) : lexL (c :: r) = match numL (c :: r) with
      | some (n1, n2, n3) => if n2 = 0 ∧ n3 = 0 then .whole n1 else .broken (n1 + n2 + n3)
      | none => if preL "NaN" (c :: r) then .con "NaN" else if preL "Infinity" (c :: r) then .con "Infinity" else if preL "-Infinity" (c :: r) then .con "-Infinity" else .stop := by
  have hlx : lexL (c :: r) = if c = 34 then .str else if c = 123 then .obj else if c = 91 then .arr
    else if preL "null" (c :: r) then .null else if preL "true" (c :: r) then .tru else if preL "false" (c :: r) then .fls
    else match numL (c :: r) with
      | some (n1, n2, n3) => if n2 = 0 ∧ n3 = 0 then .whole n1 else .broken (n1 + n2 + n3)
      | none => if preL "NaN" (c :: r) then .con "NaN" else if preL "Infinity" (c :: r) then .con "Infinity" else if preL "-Infinity" (c :: r) then .con "-Infinity" else .stop := rfl
  rw [hlx, if_neg hc, if_neg h2, if_neg h3, if_neg (by rw [no_pre (w := "null") (a := 110) rfl h4]; simp), if_neg (by rw [no_pre (w := "true") (a := 116) rfl h5]; simp), if_neg (by rw [no_pre (w := "false") (a := 102) rfl h6]; simp)]
theorem num_not (h : c = 45 ∨ (48 ≤ c ∧ c ≤ 57)) : c ≠ 34 ∧ c ≠ 123 ∧ c ≠ 91 ∧ c ≠ 110 ∧ c ≠ 116 ∧ c ≠ 102 :=
  h.elim (fun e => by rw [e]; decide) fun q => ⟨Nat.ne_of_gt (Nat.lt_of_lt_of_le (by decide) q.1), Nat.ne_of_lt (Nat.lt_of_le_of_lt q.2 (by decide)), Nat.ne_of_lt (Nat.lt_of_le_of_lt q.2 (by decide)), Nat.ne_of_lt (Nat.lt_of_le_of_lt q.2 (by decide)), Nat.ne_of_lt (Nat.lt_of_le_of_lt q.2 (by decide)), Nat.ne_of_lt (Nat.lt_of_le_of_lt q.2 (by decide))⟩
theorem num_first (hc : T.cps[i]? = some c) {q : Nat} (hq : intAt T.cps T.cps.size (signAt T.cps T.cps.size i) = some q) : c = 45 ∨ (48 ≤ c ∧ c ≤ 57) := by
  obtain ⟨_, e⟩ := lex_at hc
  rw [sign_L, int_L, e] at hq
  unfold sgnL at hq
  by_cases hm : c = 45
  · exact .inl hm
  · simp only [if_neg hm, Nat.add_zero] at hq
    rw [e] at hq
    simp only [intL] at hq
    split at hq
    · rename_i q; exact .inr (by rw [q]; decide)
    · split at hq
      · rename_i q; exact .inr ⟨Nat.le_of_succ_le q.1, q.2⟩
      · cases hq
theorem num_none (hc : T.cps[i]? = some c) (hn : intAt T.cps T.cps.size (signAt T.cps T.cps.size i) = none) : numL (c :: T.cps.toList.drop (i + 1)) = none := by
  obtain ⟨_, e⟩ := lex_at hc
  rw [sign_L, int_L, Option.map_eq_none_iff, ← List.drop_drop, e] at hn
  unfold numL
  rw [hn]
theorem lex_num (hc : T.cps[i]? = some c) {q : Nat} (hq : intAt T.cps T.cps.size (signAt T.cps T.cps.size i) = some q) :
    ∃ n, expEnd T.cps T.cps.size (fracEnd T.cps T.cps.size q) = i + n ∧ lexL (T.cps.toList.drop i) = (if (fracAt T.cps T.cps.size q).isSome || (expAt T.cps T.cps.size (fracEnd T.cps T.cps.size q)).isSome then .broken n else .whole n) := by
  have hf := num_first hc hq
  obtain ⟨_, e⟩ := lex_at hc
  obtain ⟨z1, z2, z3, z4, z5, z6⟩ := num_not hf
  rw [e, lex_rest z1 z2 z3 z4 z5 z6]
  rw [sign_L, int_L, ← List.drop_drop, e] at hq
  cases hk : intL ((c :: T.cps.toList.drop (i + 1)).drop (sgnL (c :: T.cps.toList.drop (i + 1)))) with
  | none => rw [hk] at hq; cases hq
  | some k =>
    rw [hk] at hq
    generalize hn1 : sgnL (c :: T.cps.toList.drop (i + 1)) + k = n1
    have hqn : q = i + n1 := by have h9 : i + sgnL (c :: T.cps.toList.drop (i + 1)) + k = q := Option.some.inj hq; exact h9.symm.trans ((Nat.add_assoc ..).trans (congrArg (i + ·) hn1))
    subst hqn
    have hn : numL (c :: T.cps.toList.drop (i + 1)) = some (n1, fracL (T.cps.toList.drop (i + n1)), expL (T.cps.toList.drop (i + n1 + fracL (T.cps.toList.drop (i + n1))))) := by
      unfold numL
      rw [hk]
      simp only [← e, List.drop_drop]
      simp only [e, hn1, Nat.add_assoc]
    rw [hn]
    generalize hn2 : fracL (T.cps.toList.drop (i + n1)) = n2
    generalize hn3 : expL (T.cps.toList.drop (i + n1 + n2)) = n3
    have hfe : fracEnd T.cps T.cps.size (i + n1) = i + n1 + n2 := by
      show (fracAt T.cps T.cps.size (i + n1)).getD (i + n1) = _
      rw [frac_L, hn2]
      by_cases q : n2 = 0
      · rw [if_pos q, q]; rfl
      · rw [if_neg q]; rfl
    have hee : expEnd T.cps T.cps.size (i + n1 + n2) = i + n1 + n2 + n3 := by
      show (expAt T.cps T.cps.size (i + n1 + n2)).getD (i + n1 + n2) = _
      rw [exp_L, hn3]
      by_cases q : n3 = 0
      · rw [if_pos q, q]; rfl
      · rw [if_neg q]; rfl
    refine ⟨n1 + n2 + n3, by rw [hfe, hee]; exact (congrArg (· + n3) (Nat.add_assoc i n1 n2)).trans (Nat.add_assoc i (n1 + n2) n3), ?_⟩
    rw [hfe, frac_L, exp_L, hn2, hn3]
    by_cases z2 : n2 = 0 <;> by_cases z3 : n3 = 0 <;> simp [z2, z3]
theorem lex_con {w v : Str} {a : Nat} {l' : List Nat} (hw : w.cps.toList = a :: l') (hv : v.cps.toList = [a]) (hc : T.cps[i]? = some c) (hn : intAt T.cps T.cps.size (signAt T.cps T.cps.size i) = none) (h : (chr c v && word T i w) = true)
    (hk : w = "NaN" ∧ a = 78 ∨ w = "Infinity" ∧ a = 73 ∨ w = "-Infinity" ∧ a = 45) : lexL (T.cps.toList.drop i) = .con w := by
  obtain ⟨hi, e⟩ := lex_at hc
  rw [cw hi e hv hw] at h
  have hcc := pre_first hw h
  subst hcc
  have hno := num_none hc hn
  have z : c ≠ 34 ∧ c ≠ 123 ∧ c ≠ 91 ∧ c ≠ 110 ∧ c ≠ 116 ∧ c ≠ 102 := by rcases hk with ⟨-, q⟩ | ⟨-, q⟩ | ⟨-, q⟩ <;> rw [q] <;> decide
  rw [e, lex_rest z.1 z.2.1 z.2.2.1 z.2.2.2.1 z.2.2.2.2.1 z.2.2.2.2.2, hno]
  rcases hk with ⟨rfl, rfl⟩ | ⟨rfl, rfl⟩ | ⟨rfl, rfl⟩
  · simp [h]
  · simp [h, no_pre (w := "NaN") (a := 78) (c := 73) rfl (by decide)]
  · simp [h, no_pre (w := "NaN") (a := 78) (c := 45) rfl (by decide), no_pre (w := "Infinity") (a := 73) (c := 45) rfl (by decide)]
theorem lex_stop (hc : T.cps[i]? = some c) (hN : Nothing T i c) : lexL (T.cps.toList.drop i) = .stop := by
  obtain ⟨hi, e⟩ := lex_at hc
  have hno := num_none hc hN.num
  have d : ∀ {w : Str} {a : Nat}, w.cps.toList = [a] → chr c w = false → c ≠ a := fun hw q => by rw [chr_eq hw] at q; exact of_decide_eq_false q
  have w1 : (chr c "n" && word T i "null") = preL "null" (c :: T.cps.toList.drop (i + 1)) := cw hi e rfl rfl
  have w2 : (chr c "t" && word T i "true") = preL "true" (c :: T.cps.toList.drop (i + 1)) := cw hi e rfl rfl
  have w3 : (chr c "f" && word T i "false") = preL "false" (c :: T.cps.toList.drop (i + 1)) := cw hi e rfl rfl
  have w4 : (chr c "N" && word T i "NaN") = preL "NaN" (c :: T.cps.toList.drop (i + 1)) := cw hi e rfl rfl
  have w5 : (chr c "I" && word T i "Infinity") = preL "Infinity" (c :: T.cps.toList.drop (i + 1)) := cw hi e rfl rfl
  have w6 : (chr c "-" && word T i "-Infinity") = preL "-Infinity" (c :: T.cps.toList.drop (i + 1)) := cw hi e rfl rfl
  have hlx : lexL (c :: T.cps.toList.drop (i + 1)) = if c = 34 then .str else if c = 123 then .obj else if c = 91 then .arr
    else if preL "null" (c :: T.cps.toList.drop (i + 1)) then .null else if preL "true" (c :: T.cps.toList.drop (i + 1)) then .tru else if preL "false" (c :: T.cps.toList.drop (i + 1)) then .fls
    else match numL (c :: T.cps.toList.drop (i + 1)) with
      | some (n1, n2, n3) => if n2 = 0 ∧ n3 = 0 then .whole n1 else .broken (n1 + n2 + n3)
      | none => if preL "NaN" (c :: T.cps.toList.drop (i + 1)) then .con "NaN" else if preL "Infinity" (c :: T.cps.toList.drop (i + 1)) then .con "Infinity" else if preL "-Infinity" (c :: T.cps.toList.drop (i + 1)) then .con "-Infinity" else .stop := rfl
  rw [e, hlx, if_neg (d (a := 34) rfl hN.str), if_neg (d (a := 123) rfl hN.obj), if_neg (d (a := 91) rfl hN.arr), if_neg (by rw [← w1, hN.null]; simp), if_neg (by rw [← w2, hN.tru]; simp), if_neg (by rw [← w3, hN.fls]; simp), hno]
  simp only [← w4, ← w5, ← w6, hN.nan, hN.inf, hN.ninf, Bool.false_eq_true, if_false]
end
inductive Res where
  | ok (v : V) (e : Nat)
  | stop (p : Nat)
noncomputable def QuoteAt (T : Str) (lo k : Nat) : Prop := lo ≤ k ∧ T.cps[k]? = some 34 ∧ ∀ j, lo ≤ j → j < k → T.cps[j]? ≠ some 34
noncomputable def NoQuote (T : Str) (lo : Nat) : Prop := ∀ j, lo ≤ j → T.cps[j]? ≠ some 34
noncomputable def subT (T : Str) (i j : Nat) : Str := ⟨T.cps.extract i j⟩
inductive LeafR (T : Str) : Nat → V → Nat → Prop where
  | null {i : Nat} (h : lexL (T.cps.toList.drop i) = .null) : LeafR T i .none (i + 4)
  | tru {i : Nat} (h : lexL (T.cps.toList.drop i) = .tru) : LeafR T i (.bool true) (i + 4)
  | fls {i : Nat} (h : lexL (T.cps.toList.drop i) = .fls) : LeafR T i (.bool false) (i + 5)
  | whole {i n : Nat} (h : lexL (T.cps.toList.drop i) = .whole n) : LeafR T i (.tup [.str "whole", .str (subT T i (i + n))]) (i + n)
  | broken {i n : Nat} (h : lexL (T.cps.toList.drop i) = .broken n) : LeafR T i (.tup [.str "broken", .str (subT T i (i + n))]) (i + n)
  | con {i : Nat} {w : Str} (h : lexL (T.cps.toList.drop i) = .con w) : LeafR T i (.tup [.str "word", .str w]) (i + w.length)
  | str {i k : Nat} (h : lexL (T.cps.toList.drop i) = .str) (hk : QuoteAt T (i + 1) k) : LeafR T i (.tup [.str "text", .str (subT T (i + 1) k), .str "strict"]) (k + 1)
noncomputable def pairsV : List V → List V
  | a :: b :: r => .tup [a, b] :: pairsV r
  | _ => []
noncomputable def mkV : Bool → List V → V
  | false, l => .lst l
  | true, l => .tup [.str "strict", .str "hook", .str "pairs", .lst (pairsV l)]
noncomputable def clos : Bool → Nat
  | false => 93
  | true => 125
noncomputable def Ends (T : Str) (b : Bool) (i : Nat) (l : List V) : Prop := T.cps[i]? = some (clos b) ∧ (b = false ∨ l.length % 2 = 0)
mutual
inductive Rd (T : Str) : Nat → Nat → Res → Prop where
  | leaf {d i e : Nat} {v : V} (h : LeafR T i v e) : Rd T d i (.ok v e)
  | noq {d i : Nat} (h : lexL (T.cps.toList.drop i) = .str) (hq : NoQuote T (i + 1)) : Rd T d i (.stop T.cps.size)
  | stop {d i : Nat} (h : lexL (T.cps.toList.drop i) = .stop) : Rd T d i (.stop i)
  | arr {d i : Nat} {r : Res} (h : lexL (T.cps.toList.drop i) = .arr) (hr : RdI T d false (i + 1) [] r) : Rd T (d + 1) i r
  | obj {d i : Nat} {r : Res} (h : lexL (T.cps.toList.drop i) = .obj) (hr : RdI T d true (i + 1) [] r) : Rd T (d + 1) i r
inductive RdI (T : Str) : Nat → Bool → Nat → List V → Res → Prop where
  | close {d i : Nat} {b : Bool} {l : List V} (h : Ends T b i l) : RdI T d b i l (.ok (mkV b l) (i + 1))
  | stop {d i p : Nat} {b : Bool} {l : List V} (h : ¬ Ends T b i l) (hr : Rd T d i (.stop p)) : RdI T d b i l (.stop p)
  | item {d i j : Nat} {b : Bool} {l : List V} {v : V} {r : Res} (h : ¬ Ends T b i l) (hij : i < j) (hj : j ≤ T.cps.size) (hv : Rd T d i (.ok v j)) (hr : RdI T d b j (l ++ [v]) r) : RdI T d b i l r
end
theorem lex_lt {T : Str} {i : Nat} (h : lexL (T.cps.toList.drop i) ≠ .stop) : i < T.cps.size := by
  rcases Nat.lt_or_ge i T.cps.size with q | q
  · exact q
  · exact absurd (lex_end q) h
theorem digL_le : ∀ l : List Nat, digL l ≤ l.length
  | [] => Nat.le_refl _
  | c :: r => by
    simp only [digL]
    have := digL_le r
    split <;> simp <;> lia
theorem numL_le {l : List Nat} {n1 n2 n3 : Nat} (h : numL l = some (n1, n2, n3)) : 0 < n1 ∧ n1 + n2 + n3 ≤ l.length := by
  unfold numL at h
  generalize hs : sgnL l = s at h
  cases hi : intL (l.drop s) with
  | none => rw [hi] at h; cases h
  | some k =>
    rw [hi] at h
    simp only [Option.some.injEq, Prod.mk.injEq] at h
    obtain ⟨rfl, rfl, rfl⟩ := h
    have hk : 0 < k ∧ s + k ≤ l.length := by
      cases hl : l.drop s with
      | nil => rw [hl] at hi; cases hi
      | cons c r =>
        rw [hl] at hi
        have hlen : l.length - s = r.length + 1 := by rw [← List.length_drop, hl]; rfl
        simp only [intL] at hi
        have := digL_le r
        split at hi
        · simp at hi; lia
        · split at hi
          · simp at hi; lia
          · simp at hi
    have f : ∀ m : List Nat, fracL m ≤ m.length := fun m => by
      cases m with
      | nil => exact Nat.le_refl _
      | cons c r =>
        simp only [fracL]
        have := digL_le r
        split
        · split <;> simp <;> lia
        · simp
    have e : ∀ m : List Nat, expL m ≤ m.length := fun m => by
      cases m with
      | nil => exact Nat.le_refl _
      | cons c r =>
        simp only [expL]
        have h1 := digL_le (r.drop (esgnL r))
        rw [List.length_drop] at h1
        have h2 : esgnL r ≤ r.length := by
          cases r with
          | nil => exact Nat.le_refl _
          | cons _ _ => simp only [esgnL]; split <;> simp
        split
        · split <;> simp <;> lia
        · simp
    have h1 := f (l.drop (s + k))
    have h2 := e (l.drop (s + k + fracL (l.drop (s + k))))
    rw [List.length_drop] at h1 h2
    refine ⟨by lia, ?_⟩
    lia
theorem pre_len {w : Str} {l : List Nat} (h : preL w l = true) : w.length ≤ l.length := by
  unfold preL at h
  have := (List.isPrefixOf_iff_prefix.mp h).length_le
  simpa [Str.length] using this
noncomputable def LexI (l : List Nat) : Lx → Prop
  | .null => preL "null" l = true
  | .tru => preL "true" l = true
  | .fls => preL "false" l = true
  | .whole n => numL l = some (n, 0, 0)
  | .broken n => ∃ n1 n2 n3, numL l = some (n1, n2, n3) ∧ n = n1 + n2 + n3
  | .con w => preL w l = true ∧ (w = "NaN" ∨ w = "Infinity" ∨ w = "-Infinity")
  | _ => True
theorem lex_inv (l : List Nat) : LexI l (lexL l) := by
  cases l with
  | nil => trivial
  | cons c r =>
    simp only [lexL]
    by_cases h1 : c = 34
    · rw [if_pos h1]; trivial
    rw [if_neg h1]
    by_cases h2 : c = 123
    · rw [if_pos h2]; trivial
    rw [if_neg h2]
    by_cases h3 : c = 91
    · rw [if_pos h3]; trivial
    rw [if_neg h3]
    by_cases h4 : preL "null" (c :: r) = true
    · rw [if_pos h4]; exact h4
    rw [if_neg h4]
    by_cases h5 : preL "true" (c :: r) = true
    · rw [if_pos h5]; exact h5
    rw [if_neg h5]
    by_cases h6 : preL "false" (c :: r) = true
    · rw [if_pos h6]; exact h6
    rw [if_neg h6]
    cases hn : numL (c :: r) with
    | some p =>
      obtain ⟨n1, n2, n3⟩ := p
      by_cases h7 : n2 = 0 ∧ n3 = 0
      · simp only [if_pos h7]
        obtain ⟨rfl, rfl⟩ := h7
        exact hn
      · simp only [if_neg h7]
        exact ⟨n1, n2, n3, hn, rfl⟩
    | none =>
      simp only
      by_cases h7 : preL "NaN" (c :: r) = true
      · rw [if_pos h7]; exact ⟨h7, .inl rfl⟩
      rw [if_neg h7]
      by_cases h8 : preL "Infinity" (c :: r) = true
      · rw [if_pos h8]; exact ⟨h8, .inr (.inl rfl)⟩
      rw [if_neg h8]
      by_cases h9 : preL "-Infinity" (c :: r) = true
      · rw [if_pos h9]; exact ⟨h9, .inr (.inr rfl)⟩
      rw [if_neg h9]
      trivial
theorem LeafR.le {T : Str} {i e : Nat} {v : V} (h : LeafR T i v e) : i < e ∧ e ≤ T.cps.size := by
  have hl : (T.cps.toList.drop i).length = T.cps.size - i := by simp
  have inv := lex_inv (T.cps.toList.drop i)
  have lit : ∀ {w : Str}, 0 < w.length → preL w (T.cps.toList.drop i) = true → i < i + w.length ∧ i + w.length ≤ T.cps.size := fun h0 hp => by
    have := pre_len hp
    lia
  cases h with
  | null h => rw [h] at inv; exact lit (w := "null") (by decide) inv
  | tru h => rw [h] at inv; exact lit (w := "true") (by decide) inv
  | fls h => rw [h] at inv; exact lit (w := "false") (by decide) inv
  | whole h => rw [h] at inv; have := numL_le inv; lia
  | broken h => rw [h] at inv; obtain ⟨n1, n2, n3, h1, rfl⟩ := inv; have := numL_le h1; lia
  | con h => rw [h] at inv; exact lit (by rcases inv.2 with rfl | rfl | rfl <;> decide) inv.1
  | str h hk =>
    obtain ⟨h1, h2, _⟩ := hk
    have := (Array.getElem?_eq_some_iff.mp h2).1
    lia
theorem ends_dec (T : Str) (b : Bool) (i : Nat) (l : List V) : Ends T b i l ∨ ¬ Ends T b i l := Classical.em _
theorem quote_or (T : Str) (lo : Nat) : (∃ k, QuoteAt T lo k) ∨ NoQuote T lo := by
  by_cases h : ∃ k, lo ≤ k ∧ T.cps[k]? = some 34
  · left
    have := Classical.propDecidable
    obtain ⟨k, hk, hmin⟩ : ∃ k, (lo ≤ k ∧ T.cps[k]? = some 34) ∧ ∀ j, j < k → ¬ (lo ≤ j ∧ T.cps[j]? = some 34) := by
      obtain ⟨k, hk⟩ := h
      induction k using Nat.strongRecOn with
      | _ k ih =>
        by_cases hs : ∃ j, j < k ∧ lo ≤ j ∧ T.cps[j]? = some 34
        · obtain ⟨j, hj, h2⟩ := hs; exact ih j hj h2
        · exact ⟨k, hk, fun j hj h2 => hs ⟨j, hj, h2⟩⟩
    exact ⟨k, hk.1, hk.2, fun j h1 h2 h3 => hmin j h2 ⟨h1, h3⟩⟩
  · right
    exact fun j hj h2 => h ⟨j, hj, h2⟩
theorem rd_all (T : Str) : ∀ (n i : Nat), T.cps.size + 1 - i ≤ n → (∀ d, T.cps.size + 1 - i ≤ d → ∃ r, Rd T d i r ∧ ∀ v e, r = .ok v e → i < e ∧ e ≤ T.cps.size) ∧ (∀ d b l, T.cps.size + 1 - i ≤ d → ∃ r, RdI T d b i l r ∧ ∀ v e, r = .ok v e → i < e ∧ e ≤ T.cps.size) := by
  intro n
  induction n with
  | zero =>
    intro i hi
    have hs : lexL (T.cps.toList.drop i) = .stop := lex_end (by lia)
    have hne : ∀ b l, ¬ Ends T b i l := fun b l h => by
      have h1 := h.1
      rw [Array.getElem?_eq_none (by lia)] at h1
      cases h1
    exact ⟨fun d _ => ⟨_, .stop hs, nofun⟩, fun d b l _ => ⟨_, .stop (hne b l) (.stop hs), nofun⟩⟩
  | succ n ih =>
    intro i hi
    have h1 : ∀ d, T.cps.size + 1 - i ≤ d → ∃ r, Rd T d i r ∧ ∀ v e, r = .ok v e → i < e ∧ e ≤ T.cps.size := fun d hd => by
      have leaf : ∀ {v e}, LeafR T i v e → ∃ r, Rd T d i r ∧ ∀ v e, r = .ok v e → i < e ∧ e ≤ T.cps.size := fun h => ⟨_, .leaf h, fun v e q => by cases q; exact h.le⟩
      have brk : ∀ b, i < T.cps.size → ∃ d' r, d = d' + 1 ∧ RdI T d' b (i + 1) [] r ∧ ∀ v e, r = .ok v e → i < e ∧ e ≤ T.cps.size := fun b hlt => by
        obtain ⟨d', e⟩ : ∃ d', d = d' + 1 := ⟨d - 1, by lia⟩
        obtain ⟨r, hr, hb⟩ := (ih (i + 1) (by lia)).2 d' b [] (by lia)
        exact ⟨d', r, e, hr, fun v e q => ⟨Nat.lt_of_succ_lt (hb v e q).1, (hb v e q).2⟩⟩
      cases hx : lexL (T.cps.toList.drop i) with
      | stop => exact ⟨_, .stop hx, nofun⟩
      | null => exact leaf (.null hx)
      | tru => exact leaf (.tru hx)
      | fls => exact leaf (.fls hx)
      | whole n => exact leaf (.whole hx)
      | broken n => exact leaf (.broken hx)
      | con w => exact leaf (.con hx)
      | str =>
        rcases quote_or T (i + 1) with ⟨k, hk⟩ | hk
        · exact leaf (.str hx hk)
        · exact ⟨_, .noq hx hk, nofun⟩
      | arr =>
        obtain ⟨d', r, e, hr, hb⟩ := brk false (lex_lt (T := T) (i := i) (by rw [hx]; nofun))
        subst e
        exact ⟨r, .arr hx hr, hb⟩
      | obj =>
        obtain ⟨d', r, e, hr, hb⟩ := brk true (lex_lt (T := T) (i := i) (by rw [hx]; nofun))
        subst e
        exact ⟨r, .obj hx hr, hb⟩
    refine ⟨h1, fun d b l hd => ?_⟩
    rcases ends_dec T b i l with he | he
    · refine ⟨_, .close he, fun v e q => ?_⟩
      cases q
      exact ⟨Nat.lt_succ_self i, (Array.getElem?_eq_some_iff.mp he.1).1⟩
    · obtain ⟨r, hr, hb⟩ := h1 d hd
      cases r with
      | stop p => exact ⟨_, .stop he hr, nofun⟩
      | ok v j =>
        have hj := hb v j rfl
        obtain ⟨r2, hr2, hb2⟩ := (ih j (by lia)).2 d b (l ++ [v]) (by lia)
        exact ⟨r2, .item he hj.1 hj.2 hr hr2, fun v e q => ⟨Nat.lt_trans hj.1 (hb2 v e q).1, (hb2 v e q).2⟩⟩
noncomputable def clsN (c : Nat) : Nat := if 49 ≤ c ∧ c ≤ 57 then 49 else if c = 69 then 101 else c
noncomputable def stpN : Nat → Nat → Nat
  | 0, c => if c = 45 then 1 else if c = 48 then 2 else if c = 49 then 3 else 9
  | 1, c => if c = 48 then 2 else if c = 49 then 3 else 9
  | 2, c => if c = 46 then 4 else if c = 101 then 6 else 9
  | 3, c => if c = 48 then 3 else if c = 49 then 3 else if c = 46 then 4 else if c = 101 then 6 else 9
  | 4, c => if c = 48 then 5 else if c = 49 then 5 else 9
  | 5, c => if c = 48 then 5 else if c = 49 then 5 else if c = 101 then 6 else 9
  | 6, c => if c = 43 then 7 else if c = 45 then 7 else if c = 48 then 8 else if c = 49 then 8 else 9
  | 7, c => if c = 48 then 8 else if c = 49 then 8 else 9
  | 8, c => if c = 48 then 8 else if c = 49 then 8 else 9
  | _, _ => 9
noncomputable def accN (s : Nat) : Option Bool := if s = 2 ∨ s = 3 then some false else if s = 5 ∨ s = 8 then some true else none
noncomputable def bestN : Nat → List Nat → Option (Nat × Bool)
  | _, [] => none
  | s, c :: r => if stpN s (clsN c) = 9 then none else match bestN (stpN s (clsN c)) r with
    | some (n, b) => some (n + 1, b)
    | none => (accN (stpN s (clsN c))).map fun b => (1, b)
noncomputable def comb (b : Option (Nat × Bool)) (j : Nat) : Option (Nat × Bool) → Option (Nat × Bool)
  | some (n, k) => some (j + n, k)
  | none => b
theorem comb_step {b : Option (Nat × Bool)} {j s c : Nat} {r : List Nat} (h : stpN s (clsN c) ≠ 9) : comb b j (bestN s (c :: r)) = comb (match accN (stpN s (clsN c)) with | some k => some (j + 1, k) | none => b) (j + 1) (bestN (stpN s (clsN c)) r) := by
  rw [bestN, if_neg h]
  cases bestN (stpN s (clsN c)) r with
  | some p => obtain ⟨n, k⟩ := p; show some (j + (n + 1), k) = some (j + 1 + n, k); rw [show j + (n + 1) = j + 1 + n from by lia]
  | none => cases accN (stpN s (clsN c)) <;> rfl
theorem comb_stop {b : Option (Nat × Bool)} {j s c : Nat} {r : List Nat} (h : stpN s (clsN c) = 9) : comb b j (bestN s (c :: r)) = b := by
  rw [bestN, if_pos h]; rfl
theorem cls_cases (c : Nat) : (dig c = true ∧ c = 48 ∧ clsN c = 48) ∨ (dig c = true ∧ (49 ≤ c ∧ c ≤ 57) ∧ clsN c = 49) ∨ (dig c = false ∧ (c = 101 ∨ c = 69) ∧ clsN c = 101) ∨ (dig c = false ∧ c ≠ 101 ∧ c ≠ 69 ∧ ¬ (48 ≤ c ∧ c ≤ 57) ∧ clsN c = c) := by
  unfold dig clsN
  by_cases h1 : c = 48
  · subst h1; exact .inl ⟨by decide, rfl, by decide⟩
  by_cases h2 : 49 ≤ c ∧ c ≤ 57
  · exact .inr (.inl ⟨by simp; lia, h2, if_pos h2⟩)
  by_cases h3 : c = 69
  · subst h3; exact .inr (.inr (.inl ⟨by decide, .inr rfl, by decide⟩))
  by_cases h4 : c = 101
  · subst h4; exact .inr (.inr (.inl ⟨by decide, .inl rfl, by decide⟩))
  · exact .inr (.inr (.inr ⟨by simp; lia, h4, h3, by lia, by rw [if_neg h2, if_neg h3]⟩))
noncomputable def bump (a : Option Bool) : Option (Nat × Bool) → Option (Nat × Bool)
  | some (n, b) => some (n + 1, b)
  | none => a.map fun b => (1, b)
theorem best_go {s t c : Nat} {r : List Nat} (h : stpN s (clsN c) = t) (h9 : t ≠ 9) : bestN s (c :: r) = bump (accN t) (bestN t r) := by
  rw [bestN, h, if_neg h9]
  cases bestN t r <;> rfl
theorem best_no {s c : Nat} {r : List Nat} (h : stpN s (clsN c) = 9) : bestN s (c :: r) = none := by rw [bestN, if_pos h]
noncomputable def opt (n : Nat) (b : Bool) : Option (Nat × Bool) := if n = 0 then none else some (n, b)
theorem opt1 {n : Nat} {b : Bool} : opt (n + 1) b = some (n + 1, b) := if_neg (Nat.succ_ne_zero n)
theorem opt_pos {n : Nat} {b : Bool} (h : n ≠ 0) : opt n b = some (n, b) := if_neg h
theorem bump_t {n : Nat} {b : Bool} : bump (some b) (opt n b) = opt (n + 1) b := by
  cases n with
  | zero => rfl
  | succ n => rfl
theorem bump_n {n : Nat} {b : Bool} (h : n ≠ 0) : bump none (opt n b) = opt (n + 1) b := by rw [opt_pos h]; rfl
theorem dig_yes {c : Nat} {r : List Nat} (h : dig c = true) : digL (c :: r) = digL r + 1 := by rw [digL, if_pos h]; lia
theorem dig_no {c : Nat} {r : List Nat} (h : dig c = false) : digL (c :: r) = 0 := by rw [digL, h]; rfl
theorem best8 : ∀ l : List Nat, bestN 8 l = opt (digL l) true
  | [] => rfl
  | c :: r => by
    rcases cls_cases c with ⟨h1, _, h2⟩ | ⟨h1, _, h2⟩ | ⟨h1, _, h2⟩ | ⟨h1, n1, n2, n3, h2⟩
    · rw [best_go (t := 8) (by rw [h2]; rfl) (by decide), best8 r, dig_yes h1]; exact bump_t
    · rw [best_go (t := 8) (by rw [h2]; rfl) (by decide), best8 r, dig_yes h1]; exact bump_t
    · rw [best_no (by rw [h2]; rfl), dig_no h1]; rfl
    · rw [best_no (by rw [h2]; simp only [stpN]; rw [if_neg (by lia), if_neg (by lia)]), dig_no h1]; rfl
theorem best7 : ∀ l : List Nat, bestN 7 l = opt (digL l) true
  | [] => rfl
  | c :: r => by
    rcases cls_cases c with ⟨h1, _, h2⟩ | ⟨h1, _, h2⟩ | ⟨h1, _, h2⟩ | ⟨h1, n1, n2, n3, h2⟩
    · rw [best_go (t := 8) (by rw [h2]; rfl) (by decide), best8 r, dig_yes h1]; exact bump_t
    · rw [best_go (t := 8) (by rw [h2]; rfl) (by decide), best8 r, dig_yes h1]; exact bump_t
    · rw [best_no (by rw [h2]; rfl), dig_no h1]; rfl
    · rw [best_no (by rw [h2]; simp only [stpN]; rw [if_neg (by lia), if_neg (by lia)]), dig_no h1]; rfl
noncomputable def expR (l : List Nat) : Nat := if digL (l.drop (esgnL l)) = 0 then 0 else esgnL l + digL (l.drop (esgnL l))
theorem best6 : ∀ l : List Nat, bestN 6 l = opt (expR l) true
  | [] => rfl
  | c :: r => by
    by_cases hs : c = 45 ∨ c = 43
    · have e : expR (c :: r) = if digL r = 0 then 0 else 1 + digL r := by
        have e0 : esgnL (c :: r) = 1 := if_pos hs
        unfold expR; rw [e0]; rfl
      rw [best_go (t := 7) (by rcases hs with rfl | rfl <;> rfl) (by decide), best7 r, e]
      by_cases q : digL r = 0
      · rw [if_pos q, q]; rfl
      · rw [if_neg q, show accN 7 = none from rfl, bump_n q, Nat.add_comm]
    · have e : expR (c :: r) = digL (c :: r) := by
        have e0 : esgnL (c :: r) = 0 := if_neg hs
        unfold expR; rw [e0]
        show (if digL (c :: r) = 0 then 0 else 0 + digL (c :: r)) = _
        split <;> lia
      rw [e]
      rcases cls_cases c with ⟨h1, _, h2⟩ | ⟨h1, _, h2⟩ | ⟨h1, _, h2⟩ | ⟨h1, n1, n2, n3, h2⟩
      · rw [best_go (t := 8) (by rw [h2]; rfl) (by decide), best8 r, dig_yes h1]; exact bump_t
      · rw [best_go (t := 8) (by rw [h2]; rfl) (by decide), best8 r, dig_yes h1]; exact bump_t
      · rw [best_no (by rw [h2]; rfl), dig_no h1]; rfl
      · rw [best_no (by rw [h2]; simp only [stpN]; rw [if_neg (by lia), if_neg (by lia), if_neg (by lia), if_neg (by lia)]), dig_no h1]; rfl
theorem exp_yes {c : Nat} {r : List Nat} (h : c = 101 ∨ c = 69) : expL (c :: r) = if expR r = 0 then 0 else expR r + 1 := by
  rw [expL, if_pos h]
  unfold expR
  by_cases q : digL (r.drop (esgnL r)) = 0
  · rw [if_pos q, if_pos q]; rfl
  · rw [if_neg q, if_neg q, if_neg (by lia)]; lia
theorem exp_no {c : Nat} {r : List Nat} (h1 : c ≠ 101) (h2 : c ≠ 69) : expL (c :: r) = 0 := by rw [expL, if_neg (by lia)]
theorem bump_e {r : List Nat} : bump none (opt (expR r) true) = opt (if expR r = 0 then 0 else expR r + 1) true := by
  by_cases q : expR r = 0
  · rw [if_pos q, q]; rfl
  · rw [if_neg q, bump_n q]
theorem best5 : ∀ l : List Nat, bestN 5 l = opt (digL l + expL (l.drop (digL l))) true
  | [] => rfl
  | c :: r => by
    rcases cls_cases c with ⟨h1, _, h2⟩ | ⟨h1, _, h2⟩ | ⟨h1, h3, h2⟩ | ⟨h1, n1, n2, n3, h2⟩
    · rw [best_go (t := 5) (by rw [h2]; rfl) (by decide), best5 r, dig_yes h1, List.drop_succ_cons, show digL r + 1 + expL (r.drop (digL r)) = digL r + expL (r.drop (digL r)) + 1 from by lia]; exact bump_t
    · rw [best_go (t := 5) (by rw [h2]; rfl) (by decide), best5 r, dig_yes h1, List.drop_succ_cons, show digL r + 1 + expL (r.drop (digL r)) = digL r + expL (r.drop (digL r)) + 1 from by lia]; exact bump_t
    · rw [best_go (t := 6) (by rw [h2]; rfl) (by decide), best6 r, dig_no h1, List.drop_zero, exp_yes h3, Nat.zero_add]; exact bump_e
    · rw [best_no (by rw [h2]; simp only [stpN]; rw [if_neg (by lia), if_neg (by lia), if_neg (by lia)]), dig_no h1, List.drop_zero, exp_no n1 n2]; rfl
theorem best4 (l : List Nat) : bestN 4 l = if digL l = 0 then none else opt (digL l + expL (l.drop (digL l))) true := by
  cases l with
  | nil => rfl
  | cons c r =>
    rcases cls_cases c with ⟨h1, _, h2⟩ | ⟨h1, _, h2⟩ | ⟨h1, h3, h2⟩ | ⟨h1, n1, n2, n3, h2⟩
    · rw [best_go (t := 5) (by rw [h2]; rfl) (by decide), best5 r, dig_yes h1, List.drop_succ_cons, if_neg (by lia), show digL r + 1 + expL (r.drop (digL r)) = digL r + expL (r.drop (digL r)) + 1 from by lia]; exact bump_t
    · rw [best_go (t := 5) (by rw [h2]; rfl) (by decide), best5 r, dig_yes h1, List.drop_succ_cons, if_neg (by lia), show digL r + 1 + expL (r.drop (digL r)) = digL r + expL (r.drop (digL r)) + 1 from by lia]; exact bump_t
    · rw [best_no (by rw [h2]; rfl), dig_no h1]; rfl
    · rw [best_no (by rw [h2]; simp only [stpN]; rw [if_neg (by lia), if_neg (by lia)]), dig_no h1]; rfl
noncomputable def tailN (k : Nat) (l : List Nat) : Option (Nat × Bool) := opt (k + fracL l + expL (l.drop (fracL l))) (decide (fracL l ≠ 0 ∨ expL (l.drop (fracL l)) ≠ 0))
theorem tail_dot (r : List Nat) : bump none (bestN 4 r) = tailN 0 (46 :: r) := by
  have e : fracL (46 :: r) = if digL r = 0 then 0 else 1 + digL r := by rw [fracL, if_pos rfl]
  rw [best4]
  unfold tailN
  by_cases q : digL r = 0
  · rw [if_pos q, e, if_pos q, List.drop_zero, exp_no (by decide) (by decide)]; rfl
  · rw [if_neg q, e, if_neg q, show 1 + digL r = digL r + 1 from by lia, List.drop_succ_cons, bump_n (by lia), decide_eq_true (by lia)]
    congr 1; lia
theorem tail_exp {c : Nat} (h : c = 101 ∨ c = 69) (r : List Nat) : bump none (bestN 6 r) = tailN 0 (c :: r) := by
  have e : fracL (c :: r) = 0 := by rw [fracL, if_neg (by lia)]
  unfold tailN
  rw [best6, e, List.drop_zero, exp_yes h, bump_e]
  by_cases q : expR r = 0
  · rw [if_pos q]; rfl
  · rw [if_neg q, decide_eq_true (by lia)]; congr 1; lia
theorem tail_no {c : Nat} (h : c ≠ 46) (h1 : c ≠ 101) (h2 : c ≠ 69) (k : Nat) (r : List Nat) : tailN k (c :: r) = opt k false := by
  have e : fracL (c :: r) = 0 := by rw [fracL, if_neg h]
  unfold tailN
  rw [e, List.drop_zero, exp_no h1 h2]; rfl
theorem tail_up {k : Nat} {l : List Nat} : bump (some false) (tailN k l) = tailN (k + 1) l := by
  unfold tailN
  generalize fracL l = f
  generalize expL (l.drop f) = x
  by_cases q : k + f + x = 0
  · obtain ⟨rfl, rfl, rfl⟩ : k = 0 ∧ f = 0 ∧ x = 0 := by lia
    rfl
  · rw [opt_pos q, opt_pos (by lia)]
    show some (k + f + x + 1, _) = _
    rw [show k + f + x + 1 = k + 1 + f + x from by lia]
theorem best2 (l : List Nat) : bestN 2 l = tailN 0 l := by
  cases l with
  | nil => rfl
  | cons c r =>
    by_cases hd : c = 46
    · subst hd
      rw [best_go (t := 4) rfl (by decide)]; exact tail_dot r
    · rcases cls_cases c with ⟨h1, h0, h2⟩ | ⟨h1, h0, h2⟩ | ⟨h1, h3, h2⟩ | ⟨h1, n1, n2, n3, h2⟩
      · rw [best_no (by rw [h2]; rfl), tail_no hd (by lia) (by lia)]; rfl
      · rw [best_no (by rw [h2]; rfl), tail_no hd (by lia) (by lia)]; rfl
      · rw [best_go (t := 6) (by rw [h2]; rfl) (by decide)]; exact tail_exp h3 r
      · rw [best_no (by rw [h2]; simp only [stpN]; rw [if_neg hd, if_neg n1]), tail_no hd n1 n2]; rfl
theorem best3 : ∀ l : List Nat, bestN 3 l = tailN (digL l) (l.drop (digL l))
  | [] => rfl
  | c :: r => by
    rcases cls_cases c with ⟨h1, h0, h2⟩ | ⟨h1, h0, h2⟩ | ⟨h1, h3, h2⟩ | ⟨h1, n1, n2, n3, h2⟩
    · rw [best_go (t := 3) (by rw [h2]; rfl) (by decide), best3 r, dig_yes h1, List.drop_succ_cons]; exact tail_up
    · rw [best_go (t := 3) (by rw [h2]; rfl) (by decide), best3 r, dig_yes h1, List.drop_succ_cons]; exact tail_up
    · rw [best_go (t := 6) (by rw [h2]; rfl) (by decide), dig_no h1, List.drop_zero]; exact tail_exp h3 r
    · by_cases hd : c = 46
      · subst hd
        rw [best_go (t := 4) rfl (by decide), dig_no h1, List.drop_zero]; exact tail_dot r
      · rw [best_no (by rw [h2]; simp only [stpN]; rw [if_neg (by lia), if_neg (by lia), if_neg hd, if_neg n1]), dig_no h1, List.drop_zero, tail_no hd n1 n2]; rfl
noncomputable def intR (l : List Nat) : Option (Nat × Bool) := (intL l).bind fun k => tailN k (l.drop k)
theorem best_int {s c : Nat} {r : List Nat} (hs : s = 0 ∨ s = 1) (h45 : c ≠ 45) : bestN s (c :: r) = intR (c :: r) := by
  unfold intR
  rw [intL]
  rcases cls_cases c with ⟨h1, h0, h2⟩ | ⟨h1, h0, h2⟩ | ⟨h1, h3, h2⟩ | ⟨h1, n1, n2, n3, h2⟩
  · rw [best_go (t := 2) (by rw [h2]; rcases hs with rfl | rfl <;> rfl) (by decide), best2, if_pos h0]; exact tail_up
  · rw [best_go (t := 3) (by rw [h2]; rcases hs with rfl | rfl <;> rfl) (by decide), best3, if_neg (by lia), if_pos h0]
    show _ = tailN (1 + digL r) ((c :: r).drop (1 + digL r))
    rw [Nat.add_comm, List.drop_succ_cons]
    exact tail_up
  · rw [best_no (by rw [h2]; rcases hs with rfl | rfl <;> rfl), if_neg (by lia), if_neg (by lia)]; rfl
  · rw [best_no (by rw [h2]; rcases hs with rfl | rfl <;> simp only [stpN]; · rw [if_neg h45, if_neg (by lia), if_neg (by lia)]
                    · rw [if_neg (by lia), if_neg (by lia)]), if_neg (by lia), if_neg (by lia)]; rfl
theorem best0 (l : List Nat) : bestN 0 l = (numL l).map fun p => (p.1 + p.2.1 + p.2.2, decide (p.2.1 ≠ 0 ∨ p.2.2 ≠ 0)) := by
  cases l with
  | nil => rfl
  | cons c r =>
    by_cases hc : c = 45
    · subst hc
      rw [best_go (t := 1) rfl (by decide)]
      have e : sgnL (45 :: r) = 1 := rfl
      unfold numL
      rw [e, List.drop_succ_cons, List.drop_zero]
      have hb : bestN 1 r = intR r := by
        cases r with
        | nil => rfl
        | cons c r =>
          by_cases hc : c = 45
          · subst hc; rw [best_no rfl]; rfl
          · exact best_int (.inr rfl) hc
      rw [hb]
      unfold intR
      cases hi : intL r with
      | none => rfl
      | some k =>
        show bump none (tailN k (r.drop k)) = some (1 + k + fracL ((45 :: r).drop (1 + k)) + _, _)
        rw [show 1 + k = k + 1 from by lia, List.drop_succ_cons]
        unfold tailN
        have hk : k ≠ 0 := by
          cases r with
          | nil => cases hi
          | cons c r => rw [intL] at hi; split at hi; · cases hi; decide
                        · split at hi; · cases hi; lia
                          · cases hi
        rw [bump_n (by lia), opt1]
        dsimp only
        rw [show (45 :: r).drop (k + 1 + fracL (r.drop k)) = (r.drop k).drop (fracL (r.drop k)) from by rw [List.drop_drop, show k + 1 + fracL (r.drop k) = (k + fracL (r.drop k)) + 1 from by lia, List.drop_succ_cons]]
        congr 2
        lia
    · rw [best_int (.inl rfl) hc]
      have e : sgnL (c :: r) = 0 := by rw [sgnL, if_neg hc]
      unfold numL intR
      rw [e, List.drop_zero]
      cases hi : intL (c :: r) with
      | none => rfl
      | some k =>
        show tailN k ((c :: r).drop k) = some (0 + k + fracL ((c :: r).drop (0 + k)) + _, _)
        rw [Nat.zero_add]
        unfold tailN
        have hk : k ≠ 0 := by
          rw [intL] at hi; split at hi; · cases hi; decide
          · split at hi; · cases hi; lia
            · cases hi
        rw [opt_pos (by lia)]
        dsimp only
        rw [List.drop_drop]
mutual
inductive Gn (T : Str) : List (Bool × List V) → Nat → Res → Prop where
  | nil {d j : Nat} {r : Res} (h : Rd T d j r) : Gn T [] j r
  | cons {d j : Nat} {b : Bool} {l : List V} {S : List (Bool × List V)} {r1 r : Res} (h : RdI T d b j l r1) (k : Fin2 T S r1 r) : Gn T ((b, l) :: S) j r
inductive Fin2 (T : Str) : List (Bool × List V) → Res → Res → Prop where
  | stop {S : List (Bool × List V)} {p : Nat} : Fin2 T S (.stop p) (.stop p)
  | ok {v : V} {e : Nat} : Fin2 T [] (.ok v e) (.ok v e)
  | more {b : Bool} {l : List V} {S : List (Bool × List V)} {v : V} {e : Nat} {r : Res} (h : Gn T ((b, l ++ [v]) :: S) e r) : Fin2 T ((b, l) :: S) (.ok v e) r
end
theorem Fin2.self {T : Str} : ∀ r : Res, Fin2 T [] r r
  | .ok _ _ => .ok
  | .stop _ => .stop
theorem Gn.split {T : Str} {S : List (Bool × List V)} {j : Nat} {r : Res} (h : Gn T S j r) :
    (∃ b l S', S = (b, l) :: S' ∧ Ends T b j l ∧ Fin2 T S' (.ok (mkV b l) (j + 1)) r) ∨ ((∀ b l S', S = (b, l) :: S' → ¬ Ends T b j l) ∧ ∃ d r0, Rd T d j r0 ∧ Fin2 T S r0 r) := by
  cases h with
  | nil h => exact .inr ⟨(fun _ _ _ e => nomatch e), _, _, h, Fin2.self _⟩
  | cons h k =>
    cases h with
    | close h => exact .inl ⟨_, _, _, rfl, h, k⟩
    | stop h hr =>
      cases k
      exact .inr ⟨fun _ _ _ e => by cases e; exact h, _, _, hr, .stop⟩
    | item h _ _ hv hr => exact .inr ⟨fun _ _ _ e => by cases e; exact h, _, _, hv, .more (.cons hr k)⟩
noncomputable def wordsL : List (Str × V) := [("null", .none), ("true", .bool true), ("false", .bool false), ("NaN", .tup [.str "word", .str "NaN"]), ("Infinity", .tup [.str "word", .str "Infinity"]), ("-Infinity", .tup [.str "word", .str "-Infinity"])]
noncomputable def fits (l : List Nat) : List (Str × V) := wordsL.filter fun p => preL p.1 l
noncomputable def wLx (w : Str) : Lx := if w = "null" then .null else if w = "true" then .tru else if w = "false" then .fls else .con w
inductive LexW (l : List Nat) : Prop where
  | word (p : Str × V) (hp : p ∈ wordsL) (hf : fits l = [p]) (hl : lexL l = wLx p.1)
  | num (n : Nat) (b : Bool) (hf : fits l = []) (hb : bestN 0 l = some (n, b)) (hl : lexL l = if b then .broken n else .whole n)
  | none (hf : fits l = []) (hb : bestN 0 l = none) (hl : lexL l = .stop)
theorem wc : (Str.ofString "null").cps.toList = [110, 117, 108, 108] ∧ (Str.ofString "true").cps.toList = [116, 114, 117, 101] ∧ (Str.ofString "false").cps.toList = [102, 97, 108, 115, 101] ∧ (Str.ofString "NaN").cps.toList = [78, 97, 78] ∧
    (Str.ofString "Infinity").cps.toList = [73, 110, 102, 105, 110, 105, 116, 121] ∧ (Str.ofString "-Infinity").cps.toList = [45, 73, 110, 102, 105, 110, 105, 116, 121] := by decide +kernel
theorem num_no {c : Nat} {r : List Nat} (h : c ≠ 45) (hd : ¬ (48 ≤ c ∧ c ≤ 57)) : numL (c :: r) = none := by
  have e : sgnL (c :: r) = 0 := if_neg h
  unfold numL
  rw [e, List.drop_zero, intL, if_neg (by lia), if_neg (by lia)]
theorem lex_w {c : Nat} {r : List Nat} (h34 : c ≠ 34) (h123 : c ≠ 123) (h91 : c ≠ 91) : LexW (c :: r) := by
  obtain ⟨w1, w2, w3, w4, w5, w6⟩ := wc
  have hlex : lexL (c :: r) = if preL "null" (c :: r) then .null else if preL "true" (c :: r) then .tru else if preL "false" (c :: r) then .fls
    else match numL (c :: r) with
      | some (n1, n2, n3) => if n2 = 0 ∧ n3 = 0 then .whole n1 else .broken (n1 + n2 + n3)
      | none => if preL "NaN" (c :: r) then .con "NaN" else if preL "Infinity" (c :: r) then .con "Infinity" else if preL "-Infinity" (c :: r) then .con "-Infinity" else .stop := by
    rw [lexL, if_neg h34, if_neg h123, if_neg h91]
    try rfl
  have hfit : fits (c :: r) = (if preL "null" (c :: r) then [((("null" : Str), (.none : V)) : Str × V)] else []) ++ (if preL "true" (c :: r) then [((("true" : Str), (.bool true : V)) : Str × V)] else []) ++ (if preL "false" (c :: r) then [((("false" : Str), (.bool false : V)) : Str × V)] else []) ++
      (if preL "NaN" (c :: r) then [((("NaN" : Str), (.tup [.str "word", .str "NaN"] : V)) : Str × V)] else []) ++ (if preL "Infinity" (c :: r) then [((("Infinity" : Str), (.tup [.str "word", .str "Infinity"] : V)) : Str × V)] else []) ++ (if preL "-Infinity" (c :: r) then [((("-Infinity" : Str), (.tup [.str "word", .str "-Infinity"] : V)) : Str × V)] else []) := by
    have cons_if : ∀ (b : Bool) (x : Str × V) (l : List (Str × V)), (if b then x :: l else l) = (if b then [x] else []) ++ l := fun b x l => by cases b <;> rfl
    have step : ∀ (x : Str × V) (l : List (Str × V)), (x :: l).filter (fun p => preL p.1 (c :: r)) = (if preL x.1 (c :: r) then [x] else []) ++ l.filter (fun p => preL p.1 (c :: r)) := fun x l => by rw [List.filter_cons, cons_if]
    unfold fits wordsL
    rw [step, step, step, step, step, step, List.filter_nil, List.append_nil, List.append_assoc, List.append_assoc, List.append_assoc, List.append_assoc]
  have n1 : c ≠ 110 → preL "null" (c :: r) = false := no_pre w1
  have n2 : c ≠ 116 → preL "true" (c :: r) = false := no_pre w2
  have n3 : c ≠ 102 → preL "false" (c :: r) = false := no_pre w3
  have n4 : c ≠ 78 → preL "NaN" (c :: r) = false := no_pre w4
  have n5 : c ≠ 73 → preL "Infinity" (c :: r) = false := no_pre w5
  have n6 : c ≠ 45 → preL "-Infinity" (c :: r) = false := no_pre w6
  have fin : fits (c :: r) = [] → (lexL (c :: r) = match numL (c :: r) with | some (n1, n2, n3) => if n2 = 0 ∧ n3 = 0 then .whole n1 else .broken (n1 + n2 + n3) | none => .stop) → LexW (c :: r) := fun hf hl => by
    have hb := best0 (c :: r)
    cases hn : numL (c :: r) with
    | none => rw [hn] at hb hl; exact .none hf hb hl
    | some p =>
      obtain ⟨a1, a2, a3⟩ := p
      rw [hn] at hb hl
      refine .num (a1 + a2 + a3) (decide (a2 ≠ 0 ∨ a3 ≠ 0)) hf hb (hl.trans ?_)
      dsimp only
      by_cases q : a2 = 0 ∧ a3 = 0
      · obtain ⟨rfl, rfl⟩ := q; rfl
      · rw [if_neg q, decide_eq_true (by lia)]; rfl
  by_cases c1 : c = 110
  · subst c1
    have hn := num_no (c := 110) (r := r) (by decide) (by decide)
    rw [n2 (by decide), n3 (by decide), n4 (by decide), n5 (by decide), n6 (by decide)] at hfit hlex
    cases q : preL "null" (110 :: r) with
    | true => rw [q] at hfit hlex; exact .word _ (.head _) hfit hlex
    | false => rw [q] at hfit hlex; rw [hn] at hlex; exact fin hfit (by rw [hn]; exact hlex)
  by_cases c2 : c = 116
  · subst c2
    have hn := num_no (c := 116) (r := r) (by decide) (by decide)
    rw [n1 (by decide), n3 (by decide), n4 (by decide), n5 (by decide), n6 (by decide)] at hfit hlex
    cases q : preL "true" (116 :: r) with
    | true => rw [q] at hfit hlex; exact .word _ (.tail _ (.head _)) hfit hlex
    | false => rw [q] at hfit hlex; rw [hn] at hlex; exact fin hfit (by rw [hn]; exact hlex)
  by_cases c3 : c = 102
  · subst c3
    have hn := num_no (c := 102) (r := r) (by decide) (by decide)
    rw [n1 (by decide), n2 (by decide), n4 (by decide), n5 (by decide), n6 (by decide)] at hfit hlex
    cases q : preL "false" (102 :: r) with
    | true => rw [q] at hfit hlex; exact .word _ (.tail _ (.tail _ (.head _))) hfit hlex
    | false => rw [q] at hfit hlex; rw [hn] at hlex; exact fin hfit (by rw [hn]; exact hlex)
  by_cases c4 : c = 78
  · subst c4
    have hn := num_no (c := 78) (r := r) (by decide) (by decide)
    rw [n1 (by decide), n2 (by decide), n3 (by decide), n5 (by decide), n6 (by decide)] at hfit hlex
    rw [hn] at hlex
    cases q : preL "NaN" (78 :: r) with
    | true => rw [q] at hfit hlex; exact .word _ (.tail _ (.tail _ (.tail _ (.head _)))) hfit hlex
    | false => rw [q] at hfit hlex; exact fin hfit (by rw [hn]; exact hlex)
  by_cases c5 : c = 73
  · subst c5
    have hn := num_no (c := 73) (r := r) (by decide) (by decide)
    rw [n1 (by decide), n2 (by decide), n3 (by decide), n4 (by decide), n6 (by decide)] at hfit hlex
    rw [hn] at hlex
    cases q : preL "Infinity" (73 :: r) with
    | true => rw [q] at hfit hlex; exact .word _ (.tail _ (.tail _ (.tail _ (.tail _ (.head _))))) hfit hlex
    | false => rw [q] at hfit hlex; exact fin hfit (by rw [hn]; exact hlex)
  by_cases c6 : c = 45
  · subst c6
    rw [n1 (by decide), n2 (by decide), n3 (by decide), n4 (by decide), n5 (by decide)] at hfit hlex
    cases q : preL "-Infinity" (45 :: r) with
    | true =>
      have hn : numL (45 :: r) = none := by
        cases r with
        | nil => unfold preL at q; rw [w6] at q; cases q
        | cons d r =>
          have hd : d = 73 := by
            unfold preL at q
            rw [w6, List.isPrefixOf_cons_cons, List.isPrefixOf_cons_cons] at q
            simp at q
            exact q.1.symm
          subst hd
          rfl
      rw [q] at hfit hlex
      rw [hn] at hlex
      exact .word _ (.tail _ (.tail _ (.tail _ (.tail _ (.tail _ (.head _)))))) hfit hlex
    | false =>
      rw [q] at hfit hlex
      refine fin hfit (hlex.trans ?_)
      cases numL (45 :: r) <;> rfl
  · rw [n1 c1, n2 c2, n3 c3, n4 c4, n5 c5, n6 c6] at hfit hlex
    refine fin hfit (hlex.trans ?_)
    cases numL (c :: r) <;> rfl
theorem starts_pre {T w : Str} {i : Nat} (hi : i ≤ T.cps.size) : Txt.startswith3 T w (i : Int) = preL w (T.cps.toList.drop i) := by
  have hl : T.length = T.cps.size := rfl
  have e : PySem.fromIndex T.length (i : Int) = i := by unfold PySem.fromIndex; split <;> lia
  unfold Txt.startswith3
  rw [e]
  by_cases h : w.cps.toList <+: T.cps.toList.drop i
  · have h1 : preL w (T.cps.toList.drop i) = true := List.isPrefixOf_iff_prefix.mpr h
    have h2 := h.length_le
    have hw : w.length = w.cps.toList.length := by simp [Str.length]
    simp only [List.length_drop, Array.length_toList] at h2
    have hw2 : w.length = w.cps.size := rfl
    rw [h1, Bool.and_eq_true]
    refine ⟨decide_eq_true (by lia), ?_⟩
    unfold Builtin.Str.subAt
    have e2 : T.cps.extract i (i + w.length) = w.cps := by
      apply Array.ext'
      rw [Array.toList_extract, List.extract, Nat.add_sub_cancel_left, hw]
      exact (List.prefix_iff_eq_take.mp h).symm
    rw [e2]; simp
  · have h1 : preL w (T.cps.toList.drop i) = false := by
      cases q : preL w (T.cps.toList.drop i) with
      | false => rfl
      | true => exact absurd (List.isPrefixOf_iff_prefix.mp q) h
    rw [h1]
    cases q : (decide (i + w.length ≤ T.length) && Builtin.Str.subAt T w i) with
    | false => rfl
    | true =>
      exfalso
      rw [Bool.and_eq_true] at q
      obtain ⟨q1, q2⟩ := q
      unfold Builtin.Str.subAt at q2
      have q3 : T.cps.extract i (i + w.length) = w.cps := by simpa using q2
      refine h ?_
      rw [← q3, Array.toList_extract, List.extract, Nat.add_sub_cancel_left]
      exact List.take_prefix ..
noncomputable def pairAt (l : List V) (k : Nat) : V := .tup [l.getD (2 * k) .none, l.getD (2 * k + 1) .none]
theorem pairs_at : ∀ {l : List V}, l.length % 2 = 0 → pairsV l = (List.range (l.length / 2)).map (pairAt l)
  | [], _ => rfl
  | [_], h => by simp at h
  | a :: b :: l, h => by
    have ih := pairs_at (l := l) (by simp at h; lia)
    rw [pairsV, ih, show (a :: b :: l).length / 2 = l.length / 2 + 1 from by simp; lia, List.range_succ_eq_map, List.map_cons, List.map_map]
    rfl
theorem rs2 (n : Nat) : Builtin.Range.rangeSize 0 n 2 = (((n + 1) / 2 : Nat) : Int) := by
  show (if (2 : Int) > 0 then (if (0 : Int) < (n : Int) then ((n : Int) - 0 - 1) / 2 + 1 else 0) else _) = _
  rw [if_pos (by decide)]
  cases n with
  | zero => rfl
  | succ k => rw [if_pos (by lia)]; lia
theorem rngV_2 {n : Nat} (h : n % 2 = 0) : rngV 0 n 2 = (List.range (n / 2)).map fun (k : Nat) => .int ((2 * k : Nat) : Int) := by
  unfold rngV
  rw [rs2, Int.toNat_natCast, show (n + 1) / 2 = n / 2 from by lia]
  refine List.map_congr_left fun k _ => ?_
  rw [show (0 : Int) + (k : Int) * 2 = ((2 * k : Nat) : Int) from by rw [Int.zero_add, Int.mul_comm]; rfl]
theorem small_2 {n : Nat} (h : n < 2 ^ 40) : Builtin.Range.small 0 n 2 = true := by
  unfold Builtin.Range.small
  rw [rs2]
  simp [Builtin.Range.rangeFitsLong]
  lia
inductive RdAt (T : Str) (j : Nat) (r : Res) : Lx → Prop where
  | null (e : r = .ok .none (j + 4)) : RdAt T j r .null
  | tru (e : r = .ok (.bool true) (j + 4)) : RdAt T j r .tru
  | fls (e : r = .ok (.bool false) (j + 5)) : RdAt T j r .fls
  | whole {n : Nat} (e : r = .ok (.tup [.str "whole", .str (subT T j (j + n))]) (j + n)) : RdAt T j r (.whole n)
  | broken {n : Nat} (e : r = .ok (.tup [.str "broken", .str (subT T j (j + n))]) (j + n)) : RdAt T j r (.broken n)
  | con {w : Str} (e : r = .ok (.tup [.str "word", .str w]) (j + w.length)) : RdAt T j r (.con w)
  | str {k : Nat} (hk : QuoteAt T (j + 1) k) (e : r = .ok (.tup [.str "text", .str (subT T (j + 1) k), .str "strict"]) (k + 1)) : RdAt T j r .str
  | noq (hq : NoQuote T (j + 1)) (e : r = .stop T.cps.size) : RdAt T j r .str
  | stop (e : r = .stop j) : RdAt T j r .stop
  | arr {d : Nat} (h : RdI T d false (j + 1) [] r) : RdAt T j r .arr
  | obj {d : Nat} (h : RdI T d true (j + 1) [] r) : RdAt T j r .obj
theorem Rd.at {T : Str} {d j : Nat} {r : Res} (h : Rd T d j r) : RdAt T j r (lexL (T.cps.toList.drop j)) := by
  cases h with
  | leaf h =>
    cases h with
    | null h => rw [h]; exact .null rfl
    | tru h => rw [h]; exact .tru rfl
    | fls h => rw [h]; exact .fls rfl
    | whole h => rw [h]; exact .whole rfl
    | broken h => rw [h]; exact .broken rfl
    | con h => rw [h]; exact .con rfl
    | str h hk => rw [h]; exact .str hk rfl
  | noq h hq => rw [h]; exact .noq hq rfl
  | stop h => rw [h]; exact .stop rfl
  | arr h hr => rw [h]; exact .arr hr
  | obj h hr => rw [h]; exact .obj hr
theorem lex_q {r : List Nat} : lexL (34 :: r) = .str := rfl
theorem lex_o {r : List Nat} : lexL (123 :: r) = .obj := rfl
theorem lex_a {r : List Nat} : lexL (91 :: r) = .arr := rfl
theorem RdAt.word {T : Str} {j : Nat} {r : Res} {p : Str × V} (hp : p ∈ wordsL) (h : RdAt T j r (wLx p.1)) : r = .ok p.2 (j + p.1.length) := by
  simp only [wordsL, List.mem_cons, List.mem_nil_iff, or_false] at hp
  rcases hp with rfl | rfl | rfl | rfl | rfl | rfl
  · rw [show wLx _ = Lx.null from if_pos rfl] at h; cases h with | null e => exact e
  · rw [show wLx _ = Lx.tru from (if_neg (by decide +kernel)).trans (if_pos rfl)] at h; cases h with | tru e => exact e
  · rw [show wLx _ = Lx.fls from (if_neg (by decide +kernel)).trans ((if_neg (by decide +kernel)).trans (if_pos rfl))] at h; cases h with | fls e => exact e
  · rw [show wLx _ = Lx.con (Str.ofString "NaN") from (if_neg (by decide +kernel)).trans ((if_neg (by decide +kernel)).trans (if_neg (by decide +kernel)))] at h; cases h with | con e => exact e
  · rw [show wLx _ = Lx.con (Str.ofString "Infinity") from (if_neg (by decide +kernel)).trans ((if_neg (by decide +kernel)).trans (if_neg (by decide +kernel)))] at h; cases h with | con e => exact e
  · rw [show wLx _ = Lx.con (Str.ofString "-Infinity") from (if_neg (by decide +kernel)).trans ((if_neg (by decide +kernel)).trans (if_neg (by decide +kernel)))] at h; cases h with | con e => exact e
theorem RdAt.num {T : Str} {j n : Nat} {b : Bool} {r : Res} (h : RdAt T j r (if b then .broken n else .whole n)) : r = .ok (.tup [.str (if b then "broken" else "whole"), .str (subT T j (j + n))]) (j + n) := by
  cases b with
  | false => cases h with | whole e => exact e
  | true => cases h with | broken e => exact e
theorem RdAt.no {T : Str} {j : Nat} {r : Res} (h : RdAt T j r .stop) : r = .stop j := by cases h with | stop e => exact e
theorem Rd.at_end {T : Str} {d j : Nat} {r : Res} (h : Rd T d j r) (hj : T.cps.size ≤ j) : r = .stop j := by
  have := h.at
  rw [lex_end hj] at this
  exact this.no
theorem Fin2.stops {T : Str} {S : List (Bool × List V)} {p : Nat} {r : Res} (h : Fin2 T S (.stop p) r) : r = .stop p := by cases h; rfl
inductive Plain : Nat → V → Prop where
  | none {d : Nat} : Plain d .none
  | bool {d : Nat} {b : Bool} : Plain d (.bool b)
  | int {d : Nat} {i : Int} : Plain d (.int i)
  | str {d : Nat} {x : Str} : Plain d (.str x)
  | seq {d : Nat} (b : Bool) {l : List V} (hl : l.length ≤ sizeLine) (h : ∀ y ∈ l, Plain d y) : Plain (d + 1) (seqV b l)
noncomputable def resV : Res → V
  | .ok v e => .tup [.str "value", v, .int ((e : Nat) : Int)]
  | .stop p => .tup [.str "none", .int (p : Nat)]
theorem pairsV_len' : ∀ (l : List V), (pairsV l).length ≤ l.length
  | [] => Nat.le_refl _
  | [_] => Nat.zero_le _
  | x :: y :: l => by have := pairsV_len' l; simp [pairsV]; lia
theorem Plain.mono {d d' : Nat} {x : V} (h : Plain d x) (hd : d ≤ d') : Plain d' x := by
  induction h generalizing d' with
  | none => exact .none
  | bool => exact .bool
  | int => exact .int
  | str => exact .str
  | seq b hl _ ih =>
    obtain ⟨e, rfl⟩ : ∃ e, d' = e + 1 := ⟨d' - 1, by lia⟩
    exact .seq b hl fun y hy => ih y hy (by lia)
theorem Plain.tup {d : Nat} {l : List V} (hl : l.length ≤ sizeLine) (h : ∀ y ∈ l, Plain d y) : Plain (d + 1) (.tup l) := .seq true hl h
theorem Plain.lst {d : Nat} {l : List V} (hl : l.length ≤ sizeLine) (h : ∀ y ∈ l, Plain d y) : Plain (d + 1) (.lst l) := .seq false hl h
theorem plain_leaf {T : Str} {i e : Nat} {v : V} (h : LeafR T i v e) : Plain 1 v := by
  have two : ∀ {a b : V}, Plain 0 a → Plain 0 b → Plain 1 (.tup [a, b]) := fun ha hb => .tup (by show 2 ≤ _; decide) fun y hy => by
    rcases List.mem_cons.mp hy with rfl | hy
    · exact ha
    · rw [List.mem_singleton] at hy; subst hy; exact hb
  cases h with
  | null => exact .none
  | tru => exact .bool
  | fls => exact .bool
  | whole => exact two .str .str
  | broken => exact two .str .str
  | con => exact two .str .str
  | str =>
    refine .tup (by show 3 ≤ _; decide) fun y hy => ?_
    simp only [List.mem_cons, List.mem_nil_iff, or_false] at hy
    rcases hy with rfl | rfl | rfl <;> exact .str
theorem plain_pairs {d : Nat} : ∀ {l : List V}, (∀ y ∈ l, Plain d y) → ∀ y ∈ pairsV l, Plain (d + 1) y
  | [], _, y, hy => nomatch hy
  | [_], _, y, hy => nomatch hy
  | a :: b :: l, h, y, hy => by
    rw [pairsV] at hy
    rcases List.mem_cons.mp hy with rfl | hy
    · refine .tup (by show 2 ≤ _; decide) fun z hz => ?_
      rcases List.mem_cons.mp hz with rfl | hz
      · exact h _ (.head _)
      · rw [List.mem_singleton] at hz; subst hz; exact h _ (.tail _ (.head _))
    · exact plain_pairs (fun z hz => h z (.tail _ (.tail _ hz))) y hy
theorem plain_mk {d : Nat} {b : Bool} {l : List V} (hl : l.length ≤ sizeLine) (h : ∀ y ∈ l, Plain d y) : Plain (d + 3) (mkV b l) := by
  cases b with
  | false => exact (Plain.lst hl h).mono (by lia)
  | true =>
    refine .tup (by show 4 ≤ _; decide) fun y hy => ?_
    simp only [List.mem_cons, List.mem_nil_iff, or_false] at hy
    rcases hy with rfl | rfl | rfl | rfl
    · exact .str
    · exact .str
    · exact .str
    · exact .lst (Nat.le_trans (pairsV_len' l) hl) (plain_pairs h)
noncomputable def PlR (d : Nat) : Res → Prop
  | .ok v _ => Plain d v
  | .stop _ => True
theorem plain_rd {T : Str} (hT : T.cps.size ≤ sizeLine) {d i : Nat} {r : Res} (h : Rd T d i r) : PlR (3 * d + 1) r := by
  refine Rd.rec (T := T) (motive_1 := fun d i r _ => PlR (3 * d + 1) r) (motive_2 := fun d b i l r _ => l.length ≤ i → i ≤ T.cps.size → (∀ y ∈ l, Plain (3 * d + 1) y) → PlR (3 * d + 4) r) ?_ ?_ ?_ ?_ ?_ ?_ ?_ ?_ h
  · exact fun h => (plain_leaf h).mono (by lia)
  · exact fun _ _ => trivial
  · exact fun _ => trivial
  · exact fun h _ ih => ih (Nat.zero_le _) (lex_lt (by rw [h]; nofun)) (fun _ h => nomatch h)
  · exact fun h _ ih => ih (Nat.zero_le _) (lex_lt (by rw [h]; nofun)) (fun _ h => nomatch h)
  · exact fun _ h1 h2 hp => plain_mk (by lia) hp
  · exact fun _ _ _ _ _ _ => trivial
  · intro d i j b l v r _ hij hj _ _ i1 i2 h1 h2 hp
    refine i2 (by simp; lia) hj fun y hy => ?_
    rcases List.mem_append.mp hy with hy | hy
    · exact hp y hy
    · rw [List.mem_singleton] at hy; subst hy; exact i1
theorem plain_res {d : Nat} {r : Res} (h : PlR d r) : Plain (d + 1) (resV r) := by
  cases r with
  | ok v e =>
    refine .tup (by show 3 ≤ _; decide) fun y hy => ?_
    simp only [List.mem_cons, List.mem_nil_iff, or_false] at hy
    rcases hy with rfl | rfl | rfl
    · exact .str
    · exact h
    · exact .int
  | stop p =>
    refine .tup (by show 2 ≤ _; decide) fun y hy => ?_
    simp only [List.mem_cons, List.mem_nil_iff, or_false] at hy
    rcases hy with rfl | rfl
    · exact .str
    · exact .int
noncomputable def stm (n : Nat) : Option Stmt := PySem.Challenge.pw_dm0199_01.main.body[n]?
noncomputable def sub (s : Option Stmt) (n : Nat) : Option Stmt := match s with
  | some (.FunctionDef _ _ body _ _ _ _ _ _ _) => body[n]?
  | _ => none
inductive FnS (F : Fz) (f : Addr) (st : Option Stmt) (qual : Str) (clos : List (Str × Addr)) : Prop where
  | intro (name : Str) (params : Arguments) (body : List Stmt) (scope : Scope) (pos : Pos) (h1 : st = some (.FunctionDef name params body [] none [] scope none name pos)) (h2 : FnF F f name qual params body scope clos)
theorem FnS.ok {F : Fz} {f : Addr} {st : Option Stmt} {qual : Str} {clos : List (Str × Addr)} (h : FnS F f st qual clos) : KOk F (.ref f) := by obtain ⟨_, _, _, _, _, _, k⟩ := h; exact k.ok
inductive Cap (F : Fz) (clos : List (Str × Addr)) (x : Str) (y : V) : Prop where
  | intro (c : Addr) (h1 : clos.lookup x = some c) (h2 : CellF F c y)
section
variable {α : Type} {G : Glob} {fr : List Env} {A A' : Around} {env : Env} {F : Fz} {H H' : Hp} {E E' : Value → Fz → Hp → Prop} {P P' : Addr → String → List V → Bool → Fz → Hp → Prop}
theorem Cl.mono {f : V} {xs : List V} {Q Q' : V → Fz → Hp → Prop} (h : Cl G fr A F H f xs Q E) (k : ∀ x F1 H1, Q x F1 H1 → Q' x F1 H1) (e : ∀ x F1 H1, E x F1 H1 → E' x F1 H1) : Cl G fr A F H f xs Q' E' := fun K m v vs hv hvs R s hR =>
  wpAny_mono (h K m v vs hv hvs R s hR) (fun _ _ q => by obtain ⟨F1, H1, l, r, x, hx, F2, m2, q⟩ := q; exact ⟨F1, H1, l, r, x, hx, F2, m2, k _ _ _ q⟩) fun _ _ q => by obtain ⟨F1, H1, l, r, F2, m2, q⟩ := q; exact ⟨F1, H1, l, r, F2, m2, e _ _ _ q⟩
theorem Cl.up {F' : Fz} {f : V} {xs : List V} {Q : V → Fz → Hp → Prop} (h : Cl G fr A F H f xs Q E) (le : F.le F') : Cl G fr A F' H f xs Q E := fun K m => h K (le.trans m)
theorem Cl.perm {f : V} {xs : List V} {Q : V → Fz → Hp → Prop} (p : H'.Perm H) (h : Cl G fr A F H f xs Q E) : Cl G fr A F H' f xs Q E := fun K m v vs hv hvs R s hR => h K m v vs hv hvs R s (hR.perm (p.append_right R))
theorem Dn.in {P : Fz → Hp → Prop} (h : P F H) : Dn P F H := ⟨F, .refl F, h⟩
theorem Cl.dn {f : V} {xs : List V} {Q : V → Fz → Hp → Prop} (h : Cl G fr A F H f xs (fun x => Dn (Q x)) E) : Cl G fr A F H f xs Q E := fun K m v vs hv hvs R s hR =>
  wpAny_mono (h K m v vs hv hvs R s hR) (fun _ _ q => by obtain ⟨F1, H1, l, r, x, hx, F2, m2, F3, m3, q⟩ := q; exact ⟨F1, H1, l, r, x, hx, F3, m3.trans m2, q⟩) fun _ _ q => q
theorem Cl.keep {f : V} {xs : List V} {Q : V → Fz → Hp → Prop} (h : Cl G fr A F H f xs Q E) : Cl G fr A F H f xs (fun x F1 H1 => F.le F1 ∧ Dn (Q x) F1 H1) E := fun K m v vs hv hvs R s hR =>
  wpAny_mono (h K m v vs hv hvs R s hR) (fun _ _ q => by obtain ⟨F1, H1, l, r, x, hx, F2, m2, q⟩ := q; exact ⟨F1, H1, l, r, x, hx, F1, .refl _, m.trans l, F2, m2, q⟩) fun _ _ q => q
theorem Cl.under {X : Hp} {f : V} {xs : List V} {Q : V → Fz → Hp → Prop} (h : Cl G fr A F H f xs (fun x F1 H1 => Q x F1 (X ++ H1)) (fun e F1 H1 => E e F1 (X ++ H1))) : Cl G fr A F (X ++ H) f xs Q E := fun K m v vs hv hvs R s hR => by
  have p : ∀ H : Hp, ((X ++ H) ++ R).Perm (H ++ (X ++ R)) := fun H => by
    rw [← List.append_assoc]
    exact List.perm_append_comm.append_right R
  exact wpAny_mono (h K m v vs hv hvs (X ++ R) s (hR.perm (p H))) (fun _ _ q => by obtain ⟨F1, H1, l, r, x, hx, F2, m2, q⟩ := q; exact ⟨F1, X ++ H1, l, r.perm (p H1).symm, x, hx, F2, m2, q⟩) fun _ _ q => by obtain ⟨F1, H1, l, r, F2, m2, q⟩ := q; exact ⟨F1, X ++ H1, l, r.perm (p H1).symm, F2, m2, q⟩
theorem Thr0.ups {e : Value} {X : Hp} (h : Thr0 (fun x c a b F1 H1 => P x c a b F1 (X ++ H1)) e F H) : Thr0 P e F (X ++ H) := by
  obtain ⟨x, c, a, tb, cx, H1, h1, h2, h3⟩ := h
  refine ⟨x, c, a, tb, cx, X ++ H1, h1, ?_, h3⟩
  refine (List.Perm.append_left X h2).trans (List.perm_middle.trans (List.Perm.cons _ ?_))
  rw [← List.append_assoc, ← List.append_assoc]
  exact List.perm_append_comm.append_right H1
noncomputable abbrev ClD (G : Glob) (fr : List Env) (A : Around) (F : Fz) (H : Hp) (f : V) (xs : List V) (Q : V → Fz → Hp → Prop) (E : Value → Fz → Hp → Prop) : Prop := ∀ env A', Deep A A' env → Cl G (env :: fr) A' F H f xs Q E
theorem Cl.out {Xs : Hp} {f : V} {xs : List V} {Q' Q2 : V → Fz → Hp → Prop} (hD : Deep A A' env) (h : ClD G fr A F H f xs Q' (Thr0 P)) (k : ∀ x F2 H3, Q' x F2 H3 → Q2 x F2 (Xs ++ H3)) (e : ∀ x c a b F2 H3, P x c a b F2 H3 → P' x c a b F2 (Xs ++ H3)) : Cl G (env :: fr) A' F (Xs ++ H) f xs Q2 (Thr0 P') :=
  Cl.under ((h _ _ hD).mono k fun _ _ _ q => Thr0.ups (q.mono e))
theorem Cl.out1 {X : Addr × AO} {f : V} {xs : List V} {Q' Q2 : V → Fz → Hp → Prop} (hD : Deep A A' env) (h : ClD G fr A F H f xs Q' (Thr0 P)) (k : ∀ x F2 H3, Q' x F2 H3 → Q2 x F2 (X :: H3)) (e : ∀ x c a b F2 H3, P x c a b F2 H3 → P' x c a b F2 (X :: H3)) : Cl G (env :: fr) A' F (X :: H) f xs Q2 (Thr0 P') := Cl.out (Xs := [X]) hD h k e
theorem Cl.out2 {X Y : Addr × AO} {f : V} {xs : List V} {Q' Q2 : V → Fz → Hp → Prop} (hD : Deep A A' env) (h : ClD G fr A F H f xs Q' (Thr0 P)) (k : ∀ x F2 H3, Q' x F2 H3 → Q2 x F2 (X :: Y :: H3)) (e : ∀ x c a b F2 H3, P x c a b F2 H3 → P' x c a b F2 (X :: Y :: H3)) : Cl G (env :: fr) A' F (X :: Y :: H) f xs Q2 (Thr0 P') := Cl.out (Xs := [X, Y]) hD h k e
theorem Ex.drp {Q : FV → Fz → Hp → Prop} {t : Sem Flow} (d : Drp H H') (h : Ex G fr A F H' t Q E) : Ex G fr A F H t Q E := fun K m R s hR => h K m R s (hR.drp d)
theorem Cl.drpQ {f : V} {xs : List V} {Q : V → Fz → Hp → Prop} (h : Cl G fr A F H f xs (fun x F1 H1 => ∃ H2, Drp H1 H2 ∧ Q x F1 H2) E) : Cl G fr A F H f xs Q E := fun K m v vs hv hvs R s hR =>
  wpAny_mono (h K m v vs hv hvs R s hR) (fun _ _ q => by obtain ⟨F1, H1, l, r, x, hx, F2, m2, H2, d, q⟩ := q; exact ⟨F1, H2, l, r.drp d, x, hx, F2, m2, q⟩) fun _ _ q => q
inductive LvD (L : Addr) (P : Addr → String → List V → Bool → Fz → Hp → Prop) (x : Addr) (c : String) (a : List V) (b : Bool) (F : Fz) (H : Hp) : Prop where
  | intro (ρ : List (Str × Option V)) (H' H'' : Hp) (hr : Rem H L (.ns ρ) H') (hd : Drp H' H'') (q : P x c a b F H'')
theorem leaves_thrD {L : Addr} (hfr : A.frames = some fr) (hL : env.frame = some L) : Leaves G fr A env (Thr0 (LvD L P)) (Thr0 P) := fun fresh K R e s hq => by
  have cv : ∀ e s, PQ G fr K R (fun e => Dn (Thr0 (fun x c a b F H => ∃ H'', Drp H H'' ∧ P x c a b F H'') e)) e s → PQ G fr K R (fun e => Dn (Thr0 P e)) e s := fun e s q => by
    obtain ⟨K1, H1, l1, r1, F1, m1, x, c, a, tb, b, H2, e1, e2, H3, d, p⟩ := q
    have r2 : Rep G fr K1 (((x, .exc c a tb none b) :: tbH tb) ++ (H2 ++ R)) s := by
      have := r1.perm (e2.append_right R)
      simpa using this
    have r3 : Rep G fr K1 (H3 ++ (((x, .exc c a tb none b) :: tbH tb) ++ R)) s := by
      refine Rep.drp d (r2.perm ?_)
      rw [← List.append_assoc, ← List.append_assoc]
      exact List.perm_append_comm.append_right R
    refine ⟨K1, ((x, .exc c a tb none b) :: (tbH tb ++ H3)), l1, r3.perm ?_, F1, m1, x, c, a, tb, b, H3, e1, .refl _, p⟩
    show List.Perm _ ((((x, AO.exc c a tb none b) :: tbH tb) ++ H3) ++ R)
    rw [← List.append_assoc]
    exact List.perm_append_comm.append_right R
  have hq' : PQ G (env :: fr) K R (fun e => Dn (Thr0 (Lv L fun x c a b F H => ∃ H'', Drp H H'' ∧ P x c a b F H'') e)) e s := by
    obtain ⟨K1, H1, l1, r1, F1, m1, q⟩ := hq
    exact ⟨K1, H1, l1, r1, F1, m1, q.mono fun x c a b F H ⟨ρ, H', H'', h1, h2, h3⟩ => ⟨ρ, H', h1, H'', h2, h3⟩⟩
  exact wpAny_mono (leaves_thr (L := L) (P := fun x c a b F H => ∃ H'', Drp H H'' ∧ P x c a b F H'') hfr hL fresh K R e s hq') (fun _ s' q => cv _ _ q) fun e' s' q => cv _ _ q
theorem Tp.test {t : Sem Bool} {Q : Bool → Fz → Hp → Prop} (b : Bool) (h : Tp G fr A F H t (fun x F1 H1 => x = b ∧ F1 = F ∧ H1 = H) E) (k : Q b F H) : Tp G fr A F H t Q E :=
  h.mono (fun x F1 H1 q => by obtain ⟨e1, e2, e3⟩ := q; subst e1 e2 e3; exact k) fun _ _ _ e => e
end
structure Parts where
  po : V
  pa : V
  ps : V
  mb : Addr
  st : V
  pf : V
  pi : V
  pc : V
  oh : V
  oph : V
  mm : V
inductive ScanF (F : Fz) (f : Addr) (p : Parts) : Prop where
  | intro (qual : Str) (clos : List (Str × Addr)) (pat : Addr) (h0 : FnS F f (sub (stm 3) 11) qual clos) (h1 : Cap F clos "parse_object" p.po) (h2 : Cap F clos "parse_array" p.pa) (h3 : Cap F clos "parse_string" p.ps) (h4 : Cap F clos "match_number" (.ref p.mb)) (h5 : Cap F clos "strict" p.st) (h6 : Cap F clos "parse_float" p.pf) (h7 : Cap F clos "parse_int" p.pi) (h8 : Cap F clos "parse_constant" p.pc)
    (h9 : Cap F clos "object_hook" p.oh) (h10 : Cap F clos "object_pairs_hook" p.oph) (h11 : Cap F clos "memo" p.mm) (h12 : Cap F clos "_scan_once" (.ref f)) (hb : BoundF F p.mb pat) (o1 : KOk F p.po) (o2 : KOk F p.pa) (o3 : KOk F p.ps) (o4 : KOk F p.pf) (o5 : KOk F p.pi) (o6 : KOk F p.pc)
noncomputable def gtx (T : Str) : Option (Nat × Nat) → Str
  | none => ""
  | some (x, y) => ⟨T.cps.extract x y⟩
noncomputable def gok (T : Str) : Option (Nat × Nat) → Prop
  | none => True
  | some (x, y) => x < y ∧ y ≤ T.cps.size
theorem gtx_len {T : Str} {o : Option (Nat × Nat)} : (gtx T o).length ≤ T.cps.size := by
  cases o with
  | none => exact Nat.zero_le _
  | some p => exact len_le
local macro_rules | `(tactic| walk_at "k") => `(tactic| repeat (first | (with_reducible exact Has.hd) | (with_reducible apply Has.tl) | (with_reducible exact Lk.hd) | (with_reducible apply Lk.tl) | (with_reducible exact Upd.hd) | (with_reducible apply Upd.tl) | (with_reducible exact SetL.hd) | (with_reducible apply SetL.tl) | (with_reducible exact Rem.hd) | (with_reducible apply Rem.tl)))
section
variable {G : Glob} {fr : List Env} {A : Around} {env : Env} {F : Fz} {H : Hp} {E : Value → Fz → Hp → Prop} {T : Str}
theorem tr_grp {o : Option (Nat × Nat)} {Q : Bool → Fz → Hp → Prop} (hT : T.cps.size ≤ 1000000) (ho : gok T o) (h : Q o.isSome F H) : Tr G fr A F H (grp? T o) Q E := by
  cases o with
  | none => exact tr_none h
  | some p =>
    obtain ⟨x, y⟩ := p
    have hl : (T.cps.extract x y).size = y - x := by rw [Array.size_extract]; have := ho.2; lia
    refine tr_str (x := ⟨T.cps.extract x y⟩) ?_ ?_
    · show ((T.cps.extract x y).size : Int) < _
      rw [hl]; have := ho.2; lia
    · have : (((⟨T.cps.extract x y⟩ : Str).length : Int) != 0) = true := by
        show (((T.cps.extract x y).size : Int) != 0) = true
        rw [hl]; have := ho.1; simp; lia
      rw [this]; exact h
theorem or_grp {a : Expr} {o : Option (Nat × Nat)} {k pos' pos} {Q : V → Fz → Hp → Prop} (hT : T.cps.size ≤ 1000000) (ho : gok T o) (h : Ev G fr A F H (eval a env) (fun x F1 H1 => x = grp? T o ∧ Q (.str (gtx T o)) F1 H1) E) : Ev G fr A F H (eval (.BoolOp .Or [a, .Constant (.str (Str.ofString "")) k pos'] pos) env) Q E := by
  refine Ev_or (h.mono (fun x F1 H1 q => ?_) fun _ _ _ e => e)
  obtain ⟨rfl, q⟩ := q
  refine tr_grp hT ho ?_
  cases o with
  | none =>
    refine Bif (fun h => nomatch h) fun _ => ?_
    exact Ev_str q
  | some p => exact Bif (fun _ => q) fun h => nomatch h
theorem wtest {ρ : List (Str × Option V)} {i c n : Nat} {w1 w : Str} {k1 k2 k3 p1 p2 p3 p4 p5 p6 p7 p8 p9 p10 p11 pos whole} (hm : Has H env.locals (.ns ρ)) (h1 : Lk ρ (Str.ofString "nextchar") (.str ⟨#[c]⟩)) (h2 : Lk ρ (Str.ofString "string") (.str T)) (h3 : Lk ρ (Str.ofString "idx") (.int (i : Int))) (hT : T.length ≤ sizeLine) (hn : n = w.length)
    (hk : autoParam (env.scope.kind = .function) tac0) (l1 : autoParam (env.kindOf (Str.ofString "nextchar") = some .local) tac0) (l2 : autoParam (env.kindOf (Str.ofString "string") = some .local) tac0) (l3 : autoParam (env.kindOf (Str.ofString "idx") = some .local) tac0) :
    Tp G fr A F H (isTrue (.BoolOp .And [.Compare (.Name (Str.ofString "nextchar") p1) [.Eq] [.Constant (.str w1) k1 p2] p3, .Compare (.Subscript (.Name (Str.ofString "string") p4) (.Slice (some (.Name (Str.ofString "idx") p5)) (some (.BinOp (.Name (Str.ofString "idx") p6) .Add (.Constant (.int (n : Int)) k2 p7) p8)) none p9) p10) [.Eq] [.Constant (.str w) k3 p11] pos] whole) env (eval (.BoolOp .And [.Compare (.Name (Str.ofString "nextchar") p1) [.Eq] [.Constant (.str w1) k1 p2] p3, .Compare (.Subscript (.Name (Str.ofString "string") p4) (.Slice (some (.Name (Str.ofString "idx") p5)) (some (.BinOp (.Name (Str.ofString "idx") p6) .Add (.Constant (.int (n : Int)) k2 p7) p8)) none p9) p10) [.Eq] [.Constant (.str w) k3 p11] pos] whole) env)) (fun b F1 H1 => b = (chr c w1 && word T i w) ∧ F1 = F ∧ H1 = H) E := by
  subst hn
  refine It_BoolOp (It_and (It_Compare1 (Ev_local hm h1 ?_ hk l1)))
  refine Ev_str ?_
  refine eq_ss ?_
  refine ⟨_, rfl, ?_⟩
  refine Bif (fun hq => ?_) fun hq => ?_
  · refine It_and (It_Compare1 (Ev_slice_str (Ev_local hm h2 ?_ hk l2)))
    refine ⟨T, rfl, hT, EvP_some (Ev_local hm h3 ?_ hk l3)⟩
    refine ⟨_, rfl, EvP_some (Ev_BinOp (Ev_local hm h3 ?_ hk l3))⟩
    refine Ev_int ?_
    refine add_ii ?_
    refine ⟨_, rfl, ?_⟩
    refine Ev_str ?_
    refine eq_ss ?_
    refine ⟨_, rfl, ?_⟩
    refine Bif (fun hr => ?_) fun hr => ?_
    · refine It_and_nil ?_
      exact ⟨by rw [show chr c w1 = true from hq]; exact hr.symm, rfl, rfl⟩
    · exact ⟨by rw [show chr c w1 = true from hq]; exact hr.symm, rfl, rfl⟩
  · exact ⟨by rw [show chr c w1 = false from hq]; rfl, rfl, rfl⟩
end
noncomputable def ScQ (G : Glob) (fr : List Env) (A : Around) (F : Fz) (H : Hp) (f : Addr) (p : Parts) (T : Str) (i : Nat) (Q : V → Fz → Hp → Prop) (P : Addr → String → List V → Bool → Fz → Hp → Prop) : Lx → Prop
  | .str => ClD G fr A F H p.ps [.str T, .int ((i : Int) + 1), p.st] Q (Thr0 P)
  | .obj => ClD G fr A F H p.po [.tup [.str T, .int ((i : Int) + 1)], p.st, .ref f, p.oh, p.oph, p.mm] Q (Thr0 P)
  | .arr => ClD G fr A F H p.pa [.tup [.str T, .int ((i : Int) + 1)], .ref f] Q (Thr0 P)
  | .null => Q (.tup [.none, .int ((i : Int) + 4)]) F H
  | .tru => Q (.tup [.bool true, .int ((i : Int) + 4)]) F H
  | .fls => Q (.tup [.bool false, .int ((i : Int) + 5)]) F H
  | .whole n => ClD G fr A F H p.pi [.str ⟨T.cps.extract i (i + n)⟩] (fun x F2 H2 => Q (.tup [x, .int ((i + n : Nat) : Int)]) F2 H2) (Thr0 P)
  | .broken n => ClD G fr A F H p.pf [.str ⟨T.cps.extract i (i + n)⟩] (fun x F2 H2 => Q (.tup [x, .int ((i + n : Nat) : Int)]) F2 H2) (Thr0 P)
  | .con w => ClD G fr A F H p.pc [.str w] (fun x F2 H2 => Q (.tup [x, .int ((i : Int) + (w.length : Nat))]) F2 H2) (Thr0 P)
  | .stop => ∀ x b, P x "StopIteration" [.int i] b F H
theorem cat_ii : Cat "IndexError" "IndexError" true := ⟨by rw [isSubtype_type]; kernel_rfl, by rw [isSubtype_type]; kernel_rfl, by rw [isSubtype_type]; kernel_rfl⟩
structure BtS (G : Glob) : Prop where
  i0 : G.mg (Str.ofString "IndexError") = none
  i1 : G.mb (Str.ofString "IndexError") = some (.type "IndexError")
  s0 : G.mg (Str.ofString "StopIteration") = none
  s1 : G.mb (Str.ofString "StopIteration") = some (.type "StopIteration")
theorem scan {G : Glob} {fr : List Env} {A : Around} {F : Fz} {H : Hp} {f : Addr} {p : Parts} {P : Addr → String → List V → Bool → Fz → Hp → Prop} {Q : V → Fz → Hp → Prop} {T : Str} {i : Nat} (hS : ScanF F f p) (hA : Ok fr A 1) (hT : T.cps.size ≤ 1000000) (bt : BtS G)
    (h : ScQ G fr A F H f p T i Q P (lexL (T.cps.toList.drop i))) : Cl G fr A F H (.ref f) [.str T, .int i] Q (Thr0 P) := by
  obtain ⟨qual, clos, pat, hf, ⟨c1, k1, h1⟩, ⟨c2, k2, h2⟩, ⟨c3, k3, h3⟩, ⟨c4, k4, h4⟩, ⟨c5, k5, h5⟩, ⟨c6, k6, h6⟩, ⟨c7, k7, h7⟩, ⟨c8, k8, h8⟩, ⟨c9, k9, h9⟩, ⟨c10, k10, h10⟩, ⟨c11, k11, h11⟩, ⟨c12, k12, h12⟩, hb, o1, o2, o3, o4, o5, o6⟩ := hS
  obtain ⟨name, params, body, scope, pos, hst, hf⟩ := hf
  cases Option.some.inj hst.symm
  have hTs : T.length ≤ sizeLine := Nat.le_trans (show T.cps.size ≤ 1000000 from hT) (by decide)
  refine Cl.dn ?_
  refine call_fn hf [Str.ofString "string", Str.ofString "idx"] [Str.ofString "nextchar", Str.ofString "m", Str.ofString "integer", Str.ofString "frac", Str.ofString "exp", Str.ofString "res"] rfl (by decide) (fun doc pm c ctv vs hv => ?_) (by rfl) (by rfl) hA.room (fun L c => leaves_thr (L := L) hA.frames rfl) (fun L A' cd hD => ?_)
  · obtain ⟨a, b, rfl⟩ := len2 hv
    rfl
  · simp only [mkRho, List.zip, List.zipWith, List.map, List.cons_append, List.nil_append]
    have hA := hA.deep hD
    have hh := hA.handled
    obtain ⟨i0, i1, s0, s1⟩ := bt
    refine Ex_cons ?_
    cases hc : T.cps[i]? with
    | none =>
      have hi : T.cps.size ≤ i := by
        rcases Nat.lt_or_ge i T.cps.size with q | q
        · rw [Array.getElem?_eq_getElem q] at hc; cases hc
        · exact q
      rw [lex_end hi] at h
      refine Ex_Try (PB := fun x c a b F1 H1 => c = "IndexError" ∧ b = true ∧ F1 = F ∧ H1 = (L, .ns [(Str.ofString "string", some (.str T)), (Str.ofString "idx", some (.int i)), (Str.ofString "nextchar", none), (Str.ofString "m", none), (Str.ofString "integer", none), (Str.ofString "frac", none), (Str.ofString "exp", none), (Str.ofString "res", none)]) :: H) hA.frames ?_ fun x c a t b F1 H1 hq => ?_
      · refine Ex_cons ?_
        refine Ex_Assign_Name ?_
        refine' Ev_Subscript' ?_ ?_ ?_
        rotate_left 2
        refine Ev_local (by walk_at "k") (by walk_at "k") ?_
        with_reducible exact Is.mk
        refine Ev_local (by walk_at "k") (by walk_at "k") ?_
        with_reducible exact Is.mk
        exact sub_str_out hh hi fun e m => Thr0.mk .hd ⟨rfl, rfl, rfl, rfl⟩
      · obtain ⟨rfl, rfl, rfl, rfl⟩ := hq
        refine Hd_yes hA.frames i0 i1 cat_ii ?_
        refine Ex_cons ?_
        refine Ex_RaiseNone rfl owsi_raise ?_
        refine' Ev_Call' ?_ ?_ ?_ ?_
        rotate_left 2
        refine Ev_blt (by assumption) (by assumption) .typ ?_
        with_reducible exact Is.mk
        with_reducible exact KOk.typ
        refine' Evs_cons' ?_ ?_
        rotate_left 2
        refine Ev_local (by walk_at "k") (by walk_at "k") ?_
        with_reducible exact Is.mk
        exact Evs_nil'
        refine stop_new1 fun x2 => ?_
        exact ⟨x2, _, _, _, _, _, _, rfl, .hd, .hd, _, Drp.two (.tl .hd) (fun _ q => nomatch q) (.tl .hd) (fun _ q => nomatch q), Thr0.mk .hd ⟨_, _, .hd, h x2 false⟩⟩
    | some c =>
      refine Ex_Try (PB := fun _ _ _ _ _ _ => False) hA.frames ?_ fun _ _ _ _ _ _ _ hq => hq.elim
      refine Ex_cons ?_
      refine Ex_Assign_Name ?_
      refine' Ev_Subscript' ?_ ?_ ?_
      rotate_left 2
      refine Ev_local (by walk_at "k") (by walk_at "k") ?_
      with_reducible exact Is.mk
      refine Ev_local (by walk_at "k") (by walk_at "k") ?_
      with_reducible exact Is.mk
      refine sub_str (by lia) (by have := (Array.getElem?_eq_some_iff.mp hc).1; lia) (c := c) (by rw [Int.toNat_natCast]; exact hc) ?_
      refine' Store.mk ?u ?v ?_
      case u => walk_at "k"
      case v => walk_at "k"
      with_reducible refine Then.next ?_
      refine Ex_nil ?_
      with_reducible refine Then.next ?_
      refine Ex_cons ?_
      refine Ex_If ?_
      refine' It_Compare1' ?_ ?_ ?_
      rotate_left 2
      refine Ev_local (by walk_at "k") (by walk_at "k") ?_
      with_reducible exact Is.mk
      refine Ev_str ?_
      with_reducible exact Is.mk
      refine eq_ss ?_
      refine ⟨_, rfl, ?_⟩
      have thn : ∀ {F1 : Fz} {f : V} {xs : List V} {ρ : List (Str × Option V)} {env : Env} {Q' Q2 : V → Fz → Hp → Prop}, Deep A A' env → F.le F1 → ClD G fr A F H f xs Q' (Thr0 P) → (∀ x F2 H3, Q' x F2 H3 → Q2 x F2 ((L, .ns ρ) :: H3)) → Cl G (env :: fr) A' F1 ((L, .ns ρ) :: H) f xs Q2 (Thr0 (Lv L P)) :=
        fun hD le h k => (Cl.out1 hD h k fun x c a b F2 H3 q => ⟨_, _, .hd, q⟩).up le
      refine Bif (fun hb1 => ?_) fun hb1 => ?_
      · rw [lex_str hc hb1] at h
        refine Ex_cons ?_
        refine Ex_Return ?_
        refine' Ev_Call' ?_ ?_ ?_ ?_
        rotate_left 2
        refine Ev_freeF (by assumption) (by assumption) ?_
        with_reducible exact Is.mk
        exact o3
        refine' Evs_cons' ?_ ?_
        rotate_left 2
        refine Ev_local (by walk_at "k") (by walk_at "k") ?_
        with_reducible exact Is.mk
        refine' Evs_cons' ?_ ?_
        rotate_left 2
        refine' Ev_BinOp' ?_ ?_ ?_
        rotate_left 2
        refine Ev_local (by walk_at "k") (by walk_at "k") ?_
        with_reducible exact Is.mk
        refine Ev_int ?_
        with_reducible exact Is.mk
        refine add_ii ?_
        with_reducible exact Is.mk
        refine' Evs_cons' ?_ ?_
        rotate_left 2
        refine Ev_freeF (by assumption) (by assumption) ?_
        with_reducible exact Is.mk
        exact Evs_nil'
        exact thn hD (.refl F) h fun x F2 H3 q => ⟨_, _, .hd, .in q⟩
      refine Ex_cons ?_
      refine Ex_If ?_
      refine' It_Compare1' ?_ ?_ ?_
      rotate_left 2
      refine Ev_local (by walk_at "k") (by walk_at "k") ?_
      with_reducible exact Is.mk
      refine Ev_str ?_
      with_reducible exact Is.mk
      refine eq_ss ?_
      refine ⟨_, rfl, ?_⟩
      refine Bif (fun hb2 => ?_) fun hb2 => ?_
      · rw [lex_obj hc hb2] at h
        refine Ex_cons ?_
        refine Ex_Return ?_
        refine' Ev_Call' ?_ ?_ ?_ ?_
        rotate_left 2
        refine Ev_freeF (by assumption) (by assumption) ?_
        with_reducible exact Is.mk
        exact o1
        refine' Evs_cons' ?_ ?_
        rotate_left 2
        refine' Ev_Tuple' ?_ ?_ ?_
        rotate_left 1
        refine' Evs_cons' ?_ ?_
        rotate_left 2
        refine Ev_local (by walk_at "k") (by walk_at "k") ?_
        with_reducible exact Is.mk
        refine' Evs_cons' ?_ ?_
        rotate_left 2
        refine' Ev_BinOp' ?_ ?_ ?_
        rotate_left 2
        refine Ev_local (by walk_at "k") (by walk_at "k") ?_
        with_reducible exact Is.mk
        refine Ev_int ?_
        with_reducible exact Is.mk
        refine add_ii ?_
        with_reducible exact Is.mk
        exact Evs_nil'
        exact Nat.le_of_ble_eq_true rfl
        with_reducible exact Is.mk
        refine' Evs_cons' ?_ ?_
        rotate_left 2
        refine Ev_freeF (by assumption) (by assumption) ?_
        with_reducible exact Is.mk
        refine' Evs_cons' ?_ ?_
        rotate_left 2
        refine Ev_freeF (by assumption) (by assumption) ?_
        with_reducible exact Is.mk
        refine' Evs_cons' ?_ ?_
        rotate_left 2
        refine Ev_freeF (by assumption) (by assumption) ?_
        with_reducible exact Is.mk
        refine' Evs_cons' ?_ ?_
        rotate_left 2
        refine Ev_freeF (by assumption) (by assumption) ?_
        with_reducible exact Is.mk
        refine' Evs_cons' ?_ ?_
        rotate_left 2
        refine Ev_freeF (by assumption) (by assumption) ?_
        with_reducible exact Is.mk
        exact Evs_nil'
        exact thn hD (.refl F) h fun x F2 H3 q => ⟨_, _, .hd, .in q⟩
      refine Ex_cons ?_
      refine Ex_If ?_
      refine' It_Compare1' ?_ ?_ ?_
      rotate_left 2
      refine Ev_local (by walk_at "k") (by walk_at "k") ?_
      with_reducible exact Is.mk
      refine Ev_str ?_
      with_reducible exact Is.mk
      refine eq_ss ?_
      refine ⟨_, rfl, ?_⟩
      refine Bif (fun hb3 => ?_) fun hb3 => ?_
      · rw [lex_arr hc hb3] at h
        refine Ex_cons ?_
        refine Ex_Return ?_
        refine' Ev_Call' ?_ ?_ ?_ ?_
        rotate_left 2
        refine Ev_freeF (by assumption) (by assumption) ?_
        with_reducible exact Is.mk
        exact o2
        refine' Evs_cons' ?_ ?_
        rotate_left 2
        refine' Ev_Tuple' ?_ ?_ ?_
        rotate_left 1
        refine' Evs_cons' ?_ ?_
        rotate_left 2
        refine Ev_local (by walk_at "k") (by walk_at "k") ?_
        with_reducible exact Is.mk
        refine' Evs_cons' ?_ ?_
        rotate_left 2
        refine' Ev_BinOp' ?_ ?_ ?_
        rotate_left 2
        refine Ev_local (by walk_at "k") (by walk_at "k") ?_
        with_reducible exact Is.mk
        refine Ev_int ?_
        with_reducible exact Is.mk
        refine add_ii ?_
        with_reducible exact Is.mk
        exact Evs_nil'
        exact Nat.le_of_ble_eq_true rfl
        with_reducible exact Is.mk
        refine' Evs_cons' ?_ ?_
        rotate_left 2
        refine Ev_freeF (by assumption) (by assumption) ?_
        with_reducible exact Is.mk
        exact Evs_nil'
        exact thn hD (.refl F) h fun x F2 H3 q => ⟨_, _, .hd, .in q⟩
      refine Ex_cons ?_
      refine Ex_If ?_
      refine Tp.test (chr c "n" && word T i "null") (wtest .hd (by walk_at "k") (by walk_at "k") (by walk_at "k") hTs (by rfl)) ?_
      refine Bif (fun hw0 => ?_) fun hw0 => ?_
      · rw [lex_null hc hw0] at h
        refine Ex_cons ?_
        refine Ex_Return ?_
        refine' Ev_Tuple' ?_ ?_ ?_
        rotate_left 1
        refine' Evs_cons' ?_ ?_
        rotate_left 2
        refine Ev_none ?_
        with_reducible exact Is.mk
        refine' Evs_cons' ?_ ?_
        rotate_left 2
        refine' Ev_BinOp' ?_ ?_ ?_
        rotate_left 2
        refine Ev_local (by walk_at "k") (by walk_at "k") ?_
        with_reducible exact Is.mk
        refine Ev_int ?_
        with_reducible exact Is.mk
        refine add_ii ?_
        with_reducible exact Is.mk
        exact Evs_nil'
        exact Nat.le_of_ble_eq_true rfl
        with_reducible refine Then.ret ?_
        with_reducible refine Then.ret ?_
        with_reducible refine Then.ret ?_
        with_reducible refine Then.ret ?_
        with_reducible refine Then.ret ?_
        exact ⟨_, _, .hd, .in h⟩
      refine Ex_cons ?_
      refine Ex_If ?_
      refine Tp.test (chr c "t" && word T i "true") (wtest .hd (by walk_at "k") (by walk_at "k") (by walk_at "k") hTs (by rfl)) ?_
      refine Bif (fun hw1 => ?_) fun hw1 => ?_
      · rw [lex_tru hc hw1] at h
        refine Ex_cons ?_
        refine Ex_Return ?_
        refine' Ev_Tuple' ?_ ?_ ?_
        rotate_left 1
        refine' Evs_cons' ?_ ?_
        rotate_left 2
        refine Ev_bool ?_
        with_reducible exact Is.mk
        refine' Evs_cons' ?_ ?_
        rotate_left 2
        refine' Ev_BinOp' ?_ ?_ ?_
        rotate_left 2
        refine Ev_local (by walk_at "k") (by walk_at "k") ?_
        with_reducible exact Is.mk
        refine Ev_int ?_
        with_reducible exact Is.mk
        refine add_ii ?_
        with_reducible exact Is.mk
        exact Evs_nil'
        exact Nat.le_of_ble_eq_true rfl
        with_reducible refine Then.ret ?_
        with_reducible refine Then.ret ?_
        with_reducible refine Then.ret ?_
        with_reducible refine Then.ret ?_
        with_reducible refine Then.ret ?_
        with_reducible refine Then.ret ?_
        exact ⟨_, _, .hd, .in h⟩
      refine Ex_cons ?_
      refine Ex_If ?_
      refine Tp.test (chr c "f" && word T i "false") (wtest .hd (by walk_at "k") (by walk_at "k") (by walk_at "k") hTs (by rfl)) ?_
      refine Bif (fun hw2 => ?_) fun hw2 => ?_
      · rw [lex_fls hc hw2] at h
        refine Ex_cons ?_
        refine Ex_Return ?_
        refine' Ev_Tuple' ?_ ?_ ?_
        rotate_left 1
        refine' Evs_cons' ?_ ?_
        rotate_left 2
        refine Ev_bool ?_
        with_reducible exact Is.mk
        refine' Evs_cons' ?_ ?_
        rotate_left 2
        refine' Ev_BinOp' ?_ ?_ ?_
        rotate_left 2
        refine Ev_local (by walk_at "k") (by walk_at "k") ?_
        with_reducible exact Is.mk
        refine Ev_int ?_
        with_reducible exact Is.mk
        refine add_ii ?_
        with_reducible exact Is.mk
        exact Evs_nil'
        exact Nat.le_of_ble_eq_true rfl
        with_reducible refine Then.ret ?_
        with_reducible refine Then.ret ?_
        with_reducible refine Then.ret ?_
        with_reducible refine Then.ret ?_
        with_reducible refine Then.ret ?_
        with_reducible refine Then.ret ?_
        with_reducible refine Then.ret ?_
        exact ⟨_, _, .hd, .in h⟩
      refine Ex_nil ?_
      with_reducible refine Then.next ?_
      refine Ex_nil ?_
      with_reducible refine Then.next ?_
      refine Ex_nil ?_
      with_reducible refine Then.next ?_
      refine Ex_nil ?_
      with_reducible refine Then.next ?_
      refine Ex_nil ?_
      with_reducible refine Then.next ?_
      refine Ex_nil ?_
      with_reducible refine Then.next ?_
      refine Ex_cons ?_
      refine Ex_Assign_Name ?_
      refine' Ev_Call' ?_ ?_ ?_ ?_
      rotate_left 2
      refine Ev_freeF (by assumption) (by assumption) ?_
      with_reducible exact Is.mk
      exact hb.ok
      refine' Evs_cons' ?_ ?_
      rotate_left 2
      refine Ev_local (by walk_at "k") (by walk_at "k") ?_
      with_reducible exact Is.mk
      refine' Evs_cons' ?_ ?_
      rotate_left 2
      refine Ev_local (by walk_at "k") (by walk_at "k") ?_
      with_reducible exact Is.mk
      exact Evs_nil'
      have hi := (Array.getElem?_eq_some_iff.mp hc).1
      refine match_num hb hi (Nat.le_trans hT (by decide)) (fun hno => ?_) fun q hq m F1 l1 hm => ?_
      · refine' Store.mk ?u ?v ?_
        case u => walk_at "k"
        case v => walk_at "k"
        with_reducible refine Then.next ?_
        refine Ex_cons ?_
        refine Ex_If ?_
        refine' It_Compare1' ?_ ?_ ?_
        rotate_left 2
        refine Ev_local (by walk_at "k") (by walk_at "k") ?_
        with_reducible exact Is.mk
        refine Ev_none ?_
        with_reducible exact Is.mk
        refine isNot_none ?_
        refine ⟨_, rfl, ?_⟩
        refine Bif (fun hx => ?_) fun hx => ?_
        · cases hx
        refine Ex_cons ?_
        refine Ex_If ?_
        refine Tp.test (chr c "N" && word T i "NaN") (wtest .hd (by walk_at "k") (by walk_at "k") (by walk_at "k") hTs (by rfl)) ?_
        refine Bif (fun hw3 => ?_) fun hw3 => ?_
        · rw [lex_con rfl rfl hc hno hw3 (.inl ⟨rfl, rfl⟩)] at h
          refine Ex_cons ?_
          refine Ex_Return ?_
          refine Ev_Tuple ?_
          refine Evs_cons ?_
          refine' Ev_Call' ?_ ?_ ?_ ?_
          rotate_left 2
          refine Ev_freeF (by assumption) (by assumption) ?_
          with_reducible exact Is.mk
          exact o6
          refine' Evs_cons' ?_ ?_
          rotate_left 2
          refine Ev_str ?_
          with_reducible exact Is.mk
          exact Evs_nil'
          refine thn hD (.refl F) h fun x F2 H2 k => ?_
          refine Evs_cons ?_
          refine' Ev_BinOp' ?_ ?_ ?_
          rotate_left 2
          refine Ev_local (by walk_at "k") (by walk_at "k") ?_
          with_reducible exact Is.mk
          refine Ev_int ?_
          with_reducible exact Is.mk
          refine add_ii ?_
          refine Evs_nil ?_
          refine ⟨by exact Nat.le_of_ble_eq_true rfl, ?_⟩
          with_reducible refine Then.ret ?_
          with_reducible refine Then.ret ?_
          with_reducible refine Then.ret ?_
          exact ⟨_, _, .hd, .in k⟩
        refine Ex_cons ?_
        refine Ex_If ?_
        refine Tp.test (chr c "I" && word T i "Infinity") (wtest .hd (by walk_at "k") (by walk_at "k") (by walk_at "k") hTs (by rfl)) ?_
        refine Bif (fun hw4 => ?_) fun hw4 => ?_
        · rw [lex_con rfl rfl hc hno hw4 (.inr (.inl ⟨rfl, rfl⟩))] at h
          refine Ex_cons ?_
          refine Ex_Return ?_
          refine Ev_Tuple ?_
          refine Evs_cons ?_
          refine' Ev_Call' ?_ ?_ ?_ ?_
          rotate_left 2
          refine Ev_freeF (by assumption) (by assumption) ?_
          with_reducible exact Is.mk
          exact o6
          refine' Evs_cons' ?_ ?_
          rotate_left 2
          refine Ev_str ?_
          with_reducible exact Is.mk
          exact Evs_nil'
          refine thn hD (.refl F) h fun x F2 H2 k => ?_
          refine Evs_cons ?_
          refine' Ev_BinOp' ?_ ?_ ?_
          rotate_left 2
          refine Ev_local (by walk_at "k") (by walk_at "k") ?_
          with_reducible exact Is.mk
          refine Ev_int ?_
          with_reducible exact Is.mk
          refine add_ii ?_
          refine Evs_nil ?_
          refine ⟨by exact Nat.le_of_ble_eq_true rfl, ?_⟩
          with_reducible refine Then.ret ?_
          with_reducible refine Then.ret ?_
          with_reducible refine Then.ret ?_
          with_reducible refine Then.ret ?_
          exact ⟨_, _, .hd, .in k⟩
        refine Ex_cons ?_
        refine Ex_If ?_
        refine Tp.test (chr c "-" && word T i "-Infinity") (wtest .hd (by walk_at "k") (by walk_at "k") (by walk_at "k") hTs (by rfl)) ?_
        refine Bif (fun hw5 => ?_) fun hw5 => ?_
        · rw [lex_con rfl rfl hc hno hw5 (.inr (.inr ⟨rfl, rfl⟩))] at h
          refine Ex_cons ?_
          refine Ex_Return ?_
          refine Ev_Tuple ?_
          refine Evs_cons ?_
          refine' Ev_Call' ?_ ?_ ?_ ?_
          rotate_left 2
          refine Ev_freeF (by assumption) (by assumption) ?_
          with_reducible exact Is.mk
          exact o6
          refine' Evs_cons' ?_ ?_
          rotate_left 2
          refine Ev_str ?_
          with_reducible exact Is.mk
          exact Evs_nil'
          refine thn hD (.refl F) h fun x F2 H2 k => ?_
          refine Evs_cons ?_
          refine' Ev_BinOp' ?_ ?_ ?_
          rotate_left 2
          refine Ev_local (by walk_at "k") (by walk_at "k") ?_
          with_reducible exact Is.mk
          refine Ev_int ?_
          with_reducible exact Is.mk
          refine add_ii ?_
          refine Evs_nil ?_
          refine ⟨by exact Nat.le_of_ble_eq_true rfl, ?_⟩
          with_reducible refine Then.ret ?_
          with_reducible refine Then.ret ?_
          with_reducible refine Then.ret ?_
          with_reducible refine Then.ret ?_
          with_reducible refine Then.ret ?_
          exact ⟨_, _, .hd, .in k⟩
        rw [lex_stop hc ⟨hb1, hb2, hb3, hw0, hw1, hw2, hno, hw3, hw4, hw5⟩] at h
        refine Ex_cons ?_
        refine Ex_Raise hh ?_
        refine' Ev_Call' ?_ ?_ ?_ ?_
        rotate_left 2
        refine Ev_blt (by assumption) (by assumption) .typ ?_
        with_reducible exact Is.mk
        with_reducible exact KOk.typ
        refine' Evs_cons' ?_ ?_
        rotate_left 2
        refine Ev_local (by walk_at "k") (by walk_at "k") ?_
        with_reducible exact Is.mk
        exact Evs_nil'
        refine stop_new1 fun x2 => ?_
        exact ⟨x2, _, _, _, rfl, .hd, owsi_raise, Thr0.mk .hd ⟨_, _, .hd, h x2 true⟩⟩
      · have hq2 := intAt_lt hq
        have hs2 := signAt_le (T := T.cps) (lim := T.cps.size) (p := i)
        obtain ⟨n, hn, hlx⟩ := lex_num hc hq
        rw [hlx] at h
        have g1 : gok T ((fracAt T.cps T.cps.size q).map fun e => (q, e)) := by
          cases hfr : fracAt T.cps T.cps.size q with
          | none => trivial
          | some e1 => exact fracAt_lt hfr
        have g2 : gok T ((expAt T.cps T.cps.size (fracEnd T.cps T.cps.size q)).map fun e => (fracEnd T.cps T.cps.size q, e)) := by
          cases hex : expAt T.cps T.cps.size (fracEnd T.cps T.cps.size q) with
          | none => trivial
          | some e2 => exact expAt_lt hex
        have t1 : gtx T ((fracAt T.cps T.cps.size q).map fun e => (q, e)) = ⟨T.cps.extract q (fracEnd T.cps T.cps.size q)⟩ := by
          show _ = (⟨T.cps.extract q ((fracAt T.cps T.cps.size q).getD q)⟩ : Str)
          cases fracAt T.cps T.cps.size q with
          | none => exact congrArg Str.mk (by simp; lia : (#[] : Array Nat) = _)
          | some e1 => rfl
        have t2 : gtx T ((expAt T.cps T.cps.size (fracEnd T.cps T.cps.size q)).map fun e => (fracEnd T.cps T.cps.size q, e)) = ⟨T.cps.extract (fracEnd T.cps T.cps.size q) (expEnd T.cps T.cps.size (fracEnd T.cps T.cps.size q))⟩ := by
          show _ = (⟨T.cps.extract (fracEnd T.cps T.cps.size q) ((expAt T.cps T.cps.size (fracEnd T.cps T.cps.size q)).getD (fracEnd T.cps T.cps.size q))⟩ : Str)
          cases expAt T.cps T.cps.size (fracEnd T.cps T.cps.size q) with
          | none => exact congrArg Str.mk (by simp; lia : (#[] : Array Nat) = _)
          | some e1 => rfl
        have b1 : q ≤ fracEnd T.cps T.cps.size q := by
          show q ≤ (fracAt T.cps T.cps.size q).getD q
          cases hfr : fracAt T.cps T.cps.size q with
          | none => exact Nat.le_refl _
          | some e1 => exact Nat.le_of_lt (fracAt_lt hfr).1
        have b2 : fracEnd T.cps T.cps.size q ≤ expEnd T.cps T.cps.size (fracEnd T.cps T.cps.size q) := by
          show _ ≤ (expAt T.cps T.cps.size (fracEnd T.cps T.cps.size q)).getD (fracEnd T.cps T.cps.size q)
          cases hex : expAt T.cps T.cps.size (fracEnd T.cps T.cps.size q) with
          | none => exact Nat.le_refl _
          | some e1 => exact Nat.le_of_lt (expAt_lt hex).1
        have i1 : ((fracAt T.cps T.cps.size q).map fun e => (q, e)).isSome = (fracAt T.cps T.cps.size q).isSome := by cases fracAt T.cps T.cps.size q <;> rfl
        have i2 : ((expAt T.cps T.cps.size (fracEnd T.cps T.cps.size q)).map fun e => (fracEnd T.cps T.cps.size q, e)).isSome = (expAt T.cps T.cps.size (fracEnd T.cps T.cps.size q)).isSome := by cases expAt T.cps T.cps.size (fracEnd T.cps T.cps.size q) <;> rfl
        have z1 : (fracAt T.cps T.cps.size q).isSome = false → fracEnd T.cps T.cps.size q = q := fun hz => by
          show (fracAt T.cps T.cps.size q).getD q = q
          cases hfr : fracAt T.cps T.cps.size q with
          | none => rfl
          | some e1 => rw [hfr] at hz; cases hz
        have z2 : (expAt T.cps T.cps.size (fracEnd T.cps T.cps.size q)).isSome = false → expEnd T.cps T.cps.size (fracEnd T.cps T.cps.size q) = fracEnd T.cps T.cps.size q := fun hz => by
          show (expAt T.cps T.cps.size (fracEnd T.cps T.cps.size q)).getD (fracEnd T.cps T.cps.size q) = fracEnd T.cps T.cps.size q
          cases hex : expAt T.cps T.cps.size (fracEnd T.cps T.cps.size q) with
          | none => rfl
          | some e1 => rw [hex] at hz; cases hz
        rw [← i1, ← i2] at h
        rw [← i1] at z1
        rw [← i2] at z2
        generalize (fracAt T.cps T.cps.size q).map (fun e => (q, e)) = o1' at *
        generalize (expAt T.cps T.cps.size (fracEnd T.cps T.cps.size q)).map (fun e => (fracEnd T.cps T.cps.size q, e)) = o2' at *
        generalize expEnd T.cps T.cps.size (fracEnd T.cps T.cps.size q) = e2 at *
        generalize fracEnd T.cps T.cps.size q = e1 at *
        have h6 := h6.mono l1
        have h7 := h7.mono l1
        have o4 := o4.mono l1
        have o5 := o5.mono l1
        refine' Store.mk ?u ?v ?_
        case u => walk_at "k"
        case v => walk_at "k"
        with_reducible refine Then.next ?_
        refine Ex_cons ?_
        refine Ex_If ?_
        refine' It_Compare1' ?_ ?_ ?_
        rotate_left 2
        refine Ev_local (by walk_at "k") (by walk_at "k") ?_
        with_reducible exact Is.mk
        refine Ev_none ?_
        with_reducible exact Is.mk
        refine isNot_none ?_
        refine ⟨_, rfl, ?_⟩
        refine Bif (fun hx => ?_) fun hx => ?_
        · refine Ex_cons ?_
          refine Ex_Assign_Tuple (by assumption) rfl rfl ?_
          refine' Ev_method' ?_ ?_
          rotate_left 1
          refine Ev_local (by walk_at "k") (by walk_at "k") ?_
          with_reducible exact Is.mk
          refine ⟨"re.Match", _, plainAttrs_Match, slot_groups, type_groups, hm.ty, ?_⟩
          refine' MArgs.mk ?_ ?_
          rotate_left 1
          exact Evs_nil'
          refine groups hm hTs ?_
          refine ⟨_, rfl, rfl, ?_⟩
          refine Stores.cons ?_
          refine' Store.mk ?u ?v ?_
          case u => walk_at "k"
          case v => walk_at "k"
          refine Stores.cons ?_
          refine' Store.mk ?u ?v ?_
          case u => walk_at "k"
          case v => walk_at "k"
          refine Stores.cons ?_
          refine' Store.mk ?u ?v ?_
          case u => walk_at "k"
          case v => walk_at "k"
          refine Stores.nil ?_
          with_reducible refine Then.next ?_
          refine Ex_cons ?_
          refine Ex_If ?_
          refine Tp.test (o1'.isSome || o2'.isSome) ?_ ?_
          · refine It_BoolOp ?_
            refine It_or ?_
            refine It_value ?_
            refine Ev_local (by walk_at "k") (by walk_at "k") ?_
            refine tr_grp hT g1 ?_
            refine Bif (fun hq => ?_) fun hq => ?_
            · exact ⟨by rw [hq]; rfl, rfl, rfl⟩
            refine It_or ?_
            refine It_value ?_
            refine Ev_local (by walk_at "k") (by walk_at "k") ?_
            refine tr_grp hT g2 ?_
            refine Bif (fun hr => ?_) fun hr => ?_
            · exact ⟨by rw [hq, hr]; rfl, rfl, rfl⟩
            refine It_or_nil ?_
            exact ⟨by rw [hq, hr]; rfl, rfl, rfl⟩
          refine Bif (fun hx => ?_) fun hx => ?_
          · rw [if_pos hx] at h
            have hn' : e2 = i + n := hn
            subst hn'
            refine Ex_cons ?_
            refine Ex_Assign_Name ?_
            refine Ev_Call ?_
            refine Ev_freeF (by assumption) (by assumption) ?_
            refine ⟨o4, ?_⟩
            refine Evs_cons (Ev_BinOp (Ev_BinOp ?_))
            refine Ev_local .hd (by walk_at "k") ?_
            refine or_grp hT g1 ?_
            refine Ev_local .hd (by walk_at "k") ⟨rfl, ?_⟩
            refine add_ss ?_ ?_
            · have h1 := len_le (T := T) (x := i) (y := q)
              have h2 := gtx_len (T := T) (o := o1')
              show _ ≤ 16777216
              lia
            refine or_grp hT g2 ?_
            refine Ev_local .hd (by walk_at "k") ⟨rfl, ?_⟩
            refine add_ss ?_ ?_
            · have h1 := len_le (T := T) (x := i) (y := q)
              have h2 := gtx_len (T := T) (o := o1')
              have h3 := gtx_len (T := T) (o := o2')
              rw [strLen_append]
              show _ ≤ 16777216
              lia
            rw [t1, t2, ext_app (by lia) b1, ext_app (by lia) b2]
            refine Evs_nil ?_
            refine (thn (Q2 := fun x F2 H2 => ∃ H3, H2 = (L, .ns _) :: H3 ∧ Q (.tup [x, .int ((i + n : Nat) : Int)]) F2 H3) hD l1 h fun x F2 H2 k => ⟨_, rfl, k⟩).keep.mono (fun x F2 H2 k => ?_) fun _ _ _ e => e
            obtain ⟨l2, F3, l3, H3, rfl, k⟩ := k
            have hm := hm.mono l2
            refine' Store.mk ?u ?v ?_
            case u => walk_at "k"
            case v => walk_at "k"
            with_reducible refine Then.next ?_
            refine Ex_nil ?_
            with_reducible refine Then.next ?_
            refine Ex_cons ?_
            refine Ex_Return ?_
            refine Ev_Tuple ?_
            refine Evs_cons ?_
            refine Ev_local (by walk_at "k") (by walk_at "k") ?_
            refine Evs_cons ?_
            refine' Ev_method' ?_ ?_
            rotate_left 1
            refine Ev_local (by walk_at "k") (by walk_at "k") ?_
            with_reducible exact Is.mk
            refine ⟨"re.Match", _, plainAttrs_Match, slot_end, type_end, hm.ty, ?_⟩
            refine' MArgs.mk ?_ ?_
            rotate_left 1
            exact Evs_nil'
            refine mend hm ?_
            refine Evs_nil ?_
            refine ⟨by exact Nat.le_of_ble_eq_true rfl, ?_⟩
            with_reducible refine Then.ret ?_
            with_reducible refine Then.ret ?_
            exact ⟨_, _, .hd, F3, l3, k⟩
          · rw [if_neg (by rw [hx]; simp)] at h
            rw [Bool.or_eq_false_iff] at hx
            have hn' : e2 = i + n := hn
            have hqn : q = i + n := by have := z1 hx.1; have := z2 hx.2; lia
            subst hn'
            subst hqn
            refine Ex_cons ?_
            refine Ex_Assign_Name ?_
            refine' Ev_Call' ?_ ?_ ?_ ?_
            rotate_left 2
            refine Ev_freeF (by assumption) (by assumption) ?_
            with_reducible exact Is.mk
            exact o5
            refine' Evs_cons' ?_ ?_
            rotate_left 2
            refine Ev_local (by walk_at "k") (by walk_at "k") ?_
            with_reducible exact Is.mk
            exact Evs_nil'
            refine (thn (Q2 := fun x F2 H2 => ∃ H3, H2 = (L, .ns _) :: H3 ∧ Q (.tup [x, .int ((i + n : Nat) : Int)]) F2 H3) hD l1 h fun x F2 H2 k => ⟨_, rfl, k⟩).keep.mono (fun x F2 H2 k => ?_) fun _ _ _ e => e
            obtain ⟨l2, F3, l3, H3, rfl, k⟩ := k
            have hm := hm.mono l2
            refine' Store.mk ?u ?v ?_
            case u => walk_at "k"
            case v => walk_at "k"
            with_reducible refine Then.next ?_
            refine Ex_nil ?_
            with_reducible refine Then.next ?_
            refine Ex_cons ?_
            refine Ex_Return ?_
            refine Ev_Tuple ?_
            refine Evs_cons ?_
            refine Ev_local (by walk_at "k") (by walk_at "k") ?_
            refine Evs_cons ?_
            refine' Ev_method' ?_ ?_
            rotate_left 1
            refine Ev_local (by walk_at "k") (by walk_at "k") ?_
            with_reducible exact Is.mk
            refine ⟨"re.Match", _, plainAttrs_Match, slot_end, type_end, hm.ty, ?_⟩
            refine' MArgs.mk ?_ ?_
            rotate_left 1
            exact Evs_nil'
            refine mend hm ?_
            refine Evs_nil ?_
            refine ⟨by exact Nat.le_of_ble_eq_true rfl, ?_⟩
            with_reducible refine Then.ret ?_
            with_reducible refine Then.ret ?_
            exact ⟨_, _, .hd, F3, l3, k⟩
        · cases hx
noncomputable def fnData (st : Stmt) (pm cd : Value) : FuncData := match st with
  | .FunctionDef name args body _ _ _ scope _ _ _ => { name, qualname := name, params := args, body := .stmts body, scope, globals := mainGlobals, closure := [], defaults := .none, kwdefaults := .none, pyModule := pm, code := cd, builtins := builtinsNs }
  | _ => default
inductive IsDefC (F : Fz) (st : Option Stmt) (a c : Addr) : Prop where
  | intro (s : Stmt) (o : Obj) (pm : Value) (h1 : st = some s) (h2 : F a = some o) (h3 : o.data = .func (fnData s pm (.ref c))) (h4 : CodeF F (.ref c) (fnData s pm (.ref c)).qualname)
noncomputable def IsDef (F : Fz) (st : Option Stmt) (a : Addr) : Prop := ∃ c, IsDefC F st a c
theorem IsDefC.mono {F F' : Fz} {st : Option Stmt} {a c : Addr} (le : F.le F') (h : IsDefC F st a c) : IsDefC F' st a c := by obtain ⟨s, o, pm, h1, h2, h3, h4⟩ := h; exact ⟨s, o, pm, h1, le _ _ h2, h3, h4.mono le⟩
theorem IsDef.mono {F F' : Fz} {st : Option Stmt} {a : Addr} (le : F.le F') (h : IsDef F st a) : IsDef F' st a := by obtain ⟨c, h⟩ := h; exact ⟨c, h.mono le⟩
theorem IsDefC.ok {F : Fz} {st : Option Stmt} {a c : Addr} (h : IsDefC F st a c) : KOk F (.ref a) := by obtain ⟨_, _, _, _, h2, h3, _⟩ := h; exact .fn h2 h3
theorem IsDef.ok {F : Fz} {st : Option Stmt} {a : Addr} (h : IsDef F st a) : KOk F (.ref a) := by obtain ⟨_, h⟩ := h; exact h.ok
theorem Ex_cellF {G : Glob} {fr : List Env} {A : Around} {F : Fz} {H H1 : Hp} {t : Sem Flow} {Q : FV → Fz → Hp → Prop} {E : Value → Fz → Hp → Prop} {c : Addr} {y : V} (hr : Rem H c (.cell (some y)) H1) (h : ∀ F', F.le F' → CellF F' c y → Ex G fr A F' H1 t Q E) : Ex G fr A F H t Q E := fun K m R s hR => by
  obtain ⟨o, ⟨v, hd, hv⟩, le, r⟩ := Rep.freeze (hR.perm (hr.perm.append_right R)) (fun _ e => nomatch e)
  exact (h _ (m.trans le) ⟨o, v, Fz.add_self _ _ _, hd, hv.mono le⟩).last (.refl _) r le
inductive Cells (F : Fz) : List Addr → List V → Prop where
  | nil : Cells F [] []
  | cons {c : Addr} {y : V} {cs : List Addr} {ys : List V} (h : CellF F c y) (t : Cells F cs ys) : Cells F (c :: cs) (y :: ys)
inductive RemC : Hp → List Addr → List V → Hp → Prop where
  | nil {H : Hp} : RemC H [] [] H
  | cons {H H1 H2 : Hp} {c : Addr} {y : V} {cs : List Addr} {ys : List V} (hr : Rem H c (.cell (some y)) H1) (t : RemC H1 cs ys H2) : RemC H (c :: cs) (y :: ys) H2
theorem RemC.freeze {G : Glob} {fr : List Env} {R : Hp} {s : Shared} {H H1 : Hp} {cs : List Addr} {ys : List V} (hr : RemC H cs ys H1) : ∀ {K : Fz}, Rep G fr K (H ++ R) s → ∃ K', K.le K' ∧ Rep G fr K' (H1 ++ R) s ∧ Cells K' cs ys := by
  induction hr with
  | nil => exact fun r => ⟨_, .refl _, r, .nil⟩
  | cons hr _ ih =>
    intro K r
    obtain ⟨o, ⟨v, hd, hv⟩, le, r1⟩ := Rep.freeze (r.perm (hr.perm.append_right R)) (fun _ e => nomatch e)
    obtain ⟨K2, l2, r2, h2⟩ := ih r1
    exact ⟨K2, le.trans l2, r2, .cons (CellF.mono l2 ⟨o, v, Fz.add_self _ _ _, hd, hv.mono le⟩) h2⟩
theorem Cells.get {F : Fz} {cs : List Addr} {ys : List V} (h : Cells F cs ys) : ∀ (i : Nat) {c : Addr} {y : V}, cs[i]? = some c → ys[i]? = some y → CellF F c y := by
  induction h with
  | nil => intro i c y e; simp at e
  | cons h _ ih =>
    intro i c y e1 e2
    cases i with
    | zero => simp at e1 e2; subst e1 e2; exact h
    | succ i => simp at e1 e2; exact ih i e1 e2
theorem Ex_cells {G : Glob} {fr : List Env} {A : Around} {F : Fz} {H H1 : Hp} {t : Sem Flow} {Q : FV → Fz → Hp → Prop} {E : Value → Fz → Hp → Prop} {cs : List Addr} {ys : List V} (hr : RemC H cs ys H1) (h : ∀ F', F.le F' → Cells F' cs ys → Ex G fr A F' H1 t Q E) : Ex G fr A F H t Q E := fun K m R s hR => by
  obtain ⟨K', le, r, hc⟩ := hr.freeze hR
  exact (h _ (m.trans le) hc).last (.refl _) r le
theorem Has.of_upd {H H' : Hp} {a : Addr} {x x' : AO} (h : Upd H a x x' H') : Has H a x := by
  induction h with
  | hd => exact .hd
  | tl _ ih => exact .tl ih
local macro_rules | `(tactic| walk_at "remc") => `(tactic| repeat (first | (with_reducible exact RemC.nil) | ((with_reducible apply RemC.cons); walk_at "k")))
inductive OuterF (F : Fz) (g f m : Addr) : Prop where
  | intro (qual : Str) (clos : List (Str × Addr)) (h1 : FnS F g (sub (stm 3) 12) qual clos) (h2 : Cap F clos "_scan_once" (.ref f)) (h3 : Cap F clos "memo" (.ref m))
theorem OuterF.ok {F : Fz} {g f m : Addr} (h : OuterF F g f m) : KOk F (.ref g) := by obtain ⟨a, b, h1, h2, h3⟩ := h; exact h1.ok
theorem ScanF.ok {F : Fz} {f : Addr} {p : Parts} (h : ScanF F f p) : KOk F (.ref f) := by obtain ⟨_, _, _, h0, _⟩ := h; exact h0.ok
inductive Emp (m : Addr) (Q : Fz → Hp → Prop) (F : Fz) (H : Hp) : Prop where
  | intro (l : List (V × V)) (H2 : Hp) (hu : Upd H m (.dict l) (.dict []) H2) (hl : l.length ≤ sizeLine) (h : Q F H2)
inductive Hd1 (p : Addr × AO) (P : Fz → Hp → Prop) (F : Fz) (H : Hp) : Prop where
  | intro (H3 : Hp) (e : H = p :: H3) (h : P F H3)
theorem scan_outer {G : Glob} {fr : List Env} {A : Around} {F : Fz} {H : Hp} {g f m : Addr} {P : Addr → String → List V → Bool → Fz → Hp → Prop} {Q : V → Fz → Hp → Prop} {T i : V} (hO : OuterF F g f m) (hk : KOk F (.ref f)) (hA : Ok fr A 1)
    (h : ClD G fr A F H (.ref f) [T, i] (fun x => Emp m (Q x)) (Thr0 fun x c a b => Emp m (P x c a b))) : Cl G fr A F H (.ref g) [T, i] Q (Thr0 P) := by
  obtain ⟨qual, clos, hf, ⟨c1, k1, h1⟩, ⟨c2, k2, h2⟩⟩ := hO
  obtain ⟨name, params, body, scope, pos, hst, hf⟩ := hf
  cases Option.some.inj hst.symm
  refine Cl.dn ?_
  refine call_fn (E' := fun L => Thr0 (Lv L fun x c a b => Dn (P x c a b))) hf [Str.ofString "string", Str.ofString "idx"] [] rfl (by decide) (fun doc pm c ctv vs hv => ?_) (by rfl) (by rfl) hA.room (fun L c fresh K R e s hq => ?_) (fun L A' cd hD => ?_)
  · obtain ⟨a, b, rfl⟩ := len2 hv
    rfl
  · refine wpAny_mono (leaves_thr (L := L) (P := fun x c a b F H => Dn (P x c a b) F H) hA.frames rfl fresh K R e s hq) (fun _ s' q => ?_) fun e' s' q => ?_
    · obtain ⟨K1, H1, l1, r1, F1, m1, x, c, a, tb, b, H2, e1, e2, F3, l3, q⟩ := q
      exact ⟨K1, H1, l1, r1, F3, l3.trans m1, x, c, a, tb, b, H2, e1, e2, q⟩
    · obtain ⟨K1, H1, l1, r1, F1, m1, x, c, a, tb, b, H2, e1, e2, F3, l3, q⟩ := q
      exact ⟨K1, H1, l1, r1, F3, l3.trans m1, x, c, a, tb, b, H2, e1, e2, q⟩
  · simp only [mkRho, List.zip, List.zipWith, List.map, List.cons_append, List.nil_append]
    have hA := hA.deep hD
    have hh := hA.handled
    refine Ex_cons ?_
    refine Ex_Finally (PB := fun x c a b F1 H1 => F.le F1 ∧ Hd1 (L, .ns [(Str.ofString "string", some T), (Str.ofString "idx", some i)]) (Dn (Emp m (P x c a b))) F1 H1) hA.frames ?_ fun x c a t b F1 H1 hq => ?_
    · refine Ex_cons ?_
      refine Ex_Return ?_
      refine' Ev_Call' ?_ ?_ ?_ ?_
      rotate_left 2
      refine Ev_freeF (by assumption) (by assumption) ?_
      with_reducible exact Is.mk
      exact hk
      refine' Evs_cons' ?_ ?_
      rotate_left 2
      refine Ev_local (by walk_at "k") (by walk_at "k") ?_
      with_reducible exact Is.mk
      refine' Evs_cons' ?_ ?_
      rotate_left 2
      refine Ev_local (by walk_at "k") (by walk_at "k") ?_
      with_reducible exact Is.mk
      exact Evs_nil'
      have h0 := (Cl.out1 (X := (L, .ns [(Str.ofString "string", some T), (Str.ofString "idx", some i)])) (Q2 := fun x => Hd1 (L, .ns [(Str.ofString "string", some T), (Str.ofString "idx", some i)]) (Emp m (Q x))) (P' := fun x c a b => Hd1 (L, .ns [(Str.ofString "string", some T), (Str.ofString "idx", some i)]) (Emp m (P x c a b))) hD h (fun x F2 H3 q => ⟨_, rfl, q⟩) fun x c a b F2 H3 q => ⟨_, rfl, q⟩)
      intro K mK v vs hv hvs R s hR
      refine wpAny_mono (h0.keep K mK v vs hv hvs R s hR) (fun v1 s1 hq => ?_) fun e s1 hq => ?_
      · obtain ⟨K1, H1, l1, r1, x, hx, F1, m1, le1, F2, m2, H3, rfl, l, H4, hu, hl, q⟩ := hq
        refine ⟨K1, _, l1, r1, x, hx, F1, m1, ?_⟩
        have h2 := h2.mono le1
        show Ex _ _ _ _ _ _ _ _
        refine Ex_cons ?_
        refine Ex_Expr ?_
        refine' Ev_method' ?_ ?_
        rotate_left 1
        refine Ev_freeF (by assumption) (by assumption) ?_
        with_reducible exact Is.mk
        refine ⟨"dict", _, PySem.F.plainAttrs_dict, PySem.F.slot_dict_clear, PySem.F.type_dict_clear, .dict (.tl (Has.of_upd hu)), ?_⟩
        refine' MArgs.mk ?_ ?_
        rotate_left 1
        exact Evs_nil'
        refine clear (.tl hu) hl ?_
        refine ⟨rfl, ?_⟩
        with_reducible refine Then.next ?_
        refine Ex_nil ?_
        exact ⟨rfl, _, _, .hd, F2, m2, q⟩
      · obtain ⟨K1, H1, l1, r1, F1, m1, x, c, a, tb, b, H2, e1, e2, H3, rfl, q⟩ := hq
        exact ⟨K1, H1, l1, r1, K1, .refl _, x, c, a, tb, b, _, e1, e2, mK.trans l1, H3, rfl, F1, m1, q⟩
    · obtain ⟨le1, H2, rfl, F2, m2, l, H4, hu, hl, q⟩ := hq
      have h2 := h2.mono le1
      refine Ex_cons ?_
      refine Ex_Expr ?_
      refine' Ev_method' ?_ ?_
      rotate_left 1
      refine Ev_freeF (by assumption) (by assumption) ?_
      with_reducible exact Is.mk
      refine ⟨"dict", _, PySem.F.plainAttrs_dict, PySem.F.slot_dict_clear, PySem.F.type_dict_clear, .dict (.tl (.tl (.tl (Has.of_upd hu)))), ?_⟩
      refine' MArgs.mk ?_ ?_
      rotate_left 1
      exact Evs_nil'
      refine clear (.tl (.tl (.tl hu))) hl ?_
      refine ⟨rfl, ?_⟩
      with_reducible refine Then.next ?_
      refine Ex_nil ?_
      exact ⟨rfl, _, rfl, _, _, .hd, F2, m2, q⟩
structure CtxA (ρ : List (Str × V)) (p : Parts) : Prop where
  po : ρ.lookup (Str.ofString "parse_object") = some p.po
  pa : ρ.lookup (Str.ofString "parse_array") = some p.pa
  ps : ρ.lookup (Str.ofString "parse_string") = some p.ps
  st : ρ.lookup (Str.ofString "strict") = some p.st
  pf : ρ.lookup (Str.ofString "parse_float") = some p.pf
  pi : ρ.lookup (Str.ofString "parse_int") = some p.pi
  pc : ρ.lookup (Str.ofString "parse_constant") = some p.pc
  oh : ρ.lookup (Str.ofString "object_hook") = some p.oh
  oph : ρ.lookup (Str.ofString "object_pairs_hook") = some p.oph
  mm : ρ.lookup (Str.ofString "memo") = some p.mm
theorem nl1 : typeLookup (.type "Exception") "parse_object" = pure none := by rw [typeLookup_type, builtinLookup_eq_fast]; kernel_rfl
theorem nl2 : typeLookup (.type "Exception") "parse_array" = pure none := by rw [typeLookup_type, builtinLookup_eq_fast]; kernel_rfl
theorem nl3 : typeLookup (.type "Exception") "parse_string" = pure none := by rw [typeLookup_type, builtinLookup_eq_fast]; kernel_rfl
theorem nl4 : typeLookup (.type "Exception") "strict" = pure none := by rw [typeLookup_type, builtinLookup_eq_fast]; kernel_rfl
theorem nl5 : typeLookup (.type "Exception") "parse_float" = pure none := by rw [typeLookup_type, builtinLookup_eq_fast]; kernel_rfl
theorem nl6 : typeLookup (.type "Exception") "parse_int" = pure none := by rw [typeLookup_type, builtinLookup_eq_fast]; kernel_rfl
theorem nl7 : typeLookup (.type "Exception") "parse_constant" = pure none := by rw [typeLookup_type, builtinLookup_eq_fast]; kernel_rfl
theorem nl8 : typeLookup (.type "Exception") "object_hook" = pure none := by rw [typeLookup_type, builtinLookup_eq_fast]; kernel_rfl
theorem nl9 : typeLookup (.type "Exception") "object_pairs_hook" = pure none := by rw [typeLookup_type, builtinLookup_eq_fast]; kernel_rfl
theorem nl10 : typeLookup (.type "Exception") "memo" = pure none := by rw [typeLookup_type, builtinLookup_eq_fast]; kernel_rfl
theorem make {G : Glob} {fr : List Env} {A : Around} {F : Fz} {H1 : Hp} {a c P x D pat m : Addr} {args : List V} {cx : Bool} {ρ : List (Str × V)} {p : Parts} {E : Value → Fz → Hp → Prop} {Q : V → Fz → Hp → Prop} {l0 : List (Nat × Nat × Addr)}
    (hf : IsDefC F (stm 3) a c) (hC : CodeOk F c P) (hB : BOk G P) (hA : Ok fr A 1) (hN : G.mg (Str.ofString "NUMBER_RE") = some (.ref pat)) (hpat : PatF F pat)
    (hρ : CtxA ρ p) (hmm : p.mm = .ref m) (nb : noBlt p.po ∧ noBlt p.pa ∧ noBlt p.ps ∧ noBlt p.st ∧ noBlt p.pf ∧ noBlt p.pi ∧ noBlt p.pc ∧ noBlt p.oh ∧ noBlt p.oph)
    (ok : KOk F p.po ∧ KOk F p.pa ∧ KOk F p.ps ∧ KOk F p.pf ∧ KOk F p.pi ∧ KOk F p.pc) (hl0 : l0 = [])
    (h : ∀ F' g f mb l, F.le F' → OuterF F' g f m → ScanF F' f { p with mb } → Q (.ref g) F' ((P, .raw (tabObj (tabOf l))) :: (x, .exc "Exception" args none (some D) cx) :: (D, .attrs ρ) :: H1)) :
    Cl G fr A F ((P, .raw (tabObj (tabOf l0))) :: (x, .exc "Exception" args none (some D) cx) :: (D, .attrs ρ) :: H1) (.ref a) [.ref x] Q E := by
  subst hl0
  obtain ⟨n1, n2, n3, n4, n5, n6, n7, n8, n9⟩ := nb
  obtain ⟨o1, o2, o3, o5, o6, o7⟩ := ok
  obtain ⟨s, o, pm, hs, hf, hd, hc⟩ := hf
  obtain rfl := Option.some.inj hs.symm
  refine call_cells hf hd hc [true] [Str.ofString "context"] [Str.ofString "scan_once"] [Str.ofString "strict", Str.ofString "parse_string", Str.ofString "parse_object", Str.ofString "parse_int", Str.ofString "parse_float", Str.ofString "parse_constant", Str.ofString "parse_array", Str.ofString "object_pairs_hook", Str.ofString "object_hook", Str.ofString "memo", Str.ofString "match_number", Str.ofString "_scan_once"] rfl (by decide) (by decide) (fun vs hv => ?_) (by rfl) (by rfl) (fun n => rfl) (by decide) (by rfl) rfl hA.room (fun _ _ => leaves_no) (fun L cs A' hcs hD => ?_)
  · obtain ⟨a, rfl⟩ := len1 hv
    rfl
  · obtain ⟨c12, t0, rfl, h0⟩ := lenC hcs
    obtain ⟨c11, t1, rfl, h1⟩ := lenC h0
    obtain ⟨c10, t2, rfl, h2⟩ := lenC h1
    obtain ⟨c9, t3, rfl, h3⟩ := lenC h2
    obtain ⟨c8, t4, rfl, h4⟩ := lenC h3
    obtain ⟨c7, t5, rfl, h5⟩ := lenC h4
    obtain ⟨c6, t6, rfl, h6⟩ := lenC h5
    obtain ⟨c5, t7, rfl, h7⟩ := lenC h6
    obtain ⟨c4, t8, rfl, h8⟩ := lenC h7
    obtain ⟨c3, t9, rfl, h9⟩ := lenC h8
    obtain ⟨c2, t10, rfl, h10⟩ := lenC h9
    obtain ⟨c1, t11, rfl, h11⟩ := lenC h10
    obtain rfl := len0 h11
    have hA := hA.deep hD
    have hh := hA.handled
    show Ex _ _ _ _ ((L, AO.ns [(Str.ofString "context", some (.ref x)), (Str.ofString "scan_once", none)]) :: (c12, AO.cell none) :: (c11, AO.cell none) :: (c10, AO.cell none) :: (c9, AO.cell none) :: (c8, AO.cell none) :: (c7, AO.cell none) :: (c6, AO.cell none) :: (c5, AO.cell none) :: (c4, AO.cell none) :: (c3, AO.cell none) :: (c2, AO.cell none) :: (c1, AO.cell none) :: (P, AO.raw (tabObj (tabOf []))) :: (x, AO.exc "Exception" args none (some D) cx) :: (D, AO.attrs ρ) :: H1) _ _ _
    refine Ex_cons ?_
    refine Ex_Assign_NameC ?_
    refine' Ev_Attribute' ?_ ?_
    rotate_left 1
    refine Ev_local (by walk_at "k") (by walk_at "k") ?_
    with_reducible exact Is.mk
    refine get_exc (c := "") (by walk_at "k") (by walk_at "k") hρ.po n1 nl1 ?_
    refine' StoreC.mk ?l ?u ?_
    case l => rfl
    case u => walk_at "k"
    with_reducible refine Then.next ?_
    refine Ex_cons ?_
    refine Ex_Assign_NameC ?_
    refine' Ev_Attribute' ?_ ?_
    rotate_left 1
    refine Ev_local (by walk_at "k") (by walk_at "k") ?_
    with_reducible exact Is.mk
    refine get_exc (c := "") (by walk_at "k") (by walk_at "k") hρ.pa n2 nl2 ?_
    refine' StoreC.mk ?l ?u ?_
    case l => rfl
    case u => walk_at "k"
    with_reducible refine Then.next ?_
    refine Ex_cons ?_
    refine Ex_Assign_NameC ?_
    refine' Ev_Attribute' ?_ ?_
    rotate_left 1
    refine Ev_local (by walk_at "k") (by walk_at "k") ?_
    with_reducible exact Is.mk
    refine get_exc (c := "") (by walk_at "k") (by walk_at "k") hρ.ps n3 nl3 ?_
    refine' StoreC.mk ?l ?u ?_
    case l => rfl
    case u => walk_at "k"
    with_reducible refine Then.next ?_
    refine Ex_cons ?_
    refine Ex_Assign_NameC ?_
    refine' Ev_Attribute' ?_ ?_
    rotate_left 1
    refine Ev_global (by assumption) .ref ?_
    with_reducible exact Is.mk
    refine get_match hpat fun mb F1 l1 hbd => ?_
    have hC := hC.mono l1
    refine' StoreC.mk ?l ?u ?_
    case l => rfl
    case u => walk_at "k"
    with_reducible refine Then.next ?_
    refine Ex_cons ?_
    refine Ex_Assign_NameC ?_
    refine' Ev_Attribute' ?_ ?_
    rotate_left 1
    refine Ev_local (by walk_at "k") (by walk_at "k") ?_
    with_reducible exact Is.mk
    refine get_exc (c := "") (by walk_at "k") (by walk_at "k") hρ.st n4 nl4 ?_
    refine' StoreC.mk ?l ?u ?_
    case l => rfl
    case u => walk_at "k"
    with_reducible refine Then.next ?_
    refine Ex_cons ?_
    refine Ex_Assign_NameC ?_
    refine' Ev_Attribute' ?_ ?_
    rotate_left 1
    refine Ev_local (by walk_at "k") (by walk_at "k") ?_
    with_reducible exact Is.mk
    refine get_exc (c := "") (by walk_at "k") (by walk_at "k") hρ.pf n5 nl5 ?_
    refine' StoreC.mk ?l ?u ?_
    case l => rfl
    case u => walk_at "k"
    with_reducible refine Then.next ?_
    refine Ex_cons ?_
    refine Ex_Assign_NameC ?_
    refine' Ev_Attribute' ?_ ?_
    rotate_left 1
    refine Ev_local (by walk_at "k") (by walk_at "k") ?_
    with_reducible exact Is.mk
    refine get_exc (c := "") (by walk_at "k") (by walk_at "k") hρ.pi n6 nl6 ?_
    refine' StoreC.mk ?l ?u ?_
    case l => rfl
    case u => walk_at "k"
    with_reducible refine Then.next ?_
    refine Ex_cons ?_
    refine Ex_Assign_NameC ?_
    refine' Ev_Attribute' ?_ ?_
    rotate_left 1
    refine Ev_local (by walk_at "k") (by walk_at "k") ?_
    with_reducible exact Is.mk
    refine get_exc (c := "") (by walk_at "k") (by walk_at "k") hρ.pc n7 nl7 ?_
    refine' StoreC.mk ?l ?u ?_
    case l => rfl
    case u => walk_at "k"
    with_reducible refine Then.next ?_
    refine Ex_cons ?_
    refine Ex_Assign_NameC ?_
    refine' Ev_Attribute' ?_ ?_
    rotate_left 1
    refine Ev_local (by walk_at "k") (by walk_at "k") ?_
    with_reducible exact Is.mk
    refine get_exc (c := "") (by walk_at "k") (by walk_at "k") hρ.oh n8 nl8 ?_
    refine' StoreC.mk ?l ?u ?_
    case l => rfl
    case u => walk_at "k"
    with_reducible refine Then.next ?_
    refine Ex_cons ?_
    refine Ex_Assign_NameC ?_
    refine' Ev_Attribute' ?_ ?_
    rotate_left 1
    refine Ev_local (by walk_at "k") (by walk_at "k") ?_
    with_reducible exact Is.mk
    refine get_exc (c := "") (by walk_at "k") (by walk_at "k") hρ.oph n9 nl9 ?_
    refine' StoreC.mk ?l ?u ?_
    case l => rfl
    case u => walk_at "k"
    with_reducible refine Then.next ?_
    refine Ex_cons ?_
    refine Ex_Assign_NameC ?_
    refine' Ev_Attribute' ?_ ?_
    rotate_left 1
    refine Ev_local (by walk_at "k") (by walk_at "k") ?_
    with_reducible exact Is.mk
    refine get_exc (c := "") (by walk_at "k") (by walk_at "k") hρ.mm (by rw [hmm]; trivial) nl10 ?_
    refine' StoreC.mk ?l ?u ?_
    case l => rfl
    case u => walk_at "k"
    with_reducible refine Then.next ?_
    refine Ex_cons ?_
    refine Ex_FunctionDef rfl hC hB (by walk_at "k") rfl rfl fun f cf F2 l2 hf2 => ?_
    refine Sto_c ?_
    refine' StoreC.mk ?l ?u ?_
    case l => rfl
    case u => walk_at "k"
    with_reducible refine Then.next ?_
    refine Ex_cons ?_
    refine Ex_FunctionDef rfl (hC.mono l2) hB (by walk_at "k") rfl rfl fun g cg F3 l3 hf3 => ?_
    refine Sto_l ?_
    refine' Store.mk ?u ?v ?_
    case u => walk_at "k"
    case v => walk_at "k"
    with_reducible refine Then.next ?_
    refine Ex_cons ?_
    refine Ex_cells (cs := [c12, c11, c10, c9, c8, c7, c6, c5, c4, c3, c2, c1]) (by walk_at "remc") fun F4 l4 ec => ?_
    refine Ex_Return ?_
    refine Ev_local (by walk_at "k") (by walk_at "k") ?_
    with_reducible refine Then.ret ?_
    have m3 := l3.trans l4
    have m2 := l2.trans m3
    have m1 := l1.trans m2
    exact ⟨_, _, by walk_at "k", h F4 g f mb _ m1 ⟨_, _, ⟨_, _, _, _, _, rfl, hf3.mono l4⟩, ⟨c1, rfl, ec.get 11 rfl rfl⟩, ⟨c3, rfl, hmm ▸ ec.get 9 rfl rfl⟩⟩
        ⟨_, _, pat, ⟨_, _, _, _, _, rfl, hf2.mono m3⟩, ⟨c10, rfl, ec.get 2 rfl rfl⟩, ⟨c6, rfl, ec.get 6 rfl rfl⟩, ⟨c11, rfl, ec.get 1 rfl rfl⟩, ⟨c2, rfl, ec.get 10 rfl rfl⟩, ⟨c12, rfl, ec.get 0 rfl rfl⟩, ⟨c8, rfl, ec.get 4 rfl rfl⟩, ⟨c9, rfl, ec.get 3 rfl rfl⟩, ⟨c7, rfl, ec.get 5 rfl rfl⟩, ⟨c4, rfl, ec.get 8 rfl rfl⟩, ⟨c5, rfl, ec.get 7 rfl rfl⟩, ⟨c3, rfl, ec.get 9 rfl rfl⟩, ⟨c1, rfl, ec.get 11 rfl rfl⟩, hbd.mono m2, o1.mono m1, o2.mono m1, o3.mono m1, o5.mono m1, o6.mono m1, o7.mono m1⟩⟩
section
variable {p : Program} {loose : List Str} {mean : ExcName → Option Value} {mg mb : Str → Option Value} {s₁ : Shared} {tabs : List (Addr × Addr)} {prog : Program} {w : World} {K : Frag}
theorem gok_of (T : Top p loose mean mg mb s₁.heap) (hT : TabsAt tabs s₁.heap) : GOk (topG prog w s₁ tabs mg mb) := fun h k =>
  ⟨(ghost_ns hT T.g).keeps k, (ghost_ns hT T.b).keeps k, by obtain ⟨mc, h1, h2⟩ := T.nolimit; exact ⟨mc, (ghost_ns hT h1).keeps k, h2⟩⟩
theorem fz_of (X : K.In s₁.heap) {a : Addr} {o : Obj} (e : K.lookup a = some o) (ha : a ∉ tabs.map (·.2)) : (ghostOf s₁.heap tabs).get? a = some o := ghost_ne (X a o e) ha
theorem bok_of {P : Addr} (X : K.In s₁.heap) (T : Top p loose mean mg mb s₁.heap) (hT : TabsAt tabs s₁.heap) (hP : mainGlobals ≠ P) (hb : ∃ q ∈ tabs, q.2 = P) : BOk (topG prog w s₁ tabs mg mb) P := by
  refine ⟨hP, fun h k => ?_⟩
  obtain ⟨bm, ob, h1, h2, h3, h4, h5, h6⟩ := T.bmain
  have n1 : bm ≠ mainGlobals := fun e => by
    subst e
    obtain ⟨o, es, ep, ho, hd, _⟩ := T.g
    rw [ho] at h3
    cases h3
    rw [hd] at h6
    cases h6
  have n2 : bm ∉ tabs.map (·.2) := fun hm => by
    obtain ⟨q, hq, rfl⟩ := List.mem_map.mp hm
    rw [(hT q hq).2] at h3
    cases h3
    cases h4
  obtain ⟨q, hq, rfl⟩ := hb
  exact ⟨bm, ob, h1, h2, n1, fun e => n2 (List.mem_map.mpr ⟨q, hq, e.symm⟩), k _ _ (ghost_ne h3 n2), h4, h5, h6⟩
theorem code_of {c P : Addr} (X : K.In s₁.heap) (hT : TabsAt tabs s₁.heap) (e : codeHdIn K c P = true) (hc : c ∉ tabs.map (·.2)) : CodeOk (ghostOf s₁.heap tabs).get? c P := fun h k => by
  obtain ⟨o, vs, file, tf, flags, tg, inF, text, tt, h1, r⟩ := codeHd_of_K X e
  exact ⟨o, vs, file, tf, flags, tg, inF, text, tt, k _ _ (ghost_ne h1 hc), r⟩
theorem isdef_of {a c : Addr} {st : Option Stmt} {s : Stmt} {fo co : Obj} {pm : Value} {vs : Array Value} {t : Tok} (X : K.In s₁.heap) (hs : st = some s) (e1 : K.lookup a = some fo) (e2 : K.lookup c = some co) (hd : fo.data = .func (fnData s pm (.ref c))) (hv : co.data = .fields vs) (hq : vs[1]? = some (.str (fnData s pm (.ref c)).qualname t))
    (ha : a ∉ tabs.map (·.2)) (hc : c ∉ tabs.map (·.2)) : IsDefC (ghostOf s₁.heap tabs).get? st a c :=
  ⟨s, fo, pm, hs, fz_of X e1 ha, hd, c, co, vs, t, rfl, fz_of X e2 hc, hv, hq⟩
end
noncomputable def numC : Array Nat := #[14, 4, 0, 1, 4294967295, 17, 0, 24, 6, 0, 1, 16, 45, 1, 7, 5, 16, 48, 15, 22, 20, 13, 5, 22, 49, 57, 0, 24, 10, 0, 4294967295, 13, 5, 22, 48, 57, 0, 1, 15, 2, 0, 17, 1, 23, 20, 0, 1, 17, 2, 16, 46, 24, 10, 1, 4294967295, 13, 5, 22, 48, 57, 0, 1, 17, 3, 18, 23, 37, 0, 1, 17, 4, 13, 6, 16, 101, 16, 69, 0, 24, 11, 0, 1, 13, 6, 16, 45, 16, 43, 0, 1, 24, 10, 1, 4294967295, 13, 5, 22, 48, 57, 0, 1, 17, 5, 18, 1]
theorem code_numC : Code numC := by
  constructor
  case o11 => exact one_lit (C := numC) (pc := 11) (a := 45) rfl rfl
  case o16 => exact one_lit (C := numC) (pc := 16) (a := 48) rfl rfl
  case o21 => exact one_range (C := numC) (pc := 21) (a := 49) (b := 57) (n := 102) rfl rfl rfl rfl rfl rfl rfl
  case o31 => exact one_range (C := numC) (pc := 31) (a := 48) (b := 57) (n := 102) rfl rfl rfl rfl rfl rfl rfl
  case o49 => exact one_lit (C := numC) (pc := 49) (a := 46) rfl rfl
  case o55 => exact one_range (C := numC) (pc := 55) (a := 48) (b := 57) (n := 102) rfl rfl rfl rfl rfl rfl rfl
  case o71 => exact one_two (C := numC) (pc := 71) (a := 101) (b := 69) (n := 102) rfl rfl rfl rfl rfl rfl rfl rfl
  case o82 => exact one_two (C := numC) (pc := 82) (a := 45) (b := 43) (n := 102) rfl rfl rfl rfl rfl rfl rfl rfl
  case o94 => exact one_range (C := numC) (pc := 94) (a := 48) (b := 57) (n := 102) rfl rfl rfl rfl rfl rfl rfl
  all_goals first | rfl | decide
inductive FigO (zs : List Int) (base most : Int) (lst L : Addr) (F : Fz) (H : Hp) : Fz → Hp → Prop where
  | mk (fs : List Int) (on ol og : Option V) (hl : (fs.length : Int) ≤ most) (hb : ∀ f ∈ fs, 0 ≤ f ∧ f < base) : FigO zs base most lst L F H F ((lst, .list (fs.map .int)) :: (L, .ns [(Str.ofString "script", some (.lst (zs.map .int))), (Str.ofString "base", some (.int base)), (Str.ofString "most", some (.int most)), (Str.ofString "figures", some (.ref lst)), (Str.ofString "number", on), (Str.ofString "left", ol), (Str.ofString "figure", og)]) :: H)
inductive FigI (zs : List Int) (base most : Int) (lst L : Addr) (F : Fz) (H : Hp) (z : Int) : Nat → Fz → Hp → Prop where
  | mk (fs : List Int) (left : Int) (og : Option V) (hl : (fs.length : Int) ≤ most) (hb : ∀ f ∈ fs, 0 ≤ f ∧ f < base) : FigI zs base most lst L F H z (most.toNat - fs.length) F ((lst, .list (fs.map .int)) :: (L, .ns [(Str.ofString "script", some (.lst (zs.map .int))), (Str.ofString "base", some (.int base)), (Str.ofString "most", some (.int most)), (Str.ofString "figures", some (.ref lst)), (Str.ofString "number", some (.int z)), (Str.ofString "left", some (.int left)), (Str.ofString "figure", og)]) :: H)
theorem figs {G : Glob} {fr : List Env} {A : Around} {F : Fz} {H : Hp} {E : Value → Fz → Hp → Prop} {a : Addr} (hlen0 : G.mg (Str.ofString "len") = none) (hlen : G.mb (Str.ofString "len") = some (.builtin "len")) (hdm0 : G.mg (Str.ofString "divmod") = none) (hdm : G.mb (Str.ofString "divmod") = some (.builtin "divmod"))
    (hf : IsDef F (stm 5) a) (hA : Ok fr A 1) (zs : List Int) (base most : Int) (hb : 0 < base) (hb2 : base < 1073741824) (hmost : 0 ≤ most ∧ most < 1000) {Q : V → Fz → Hp → Prop}
    (h : ∀ (fs : List Int), (fs.length : Int) ≤ most → (∀ f ∈ fs, 0 ≤ f ∧ f < base) → Q (.lst (fs.map .int)) F H) : Cl G fr A F H (.ref a) [.lst (zs.map .int), .int base, .int most] Q E := by
  obtain ⟨c, s, o, pm, hs, hf, hd, hc⟩ := hf
  obtain rfl := Option.some.inj hs.symm
  refine Cl.freeze ?_
  refine call_def hf hd hc [Str.ofString "script", Str.ofString "base", Str.ofString "most"] [Str.ofString "figures", Str.ofString "number", Str.ofString "left", Str.ofString "figure"] rfl (by decide) (fun vs hv => ?_) (by rfl) (by rfl) hA.room (fun _ => leaves_no) (fun L A' hD => ?_)
  · obtain ⟨a, b, c, rfl⟩ := len3 hv
    rfl
  · simp only [mkRho, List.zip, List.zipWith, List.map, List.cons_append, List.nil_append]
    have hA := hA.deep hD
    have hh := hA.handled
    refine Ex_cons ?_
    refine Ex_Assign_Name ?_
    refine Ev_List ?_
    with_reducible show Evs _ _ _ _ _ (spliced (backTo _ (starEach [] _))) _ _
    refine Evs_nil ?_
    refine ⟨by decide, fun lst => ?_⟩
    refine' Store.mk ?u ?v ?_
    case u => walk_at "k"
    case v => walk_at "k"
    with_reducible refine Then.next ?_
    refine Ex_cons ?_
    refine Ex_For noted_no ?_
    refine Ev_local (by walk_at "k") (by walk_at "k") ?_
    refine ⟨_, iter_lst hh, fun _ => FigO zs base most lst L F H, .mk [] none none none hmost.1 (fun _ h => nomatch h), ?_, ?_⟩
    · rintro k y _ _ hy ⟨fs, on, ol, og, hfl, hfb⟩ Qm hm
      obtain ⟨z, rfl⟩ : ∃ z, y = .int z := by
        obtain ⟨z, _, rfl⟩ := List.mem_map.mp (List.mem_of_getElem? hy)
        exact ⟨z, rfl⟩
      refine As_Name ?_
      refine' Store.mk ?u ?v ?_
      case u => walk_at "k"
      case v => walk_at "k"
      refine Ex_cons ?_
      refine Ex_Assign_Name ?_
      refine Ev.val (fun x => ∃ z, x = .int z) ?_ ?_
      · refine Ev_IfExp ?_
        refine' It_Compare1' ?_ ?_ ?_
        rotate_left 2
        refine Ev_local (by walk_at "k") (by walk_at "k") ?_
        with_reducible exact Is.mk
        refine Ev_int ?_
        with_reducible exact Is.mk
        refine ge_ii ?_
        refine ⟨_, rfl, ?_⟩
        refine Bif (fun _ => ?_) fun _ => ?_
        · refine' Ev_BinOp' ?_ ?_ ?_
          rotate_left 2
          refine Ev_int ?_
          with_reducible exact Is.mk
          refine Ev_local (by walk_at "k") (by walk_at "k") ?_
          with_reducible exact Is.mk
          refine mul_ii (.of_left (by decide)) ⟨⟨_, rfl⟩, rfl, rfl⟩
        · refine' Ev_BinOp' ?_ ?_ ?_
          rotate_left 2
          refine' Ev_BinOp' ?_ ?_ ?_
          rotate_left 2
          refine' Ev_UnaryOp' ?_ ?_
          rotate_left 1
          refine Ev_int ?_
          with_reducible exact Is.mk
          refine neg_i ?_
          with_reducible exact Is.mk
          refine Ev_local (by walk_at "k") (by walk_at "k") ?_
          with_reducible exact Is.mk
          refine mul_ii (.of_left (by decide)) ?_
          with_reducible exact Is.mk
          refine Ev_int ?_
          with_reducible exact Is.mk
          refine sub_ii ?_
          exact ⟨⟨_, rfl⟩, rfl, rfl⟩
      · rintro _ ⟨left, rfl⟩
        refine' Store.mk ?u ?v ?_
        case u => walk_at "k"
        case v => walk_at "k"
        with_reducible refine Then.next ?_
        refine Ex_cons ?_
        refine Ex_While (FigI zs base most lst L F H z) _ (.mk fs left og hfl hfb) ?_ noted_no
        clear hfl hfb
        rintro _ _ _ ⟨fs, left, og, hfl, hfb⟩ Qn hn
        refine' It_Compare1' ?_ ?_ ?_
        rotate_left 2
        refine' Ev_Call' ?_ ?_ ?_ ?_
        rotate_left 2
        refine Ev_blt (by assumption) (by assumption) .blt ?_
        with_reducible exact Is.mk
        with_reducible exact KOk.blt
        refine' Evs_cons' ?_ ?_
        rotate_left 2
        refine Ev_local (by walk_at "k") (by walk_at "k") ?_
        with_reducible exact Is.mk
        exact Evs_nil'
        refine len_list (by walk_at "k") (by simp; lia) ?_
        with_reducible exact Is.mk
        refine Ev_local (by walk_at "k") (by walk_at "k") ?_
        with_reducible exact Is.mk
        refine lt_ii ?_
        refine ⟨_, rfl, ?_⟩
        refine Bif (fun hlt => ?_) fun hge => ?_
        · simp only [List.length_map, decide_eq_true_eq] at hlt
          refine Ex_cons ?_
          refine Ex_Assign_Tuple (by assumption) rfl rfl ?_
          refine' Ev_Call' ?_ ?_ ?_ ?_
          rotate_left 2
          refine Ev_blt (by assumption) (by assumption) .blt ?_
          with_reducible exact Is.mk
          with_reducible exact KOk.blt
          refine' Evs_cons' ?_ ?_
          rotate_left 2
          refine Ev_local (by walk_at "k") (by walk_at "k") ?_
          with_reducible exact Is.mk
          refine' Evs_cons' ?_ ?_
          rotate_left 2
          refine Ev_local (by walk_at "k") (by walk_at "k") ?_
          with_reducible exact Is.mk
          exact Evs_nil'
          refine divmod_ii (by lia) (by lia) ?_
          refine ⟨_, rfl, rfl, ?_⟩
          refine Stores.cons ?_
          refine' Store.mk ?u ?v ?_
          case u => walk_at "k"
          case v => walk_at "k"
          refine Stores.cons ?_
          refine' Store.mk ?u ?v ?_
          case u => walk_at "k"
          case v => walk_at "k"
          refine Stores.nil ?_
          with_reducible refine Then.next ?_
          refine Ex_cons ?_
          refine Ex_Expr ?_
          refine' Ev_method' ?_ ?_
          rotate_left 1
          refine Ev_local (by walk_at "k") (by walk_at "k") ?_
          with_reducible exact Is.mk
          refine ⟨"list", _, PySem.F.plainAttrs_list, slot_list_append, type_list_append, .list (by walk_at "k"), ?_⟩
          refine' MArgs.mk ?_ ?_
          rotate_left 1
          refine' Evs_cons' ?_ ?_
          rotate_left 2
          refine Ev_local (by walk_at "k") (by walk_at "k") ?_
          with_reducible exact Is.mk
          exact Evs_nil'
          refine append (by walk_at "k") (by simp [sizeLine]; lia) ?_
          refine ⟨rfl, ?_⟩
          have hfl' : ((fs ++ [left.fmod base]).length : Int) ≤ most := by rw [List.length_append, List.length_singleton]; lia
          have hfb' : ∀ f ∈ fs ++ [left.fmod base], 0 ≤ f ∧ f < base := fun f hf => by
            rcases List.mem_append.mp hf with hf | hf
            · exact hfb f hf
            · rw [List.mem_singleton] at hf
              subst hf
              exact ⟨Int.fmod_nonneg_of_pos _ hb, Int.fmod_lt_of_pos _ hb⟩
          with_reducible refine Then.next ?_
          refine Ex_cons ?_
          refine Ex_If ?_
          refine' It_Compare1' ?_ ?_ ?_
          rotate_left 2
          refine Ev_local (by walk_at "k") (by walk_at "k") ?_
          with_reducible exact Is.mk
          refine Ev_int ?_
          with_reducible exact Is.mk
          refine eq_ii ?_
          refine ⟨_, rfl, ?_⟩
          have e : fs.map V.int ++ [V.int (left.fmod base)] = (fs ++ [left.fmod base]).map .int := by rw [List.map_append]; rfl
          refine Bif (fun _ => ?_) fun _ => ?_
          · refine Ex_cons ?_
            refine Ex_Break ?_
            with_reducible refine Then.brk ?_
            with_reducible refine Then.brk ?_
            with_reducible refine Turn.brk ?_
            with_reducible refine Then.next ?_
            refine Ex_nil ?_
            with_reducible refine Turn.next ?_
            rw [e]
            exact hm _ _ (.mk (fs ++ [left.fmod base]) _ _ _ hfl' hfb')
          · refine Ex_nil ?_
            with_reducible refine Then.next ?_
            refine Ex_nil ?_
            with_reducible refine Turn.next ?_
            rw [e]
            exact hn (most.toNat - (fs ++ [left.fmod base]).length) _ _ (by rw [List.length_append, List.length_singleton] at hfl' ⊢; lia) (.mk (fs ++ [left.fmod base]) _ _ hfl' hfb')
        · with_reducible refine Then.next ?_
          refine Ex_nil ?_
          with_reducible refine Turn.next ?_
          exact hm _ _ (.mk fs _ _ _ hfl hfb)
    · rintro _ _ ⟨fs, on, ol, og, hfl, hfb⟩
      with_reducible refine Then.next ?_
      refine Ex_cons ?_
      refine Ex_Return ?_
      refine Ev_local (by walk_at "k") (by walk_at "k") ?_
      with_reducible refine Then.ret ?_
      refine ⟨_, _, by walk_at "k", _, _, _, rfl, by walk_at "k", ?_⟩
      exact h fs hfl hfb
noncomputable def lamOf (st : Option Stmt) : Option (Arguments × Expr × Scope) := match st with
  | some (.Assign _ (.Lambda params body scope _) _) => some (params, body, scope)
  | _ => none
noncomputable def LamS (F : Fz) (f : Addr) (st : Option Stmt) (qual : Str) : Prop := ∃ params body scope, lamOf st = some (params, body, scope) ∧ LamF F f "<lambda>" qual params body scope []
theorem LamS.mono {F F' : Fz} {f : Addr} {st : Option Stmt} {qual : Str} (le : F.le F') (h : LamS F f st qual) : LamS F' f st qual := by obtain ⟨a, b, c, d, e⟩ := h; exact ⟨a, b, c, d, e.mono le⟩
theorem LamS.ok {F : Fz} {f : Addr} {st : Option Stmt} {qual : Str} (h : LamS F f st qual) : KOk F (.ref f) := by obtain ⟨a, b, c, d, e⟩ := h; exact e.ok
structure CtxF (F : Fz) (li lf lc : Addr) : Prop where
  i : ∃ q, LamS F li (sub (stm 9) 4) q
  f : ∃ q, LamS F lf (sub (stm 9) 5) q
  c : ∃ q, LamS F lc (sub (stm 9) 6) q
theorem CtxF.mono {F F' : Fz} {li lf lc : Addr} (le : F.le F') (h : CtxF F li lf lc) : CtxF F' li lf lc :=
  ⟨by obtain ⟨q, h⟩ := h.i; exact ⟨q, h.mono le⟩, by obtain ⟨q, h⟩ := h.f; exact ⟨q, h.mono le⟩, by obtain ⟨q, h⟩ := h.c; exact ⟨q, h.mono le⟩⟩
theorem context {G : Glob} {fr : List Env} {A : Around} {F : Fz} {H1 : Hp} {a c P aO aL aT : Addr} {E : Value → Fz → Hp → Prop} {Q : V → Fz → Hp → Prop}
    (hf : IsDefC F (stm 9) a c) (hC : CodeOk F c P) (hB : BOk G P) (hA : Ok fr A 1) (hx0 : G.mg (Str.ofString "Exception") = none) (hx : G.mb (Str.ofString "Exception") = some (.type "Exception"))
    (hO : G.mg (Str.ofString "_law_object") = some (.ref aO)) (hL : G.mg (Str.ofString "_law_list") = some (.ref aL)) (hT : G.mg (Str.ofString "_law_text") = some (.ref aT))
    (h : ∀ F' x D m li lf lc l ρ, F.le F' → CtxF F' li lf lc → (∀ mb, CtxA ρ { po := .ref aO, pa := .ref aL, ps := .ref aT, mb, st := .str "strict", pf := .ref lf, pi := .ref li, pc := .ref lc, oh := .str "hook", oph := .str "pairs", mm := .ref m }) →
      Q (.ref x) F' ((m, .dict []) :: (P, .raw (tabObj (tabOf l))) :: (D, .attrs ρ) :: (x, .exc "Exception" [] none (some D) true) :: H1)) :
    Cl G fr A F ((P, .raw (tabObj (tabOf []))) :: H1) (.ref a) [] Q E := by
  obtain ⟨s, o, pm, hs, hf, hd, hc⟩ := hf
  obtain rfl := Option.some.inj hs.symm
  refine call_def hf hd hc [] [Str.ofString "context"] rfl (by decide) (fun vs hv => ?_) (by rfl) (by rfl) hA.room (fun _ => leaves_no) (fun L A' hD => ?_)
  · obtain rfl := len0 hv
    rfl
  · simp only [mkRho, List.zip, List.zipWith, List.map, List.cons_append, List.nil_append]
    have hA := hA.deep hD
    have hh := hA.handled
    refine Ex_cons ?_
    refine Ex_Assign_Name ?_
    refine Ev_Call0 ?_
    refine Ev_blt (by assumption) (by assumption) .typ ?_
    refine ⟨.typ, ?_⟩
    refine exc_new0 fun x => ?_
    refine' Store.mk ?u ?v ?_
    case u => walk_at "k"
    case v => walk_at "k"
    with_reducible refine Then.next ?_
    refine Ex_cons ?_
    refine Ex_Assign_Attr ?_
    refine Ev_global (by assumption) .ref ?_
    refine Ev_local (by walk_at "k") (by walk_at "k") ?_
    refine set_exc_first (by walk_at "k") nl1 fun D => ?_
    with_reducible refine Then.next ?_
    refine Ex_cons ?_
    refine Ex_Assign_Attr ?_
    refine Ev_global (by assumption) .ref ?_
    refine Ev_local (by walk_at "k") (by walk_at "k") ?_
    refine set_exc (by walk_at "k") (by walk_at "k") (by exact Nat.le_of_ble_eq_true rfl) nl2 ?_
    with_reducible refine Then.next ?_
    refine Ex_cons ?_
    refine Ex_Assign_Attr ?_
    refine Ev_global (by assumption) .ref ?_
    refine Ev_local (by walk_at "k") (by walk_at "k") ?_
    refine set_exc (by walk_at "k") (by walk_at "k") (by exact Nat.le_of_ble_eq_true rfl) nl3 ?_
    with_reducible refine Then.next ?_
    refine Ex_cons ?_
    refine Ex_Assign_Attr ?_
    refine Ev_Lambda rfl hC hB (by walk_at "k") rfl rfl fun li cf F5 l5 hl5 => ?_
    have hC := hC.mono l5
    refine Ev_local (by walk_at "k") (by walk_at "k") ?_
    refine set_exc (by walk_at "k") (by walk_at "k") (by exact Nat.le_of_ble_eq_true rfl) nl6 ?_
    with_reducible refine Then.next ?_
    refine Ex_cons ?_
    refine Ex_Assign_Attr ?_
    refine Ev_Lambda rfl hC hB (by walk_at "k") rfl rfl fun lf cf F6 l6 hl6 => ?_
    have hC := hC.mono l6
    refine Ev_local (by walk_at "k") (by walk_at "k") ?_
    refine set_exc (by walk_at "k") (by walk_at "k") (by exact Nat.le_of_ble_eq_true rfl) nl5 ?_
    with_reducible refine Then.next ?_
    refine Ex_cons ?_
    refine Ex_Assign_Attr ?_
    refine Ev_Lambda rfl hC hB (by walk_at "k") rfl rfl fun lc cf F7 l7 hl7 => ?_
    have hC := hC.mono l7
    refine Ev_local (by walk_at "k") (by walk_at "k") ?_
    refine set_exc (by walk_at "k") (by walk_at "k") (by exact Nat.le_of_ble_eq_true rfl) nl7 ?_
    with_reducible refine Then.next ?_
    refine Ex_cons ?_
    refine Ex_Assign_Attr ?_
    refine Ev_str ?_
    refine Ev_local (by walk_at "k") (by walk_at "k") ?_
    refine set_exc (by walk_at "k") (by walk_at "k") (by exact Nat.le_of_ble_eq_true rfl) nl4 ?_
    with_reducible refine Then.next ?_
    refine Ex_cons ?_
    refine Ex_Assign_Attr ?_
    refine Ev_str ?_
    refine Ev_local (by walk_at "k") (by walk_at "k") ?_
    refine set_exc (by walk_at "k") (by walk_at "k") (by exact Nat.le_of_ble_eq_true rfl) nl8 ?_
    with_reducible refine Then.next ?_
    refine Ex_cons ?_
    refine Ex_Assign_Attr ?_
    refine Ev_str ?_
    refine Ev_local (by walk_at "k") (by walk_at "k") ?_
    refine set_exc (by walk_at "k") (by walk_at "k") (by exact Nat.le_of_ble_eq_true rfl) nl9 ?_
    with_reducible refine Then.next ?_
    refine Ex_cons ?_
    refine Ex_Assign_Attr ?_
    refine Ev_Dict0 fun m => ?_
    refine Ev_local (by walk_at "k") (by walk_at "k") ?_
    refine set_exc (by walk_at "k") (by walk_at "k") (by exact Nat.le_of_ble_eq_true rfl) nl10 ?_
    with_reducible refine Then.next ?_
    refine Ex_cons ?_
    refine Ex_Return ?_
    refine Ev_local (by walk_at "k") (by walk_at "k") ?_
    with_reducible refine Then.ret ?_
    refine ⟨_, _, by walk_at "k", ?_⟩
    exact h F7 x D m li lf lc _ _ (l5.trans (l6.trans l7)) ⟨⟨_, _, _, _, rfl, hl5.mono (l6.trans l7)⟩, ⟨_, _, _, _, rfl, hl6.mono l7⟩, ⟨_, _, _, _, rfl, hl7⟩⟩ fun mb => ⟨rfl, rfl, rfl, rfl, rfl, rfl, rfl, rfl, rfl, rfl⟩
theorem lam_whole {G : Glob} {fr : List Env} {A : Around} {F : Fz} {H : Hp} {a : Addr} {q : Str} {E : Value → Fz → Hp → Prop} {Q : V → Fz → Hp → Prop} {t : V} (hf : LamS F a (sub (stm 9) 4) q) (hA : Ok fr A 0) (h : Q (.tup [.str "whole", t]) F H) : Cl G fr A F H (.ref a) [t] Q E := by
  obtain ⟨params, body, scope, hs, hf⟩ := hf
  cases Option.some.inj hs.symm
  refine call_lam hf [Str.ofString "text"] rfl (by decide) (fun pm c ctv vs hv => ?_) (by rfl) (by rfl) hA.room (fun _ _ => leaves_no) (fun L A' c hD => ?_)
  · obtain ⟨a, rfl⟩ := len1 hv
    rfl
  · simp only [mkRho, List.zip, List.zipWith, List.map, List.cons_append, List.nil_append]
    refine' Ev_Tuple' ?_ ?_ ?_
    rotate_left 1
    refine' Evs_cons' ?_ ?_
    rotate_left 2
    refine Ev_str ?_
    with_reducible exact Is.mk
    refine' Evs_cons' ?_ ?_
    rotate_left 2
    refine Ev_local (by walk_at "k") (by walk_at "k") ?_
    with_reducible exact Is.mk
    exact Evs_nil'
    exact Nat.le_of_ble_eq_true rfl
    exact ⟨_, _, .hd, h⟩
theorem lam_broken {G : Glob} {fr : List Env} {A : Around} {F : Fz} {H : Hp} {a : Addr} {q : Str} {E : Value → Fz → Hp → Prop} {Q : V → Fz → Hp → Prop} {t : V} (hf : LamS F a (sub (stm 9) 5) q) (hA : Ok fr A 0) (h : Q (.tup [.str "broken", t]) F H) : Cl G fr A F H (.ref a) [t] Q E := by
  obtain ⟨params, body, scope, hs, hf⟩ := hf
  cases Option.some.inj hs.symm
  refine call_lam hf [Str.ofString "text"] rfl (by decide) (fun pm c ctv vs hv => ?_) (by rfl) (by rfl) hA.room (fun _ _ => leaves_no) (fun L A' c hD => ?_)
  · obtain ⟨a, rfl⟩ := len1 hv
    rfl
  · simp only [mkRho, List.zip, List.zipWith, List.map, List.cons_append, List.nil_append]
    refine' Ev_Tuple' ?_ ?_ ?_
    rotate_left 1
    refine' Evs_cons' ?_ ?_
    rotate_left 2
    refine Ev_str ?_
    with_reducible exact Is.mk
    refine' Evs_cons' ?_ ?_
    rotate_left 2
    refine Ev_local (by walk_at "k") (by walk_at "k") ?_
    with_reducible exact Is.mk
    exact Evs_nil'
    exact Nat.le_of_ble_eq_true rfl
    exact ⟨_, _, .hd, h⟩
theorem lam_word {G : Glob} {fr : List Env} {A : Around} {F : Fz} {H : Hp} {a : Addr} {q : Str} {E : Value → Fz → Hp → Prop} {Q : V → Fz → Hp → Prop} {t : V} (hf : LamS F a (sub (stm 9) 6) q) (hA : Ok fr A 0) (h : Q (.tup [.str "word", t]) F H) : Cl G fr A F H (.ref a) [t] Q E := by
  obtain ⟨params, body, scope, hs, hf⟩ := hf
  cases Option.some.inj hs.symm
  refine call_lam hf [Str.ofString "text"] rfl (by decide) (fun pm c ctv vs hv => ?_) (by rfl) (by rfl) hA.room (fun _ _ => leaves_no) (fun L A' c hD => ?_)
  · obtain ⟨a, rfl⟩ := len1 hv
    rfl
  · simp only [mkRho, List.zip, List.zipWith, List.map, List.cons_append, List.nil_append]
    refine' Ev_Tuple' ?_ ?_ ?_
    rotate_left 1
    refine' Evs_cons' ?_ ?_
    rotate_left 2
    refine Ev_str ?_
    with_reducible exact Is.mk
    refine' Evs_cons' ?_ ?_
    rotate_left 2
    refine Ev_local (by walk_at "k") (by walk_at "k") ?_
    with_reducible exact Is.mk
    exact Evs_nil'
    exact Nat.le_of_ble_eq_true rfl
    exact ⟨_, _, .hd, h⟩
theorem quote_sub {T : Str} {k : Nat} : Builtin.Str.subAt T "\"" k = decide (T.cps[k]? = some 34) := by
  rw [show Str.ofString "\"" = ⟨#[34]⟩ from by decide +kernel]
  exact sub1
theorem find_yes {T : Str} {lo k : Nat} (h : QuoteAt T lo k) : Txt.find3 T "\"" (lo : Int) = (k : Int) := by
  obtain ⟨h1, h2, h3⟩ := h
  have hk := (Array.getElem?_eq_some_iff.mp h2).1
  have hl : T.length = T.cps.size := rfl
  have e : PySem.fromIndex T.length (lo : Int) = lo := by unfold PySem.fromIndex; split <;> lia
  unfold Txt.find3
  rw [e, occ_at h1 ⟨by show k + 1 ≤ _; lia, by rw [quote_sub, decide_eq_true h2]⟩ fun i h4 h5 => by rw [quote_sub, decide_eq_false (h3 i h4 h5)]]
theorem occ_none {x sub : Str} {lo : Nat} (hn : ∀ i, lo ≤ i → Builtin.Str.subAt x sub i = false) : Builtin.Str.occurrences x sub lo x.length 1 = [] := occ_no hn
theorem find_no {T : Str} {lo : Nat} (h : NoQuote T lo) : Txt.find3 T "\"" (lo : Int) = -1 := by
  unfold Txt.find3
  have hl : T.length = T.cps.size := rfl
  rcases Nat.le_total lo T.cps.size with q | q
  · have e : PySem.fromIndex T.length (lo : Int) = lo := by unfold PySem.fromIndex; split <;> lia
    rw [e, occ_none fun i hi => by rw [quote_sub, decide_eq_false (h i hi)]]
  · have e : T.length ≤ PySem.fromIndex T.length (lo : Int) := by unfold PySem.fromIndex; split <;> lia
    rw [occ_none fun i hi => by rw [quote_sub, decide_eq_false]; rw [Array.getElem?_eq_none (by lia)]; nofun]
theorem part_text {G : Glob} {fr : List Env} {A : Around} {F : Fz} {H : Hp} {a : Addr} {P : Addr → String → List V → Bool → Fz → Hp → Prop} {Q : V → Fz → Hp → Prop} {T : Str} {lo : Nat} {st : V} (hf : IsDef F (stm 6) a) (hA : Ok fr A 1) (hT : T.cps.size ≤ 1000000) (bt : BtS G) (hlen0 : G.mg (Str.ofString "len") = none) (hlen : G.mb (Str.ofString "len") = some (.builtin "len"))
    (h1 : ∀ k, QuoteAt T lo k → Q (.tup [.tup [.str "text", .str (subT T lo k), st], .int ((k + 1 : Nat) : Int)]) F H) (h2 : NoQuote T lo → ∀ x b, P x "StopIteration" [.int (T.cps.size : Nat)] b F H) : Cl G fr A F H (.ref a) [.str T, .int lo, st] Q (Thr0 P) := by
  obtain ⟨c, s, o, pm, hs, hf, hd, hc⟩ := hf
  obtain rfl := Option.some.inj hs.symm
  have hTl : T.length ≤ sizeLine := Nat.le_trans (show T.cps.size ≤ 1000000 from hT) (by decide)
  have hl : T.length = T.cps.size := rfl
  obtain ⟨_, _, s0, s1⟩ := bt
  refine call_def hf hd hc [Str.ofString "string", Str.ofString "at", Str.ofString "strict"] [Str.ofString "end"] rfl (by decide) (fun vs hv => ?_) (by rfl) (by rfl) hA.room (fun L => leaves_thr (L := L) hA.frames rfl) (fun L A' hD => ?_)
  · obtain ⟨a, b, c, rfl⟩ := len3 hv
    rfl
  · simp only [mkRho, List.zip, List.zipWith, List.map, List.cons_append, List.nil_append]
    have hA := hA.deep hD
    have hh := hA.handled
    refine Ex_cons ?_
    refine Ex_Assign_Name ?_
    refine' Ev_method' ?_ ?_
    rotate_left 1
    refine Ev_local (by walk_at "k") (by walk_at "k") ?_
    with_reducible exact Is.mk
    refine ⟨"str", _, PySem.F.plainAttrs_str, PySem.F.slot_str_find, PySem.F.type_str_find, .str, ?_⟩
    refine' MArgs.mk ?_ ?_
    rotate_left 1
    refine' Evs_cons' ?_ ?_
    rotate_left 2
    refine Ev_str ?_
    with_reducible exact Is.mk
    refine' Evs_cons' ?_ ?_
    rotate_left 2
    refine Ev_local (by walk_at "k") (by walk_at "k") ?_
    with_reducible exact Is.mk
    exact Evs_nil'
    refine find_s ?_
    rcases quote_or T lo with ⟨k, hk⟩ | hk
    · rw [find_yes hk]
      refine' Store.mk ?u ?v ?_
      case u => walk_at "k"
      case v => walk_at "k"
      with_reducible refine Then.next ?_
      refine Ex_cons ?_
      refine Ex_If ?_
      refine' It_Compare1' ?_ ?_ ?_
      rotate_left 2
      refine Ev_local (by walk_at "k") (by walk_at "k") ?_
      with_reducible exact Is.mk
      refine Ev_int ?_
      with_reducible exact Is.mk
      refine lt_ii ?_
      refine ⟨_, rfl, ?_⟩
      refine Bif (fun hx => ?_) fun _ => ?_
      · exact absurd (of_decide_eq_true hx) (by lia)
      refine Ex_nil ?_
      with_reducible refine Then.next ?_
      refine Ex_cons ?_
      refine Ex_Return ?_
      refine' Ev_Tuple' ?_ ?_ ?_
      rotate_left 1
      refine' Evs_cons' ?_ ?_
      rotate_left 2
      refine' Ev_Tuple' ?_ ?_ ?_
      rotate_left 1
      refine' Evs_cons' ?_ ?_
      rotate_left 2
      refine Ev_str ?_
      with_reducible exact Is.mk
      refine' Evs_cons' ?_ ?_
      rotate_left 2
      refine Ev_slice_str ?_
      refine Ev_local (by walk_at "k") (by walk_at "k") ?_
      refine ⟨T, rfl, hTl, ?_⟩
      refine EvP_some ?_
      refine Ev_local (by walk_at "k") (by walk_at "k") ?_
      refine ⟨_, rfl, ?_⟩
      refine EvP_some ?_
      refine Ev_local (by walk_at "k") (by walk_at "k") ?_
      refine ⟨_, rfl, ?_⟩
      with_reducible exact Is.mk
      refine' Evs_cons' ?_ ?_
      rotate_left 2
      refine Ev_local (by walk_at "k") (by walk_at "k") ?_
      with_reducible exact Is.mk
      exact Evs_nil'
      exact Nat.le_of_ble_eq_true rfl
      with_reducible exact Is.mk
      refine' Evs_cons' ?_ ?_
      rotate_left 2
      refine' Ev_BinOp' ?_ ?_ ?_
      rotate_left 2
      refine Ev_local (by walk_at "k") (by walk_at "k") ?_
      with_reducible exact Is.mk
      refine Ev_int ?_
      with_reducible exact Is.mk
      refine add_ii ?_
      with_reducible exact Is.mk
      exact Evs_nil'
      exact Nat.le_of_ble_eq_true rfl
      with_reducible refine Then.ret ?_
      have := h1 k hk
      have hkl := (Array.getElem?_eq_some_iff.mp hk.2.1).1
      rw [slice_ext hk.1 (Nat.le_of_lt hkl)]
      exact ⟨_, _, .hd, this⟩
    · rw [find_no hk]
      refine' Store.mk ?u ?v ?_
      case u => walk_at "k"
      case v => walk_at "k"
      with_reducible refine Then.next ?_
      refine Ex_cons ?_
      refine Ex_If ?_
      refine' It_Compare1' ?_ ?_ ?_
      rotate_left 2
      refine Ev_local (by walk_at "k") (by walk_at "k") ?_
      with_reducible exact Is.mk
      refine Ev_int ?_
      with_reducible exact Is.mk
      refine lt_ii ?_
      refine ⟨_, rfl, ?_⟩
      refine Bif (fun _ => ?_) fun hx => ?_
      · refine Ex_cons ?_
        refine Ex_Raise hh ?_
        refine' Ev_Call' ?_ ?_ ?_ ?_
        rotate_left 2
        refine Ev_blt (by assumption) (by assumption) .typ ?_
        with_reducible exact Is.mk
        with_reducible exact KOk.typ
        refine' Evs_cons' ?_ ?_
        rotate_left 2
        refine' Ev_Call' ?_ ?_ ?_ ?_
        rotate_left 2
        refine Ev_blt (by assumption) (by assumption) .blt ?_
        with_reducible exact Is.mk
        with_reducible exact KOk.blt
        refine' Evs_cons' ?_ ?_
        rotate_left 2
        refine Ev_local (by walk_at "k") (by walk_at "k") ?_
        with_reducible exact Is.mk
        exact Evs_nil'
        refine len_s (by lia) ?_
        with_reducible exact Is.mk
        exact Evs_nil'
        refine stop_new1 fun x2 => ?_
        exact ⟨x2, _, _, _, rfl, .hd, owsi_raise, Thr0.mk .hd ⟨_, _, .hd, h2 hk x2 true⟩⟩
      · exact absurd (of_decide_eq_false hx) (by lia)
inductive okQ (F : Fz) (H : Hp) (r : Res) : V → Fz → Hp → Prop where
  | mk (v : V) (e : Nat) (h : r = .ok v e) : okQ F H r (.tup [v, .int ((e : Nat) : Int)]) F H
inductive stopP (F : Fz) (H : Hp) (r : Res) : Addr → String → List V → Bool → Fz → Hp → Prop where
  | mk (x : Addr) (b : Bool) (p : Nat) (h : r = .stop p) : stopP F H r x "StopIteration" [.int (p : Int)] b F H
inductive InvL (T : Str) (d i : Nat) (r : Res) (L lst f : Addr) (F : Fz) (H : Hp) : Nat → Fz → Hp → Prop where
  | mk (j : Nat) (l : List V) (o1 : Option V) (hj : j ≤ T.cps.size) (hl : l.length ≤ j) (hr : RdI T d false j l r) :
    InvL T d i r L lst f F H (T.cps.size - j) F ((lst, .list l) :: (L, .ns [(Str.ofString "pair", some (.tup [.str T, .int (i : Nat)])), (Str.ofString "asking", some (.ref f)), (Str.ofString "string", some (.str T)), (Str.ofString "at", some (.int (j : Nat))), (Str.ofString "items", some (.ref lst)), (Str.ofString "item", o1)]) :: H)
inductive InvO (T : Str) (d i : Nat) (r : Res) (L lst f : Addr) (mm : V) (F : Fz) (H : Hp) : Nat → Fz → Hp → Prop where
  | mk (j : Nat) (l : List V) (o1 o2 : Option V) (hj : j ≤ T.cps.size) (hl : l.length ≤ j) (h2 : l.length % 2 = 0) (hr : RdI T d true j l r) :
    InvO T d i r L lst f mm F H (T.cps.size - j) F ((lst, .list (pairsV l)) :: (L, .ns [(Str.ofString "pair", some (.tup [.str T, .int (i : Nat)])), (Str.ofString "strict", some (.str "strict")), (Str.ofString "asking", some (.ref f)), (Str.ofString "hook", some (.str "hook")), (Str.ofString "pairs_hook", some (.str "pairs")), (Str.ofString "memo", some mm), (Str.ofString "string", some (.str T)), (Str.ofString "at", some (.int (j : Nat))), (Str.ofString "items", some (.ref lst)), (Str.ofString "name", o1), (Str.ofString "value", o2)]) :: H)
theorem one_sign {T : Str} {j c : Nat} {w : Str} (hj : j ≤ T.cps.size) (hw : w.cps.toList = [c]) : ((Txt.slice T (some (j : Int)) (some ((j : Int) + 1))).cps.toList != w.cps.toList) = !decide (T.cps[j]? = some c) := by
  have := slice_nat (T := T) (i := j) (n := 1) hj
  rw [show ((1 : Nat) : Int) = 1 from rfl] at this
  rw [this, hw]
  rcases drop_cases (T := T.cps) j with ⟨e, hi⟩ | ⟨c', e, hi, hc⟩
  · rw [e, Array.getElem?_eq_none hi]; rfl
  · rw [e, Array.getElem?_eq_getElem hi]
    have : T.cps[j] = c' := by simpa [Array.getD_eq_getD_getElem?, Array.getElem?_eq_getElem hi] using hc
    rw [this]
    show ([c'] != [c]) = _
    by_cases q : c' = c
    · subst q; simp
    · have h1 : ([c'] == [c]) = false := by simp [q]
      show (!([c'] == [c])) = _
      rw [h1]; simp [q]
theorem ends_l {T : Str} {j : Nat} {l : List V} : Ends T false j l ↔ T.cps[j]? = some 93 := ⟨fun h => h.1, fun h => ⟨h, .inl rfl⟩⟩
theorem ends_o {T : Str} {j : Nat} {l : List V} (hl : l.length % 2 = 0) : Ends T true j l ↔ T.cps[j]? = some 125 := ⟨fun h => h.1, fun h => ⟨h, .inr hl⟩⟩
theorem ends_odd {T : Str} {j : Nat} {l : List V} (hl : l.length % 2 = 1) : ¬ Ends T true j l := fun h => by
  rcases h.2 with q | q
  · cases q
  · lia
theorem pairsV_app : ∀ {l : List V} {a b : V}, l.length % 2 = 0 → pairsV (l ++ [a, b]) = pairsV l ++ [.tup [a, b]]
  | [], a, b, _ => rfl
  | [_], _, _, h => by simp at h
  | x :: y :: l, a, b, h => by
    have := pairsV_app (l := l) (a := a) (b := b) (by simp at h; lia)
    simp only [List.cons_append, pairsV, this]
theorem pairsV_len : ∀ (l : List V), (pairsV l).length ≤ l.length
  | [] => Nat.le_refl _
  | [_] => by simp [pairsV]
  | x :: y :: l => by have := pairsV_len l; simp [pairsV]; lia
section
variable {G : Glob} {fr : List Env} {A : Around} {F : Fz} {H : Hp} {a f : Addr} {T : Str} {d : Nat}
theorem part_list {i : Nat} {r : Res} (hf : IsDef F (stm 7) a) (hA : Ok fr A 1) (hT : T.cps.size ≤ 1000000) (hi : i ≤ T.cps.size) (hr : RdI T d false i [] r) (hk : KOk F (.ref f))
    (ask : ∀ i r, Rd T d i r → ClD G fr A F H (.ref f) [.str T, .int (i : Nat)] (okQ F H r) (Thr0 (stopP F H r))) :
    Cl G fr A F H (.ref a) [.tup [.str T, .int (i : Nat)], .ref f] (okQ F H r) (Thr0 (stopP F H r)) := by
  obtain ⟨c, s, o, pm, hs, hf, hd, hc⟩ := hf
  obtain rfl := Option.some.inj hs.symm
  have hTl : T.length ≤ sizeLine := Nat.le_trans (show T.cps.size ≤ 1000000 from hT) (by decide)
  refine call_def hf hd hc [Str.ofString "pair", Str.ofString "asking"] [Str.ofString "string", Str.ofString "at", Str.ofString "items", Str.ofString "item"] rfl (by decide) (fun vs hv => ?_) (by rfl) (by rfl) hA.room (fun L => leaves_thrD (L := L) hA.frames rfl) (fun L A' hD => ?_)
  · obtain ⟨a, b, rfl⟩ := len2 hv
    rfl
  · simp only [mkRho, List.zip, List.zipWith, List.map, List.cons_append, List.nil_append]
    have hA := hA.deep hD
    have hh := hA.handled
    refine Ex_cons ?_
    refine Ex_Assign_Tuple (by assumption) rfl rfl ?_
    refine Ev_local (by walk_at "k") (by walk_at "k") ?_
    refine ⟨_, rfl, rfl, ?_⟩
    refine Stores.cons ?_
    refine' Store.mk ?u ?v ?_
    case u => walk_at "k"
    case v => walk_at "k"
    refine Stores.cons ?_
    refine' Store.mk ?u ?v ?_
    case u => walk_at "k"
    case v => walk_at "k"
    refine Stores.nil ?_
    with_reducible refine Then.next ?_
    refine Ex_cons ?_
    refine Ex_Assign_Name ?_
    refine Ev_List ?_
    refine Evs_nil ?_
    refine ⟨by exact Nat.le_of_ble_eq_true rfl, ?_⟩
    intro lst
    refine' Store.mk ?u ?v ?_
    case u => walk_at "k"
    case v => walk_at "k"
    with_reducible refine Then.next ?_
    refine Ex_cons ?_
    refine Ex_While (InvL T d i r L lst f F H) (T.cps.size - i) (.mk i [] none hi (Nat.zero_le _) hr) ?_ (noted_thr hA.frames)
    rintro _ _ _ ⟨j, l, o1, hj, hlj, hr⟩ Qn hn
    refine It_Compare1 ?_
    refine Ev_slice_str ?_
    refine Ev_local (by walk_at "k") (by walk_at "k") ?_
    refine ⟨T, rfl, hTl, ?_⟩
    refine EvP_some ?_
    refine Ev_local (by walk_at "k") (by walk_at "k") ?_
    refine ⟨_, rfl, ?_⟩
    refine EvP_some ?_
    refine' Ev_BinOp' ?_ ?_ ?_
    rotate_left 2
    refine Ev_local (by walk_at "k") (by walk_at "k") ?_
    with_reducible exact Is.mk
    refine Ev_int ?_
    with_reducible exact Is.mk
    refine add_ii ?_
    refine ⟨_, rfl, ?_⟩
    refine Ev_str ?_
    refine ne_ss ?_
    refine ⟨_, rfl, ?_⟩
    rw [one_sign (c := 93) hj rfl]
    refine Bif (fun hx => ?_) fun hx => ?_
    · have hne : ¬ Ends T false j l := fun h => by rw [decide_eq_true (ends_l.mp h)] at hx; cases hx
      refine Ex_cons ?_
      refine Ex_Assign_Tuple (by assumption) rfl rfl ?_
      refine' Ev_Call' ?_ ?_ ?_ ?_
      rotate_left 2
      refine Ev_local (by walk_at "k") (by walk_at "k") ?_
      with_reducible exact Is.mk
      exact hk
      refine' Evs_cons' ?_ ?_
      rotate_left 2
      refine Ev_local (by walk_at "k") (by walk_at "k") ?_
      with_reducible exact Is.mk
      refine' Evs_cons' ?_ ?_
      rotate_left 2
      refine Ev_local (by walk_at "k") (by walk_at "k") ?_
      with_reducible exact Is.mk
      exact Evs_nil'
      cases hr with
      | close h => exact absurd h hne
      | stop h hv =>
        refine Cl.out2 hD (ask j _ hv) ?_ ?_
        · rintro _ _ _ ⟨_, _, ⟨⟩⟩
        · rintro _ _ _ _ _ _ ⟨_, _, p, ⟨⟩⟩
          exact ⟨_, _, _, .tl .hd, Drp.one .hd (fun _ e => nomatch e), .mk _ _ _ rfl⟩
      | @item _ _ j2 _ _ v _ h hij hj2 hv hr =>
        refine Cl.out2 hD (ask j _ hv) ?_ ?_
        · rintro _ _ _ ⟨_, _, ⟨⟩⟩
          refine ⟨_, rfl, rfl, ?_⟩
          refine Stores.cons ?_
          refine' Store.mk ?u ?v ?_
          case u => walk_at "k"
          case v => walk_at "k"
          refine Stores.cons ?_
          refine' Store.mk ?u ?v ?_
          case u => walk_at "k"
          case v => walk_at "k"
          refine Stores.nil ?_
          with_reducible refine Then.next ?_
          refine Ex_cons ?_
          refine Ex_Expr ?_
          refine' Ev_method' ?_ ?_
          rotate_left 1
          refine Ev_local (by walk_at "k") (by walk_at "k") ?_
          with_reducible exact Is.mk
          refine ⟨"list", _, PySem.F.plainAttrs_list, slot_list_append, type_list_append, .list (by walk_at "k"), ?_⟩
          refine' MArgs.mk ?_ ?_
          rotate_left 1
          refine' Evs_cons' ?_ ?_
          rotate_left 2
          refine Ev_local (by walk_at "k") (by walk_at "k") ?_
          with_reducible exact Is.mk
          exact Evs_nil'
          refine append (by walk_at "k") (by show _ ≤ 16777216; lia) ?_
          refine ⟨rfl, ?_⟩
          with_reducible refine Then.next ?_
          refine Ex_nil ?_
          with_reducible refine Turn.next ?_
          exact hn (T.cps.size - j2) _ _ (by lia) (.mk j2 (l ++ [v]) _ hj2 (by simp; lia) hr)
        · rintro _ _ _ _ _ _ ⟨_, _, _, ⟨⟩⟩
    · have he : Ends T false j l := ends_l.mpr (by simpa using hx)
      cases hr with
      | stop h _ => exact absurd he h
      | item h _ _ _ _ => exact absurd he h
      | close h =>
        with_reducible refine Then.next ?_
        refine Ex_cons ?_
        refine Ex_freeze (Str.ofString "items") (by walk_at "k") (by walk_at "k") (by walk_at "k") (by walk_at "k") ?_
        refine Ex_Return ?_
        refine' Ev_Tuple' ?_ ?_ ?_
        rotate_left 1
        refine' Evs_cons' ?_ ?_
        rotate_left 2
        refine Ev_local (by walk_at "k") (by walk_at "k") ?_
        with_reducible exact Is.mk
        refine' Evs_cons' ?_ ?_
        rotate_left 2
        refine' Ev_BinOp' ?_ ?_ ?_
        rotate_left 2
        refine Ev_local (by walk_at "k") (by walk_at "k") ?_
        with_reducible exact Is.mk
        refine Ev_int ?_
        with_reducible exact Is.mk
        refine add_ii ?_
        with_reducible exact Is.mk
        exact Evs_nil'
        exact Nat.le_of_ble_eq_true rfl
        with_reducible refine Then.ret ?_
        exact ⟨_, _, .hd, .mk _ _ rfl⟩
theorem part_obj {i : Nat} {r : Res} {mm : V} (hf : IsDef F (stm 8) a) (hA : Ok fr A 1) (hT : T.cps.size ≤ 1000000) (hi : i ≤ T.cps.size) (hr : RdI T d true i [] r) (hk : KOk F (.ref f))
    (ask : ∀ i r, Rd T d i r → ClD G fr A F H (.ref f) [.str T, .int (i : Nat)] (okQ F H r) (Thr0 (stopP F H r))) :
    Cl G fr A F H (.ref a) [.tup [.str T, .int (i : Nat)], .str "strict", .ref f, .str "hook", .str "pairs", mm] (okQ F H r) (Thr0 (stopP F H r)) := by
  obtain ⟨c, s, o, pm, hs, hf, hd, hc⟩ := hf
  obtain rfl := Option.some.inj hs.symm
  have hTl : T.length ≤ sizeLine := Nat.le_trans (show T.cps.size ≤ 1000000 from hT) (by decide)
  refine call_def hf hd hc [Str.ofString "pair", Str.ofString "strict", Str.ofString "asking", Str.ofString "hook", Str.ofString "pairs_hook", Str.ofString "memo"] [Str.ofString "string", Str.ofString "at", Str.ofString "items", Str.ofString "name", Str.ofString "value"] rfl (by decide) (fun vs hv => ?_) (by rfl) (by rfl) hA.room (fun L => leaves_thrD (L := L) hA.frames rfl) (fun L A' hD => ?_)
  · obtain ⟨a, b, c, d, e, f, rfl⟩ := len6 hv
    rfl
  · simp only [mkRho, List.zip, List.zipWith, List.map, List.cons_append, List.nil_append]
    have hA := hA.deep hD
    have hh := hA.handled
    refine Ex_cons ?_
    refine Ex_Assign_Tuple (by assumption) rfl rfl ?_
    refine Ev_local (by walk_at "k") (by walk_at "k") ?_
    refine ⟨_, rfl, rfl, ?_⟩
    refine Stores.cons ?_
    refine' Store.mk ?u ?v ?_
    case u => walk_at "k"
    case v => walk_at "k"
    refine Stores.cons ?_
    refine' Store.mk ?u ?v ?_
    case u => walk_at "k"
    case v => walk_at "k"
    refine Stores.nil ?_
    with_reducible refine Then.next ?_
    refine Ex_cons ?_
    refine Ex_Assign_Name ?_
    refine Ev_List ?_
    refine Evs_nil ?_
    refine ⟨by exact Nat.le_of_ble_eq_true rfl, ?_⟩
    intro lst
    refine' Store.mk ?u ?v ?_
    case u => walk_at "k"
    case v => walk_at "k"
    with_reducible refine Then.next ?_
    refine Ex_cons ?_
    refine Ex_While (InvO T d i r L lst f mm F H) (T.cps.size - i) (.mk i [] none none hi (Nat.zero_le _) rfl hr) ?_ (noted_thr hA.frames)
    rintro _ _ _ ⟨j, l, o1, o2, hj, hlj, hl2, hr⟩ Qn hn
    refine It_Compare1 ?_
    refine Ev_slice_str ?_
    refine Ev_local (by walk_at "k") (by walk_at "k") ?_
    refine ⟨T, rfl, hTl, ?_⟩
    refine EvP_some ?_
    refine Ev_local (by walk_at "k") (by walk_at "k") ?_
    refine ⟨_, rfl, ?_⟩
    refine EvP_some ?_
    refine' Ev_BinOp' ?_ ?_ ?_
    rotate_left 2
    refine Ev_local (by walk_at "k") (by walk_at "k") ?_
    with_reducible exact Is.mk
    refine Ev_int ?_
    with_reducible exact Is.mk
    refine add_ii ?_
    refine ⟨_, rfl, ?_⟩
    refine Ev_str ?_
    refine ne_ss ?_
    refine ⟨_, rfl, ?_⟩
    rw [one_sign (c := 125) hj rfl]
    refine Bif (fun hx => ?_) fun hx => ?_
    · have hne : ¬ Ends T true j l := fun h => by rw [decide_eq_true ((ends_o hl2).mp h)] at hx; cases hx
      refine Ex_cons ?_
      refine Ex_Assign_Tuple (by assumption) rfl rfl ?_
      refine' Ev_Call' ?_ ?_ ?_ ?_
      rotate_left 2
      refine Ev_local (by walk_at "k") (by walk_at "k") ?_
      with_reducible exact Is.mk
      exact hk
      refine' Evs_cons' ?_ ?_
      rotate_left 2
      refine Ev_local (by walk_at "k") (by walk_at "k") ?_
      with_reducible exact Is.mk
      refine' Evs_cons' ?_ ?_
      rotate_left 2
      refine Ev_local (by walk_at "k") (by walk_at "k") ?_
      with_reducible exact Is.mk
      exact Evs_nil'
      cases hr with
      | close h => exact absurd h hne
      | stop h hv =>
        refine Cl.out2 hD (ask j _ hv) ?_ ?_
        · rintro _ _ _ ⟨_, _, ⟨⟩⟩
        · rintro _ _ _ _ _ _ ⟨_, _, p, ⟨⟩⟩
          exact ⟨_, _, _, .tl .hd, Drp.one .hd (fun _ e => nomatch e), .mk _ _ _ rfl⟩
      | @item _ _ j2 _ _ v _ h hij hj2 hv hr =>
        refine Cl.out2 hD (ask j _ hv) ?_ ?_
        · rintro _ _ _ ⟨_, _, ⟨⟩⟩
          refine ⟨_, rfl, rfl, ?_⟩
          refine Stores.cons ?_
          refine' Store.mk ?u ?v ?_
          case u => walk_at "k"
          case v => walk_at "k"
          refine Stores.cons ?_
          refine' Store.mk ?u ?v ?_
          case u => walk_at "k"
          case v => walk_at "k"
          refine Stores.nil ?_
          with_reducible refine Then.next ?_
          refine Ex_cons ?_
          refine Ex_Assign_Tuple (by assumption) rfl rfl ?_
          refine' Ev_Call' ?_ ?_ ?_ ?_
          rotate_left 2
          refine Ev_local (by walk_at "k") (by walk_at "k") ?_
          with_reducible exact Is.mk
          exact hk
          refine' Evs_cons' ?_ ?_
          rotate_left 2
          refine Ev_local (by walk_at "k") (by walk_at "k") ?_
          with_reducible exact Is.mk
          refine' Evs_cons' ?_ ?_
          rotate_left 2
          refine Ev_local (by walk_at "k") (by walk_at "k") ?_
          with_reducible exact Is.mk
          exact Evs_nil'
          cases hr with
          | close h => exact absurd h (ends_odd (by simp; lia))
          | stop h hv =>
            refine Cl.out2 hD (ask j2 _ hv) ?_ ?_
            · rintro _ _ _ ⟨_, _, ⟨⟩⟩
            · rintro _ _ _ _ _ _ ⟨_, _, p, ⟨⟩⟩
              exact ⟨_, _, _, .tl .hd, Drp.one .hd (fun _ e => nomatch e), .mk _ _ _ rfl⟩
          | @item _ _ j3 _ _ v3 _ h hij3 hj3 hv3 hr3 =>
            refine Cl.out2 hD (ask j2 _ hv3) ?_ ?_
            · rintro _ _ _ ⟨_, _, ⟨⟩⟩
              refine ⟨_, rfl, rfl, ?_⟩
              refine Stores.cons ?_
              refine' Store.mk ?u ?v ?_
              case u => walk_at "k"
              case v => walk_at "k"
              refine Stores.cons ?_
              refine' Store.mk ?u ?v ?_
              case u => walk_at "k"
              case v => walk_at "k"
              refine Stores.nil ?_
              with_reducible refine Then.next ?_
              refine Ex_cons ?_
              refine Ex_Expr ?_
              refine' Ev_method' ?_ ?_
              rotate_left 1
              refine Ev_local (by walk_at "k") (by walk_at "k") ?_
              with_reducible exact Is.mk
              refine ⟨"list", _, PySem.F.plainAttrs_list, slot_list_append, type_list_append, .list (by walk_at "k"), ?_⟩
              refine' MArgs.mk ?_ ?_
              rotate_left 1
              refine' Evs_cons' ?_ ?_
              rotate_left 2
              refine' Ev_Tuple' ?_ ?_ ?_
              rotate_left 1
              refine' Evs_cons' ?_ ?_
              rotate_left 2
              refine Ev_local (by walk_at "k") (by walk_at "k") ?_
              with_reducible exact Is.mk
              refine' Evs_cons' ?_ ?_
              rotate_left 2
              refine Ev_local (by walk_at "k") (by walk_at "k") ?_
              with_reducible exact Is.mk
              exact Evs_nil'
              exact Nat.le_of_ble_eq_true rfl
              with_reducible exact Is.mk
              exact Evs_nil'
              have hpl := pairsV_len l
              refine append (by walk_at "k") (by show _ ≤ 16777216; lia) ?_
              refine ⟨rfl, ?_⟩
              with_reducible refine Then.next ?_
              refine Ex_nil ?_
              with_reducible refine Turn.next ?_
              have e : pairsV l ++ [.tup [v, v3]] = pairsV (l ++ [v] ++ [v3]) := by rw [List.append_assoc]; exact (pairsV_app hl2).symm
              rw [e]
              exact hn (T.cps.size - j3) _ _ (by lia) (.mk j3 (l ++ [v] ++ [v3]) (some v) (some v3) hj3 (by simp; lia) (by simp; lia) hr3)
            · rintro _ _ _ _ _ _ ⟨_, _, _, ⟨⟩⟩
        · rintro _ _ _ _ _ _ ⟨_, _, _, ⟨⟩⟩
    · have he : Ends T true j l := (ends_o hl2).mpr (by simpa using hx)
      cases hr with
      | stop h _ => exact absurd he h
      | item h _ _ _ _ => exact absurd he h
      | close h =>
        with_reducible refine Then.next ?_
        refine Ex_cons ?_
        refine Ex_freeze (Str.ofString "items") (by walk_at "k") (by walk_at "k") (by walk_at "k") (by walk_at "k") ?_
        refine Ex_Return ?_
        refine' Ev_Tuple' ?_ ?_ ?_
        rotate_left 1
        refine' Evs_cons' ?_ ?_
        rotate_left 2
        refine' Ev_Tuple' ?_ ?_ ?_
        rotate_left 1
        refine' Evs_cons' ?_ ?_
        rotate_left 2
        refine Ev_local (by walk_at "k") (by walk_at "k") ?_
        with_reducible exact Is.mk
        refine' Evs_cons' ?_ ?_
        rotate_left 2
        refine Ev_local (by walk_at "k") (by walk_at "k") ?_
        with_reducible exact Is.mk
        refine' Evs_cons' ?_ ?_
        rotate_left 2
        refine Ev_local (by walk_at "k") (by walk_at "k") ?_
        with_reducible exact Is.mk
        refine' Evs_cons' ?_ ?_
        rotate_left 2
        refine Ev_local (by walk_at "k") (by walk_at "k") ?_
        with_reducible exact Is.mk
        exact Evs_nil'
        exact Nat.le_of_ble_eq_true rfl
        with_reducible exact Is.mk
        refine' Evs_cons' ?_ ?_
        rotate_left 2
        refine' Ev_BinOp' ?_ ?_ ?_
        rotate_left 2
        refine Ev_local (by walk_at "k") (by walk_at "k") ?_
        with_reducible exact Is.mk
        refine Ev_int ?_
        with_reducible exact Is.mk
        refine add_ii ?_
        with_reducible exact Is.mk
        exact Evs_nil'
        exact Nat.le_of_ble_eq_true rfl
        with_reducible refine Then.ret ?_
        exact ⟨_, _, .hd, .mk _ _ rfl⟩
end
theorem QuoteAt.uniq {T : Str} {lo k k' : Nat} (h : QuoteAt T lo k) (h' : QuoteAt T lo k') : k = k' := by
  obtain ⟨a1, a2, a3⟩ := h
  obtain ⟨b1, b2, b3⟩ := h'
  rcases Nat.lt_trichotomy k k' with q | q | q
  · exact absurd a2 (b3 _ a1 q)
  · exact q
  · exact absurd b2 (a3 _ b1 q)
theorem reads {G : Glob} {f aO aL aT li lf lc mb : Addr} {mm : V} {T : Str} (bt : BtS G) (hlen0 : G.mg (Str.ofString "len") = none) (hlen : G.mb (Str.ofString "len") = some (.builtin "len")) (hT : T.cps.size ≤ 1000000) :
    ∀ (d i : Nat) (r : Res) {fr : List Env} {A : Around} {F : Fz} {H : Hp}, Rd T d i r → CtxF F li lf lc → IsDef F (stm 6) aT → IsDef F (stm 7) aL → IsDef F (stm 8) aO →
      ScanF F f { po := .ref aO, pa := .ref aL, ps := .ref aT, mb, st := .str "strict", pf := .ref lf, pi := .ref li, pc := .ref lc, oh := .str "hook", oph := .str "pairs", mm } → Ok fr A (2 * d + 2) →
      Cl G fr A F H (.ref f) [.str T, .int (i : Nat)] (okQ F H r) (Thr0 (stopP F H r)) := by
  intro d
  induction d with
  | zero =>
    intro i r fr A F H hr hC hfT hfL hfO hS hA
    refine scan hS (hA.less (by lia)) hT bt ?_
    obtain ⟨_, hi⟩ := hC.i
    obtain ⟨_, hf⟩ := hC.f
    obtain ⟨_, hc⟩ := hC.c
    cases hr with
    | leaf h =>
      cases h with
      | null h => rw [h]; exact .mk _ _ rfl
      | tru h => rw [h]; exact .mk _ _ rfl
      | fls h => rw [h]; exact .mk _ _ rfl
      | whole h => rw [h]; exact fun env A' hD => lam_whole hi ((hA.deep (n := 1) hD).less (by lia)) (.mk _ _ rfl)
      | broken h => rw [h]; exact fun env A' hD => lam_broken hf ((hA.deep (n := 1) hD).less (by lia)) (.mk _ _ rfl)
      | con h => rw [h]; exact fun env A' hD => lam_word hc ((hA.deep (n := 1) hD).less (by lia)) (.mk _ _ rfl)
      | str h hk => rw [h]; exact fun env A' hD => part_text (lo := i + 1) hfT ((hA.deep (n := 1) hD).less (by lia)) hT bt hlen0 hlen (fun k hk' => by have : k = _ := hk'.uniq hk; subst this; exact .mk _ _ rfl) fun hn => absurd hk.2.1 (hn _ hk.1)
    | noq h hq => rw [h]; exact fun env A' hD => part_text (lo := i + 1) hfT ((hA.deep (n := 1) hD).less (by lia)) hT bt hlen0 hlen (fun k hk' => absurd hk'.2.1 (hq _ hk'.1)) fun _ x b => .mk _ _ _ rfl
    | stop h => rw [h]; exact fun x b => .mk _ _ _ rfl
  | succ d ih =>
    intro i r fr A F H hr hC hfT hfL hfO hS hA
    refine scan hS (hA.less (by lia)) hT bt ?_
    obtain ⟨_, hi⟩ := hC.i
    obtain ⟨_, hf⟩ := hC.f
    obtain ⟨_, hc⟩ := hC.c
    have asks : ∀ {fr : List Env} {A : Around}, Ok fr A (2 * d + 3) → ∀ i r, Rd T d i r → ClD G fr A F H (.ref f) [.str T, .int (i : Nat)] (okQ F H r) (Thr0 (stopP F H r)) := fun hA i r hr env A' hD => ih i r hr hC hfT hfL hfO hS ((hA.deep (n := 2 * d + 2) hD))
    cases hr with
    | leaf h =>
      cases h with
      | null h => rw [h]; exact .mk _ _ rfl
      | tru h => rw [h]; exact .mk _ _ rfl
      | fls h => rw [h]; exact .mk _ _ rfl
      | whole h => rw [h]; exact fun env A' hD => lam_whole hi ((hA.deep (n := 2 * d + 3) hD).less (by lia)) (.mk _ _ rfl)
      | broken h => rw [h]; exact fun env A' hD => lam_broken hf ((hA.deep (n := 2 * d + 3) hD).less (by lia)) (.mk _ _ rfl)
      | con h => rw [h]; exact fun env A' hD => lam_word hc ((hA.deep (n := 2 * d + 3) hD).less (by lia)) (.mk _ _ rfl)
      | str h hk => rw [h]; exact fun env A' hD => part_text (lo := i + 1) hfT ((hA.deep (n := 2 * d + 3) hD).less (by lia)) hT bt hlen0 hlen (fun k hk' => by have : k = _ := hk'.uniq hk; subst this; exact .mk _ _ rfl) fun hn => absurd hk.2.1 (hn _ hk.1)
    | noq h hq => rw [h]; exact fun env A' hD => part_text (lo := i + 1) hfT ((hA.deep (n := 2 * d + 3) hD).less (by lia)) hT bt hlen0 hlen (fun k hk' => absurd hk'.2.1 (hq _ hk'.1)) fun _ x b => .mk _ _ _ rfl
    | stop h => rw [h]; exact fun x b => .mk _ _ _ rfl
    | arr h hr => rw [h]; exact fun env A' hD => part_list (i := i + 1) hfL ((hA.deep (n := 2 * d + 3) hD).less (by lia)) hT (lex_lt (by rw [h]; nofun)) hr hS.ok (asks (hA.deep (n := 2 * d + 3) hD))
    | obj h hr => rw [h]; exact fun env A' hD => part_obj (i := i + 1) hfO ((hA.deep (n := 2 * d + 3) hD).less (by lia)) hT (lex_lt (by rw [h]; nofun)) hr hS.ok (asks (hA.deep (n := 2 * d + 3) hD))
theorem cat_ss : Cat "StopIteration" "StopIteration" true := ⟨by rw [isSubtype_type]; kernel_rfl, by rw [isSubtype_type]; kernel_rfl, by rw [isSubtype_type]; kernel_rfl⟩
theorem Hd.no {G : Glob} {fr : List Env} {A : Around} {env : Env} {F : Fz} {H : Hp} {x : Addr} {hs : List ExceptHandler} {Q : FV → Fz → Hp → Prop} (h : Hd G fr A env F H x hs Q (Thr0 fun _ _ _ _ _ _ => False)) : Hd G fr A env F H x hs Q No := fun K m R s hR =>
  wpAny_mono (h K m R s hR) (fun _ _ q => q) fun e s q => by obtain ⟨_, _, _, _, _, _, q⟩ := q; exact (thr_no q).elim
theorem Hd.drpQ {G : Glob} {fr : List Env} {A : Around} {env : Env} {F : Fz} {H : Hp} {x : Addr} {hs : List ExceptHandler} {Q : FV → Fz → Hp → Prop} {E : Value → Fz → Hp → Prop} (h : Hd G fr A env F H x hs (fun x F1 H1 => ∃ H2, Drp H1 H2 ∧ Q x F1 H2) E) : Hd G fr A env F H x hs Q E := fun K m R s hR =>
  wpAny_mono (h K m R s hR) (fun _ _ q => by obtain ⟨F1, H1, l, r, x, hx, F2, m2, H2, d, q⟩ := q; exact ⟨F1, H2, l, r.drp d, x, hx, F2, m2, q⟩) fun _ _ q => q
theorem law_read {G : Glob} {fr : List Env} {A : Around} {F : Fz} {H : Hp} {a g f m : Addr} {T : Str} {i : Nat} {r : Res} {n : Nat} {Q : V → Fz → Hp → Prop} (bt : BtS G) (hf : IsDef F (stm 10) a) (hA : Ok fr A (n + 2)) (hO : OuterF F g f m) (hk : KOk F (.ref f)) (hm : Upd H m (.dict []) (.dict []) H)
    (hr : ∀ {fr : List Env} {A' : Around} {X : Addr × AO}, Ok fr A' n → Cl G fr A' F (X :: H) (.ref f) [.str T, .int (i : Nat)] (okQ F (X :: H) r) (Thr0 (stopP F (X :: H) r))) (h : Q (resV r) F H) : Cl G fr A F H (.ref a) [.ref g, .str T, .int (i : Nat)] Q No := by
  obtain ⟨c, s, o, pm, hs, hf, hd, hc⟩ := hf
  obtain rfl := Option.some.inj hs.symm
  obtain ⟨_, _, s0, s1⟩ := bt
  refine call_def hf hd hc [Str.ofString "scanner", Str.ofString "text", Str.ofString "place"] [Str.ofString "value", Str.ofString "end", Str.ofString "fault"] rfl (by decide) (fun vs hv => ?_) (by rfl) (by rfl) hA.room (fun L => leaves_no) (fun L A' hD => ?_)
  · obtain ⟨a, b, c, rfl⟩ := len3 hv
    rfl
  · simp only [mkRho, List.zip, List.zipWith, List.map, List.cons_append, List.nil_append]
    have hA := hA.deep hD
    have hh := hA.handled
    refine Ex_cons ?_
    refine Ex_Try (PB := fun x c a b F1 H1 => ∃ p : Nat, r = .stop p ∧ c = "StopIteration" ∧ a = [.int (p : Int)] ∧ F1 = F ∧ H1 = (L, .ns [(Str.ofString "scanner", some (.ref g)), (Str.ofString "text", some (.str T)), (Str.ofString "place", some (.int (i : Nat))), (Str.ofString "value", none), (Str.ofString "end", none), (Str.ofString "fault", none)]) :: H) hA.frames ?_ fun x c a t b F1 H1 hq => ?_
    · refine Ex_cons ?_
      refine Ex_Assign_Tuple (by assumption) rfl rfl ?_
      refine' Ev_Call' ?_ ?_ ?_ ?_
      rotate_left 2
      refine Ev_local (by walk_at "k") (by walk_at "k") ?_
      with_reducible exact Is.mk
      exact hO.ok
      refine' Evs_cons' ?_ ?_
      rotate_left 2
      refine Ev_local (by walk_at "k") (by walk_at "k") ?_
      with_reducible exact Is.mk
      refine' Evs_cons' ?_ ?_
      rotate_left 2
      refine Ev_local (by walk_at "k") (by walk_at "k") ?_
      with_reducible exact Is.mk
      exact Evs_nil'
      refine scan_outer hO hk (hA.less (by lia)) fun env A2 hD2 => (hr (hA.deep hD2)).mono (fun x F2 H2 q => ?_) fun e F2 H2 q => q.mono fun x c a b F2 H2 q => ?_
      · obtain ⟨v, e, rfl⟩ := q
        refine ⟨[], _, .tl hm, by decide, ?_⟩
        skip
        refine ⟨_, rfl, rfl, ?_⟩
        refine Stores.cons ?_
        refine' Store.mk ?u ?v ?_
        case u => walk_at "k"
        case v => walk_at "k"
        refine Stores.cons ?_
        refine' Store.mk ?u ?v ?_
        case u => walk_at "k"
        case v => walk_at "k"
        refine Stores.nil ?_
        with_reducible refine Then.next ?_
        refine Ex_nil ?_
        with_reducible refine Then.next ?_
        refine Ex_cons ?_
        refine Ex_Return ?_
        refine' Ev_Tuple' ?_ ?_ ?_
        rotate_left 1
        refine' Evs_cons' ?_ ?_
        rotate_left 2
        refine Ev_str ?_
        with_reducible exact Is.mk
        refine' Evs_cons' ?_ ?_
        rotate_left 2
        refine Ev_local (by walk_at "k") (by walk_at "k") ?_
        with_reducible exact Is.mk
        refine' Evs_cons' ?_ ?_
        rotate_left 2
        refine Ev_local (by walk_at "k") (by walk_at "k") ?_
        with_reducible exact Is.mk
        exact Evs_nil'
        exact Nat.le_of_ble_eq_true rfl
        with_reducible refine Then.ret ?_
        exact ⟨_, _, .hd, h⟩
      · cases q with
        | mk b p hp => exact ⟨[], _, .tl hm, by decide, p, hp, rfl, rfl, rfl, rfl⟩
    · obtain ⟨p, rfl, rfl, rfl, rfl, rfl⟩ := hq
      refine Hd.drpQ (Hd.no (Hd_as hA.frames s0 s1 cat_ss ?_))
      refine' Store.mk ?u ?v ?_
      case u => walk_at "k"
      case v => walk_at "k"
      refine Ex_cons ?_
      refine Ex_Return ?_
      refine' Ev_Tuple' ?_ ?_ ?_
      rotate_left 1
      refine' Evs_cons' ?_ ?_
      rotate_left 2
      refine Ev_str ?_
      with_reducible exact Is.mk
      refine' Evs_cons' ?_ ?_
      rotate_left 2
      refine' Ev_Attribute' ?_ ?_
      rotate_left 1
      refine Ev_local (by walk_at "k") (by walk_at "k") ?_
      with_reducible exact Is.mk
      refine get_stop (args := [.int (p : Int)]) (by walk_at "k") trivial ?_
      with_reducible exact Is.mk
      exact Evs_nil'
      exact Nat.le_of_ble_eq_true rfl
      with_reducible refine Then.ret ?_
      refine Unb.mk (by walk_at "k") (by walk_at "k") ⟨_, Drp.two (a := x) (b := t) .hd (by intro _ q; cases q) .hd (by intro _ q; cases q), ?_⟩
      with_reducible refine Then.ret ?_
      exact ⟨_, _, .hd, h⟩
structure BtL (G : Glob) : Prop where
  type0 : G.mg (Str.ofString "type") = none
  type : G.mb (Str.ofString "type") = some (.type "type")
  isi0 : G.mg (Str.ofString "isinstance") = none
  isi : G.mb (Str.ofString "isinstance") = some (.builtin "isinstance")
  list0 : G.mg (Str.ofString "list") = none
  list : G.mb (Str.ofString "list") = some (.type "list")
  tuple0 : G.mg (Str.ofString "tuple") = none
  tuple : G.mb (Str.ofString "tuple") = some (.type "tuple")
  len0 : G.mg (Str.ofString "len") = none
  len : G.mb (Str.ofString "len") = some (.builtin "len")
  all0 : G.mg (Str.ofString "all") = none
  all : G.mb (Str.ofString "all") = some (.builtin "all")
  zip0 : G.mg (Str.ofString "zip") = none
  zip : G.mb (Str.ofString "zip") = some (.type "zip")
theorem kn_plain {d : Nat} {x : V} (h : Plain d x) : ∃ T, KnV x T := by
  cases h with
  | none => exact ⟨_, .none⟩
  | bool => exact ⟨_, .bool⟩
  | int => exact ⟨_, .int⟩
  | str => exact ⟨_, .str⟩
  | seq b => cases b with
    | true => exact ⟨_, .tup⟩
    | false => exact ⟨_, .lst⟩
theorem len_seq {G : Glob} {fr : List Env} {A : Around} {F : Fz} {H : Hp} {E : Value → Fz → Hp → Prop} {Q : V → Fz → Hp → Prop} {b : Bool} {l : List V} (hl : l.length < 2 ^ 63) (h : Q (.int l.length) F H) : Cl G fr A F H (.blt "len") [seqV b l] Q E := by
  cases b with
  | true => exact len_tup hl h
  | false => exact len_lst .lst hl h
theorem nm3 {ρ : List (Str × Option V)} {x y z : Str} (h : ρ.map (·.1) = [x, y, z]) : ∃ a b c, ρ = [(x, a), (y, b), (z, c)] := by
  cases ρ with
  | nil => cases h
  | cons p r =>
    obtain ⟨h1, h2⟩ := List.cons.inj h
    obtain ⟨b, c, rfl⟩ := nm2 h2
    exact ⟨p.2, b, c, by rw [← h1]⟩
theorem law_same {G : Glob} {a : Addr} {H : Hp} (bt : BtL G) (hg : G.mg (Str.ofString "_law_same") = some (.ref a)) : ∀ (d : Nat) (x : V) {fr : List Env} {A : Around} {F : Fz} {H : Hp} {Q : V → Fz → Hp → Prop}, Plain d x → IsDef F (stm 13) a → Ok fr A (d + 2) → Q (.bool true) F H → Cl G fr A F H (.ref a) [x, x] Q No := by
  intro d
  induction d using Nat.strongRecOn with
  | _ d ih =>
    intro x fr A F H Q hx hf hA h
    have hF := hf
    obtain ⟨c, s, o, pm, hs, hf, hd, hc⟩ := hf
    obtain rfl := Option.some.inj hs.symm
    obtain ⟨T, hT⟩ := kn_plain hx
    obtain ⟨t0, t1, i0, i1, l0, l1, u0, u1, n0, n1, a0, a1, z0, z1⟩ := bt
    refine Cl.dn ?_
    refine call_def hf hd hc [Str.ofString "one", Str.ofString "other"] [] rfl (by decide) (fun vs hv => ?_) (by rfl) (by rfl) hA.room (fun L => leaves_no) (fun L A' hD => ?_)
    · obtain ⟨a, b, rfl⟩ := len2 hv
      rfl
    · simp only [mkRho, List.zip, List.zipWith, List.map, List.cons_append, List.nil_append]
      have hA := hA.deep hD
      have hh := hA.handled
      refine Ex_cons ?_
      refine Ex_If ?_
      refine' It_Compare1' ?_ ?_ ?_
      rotate_left 2
      refine' Ev_Call' ?_ ?_ ?_ ?_
      rotate_left 2
      refine Ev_blt (by assumption) (by assumption) .typ ?_
      with_reducible exact Is.mk
      with_reducible exact KOk.typ
      refine' Evs_cons' ?_ ?_
      rotate_left 2
      refine Ev_local (by walk_at "k") (by walk_at "k") ?_
      with_reducible exact Is.mk
      exact Evs_nil'
      refine type_kn hT ?_
      with_reducible exact Is.mk
      refine' Ev_Call' ?_ ?_ ?_ ?_
      rotate_left 2
      refine Ev_blt (by assumption) (by assumption) .typ ?_
      with_reducible exact Is.mk
      with_reducible exact KOk.typ
      refine' Evs_cons' ?_ ?_
      rotate_left 2
      refine Ev_local (by walk_at "k") (by walk_at "k") ?_
      with_reducible exact Is.mk
      exact Evs_nil'
      refine type_kn hT ?_
      with_reducible exact Is.mk
      refine isNot_same ?_
      refine ⟨_, rfl, ?_⟩
      refine Bif (fun hx => ?_) fun _ => ?_
      · cases hx
      refine Ex_nil ?_
      with_reducible refine Then.next ?_
      refine Ex_cons ?_
      refine Ex_If ?_
      refine It_value ?_
      refine' Ev_Call' ?_ ?_ ?_ ?_
      rotate_left 2
      refine Ev_blt (by assumption) (by assumption) .blt ?_
      with_reducible exact Is.mk
      with_reducible exact KOk.blt
      refine' Evs_cons' ?_ ?_
      rotate_left 2
      refine Ev_local (by walk_at "k") (by walk_at "k") ?_
      with_reducible exact Is.mk
      refine' Evs_cons' ?_ ?_
      rotate_left 2
      refine' Ev_Tuple' ?_ ?_ ?_
      rotate_left 1
      refine' Evs_cons' ?_ ?_
      rotate_left 2
      refine Ev_blt (by assumption) (by assumption) .typ ?_
      with_reducible exact Is.mk
      refine' Evs_cons' ?_ ?_
      rotate_left 2
      refine Ev_blt (by assumption) (by assumption) .typ ?_
      with_reducible exact Is.mk
      exact Evs_nil'
      exact Nat.le_of_ble_eq_true rfl
      with_reducible exact Is.mk
      exact Evs_nil'
      refine isi_lt hT ?_
      refine tr_bool ?_
      cases hx with
      | none =>
        refine Bif_f ?_
        refine Ex_nil ?_
        with_reducible refine Then.next ?_
        refine Ex_cons ?_
        refine Ex_Return ?_
        refine Ev_Compare1 ?_
        refine Ev_local (by walk_at "k") (by walk_at "k") ?_
        refine Ev_local (by walk_at "k") (by walk_at "k") ?_
        refine eq_nn ?_
        with_reducible refine Then.ret ?_
        exact ⟨_, _, .hd, .in h⟩
      | bool =>
        refine Bif_f ?_
        refine Ex_nil ?_
        with_reducible refine Then.next ?_
        refine Ex_cons ?_
        refine Ex_Return ?_
        refine Ev_Compare1 ?_
        refine Ev_local (by walk_at "k") (by walk_at "k") ?_
        refine Ev_local (by walk_at "k") (by walk_at "k") ?_
        refine eq_bb ?_
        rw [beq_self_eq_true]
        with_reducible refine Then.ret ?_
        exact ⟨_, _, .hd, .in h⟩
      | int =>
        refine Bif_f ?_
        refine Ex_nil ?_
        with_reducible refine Then.next ?_
        refine Ex_cons ?_
        refine Ex_Return ?_
        refine Ev_Compare1 ?_
        refine Ev_local (by walk_at "k") (by walk_at "k") ?_
        refine Ev_local (by walk_at "k") (by walk_at "k") ?_
        refine eq_ii ?_
        with_reducible refine Then.ret ?_
        rw [beq_self_eq_true]
        exact ⟨_, _, .hd, .in h⟩
      | str =>
        refine Bif_f ?_
        refine Ex_nil ?_
        with_reducible refine Then.next ?_
        refine Ex_cons ?_
        refine Ex_Return ?_
        refine Ev_Compare1 ?_
        refine Ev_local (by walk_at "k") (by walk_at "k") ?_
        refine Ev_local (by walk_at "k") (by walk_at "k") ?_
        refine eq_ss ?_
        with_reducible refine Then.ret ?_
        rw [beq_self_eq_true]
        exact ⟨_, _, .hd, .in h⟩
      | @seq d b l hl hp =>
        refine Bif (fun _ => ?_) fun hx => ?_
        · refine Ex_cons ?_
          refine Ex_Return ?_
          refine Ev_and ?_
          refine Ev_Compare1 ?_
          refine' Ev_Call' ?_ ?_ ?_ ?_
          rotate_left 2
          refine Ev_blt (by assumption) (by assumption) .blt ?_
          with_reducible exact Is.mk
          with_reducible exact KOk.blt
          refine' Evs_cons' ?_ ?_
          rotate_left 2
          refine Ev_local (by walk_at "k") (by walk_at "k") ?_
          with_reducible exact Is.mk
          exact Evs_nil'
          refine len_seq (by simp [sizeLine] at hl; lia) ?_
          refine' Ev_Call' ?_ ?_ ?_ ?_
          rotate_left 2
          refine Ev_blt (by assumption) (by assumption) .blt ?_
          with_reducible exact Is.mk
          with_reducible exact KOk.blt
          refine' Evs_cons' ?_ ?_
          rotate_left 2
          refine Ev_local (by walk_at "k") (by walk_at "k") ?_
          with_reducible exact Is.mk
          exact Evs_nil'
          refine len_seq (by simp [sizeLine] at hl; lia) ?_
          refine eq_ii ?_
          refine tr_bool ?_
          rw [beq_self_eq_true]
          refine Bif_t ?_
          refine Ev_Call ?_
          refine Ev_blt (by assumption) (by assumption) .blt ?_
          refine ⟨.blt, ?_⟩
          refine Evs_cons ?_
          refine Ev_ListCompO [Str.ofString ".0", Str.ofString "a", Str.ofString "b"] rfl ?_ (by decide)
          refine' Ev_Call' ?_ ?_ ?_ ?_
          rotate_left 2
          refine Ev_blt (by assumption) (by assumption) .typ ?_
          with_reducible exact Is.mk
          with_reducible exact KOk.typ
          refine' Evs_cons' ?_ ?_
          rotate_left 2
          refine Ev_local (by walk_at "k") (by walk_at "k") ?_
          with_reducible exact Is.mk
          refine' Evs_cons' ?_ ?_
          rotate_left 2
          refine Ev_local (by walk_at "k") (by walk_at "k") ?_
          with_reducible exact Is.mk
          exact Evs_nil'
          refine call_zip fun F1 z TI TO i1 i2 a1 a2 le1 h1 h2 => ?_
          have ez : (zipV l l).length = l.length := by unfold zipV; rw [List.length_zipWith, Nat.min_self]
          refine ⟨zipV l l, _, zip_iterO hh rfl h1 h2, by rw [ez]; exact hl, _, ⟨rfl, rfl, rfl⟩, map_turns (f := fun _ => .bool true) ?_, ?_⟩
          · intro k y C ρ hy hρ
            obtain ⟨v, hv, rfl⟩ : ∃ v, v ∈ l ∧ y = .tup [v, v] := by
              unfold zipV at hy
              rw [List.getElem?_zipWith] at hy
              cases q : l[k]? with
              | none => rw [q] at hy; cases hy
              | some v => rw [q] at hy; exact ⟨v, List.mem_of_getElem? q, (Option.some.inj hy).symm⟩
            obtain ⟨r0, r1, r2, rfl⟩ := nm3 hρ
            refine As_Tuple hh rfl rfl rfl ?_
            refine Stores.cons ?_
            refine' Store.mk Upd.hd ?v ?_
            case v => walk_at "k"
            refine Stores.cons ?_
            refine' Store.mk Upd.hd ?v ?_
            case v => walk_at "k"
            refine Stores.nil ?_
            refine' Ev_Call' ?_ ?_ ?_ ?_
            rotate_left 2
            refine Ev_global (by assumption) .ref ?_
            with_reducible exact Is.mk
            exact (hF.mono le1).ok
            refine' Evs_cons' ?_ ?_
            rotate_left 2
            refine Ev_local Has.hd (by walk_at "k") ?_
            with_reducible exact Is.mk
            refine' Evs_cons' ?_ ?_
            rotate_left 2
            refine Ev_local Has.hd (by walk_at "k") ?_
            with_reducible exact Is.mk
            exact Evs_nil'
            refine ih d (by lia) v (hp v hv) (hF.mono le1) (hA.less (by lia)) ?_
            exact ⟨rfl, _, _, .hd, rfl, rfl, rfl⟩
          · rintro acc F2 H2 ⟨rfl, rfl, rfl⟩
            rw [ez]
            refine Evs_nil ?_
            rw [show (List.range l.length).map (fun _ => V.bool true) = ((List.range l.length).map fun _ => true).map V.bool from by rw [List.map_map]; rfl]
            refine all_lst hh ?_
            rw [show (((List.range l.length).map fun _ => true).all id) = true from by simp]
            with_reducible refine Then.ret ?_
            with_reducible refine Then.ret ?_
            exact ⟨_, _, .hd, F, le1, h⟩
        · cases b <;> cases hx
noncomputable def rowsN : Nat → List (Str × V)
  | 0 => [("-", .int 1), ("0", .int 2), ("1", .int 3)]
  | 1 => [("0", .int 2), ("1", .int 3)]
  | 2 => [(".", .int 4), ("e", .int 6)]
  | 3 => [("0", .int 3), ("1", .int 3), (".", .int 4), ("e", .int 6)]
  | 4 => [("0", .int 5), ("1", .int 5)]
  | 5 => [("0", .int 5), ("1", .int 5), ("e", .int 6)]
  | 6 => [("+", .int 7), ("-", .int 7), ("0", .int 8), ("1", .int 8)]
  | 7 => [("0", .int 8), ("1", .int 8)]
  | _ => [("0", .int 8), ("1", .int 8)]
inductive StepsF (G : Glob) (F : Fz) (a : Addr) : Prop where
  | mk (ds : Nat → Addr) (top : DictF G F a (kvL (kInt G).emb ((List.range 9).map fun (k : Nat) => ((k : Int), .ref (ds k))))) (row : ∀ k, k < 9 → DictF G F (ds k) (kvL (kStr G).emb (rowsN k)))
theorem vAt_sk {a c : Nat} {y : V} {l : List (Str × V)} : vAt ((⟨#[a]⟩, y) :: l) (⟨#[c]⟩ : Str) = if c = a then some y else vAt l ⟨#[c]⟩ := by
  unfold vAt
  rw [List.find?_cons]
  by_cases h : c = a
  · subst h; simp
  · have : ((⟨#[a]⟩ : Str) = ⟨#[c]⟩) = False := by simp; exact fun e => h e.symm
    simp only [this, decide_false, if_neg h]
theorem vAt_nil {k : Str} : vAt ([] : List (Str × V)) k = none := rfl
theorem row_at {s c : Nat} (hs : s < 9) : (vAt (rowsN s) (⟨#[c]⟩ : Str)).getD (.int 9) = .int (stpN s c : Nat) := by
  have e45 : Str.ofString "-" = ⟨#[45]⟩ := by decide +kernel
  have e48 : Str.ofString "0" = ⟨#[48]⟩ := by decide +kernel
  have e49 : Str.ofString "1" = ⟨#[49]⟩ := by decide +kernel
  have e46 : Str.ofString "." = ⟨#[46]⟩ := by decide +kernel
  have e43 : Str.ofString "+" = ⟨#[43]⟩ := by decide +kernel
  have e101 : Str.ofString "e" = ⟨#[101]⟩ := by decide +kernel
  have hs : s = 0 ∨ s = 1 ∨ s = 2 ∨ s = 3 ∨ s = 4 ∨ s = 5 ∨ s = 6 ∨ s = 7 ∨ s = 8 := by lia
  rcases hs with rfl | rfl | rfl | rfl | rfl | rfl | rfl | rfl | rfl
  all_goals
    simp only [rowsN, e45, e48, e49, e46, e43, e101, vAt_sk, vAt_nil, stpN]
    repeat (first | rfl | split)
theorem rows_nd (s : Nat) : ((rowsN s).map (·.1)).Nodup := by
  unfold rowsN
  split <;> decide +kernel
noncomputable def bestV : Option (Nat × Bool) → V
  | none => .none
  | some (n, false) => .tup [.int (n : Nat), .str "whole"]
  | some (n, true) => .tup [.int (n : Nat), .str "broken"]
theorem top_at (ds : Nat → Addr) {s : Nat} (hs : s < 9) : vAt ((List.range 9).map fun (k : Nat) => ((k : Int), V.ref (ds k))) (s : Int) = some (.ref (ds s)) := by
  have hs : s = 0 ∨ s = 1 ∨ s = 2 ∨ s = 3 ∨ s = 4 ∨ s = 5 ∨ s = 6 ∨ s = 7 ∨ s = 8 := by lia
  rcases hs with rfl | rfl | rfl | rfl | rfl | rfl | rfl | rfl | rfl <;> rfl
theorem Ex_cut {G : Glob} {fr : List Env} {A : Around} {env : Env} {F : Fz} {H : Hp} {E : Value → Fz → Hp → Prop} {Q : FV → Fz → Hp → Prop} {st : Stmt} {rest : List Stmt} (P : Fz → Hp → Prop) (h : Ex G fr A F H (exec st env) (fun fv F1 H1 => fv = .next ∧ P F1 H1) E) (k : ∀ F1 H1, P F1 H1 → Ex G fr A F1 H1 (execs rest env) Q E) : Ex G fr A F H (execs (st :: rest) env) Q E :=
  Ex_cons (h.mono (fun x F1 H1 q => by obtain ⟨rfl, p⟩ := q; exact k _ _ p) fun _ _ _ e => e)
theorem digits19 {c : Nat} : c ∈ (Str.ofString "123456789").cps.toList ↔ 49 ≤ c ∧ c ≤ 57 := by
  rw [show (Str.ofString "123456789").cps.toList = List.range' 49 9 from by decide +kernel, List.mem_range'_1]
  exact ⟨fun h => ⟨h.1, Nat.le_of_lt_succ h.2⟩, fun h => ⟨h.1, Nat.lt_succ_of_le h.2⟩⟩
theorem stp_le (s c : Nat) : stpN s c ≤ 9 := by
  unfold stpN
  split <;> (repeat (first | decide | split))
inductive InvN (T : Str) (i : Nat) (st L : Addr) (F : Fz) (H : Hp) : Nat → Fz → Hp → Prop where
  | mk (j s : Nat) (b : Option (Nat × Bool)) (o : Option V) (hj : j ≤ T.cps.size) (hs : s < 9) (hb : comb b j (bestN s (T.cps.toList.drop j)) = comb none i (bestN 0 (T.cps.toList.drop i))) :
    InvN T i st L F H (T.cps.size - j) F ((L, .ns [(Str.ofString "text", some (.str T)), (Str.ofString "at", some (.int (j : Nat))), (Str.ofString "steps", some (.ref st)), (Str.ofString "state", some (.int (s : Nat))), (Str.ofString "best", some (bestV b)), (Str.ofString "sign", o)]) :: H)
inductive Just (F : Fz) (H : Hp) : Fz → Hp → Prop where
  | mk : Just F H F H
theorem law_number {G : Glob} {fr : List Env} {A : Around} {F : Fz} {H : Hp} {a st : Addr} {T : Str} {i : Nat} {Q : V → Fz → Hp → Prop} (bt : BtL G) (hf : IsDef F (stm 11) a) (hA : Ok fr A 1) (hT : T.cps.size ≤ 1000000) (hi : i ≤ T.cps.size) (hS : StepsF G F st)
    (h : Q (bestV (comb none i (bestN 0 (T.cps.toList.drop i)))) F H) : Cl G fr A F H (.ref a) [.str T, .int (i : Nat), .ref st] Q No := by
  obtain ⟨c, s, o, pm, hs, hf, hd, hc⟩ := hf
  obtain rfl := Option.some.inj hs.symm
  obtain ⟨t0, t1, i0, i1, l0, l1, u0, u1, n0, n1, a0, a1, z0, z1⟩ := bt
  obtain ⟨ds, top, row⟩ := hS
  have hTl : T.length < 2 ^ 63 := by show T.cps.size < 2 ^ 63; lia
  refine call_def hf hd hc [Str.ofString "text", Str.ofString "at", Str.ofString "steps"] [Str.ofString "state", Str.ofString "best", Str.ofString "sign"] rfl (by decide) (fun vs hv => ?_) (by rfl) (by rfl) hA.room (fun L => leaves_no) (fun L A' hD => ?_)
  · obtain ⟨a, b, c, rfl⟩ := len3 hv
    rfl
  · simp only [mkRho, List.zip, List.zipWith, List.map, List.cons_append, List.nil_append]
    have hA := hA.deep hD
    have hh := hA.handled
    refine Ex_cons ?_
    refine Ex_Assign_Name ?_
    refine Ev_int ?_
    refine' Store.mk ?u ?v ?_
    case u => walk_at "k"
    case v => walk_at "k"
    with_reducible refine Then.next ?_
    refine Ex_cons ?_
    refine Ex_Assign_Name ?_
    refine Ev_none ?_
    refine' Store.mk ?u ?v ?_
    case u => walk_at "k"
    case v => walk_at "k"
    with_reducible refine Then.next ?_
    refine Ex_cons ?_
    refine Ex_While (InvN T i st L F H) (T.cps.size - i) (.mk i 0 none none hi (by lia) rfl) ?_ noted_no
    rintro _ _ _ ⟨j, s, b, o, hj, hs9, hb⟩ Qn hn
    refine' It_Compare1' ?_ ?_ ?_
    rotate_left 2
    refine Ev_local (by walk_at "k") (by walk_at "k") ?_
    with_reducible exact Is.mk
    refine' Ev_Call' ?_ ?_ ?_ ?_
    rotate_left 2
    refine Ev_blt (by assumption) (by assumption) .blt ?_
    with_reducible exact Is.mk
    with_reducible exact KOk.blt
    refine' Evs_cons' ?_ ?_
    rotate_left 2
    refine Ev_local (by walk_at "k") (by walk_at "k") ?_
    with_reducible exact Is.mk
    exact Evs_nil'
    refine len_s hTl ?_
    with_reducible exact Is.mk
    refine lt_ii ?_
    refine ⟨_, rfl, ?_⟩
    refine Bif (fun hx => ?_) fun hx => ?_
    · have hlt : j < T.cps.size := by have := of_decide_eq_true hx; have e : T.length = T.cps.size := rfl; lia
      have hc : T.cps[j]? = some T.cps[j] := Array.getElem?_eq_getElem hlt
      have hdr := (lex_at hc).2
      generalize T.cps[j] = c at hc hdr
      rw [hdr] at hb
      refine Ex_cons ?_
      refine Ex_Assign_Name ?_
      refine' Ev_Subscript' ?_ ?_ ?_
      rotate_left 2
      refine Ev_local (by walk_at "k") (by walk_at "k") ?_
      with_reducible exact Is.mk
      refine Ev_local (by walk_at "k") (by walk_at "k") ?_
      with_reducible exact Is.mk
      refine sub_str (by lia) (by lia) (c := c) (by rw [Int.toNat_natCast]; exact hc) ?_
      refine' Store.mk ?u ?v ?_
      case u => walk_at "k"
      case v => walk_at "k"
      with_reducible refine Then.next ?_
      refine Ex_cut (Just F ((L, .ns [(Str.ofString "text", some (.str T)), (Str.ofString "at", some (.int (j : Nat))), (Str.ofString "steps", some (.ref st)), (Str.ofString "state", some (.int (s : Nat))), (Str.ofString "best", some (bestV b)), (Str.ofString "sign", some (.str ⟨#[clsN c]⟩))]) :: H)) ?_ ?_
      · refine Ex_If ?_
        refine' It_Compare1' ?_ ?_ ?_
        rotate_left 2
        refine Ev_local (by walk_at "k") (by walk_at "k") ?_
        with_reducible exact Is.mk
        refine Ev_str ?_
        with_reducible exact Is.mk
        refine in_ss ?_
        rw [in_1]
        refine ⟨_, rfl, ?_⟩
        refine Bif (fun hx => ?_) fun hx => ?_
        · have e : clsN c = 49 := if_pos (digits19.mp (of_decide_eq_true hx))
          refine Ex_cons ?_
          refine Ex_Assign_Name ?_
          refine Ev_str ?_
          refine' Store.mk ?u ?v ?_
          case u => walk_at "k"
          case v => walk_at "k"
          with_reducible refine Then.next ?_
          refine Ex_nil ?_
          rw [e]
          exact ⟨rfl, .mk⟩
        · have h19 : ¬ (49 ≤ c ∧ c ≤ 57) := fun q => of_decide_eq_false hx (digits19.mpr q)
          refine Ex_cons ?_
          refine Ex_If ?_
          refine' It_Compare1' ?_ ?_ ?_
          rotate_left 2
          refine Ev_local (by walk_at "k") (by walk_at "k") ?_
          with_reducible exact Is.mk
          refine Ev_str ?_
          with_reducible exact Is.mk
          refine eq_ssb (show ((⟨#[c]⟩ : Str).cps.toList == (Str.ofString "E").cps.toList) = decide (c = 69) from chr_eq (w := "E") (by decide +kernel)) ?_
          refine ⟨_, rfl, ?_⟩
          refine Bif (fun hx => ?_) fun hx => ?_
          · obtain rfl := of_decide_eq_true hx
            refine Ex_cons ?_
            refine Ex_Assign_Name ?_
            refine Ev_str ?_
            refine' Store.mk ?u ?v ?_
            case u => walk_at "k"
            case v => walk_at "k"
            with_reducible refine Then.next ?_
            refine Ex_nil ?_
            with_reducible refine Then.next ?_
            refine Ex_nil ?_
            exact ⟨rfl, .mk⟩
          · have e : clsN c = c := by unfold clsN; rw [if_neg h19, if_neg (of_decide_eq_false hx)]
            refine Ex_nil ?_
            with_reducible refine Then.next ?_
            refine Ex_nil ?_
            rw [e]
            exact ⟨rfl, .mk⟩
      · rintro _ _ ⟨⟩
        refine Ex_cons ?_
        refine Ex_Assign_Name ?_
        refine Ev_method ?_
        refine' Ev_Subscript' ?_ ?_ ?_
        rotate_left 2
        refine Ev_local (by walk_at "k") (by walk_at "k") ?_
        with_reducible exact Is.mk
        refine Ev_local (by walk_at "k") (by walk_at "k") ?_
        with_reducible exact Is.mk
        refine sub_dict (kd := kInt G) (.frz top) (show ([0, 1, 2, 3, 4, 5, 6, 7, 8] : List Int).Nodup by decide) (top_at ds hs9) ?_
        have hr := row s hs9
        obtain ⟨_, es, nn, hr2, hr3⟩ := id hr
        refine ⟨"dict", _, PySem.F.plainAttrs_dict, PySem.F.slot_dict_get, PySem.F.type_dict_get, .frz hr2 rfl rfl, ?_⟩
        refine Evs_cons ?_
        refine Ev_local (by walk_at "k") (by walk_at "k") ?_
        refine Evs_cons ?_
        refine Ev_int ?_
        refine Evs_nil ?_
        refine get_dict (kd := kStr G) (.frz hr) (rows_nd s) ?_
        rw [row_at hs9]
        refine' Store.mk ?u ?v ?_
        case u => walk_at "k"
        case v => walk_at "k"
        with_reducible refine Then.next ?_
        refine Ex_cons ?_
        refine Ex_If ?_
        refine' It_Compare1' ?_ ?_ ?_
        rotate_left 2
        refine Ev_local (by walk_at "k") (by walk_at "k") ?_
        with_reducible exact Is.mk
        refine Ev_int ?_
        with_reducible exact Is.mk
        refine eq_ii ?_
        refine ⟨_, rfl, ?_⟩
        refine Bif (fun hx => ?_) fun hx => ?_
        · have e9 : stpN s (clsN c) = 9 := by simp at hx; lia
          rw [comb_stop e9] at hb
          refine Ex_cons ?_
          refine Ex_Break ?_
          with_reducible refine Then.brk ?_
          with_reducible refine Then.brk ?_
          with_reducible refine Turn.brk ?_
          with_reducible refine Then.next ?_
          refine Ex_cons ?_
          refine Ex_Return ?_
          refine Ev_local (by walk_at "k") (by walk_at "k") ?_
          with_reducible refine Then.ret ?_
          exact ⟨_, _, .hd, by rw [hb]; exact h⟩
        · have e9 : stpN s (clsN c) ≠ 9 := by simp at hx; lia
          rw [comb_step e9] at hb
          have e8 := stp_le s (clsN c)
          generalize stpN s (clsN c) = s' at hb e9 e8
          refine Ex_nil ?_
          with_reducible refine Then.next ?_
          refine Ex_cons ?_
          refine Ex_AugAssign (by walk_at "k") (by walk_at "k") ?_
          refine Ev_int ?_
          refine iadd_ii ?_
          refine' Store.mk ?u ?v ?_
          case u => walk_at "k"
          case v => walk_at "k"
          with_reducible refine Then.next ?_
          refine Ex_cut (Just F ((L, .ns [(Str.ofString "text", some (.str T)), (Str.ofString "at", some (.int ((j + 1 : Nat) : Int))), (Str.ofString "steps", some (.ref st)), (Str.ofString "state", some (.int (s' : Nat))), (Str.ofString "best", some (bestV (match accN s' with | some k => some (j + 1, k) | none => b))), (Str.ofString "sign", some (.str ⟨#[clsN c]⟩))]) :: H)) ?_ ?_
          · refine Ex_If (It_BoolOp ?_)
            refine It_or ?_
            refine' It_Compare1' ?_ ?_ ?_
            rotate_left 2
            refine Ev_local (by walk_at "k") (by walk_at "k") ?_
            with_reducible exact Is.mk
            refine Ev_int ?_
            with_reducible exact Is.mk
            refine eq_ii ?_
            refine ⟨_, rfl, ?_⟩
            refine Bif (fun h2 => ?_) fun h2 => ?_
            · obtain rfl : s' = 2 := by simp at h2; lia
              refine Bif_t ?_
              refine Ex_cons ?_
              refine Ex_Assign_Name ?_
              refine' Ev_Tuple' ?_ ?_ ?_
              rotate_left 1
              refine' Evs_cons' ?_ ?_
              rotate_left 2
              refine Ev_local (by walk_at "k") (by walk_at "k") ?_
              with_reducible exact Is.mk
              refine' Evs_cons' ?_ ?_
              rotate_left 2
              refine Ev_str ?_
              with_reducible exact Is.mk
              exact Evs_nil'
              exact Nat.le_of_ble_eq_true rfl
              refine' Store.mk ?u ?v ?_
              case u => walk_at "k"
              case v => walk_at "k"
              with_reducible refine Then.next ?_
              refine Ex_nil ?_
              exact ⟨rfl, .mk⟩
            refine It_or ?_
            refine' It_Compare1' ?_ ?_ ?_
            rotate_left 2
            refine Ev_local (by walk_at "k") (by walk_at "k") ?_
            with_reducible exact Is.mk
            refine Ev_int ?_
            with_reducible exact Is.mk
            refine eq_ii ?_
            refine ⟨_, rfl, ?_⟩
            refine Bif (fun h3 => ?_) fun h3 => ?_
            · obtain rfl : s' = 3 := by simp at h3; lia
              refine Bif_t ?_
              refine Ex_cons ?_
              refine Ex_Assign_Name ?_
              refine' Ev_Tuple' ?_ ?_ ?_
              rotate_left 1
              refine' Evs_cons' ?_ ?_
              rotate_left 2
              refine Ev_local (by walk_at "k") (by walk_at "k") ?_
              with_reducible exact Is.mk
              refine' Evs_cons' ?_ ?_
              rotate_left 2
              refine Ev_str ?_
              with_reducible exact Is.mk
              exact Evs_nil'
              exact Nat.le_of_ble_eq_true rfl
              refine' Store.mk ?u ?v ?_
              case u => walk_at "k"
              case v => walk_at "k"
              with_reducible refine Then.next ?_
              refine Ex_nil ?_
              exact ⟨rfl, .mk⟩
            refine It_or_nil ?_
            refine Bif_f ?_
            refine Ex_cons ?_
            refine Ex_If ?_
            refine It_BoolOp ?_
            refine It_or ?_
            refine' It_Compare1' ?_ ?_ ?_
            rotate_left 2
            refine Ev_local (by walk_at "k") (by walk_at "k") ?_
            with_reducible exact Is.mk
            refine Ev_int ?_
            with_reducible exact Is.mk
            refine eq_ii ?_
            refine ⟨_, rfl, ?_⟩
            refine Bif (fun h5 => ?_) fun h5 => ?_
            · obtain rfl : s' = 5 := by simp at h5; lia
              refine Bif_t ?_
              refine Ex_cons ?_
              refine Ex_Assign_Name ?_
              refine' Ev_Tuple' ?_ ?_ ?_
              rotate_left 1
              refine' Evs_cons' ?_ ?_
              rotate_left 2
              refine Ev_local (by walk_at "k") (by walk_at "k") ?_
              with_reducible exact Is.mk
              refine' Evs_cons' ?_ ?_
              rotate_left 2
              refine Ev_str ?_
              with_reducible exact Is.mk
              exact Evs_nil'
              exact Nat.le_of_ble_eq_true rfl
              refine' Store.mk ?u ?v ?_
              case u => walk_at "k"
              case v => walk_at "k"
              with_reducible refine Then.next ?_
              refine Ex_nil ?_
              with_reducible refine Then.next ?_
              refine Ex_nil ?_
              exact ⟨rfl, .mk⟩
            refine It_or ?_
            refine' It_Compare1' ?_ ?_ ?_
            rotate_left 2
            refine Ev_local (by walk_at "k") (by walk_at "k") ?_
            with_reducible exact Is.mk
            refine Ev_int ?_
            with_reducible exact Is.mk
            refine eq_ii ?_
            refine ⟨_, rfl, ?_⟩
            refine Bif (fun h8 => ?_) fun h8 => ?_
            · obtain rfl : s' = 8 := by simp at h8; lia
              refine Bif_t ?_
              refine Ex_cons ?_
              refine Ex_Assign_Name ?_
              refine' Ev_Tuple' ?_ ?_ ?_
              rotate_left 1
              refine' Evs_cons' ?_ ?_
              rotate_left 2
              refine Ev_local (by walk_at "k") (by walk_at "k") ?_
              with_reducible exact Is.mk
              refine' Evs_cons' ?_ ?_
              rotate_left 2
              refine Ev_str ?_
              with_reducible exact Is.mk
              exact Evs_nil'
              exact Nat.le_of_ble_eq_true rfl
              refine' Store.mk ?u ?v ?_
              case u => walk_at "k"
              case v => walk_at "k"
              with_reducible refine Then.next ?_
              refine Ex_nil ?_
              with_reducible refine Then.next ?_
              refine Ex_nil ?_
              exact ⟨rfl, .mk⟩
            refine It_or_nil ?_
            refine Bif_f ?_
            have e : accN s' = none := by
              simp at h2 h3 h5 h8
              unfold accN
              rw [if_neg (by lia), if_neg (by lia)]
            refine Ex_nil ?_
            with_reducible refine Then.next ?_
            refine Ex_nil ?_
            rw [e]
            exact ⟨rfl, .mk⟩
          · rintro _ _ ⟨⟩
            refine Ex_nil ?_
            with_reducible refine Turn.next ?_
            exact hn (T.cps.size - (j + 1)) _ _ (by lia) (.mk (j + 1) s' _ _ (by lia) (by lia) hb)
    · have e : j = T.cps.size := by have := of_decide_eq_false hx; have e : T.length = T.cps.size := rfl; lia
      rw [List.drop_eq_nil_of_le (by simp; lia)] at hb
      with_reducible refine Then.next ?_
      refine Ex_cons ?_
      refine Ex_Return ?_
      refine Ev_local (by walk_at "k") (by walk_at "k") ?_
      with_reducible refine Then.ret ?_
      exact ⟨_, _, .hd, by rw [show bestV b = _ from congrArg bestV hb]; exact h⟩
noncomputable def begL (S : List (Bool × Addr × List V)) : List V := (S.map fun p => .tup [.str (if p.1 then "}" else "]"), .ref p.2.1]).reverse
noncomputable def itsH (S : List (Bool × Addr × List V)) : Hp := S.map fun p => (p.2.1, .list p.2.2)
noncomputable def stS (S : List (Bool × Addr × List V)) : List (Bool × List V) := S.map fun p => (p.1, p.2.2)
theorem drp_its {S : List (Bool × Addr × List V)} {H : Hp} : Drp (itsH S ++ H) H := by
  induction S with
  | nil => exact .nil
  | cons s S ih => exact .cons .hd (fun _ q => by cases q) ih
theorem drp_all {S : List (Bool × Addr × List V)} {H : Hp} {bg cI cA cT : Addr} {l : List V} {x y z : Option V} : Drp ((bg, .list l) :: (cI, .cell x) :: (cA, .cell y) :: (cT, .cell z) :: (itsH S ++ H)) H :=
  .cons .hd (fun _ q => by cases q) (.cons .hd (fun _ q => by cases q) (.cons .hd (fun _ q => by cases q) (.cons .hd (fun _ q => by cases q) drp_its)))
theorem Tp.is {α : Type} {G : Glob} {fr : List Env} {A : Around} {F : Fz} {H : Hp} {E : Value → Fz → Hp → Prop} {Q : α → Fz → Hp → Prop} {s : Sem α} {t : α} (h : Tp G fr A F H s (fun b F1 H1 => b = t ∧ F1 = F ∧ H1 = H) E) (k : Q t F H) : Tp G fr A F H s Q E :=
  h.mono (fun _ _ _ q => by obtain ⟨rfl, rfl, rfl⟩ := q; exact k) fun _ _ _ e => e
theorem neg1 {n : Nat} : ((-1 : Int) + (n : Int)).toNat = n - 1 := by lia
theorem Ev_top {G : Glob} {fr : List Env} {A : Around} {env : Env} {F : Fz} {H : Hp} {E : Value → Fz → Hp → Prop} {Q : V → Fz → Hp → Prop} {x : Str} {ρ : List (Str × Option V)} {bg : Addr} {ls l : List V} {y : V} {n : Int} {k1 k2 : Nat} {p1 p2 p3 p4 p5 p6 : Pos} (hm : Has H env.locals (.ns ρ)) (hx : Lk ρ x (.ref bg)) (hb : Has H bg (.list ls)) (h0 : 0 < ls.length) (he : ls[ls.length - 1]? = some (.tup l))
    (hn0 : 0 ≤ n) (hn1 : n < 2 ^ 63) (hy : l[n.toNat]? = some y) (h : Q y F H) (hk : autoParam (env.scope.kind = .function) tac0) (hl : autoParam (env.kindOf x = some .local) tac0) (hd : autoParam ((x == ("__debug__" : Str)) = false) tac14) :
    Ev G fr A F H (eval (.Subscript (.Subscript (.Name x p1) (.UnaryOp .USub (.Constant (.int 1) k1 p2) p3) p4) (.Constant (.int n) k2 p5) p6) env) Q E := by
  refine Ev_Subscript (Ev_Subscript (Ev_local hm hx ?_ hk hl hd))
  refine Ev_UnaryOp (Ev_int (neg_i ?_))
  refine sub_lst_neg (.own hb) (by decide) (by lia) (by decide) (y := .tup l) (by rw [neg1]; exact he) ?_
  exact Ev_int (sub_tup hn0 hn1 hy h)
theorem Evs.perm {G : Glob} {fr : List Env} {A : Around} {F : Fz} {H H' : Hp} {t : Sem (List Value)} {Q : List V → Fz → Hp → Prop} {E : Value → Fz → Hp → Prop} (p : H'.Perm H) (h : Evs G fr A F H t Q E) : Evs G fr A F H' t Q E := fun K m R s hR => h K m R s (hR.perm (p.append_right R))
theorem best_le : ∀ {l : List Nat} {s n : Nat} {b : Bool}, bestN s l = some (n, b) → 0 < n ∧ n ≤ l.length
  | [], s, n, b, h => by cases h
  | c :: r, s, n, b, h => by
    rw [bestN] at h
    split at h
    · cases h
    · cases q : bestN (stpN s (clsN c)) r with
      | some p =>
        obtain ⟨m, b'⟩ := p
        rw [q] at h
        have := best_le q
        cases h
        simp
        lia
      | none =>
        rw [q] at h
        cases ha : accN (stpN s (clsN c)) with
        | none => rw [ha] at h; cases h
        | some k => rw [ha] at h; cases h; simp
inductive InvM (T : Str) (r : Res) (st bg L cI cA cT : Addr) (F : Fz) (H : Hp) : Nat → Fz → Hp → Prop where
  | mk (j : Nat) (S : List (Bool × Addr × List V)) (o1 o2 o3 o4 o5 o6 o7 : Option V) (hj : S ≠ [] → j ≤ T.cps.size) (hgo : Gn T (stS S) j r) (hSl : S.length ≤ j) (hSp : ∀ p ∈ S, p.2.2.length ≤ j) :
    InvM T r st bg L cI cA cT F H (T.cps.size - j) F ((bg, .list (begL S)) :: (L, .ns [(Str.ofString "words", some (.lst (wordsL.map fun p => .tup [.str p.1, p.2]))), (Str.ofString "steps", some (.ref st)), (Str.ofString "begun", some (.ref bg)), (Str.ofString "closing", o1), (Str.ofString "value", o2), (Str.ofString "pairs", o3), (Str.ofString "end", o4), (Str.ofString "fitting", o5), (Str.ofString "number", o6)]) ::
        (cI, .cell o7) :: (cA, .cell (some (.int (j : Nat)))) :: (cT, .cell (some (.str T))) :: (itsH S ++ H))
inductive MidM (T : Str) (r : Res) (st bg L cI cA cT : Addr) (F : Fz) (H : Hp) (j : Nat) : Fz → Hp → Prop where
  | mk (S : List (Bool × Addr × List V)) (v : V) (e : Nat) (o1 o3 o4 o5 o6 o7 : Option V) (hje : j < e) (heT : e ≤ T.cps.size) (hfin : Fin2 T (stS S) (.ok v e) r) (hSl : S.length ≤ j) (hSp : ∀ p ∈ S, p.2.2.length ≤ j) :
    MidM T r st bg L cI cA cT F H j F ((bg, .list (begL S)) :: (L, .ns [(Str.ofString "words", some (.lst (wordsL.map fun p => .tup [.str p.1, p.2]))), (Str.ofString "steps", some (.ref st)), (Str.ofString "begun", some (.ref bg)), (Str.ofString "closing", o1), (Str.ofString "value", some v), (Str.ofString "pairs", o3), (Str.ofString "end", o4), (Str.ofString "fitting", o5), (Str.ofString "number", o6)]) ::
        (cI, .cell o7) :: (cA, .cell (some (.int (e : Nat)))) :: (cT, .cell (some (.str T))) :: (itsH S ++ H))
inductive EndM (T : Str) (st bg L cI cA cT : Addr) (F : Fz) (H : Hp) (j : Nat) (l : List V) (o1 o2 o3 o5 o6 o7 : Option V) : Nat → Fz → Hp → Prop where
  | mk (e : Nat) (h1 : j + 1 ≤ e) (h2 : e ≤ T.cps.size) (hq : ∀ i, j + 1 ≤ i → i < e → T.cps[i]? ≠ some 34) :
    EndM T st bg L cI cA cT F H j l o1 o2 o3 o5 o6 o7 (T.cps.size - e) F ((bg, .list l) :: (L, .ns [(Str.ofString "words", some (.lst (wordsL.map fun p => .tup [.str p.1, p.2]))), (Str.ofString "steps", some (.ref st)), (Str.ofString "begun", some (.ref bg)), (Str.ofString "closing", o1), (Str.ofString "value", o2), (Str.ofString "pairs", o3), (Str.ofString "end", some (.int (e : Nat))), (Str.ofString "fitting", o5), (Str.ofString "number", o6)]) ::
        (cI, .cell o7) :: (cA, .cell (some (.int (j : Nat)))) :: (cT, .cell (some (.str T))) :: H)
inductive AccI (F : Fz) (H : Hp) (f : Nat → List V) (k : Nat) : List V → Fz → Hp → Prop where
  | mk : AccI F H f k (f k) F H
theorem law_machine {G : Glob} {fr : List Env} {A : Around} {F : Fz} {H : Hp} {a aN st : Addr} {T : Str} {i d : Nat} {r : Res} {Q : V → Fz → Hp → Prop} (bt : BtL G) (r0 : G.mg (Str.ofString "range") = none) (r1 : G.mb (Str.ofString "range") = some (.type "range")) (hf : IsDef F (stm 12) a) (hN : G.mg (Str.ofString "_law_number") = some (.ref aN)) (hfN : IsDef F (stm 11) aN) (hA : Ok fr A 2) (hT : T.cps.size ≤ 1000000) (hS : StepsF G F st)
    (hr : Rd T d i r) (h : Q (resV r) F H) : Cl G fr A F H (.ref a) [.str T, .int (i : Nat), .lst (wordsL.map fun p => .tup [.str p.1, p.2]), .ref st] Q No := by
  obtain ⟨c, s, o, pm, hs, hf, hd, hc⟩ := hf
  obtain rfl := Option.some.inj hs.symm
  have bt' := bt
  obtain ⟨t0, t1, i0, i1, l0, l1, u0, u1, n0, n1, a0, a1, z0, z1⟩ := bt
  have hTl : T.length < 2 ^ 63 := by show T.cps.size < 2 ^ 63; lia
  have hTs : T.length ≤ sizeLine := Nat.le_trans (show T.cps.size ≤ 1000000 from hT) (by decide)
  refine Cl.drpQ ?_
  refine call_cells (E' := fun _ => No) hf hd hc [false, false, true, true] [Str.ofString "text", Str.ofString "at", Str.ofString "words", Str.ofString "steps"] [Str.ofString "begun", Str.ofString "closing", Str.ofString "value", Str.ofString "pairs", Str.ofString "end", Str.ofString "fitting", Str.ofString "number"] [Str.ofString "items", Str.ofString "at", Str.ofString "text"] rfl (by decide) (by decide) (fun vs hv => ?_) (by rfl) (by rfl) (fun n => ?_) (by decide) (by rfl) rfl hA.room (fun _ _ => leaves_no) (fun L cs A' hcs hD => ?_)
  · obtain ⟨a, b, c, d, rfl⟩ := len4 hv
    rfl
  · rfl
  · obtain ⟨cI, cA, cT, e⟩ := len3 hcs
    subst e
    show Ex _ _ _ _ ((L, AO.ns [(Str.ofString "words", some (.lst (wordsL.map fun p => .tup [.str p.1, p.2]))), (Str.ofString "steps", some (.ref st)), (Str.ofString "begun", none), (Str.ofString "closing", none), (Str.ofString "value", none), (Str.ofString "pairs", none), (Str.ofString "end", none), (Str.ofString "fitting", none), (Str.ofString "number", none)]) :: (cI, AO.cell none) :: (cA, AO.cell (some (.int (i : Nat)))) :: (cT, AO.cell (some (.str T))) :: H) _ _ _
    have hA := hA.deep hD
    have hh := hA.handled
    refine Ex_cons ?_
    refine Ex_Assign_Name ?_
    refine Ev_List ?_
    refine Evs_nil ?_
    refine ⟨by exact Nat.le_of_ble_eq_true rfl, ?_⟩
    intro bg
    refine' Store.mk ?u ?v ?_
    case u => walk_at "k"
    case v => walk_at "k"
    with_reducible refine Then.next ?_
    refine Ex_cons ?_
    refine Ex_While (InvM T r st bg L cI cA cT F H) (T.cps.size - i) (.mk i [] none none none none none none none (fun q => absurd rfl q) (.nil hr) (Nat.zero_le _) (fun _ h => nomatch h)) ?_ noted_no
    rintro _ _ _ ⟨j, S, o1, o2, o3, o4, o5, o6, o7, hj, hgo, hSl, hSp⟩ Qn hn
    refine It_value ?_
    refine Ev_bool ?_
    refine tr_bool ?_
    refine Bif_t ?_
    refine Ex_mid (MidM T r st bg L cI cA cT F H j) ?_ ?_
    · obtain ⟨t, ht⟩ : ∃ t : Bool, t = true ↔ ∃ b l S', stS S = (b, l) :: S' ∧ Ends T b j l := by
        by_cases q : ∃ b l S', stS S = (b, l) :: S' ∧ Ends T b j l
        · exact ⟨true, fun _ => q, fun _ => rfl⟩
        · exact ⟨false, (fun e => nomatch e), fun e => absurd e q⟩
      refine Ex_If (Tp.is (t := t) (It_BoolOp ?_) ?_)
      · cases S with
        | nil =>
          have e : t = false := by
            cases t with
            | false => rfl
            | true => obtain ⟨_, _, _, q, _⟩ := ht.mp rfl; cases q
          subst e
          refine It_and ?_
          refine It_value ?_
          refine Ev_local (by walk_at "k") (by walk_at "k") ?_
          refine tr_list .hd (by decide) ?_
          exact ⟨rfl, rfl, rfl⟩
        | cons s S3 =>
          obtain ⟨b, it, l⟩ := s
          have hll := hSp _ (.head _)
          rw [show itsH ((b, it, l) :: S3) ++ H = (it, .list l) :: (itsH S3 ++ H) from rfl]
          have hbl : (begL ((b, it, l) :: S3)).length = S3.length + 1 := by simp [begL]
          have hbl2 : (begL ((b, it, l) :: S3))[S3.length]? = some (.tup [.str (if b then "}" else "]"), .ref it]) := by simp [begL]
          have ht2 : t = true ↔ Ends T b j l := ht.trans ⟨fun ⟨_, _, _, q, k⟩ => by cases q; exact k, fun k => ⟨b, l, _, rfl, k⟩⟩
          refine It_and ?_
          refine It_value ?_
          refine Ev_local (by walk_at "k") (by walk_at "k") ?_
          refine tr_listb (b := true) .hd (by rw [hbl]; simp at hSl; lia) (by rw [List.isEmpty_eq_false_iff.mpr (by intro q; rw [q] at hbl; cases hbl)]; rfl) ?_
          refine Bif_t ?_
          refine It_and (It_Compare1 ?_)
          refine Ev_slice_str ?_
          refine Ev_cell rfl (by walk_at "k") ?_
          refine ⟨T, rfl, hTs, ?_⟩
          refine EvP_some ?_
          refine Ev_cell rfl (by walk_at "k") ?_
          refine ⟨_, rfl, ?_⟩
          refine EvP_some ?_
          refine Ev_BinOp ?_
          refine Ev_cell rfl (by walk_at "k") ?_
          refine Ev_int ?_
          refine add_ii ?_
          refine ⟨_, rfl, ?_⟩
          refine Ev_top (by walk_at "k") (by walk_at "k") .hd (by rw [hbl]; lia) (by rw [hbl]; exact hbl2) (by decide) (by decide) rfl ?_
          have e1 : ((Txt.slice T (some (j : Int)) (some ((j : Int) + 1))).cps.toList == (if b then ("}" : Str) else "]").cps.toList) = decide (T.cps[j]? = some (clos b)) := by
            have := one_sign (T := T) (j := j) (c := clos b) (w := if b then "}" else "]") (hj (by simp)) (by cases b <;> decide +kernel)
            cases q : ((Txt.slice T (some (j : Int)) (some ((j : Int) + 1))).cps.toList == (if b then ("}" : Str) else "]").cps.toList) with
            | true => simp only [bne, q] at this; simpa using this
            | false => simp only [bne, q] at this; simpa using this
          refine eq_ssb e1 ?_
          refine ⟨_, rfl, ?_⟩
          refine Bif (fun hx => ?_) fun hx => ?_
          · have hc := of_decide_eq_true hx
            refine It_and (It_BoolOp (It_or (It_Compare1 ?_)))
            refine Ev_top (by walk_at "k") (by walk_at "k") .hd (by rw [hbl]; lia) (by rw [hbl]; exact hbl2) (by decide) (by decide) rfl ?_
            refine Ev_str ?_
            refine eq_ss ?_
            refine ⟨_, rfl, ?_⟩
            cases b with
            | false =>
              refine Bif (fun _ => ?_) fun hx => absurd hx (by decide +kernel)
              refine Bif_t ?_
              refine It_and_nil ?_
              exact ⟨(ht2.mpr ⟨hc, .inl rfl⟩).symm, rfl, rfl⟩
            | true =>
              refine Bif (fun hx => absurd hx (by decide +kernel)) fun _ => ?_
              refine It_or (It_Compare1 ?_)
              refine Ev_BinOp (Ev_Call ?_)
              refine Ev_blt (by assumption) (by assumption) .blt ?_
              refine ⟨.blt, ?_⟩
              refine Evs_cons ?_
              refine Ev_top (by walk_at "k") (by walk_at "k") .hd (by rw [hbl]; lia) (by rw [hbl]; exact hbl2) (by decide) (by decide) rfl ?_
              refine Evs_nil ?_
              refine len_lst (.own (by walk_at "k")) (by lia) ?_
              refine Ev_int ?_
              refine mod_ii (by decide) ?_
              refine Ev_int (eq_ii ?_)
              refine ⟨_, rfl, ?_⟩
              have e2 : (((l.length : Int).fmod 2) == 0) = decide (l.length % 2 = 0) := by
                rw [Int.fmod_eq_emod_of_nonneg _ (by decide)]
                by_cases q : l.length % 2 = 0
                · rw [decide_eq_true q]; simp; lia
                · rw [decide_eq_false q]; simp; lia
              rw [e2]
              refine Bif (fun hx => ?_) fun hx => ?_
              · refine Bif_t ?_
                refine It_and_nil ?_
                exact ⟨(ht2.mpr ⟨hc, .inr (of_decide_eq_true hx)⟩).symm, rfl, rfl⟩
              · refine It_or_nil ?_
                refine Bif_f ?_
                refine ⟨?_, rfl, rfl⟩
                cases t with
                | false => rfl
                | true => exact absurd ((ht2.mp rfl).2.resolve_left (by decide)) (of_decide_eq_false hx)
          · have e : t = false := by
              cases t with
              | false => rfl
              | true => exact absurd (ht2.mp rfl).1 (of_decide_eq_false hx)
            exact ⟨e.symm, rfl, rfl⟩
      · cases t with
        | true =>
          obtain ⟨b, l, S', e, hE⟩ := ht.mp rfl
          obtain ⟨it, S3, rfl, rfl⟩ : ∃ it S3, S = (b, it, l) :: S3 ∧ S' = stS S3 := by
            cases S with
            | nil => cases e
            | cons s S3 => obtain ⟨b', it, l'⟩ := s; cases e; exact ⟨it, S3, rfl, rfl⟩
          have hfin : Fin2 T (stS S3) (.ok (mkV b l) (j + 1)) r := by
            rcases hgo.split with ⟨b', l', S'', e', _, k⟩ | ⟨k, _⟩
            · cases e'; exact k
            · exact absurd hE (k _ _ _ rfl)
          have hll := hSp _ (.head _)
          have hjT := (Array.getElem?_eq_some_iff.mp hE.1).1
          have hlb : (begL S3).length = S3.length := by simp [begL]
          simp only [List.length_cons] at hSl
          rw [show itsH ((b, it, l) :: S3) ++ H = (it, .list l) :: (itsH S3 ++ H) from rfl, show begL ((b, it, l) :: S3) = begL S3 ++ [.tup [.str (if b then "}" else "]"), .ref it]] from by simp [begL]]
          refine Bif_t ?_
          refine Ex_cons ?_
          refine Ex_Assign_TupleM [true, false] hh rfl rfl ?_
          refine Ev_method ?_
          refine Ev_local (by walk_at "k") (by walk_at "k") ?_
          refine ⟨"list", _, PySem.F.plainAttrs_list, PySem.F.slot_list_pop, PySem.F.type_list_pop, .list .hd, ?_⟩
          refine Evs_nil ?_
          refine pop_last .hd (by show _ ≤ 16777216; lia) ?_
          refine ⟨_, rfl, rfl, StoresM.loc ?_⟩
          refine' Store.mk ?u ?v ?_
          case u => walk_at "k"
          case v => walk_at "k"
          refine StoresM.cel ?_
          refine' StoreC.mk ?l ?u ?_
          case l => rfl
          case u => walk_at "k"
          refine StoresM.nil ?_
          with_reducible refine Then.next ?_
          refine Ex_cons ?_
          refine Ex_If ?_
          refine' It_Compare1' ?_ ?_ ?_
          rotate_left 2
          refine Ev_local (by walk_at "k") (by walk_at "k") ?_
          with_reducible exact Is.mk
          refine Ev_str ?_
          with_reducible exact Is.mk
          refine eq_ss ?_
          refine ⟨_, rfl, ?_⟩
          cases b with
          | false =>
            refine Bif (fun _ => ?_) fun hx => absurd hx (by decide +kernel)
            refine Ex_cons ?_
            refine Ex_Assign_Name ?_
            refine Ev_cell rfl (by walk_at "k") ?_
            refine' Store.mk ?u ?v ?_
            case u => walk_at "k"
            case v => walk_at "k"
            with_reducible refine Then.next ?_
            refine Ex_nil ?_
            with_reducible refine Then.next ?_
            refine Ex_freeze (a := it) (Str.ofString "value") (by walk_at "k") (by walk_at "k") (by walk_at "k") (by walk_at "k") ?_
            refine Ex_cons ?_
            refine Ex_AugAssignC rfl (by walk_at "k") ?_
            refine Ev_int ?_
            refine iadd_ii ?_
            refine' StoreC.mk ?l ?u ?_
            case l => rfl
            case u => walk_at "k"
            with_reducible refine Then.next ?_
            refine Ex_nil ?_
            refine .mk S3 (.lst l) (j + 1) _ o3 o4 o5 o6 _ (by lia) (by lia) hfin (by lia) fun p hp => ?_
            have := hSp p (.tail _ hp); lia
          | true =>
            refine Bif (fun hx => absurd hx (by decide +kernel)) fun _ => ?_
            have hev : l.length % 2 = 0 := hE.2.resolve_left (by decide)
            refine Ex_cons ?_
            refine Ex_Assign_map [Str.ofString ".0", Str.ofString "k"] rfl ?_ (by decide)
            refine Ev_Call ?_
            refine Ev_blt (by assumption) (by assumption) .typ ?_
            refine ⟨.typ, ?_⟩
            refine Evs_cons ?_
            refine Ev_int ?_
            refine Evs_cons ?_
            refine Ev_Call ?_
            refine Ev_blt (by assumption) (by assumption) .blt ?_
            refine ⟨.blt, ?_⟩
            refine Evs_cons ?_
            refine Ev_cell rfl (by walk_at "k") ?_
            refine Evs_nil ?_
            refine len_lst (.own (by walk_at "k")) (by lia) ?_
            refine Evs_cons ?_
            refine Ev_int ?_
            refine Evs_nil ?_
            refine range3 (by decide) (by decide) ?_
            refine ⟨_, iter_rng hh (small_2 (by lia)), by rw [rngV_2 hev]; simp [sizeLine]; lia, pairAt l, ?_, ?_⟩
            · intro k y C ρ hy hρ
              rw [rngV_2 hev, List.getElem?_map] at hy
              have hk : k < l.length / 2 := by
                rcases Nat.lt_or_ge k (l.length / 2) with q | q
                · exact q
                · rw [List.getElem?_eq_none (by simpa using q)] at hy; cases hy
              rw [List.getElem?_range hk] at hy
              cases hy
              obtain ⟨q0, q1, rfl⟩ := nm2 hρ
              have g1 : l[2 * k]? = some (l.getD (2 * k) .none) := by rw [List.getD_eq_getElem?_getD, List.getElem?_eq_getElem (by lia)]; rfl
              have g2 : l[2 * k + 1]? = some (l.getD (2 * k + 1) .none) := by rw [List.getD_eq_getElem?_getD, List.getElem?_eq_getElem (by lia)]; rfl
              refine As_Name ?_
              refine' Store.mk Upd.hd ?v ?_
              case v => walk_at "k"
              refine' Ev_Tuple' ?_ ?_ ?_
              rotate_left 1
              refine' Evs_cons' ?_ ?_
              rotate_left 2
              refine' Ev_Subscript' ?_ ?_ ?_
              rotate_left 2
              refine Ev_cell rfl (by walk_at "k") ?_
              with_reducible exact Is.mk
              refine Ev_local Has.hd (by walk_at "k") ?_
              with_reducible exact Is.mk
              refine sub_lstN (.own (by walk_at "k")) (by lia) g1 ?_
              with_reducible exact Is.mk
              refine' Evs_cons' ?_ ?_
              rotate_left 2
              refine' Ev_Subscript' ?_ ?_ ?_
              rotate_left 2
              refine Ev_cell rfl (by walk_at "k") ?_
              with_reducible exact Is.mk
              refine' Ev_BinOp' ?_ ?_ ?_
              rotate_left 2
              refine Ev_local Has.hd (by walk_at "k") ?_
              with_reducible exact Is.mk
              refine Ev_int ?_
              with_reducible exact Is.mk
              refine add_ii ?_
              with_reducible exact Is.mk
              refine sub_lst (.own (by walk_at "k")) (by lia) (by lia) (by rw [show (((2 * k : Nat) : Int) + 1).toNat = 2 * k + 1 from by lia]; exact g2) ?_
              with_reducible exact Is.mk
              exact Evs_nil'
              exact Nat.le_of_ble_eq_true rfl
              exact ⟨rfl, _, _, .hd, rfl, rfl, rfl⟩
            · rw [rngV_2 hev, List.length_map, List.length_range, ← pairs_at hev]
              refine' Store.mk ?u ?v ?_
              case u => walk_at "k"
              case v => walk_at "k"
              with_reducible refine Then.next ?_
              refine Ex_cons ?_
              refine Ex_Assign_Name ?_
              refine' Ev_Tuple' ?_ ?_ ?_
              rotate_left 1
              refine' Evs_cons' ?_ ?_
              rotate_left 2
              refine Ev_str ?_
              with_reducible exact Is.mk
              refine' Evs_cons' ?_ ?_
              rotate_left 2
              refine Ev_str ?_
              with_reducible exact Is.mk
              refine' Evs_cons' ?_ ?_
              rotate_left 2
              refine Ev_str ?_
              with_reducible exact Is.mk
              refine' Evs_cons' ?_ ?_
              rotate_left 2
              refine Ev_local (by walk_at "k") (by walk_at "k") ?_
              with_reducible exact Is.mk
              exact Evs_nil'
              exact Nat.le_of_ble_eq_true rfl
              refine' Store.mk ?u ?v ?_
              case u => walk_at "k"
              case v => walk_at "k"
              with_reducible refine Then.next ?_
              refine Ex_nil ?_
              with_reducible refine Then.next ?_
              refine Ex_cons ?_
              refine Ex.drp (Drp.one (a := it) (x := .list l) (by walk_at "k") (by intro _ q; cases q)) ?_
              refine Ex_AugAssignC rfl (by walk_at "k") ?_
              refine Ev_int ?_
              refine iadd_ii ?_
              refine' StoreC.mk ?l ?u ?_
              case l => rfl
              case u => walk_at "k"
              with_reducible refine Then.next ?_
              refine Ex_nil ?_
              refine .mk S3 (mkV true l) (j + 1) _ _ o4 o5 o6 _ (by lia) (by lia) hfin (by lia) fun p hp => ?_
              have := hSp p (.tail _ hp); lia
        | false =>
          have hne : ∀ b l S', stS S = (b, l) :: S' → ¬ Ends T b j l := fun b l S' e k => nomatch ht.mpr ⟨b, l, S', e, k⟩
          obtain ⟨d2, r2, hrd, hfin⟩ : ∃ d2 r2, Rd T d2 j r2 ∧ Fin2 T (stS S) r2 r := by
            rcases hgo.split with ⟨b', l', S'', e', k, _⟩ | ⟨_, k⟩
            · exact absurd k (hne _ _ _ e')
            · exact k
          clear hgo ht
          refine Bif_f ?_
          refine Ex_cons ?_
          refine Ex_If ?_
          refine' It_Compare1' ?_ ?_ ?_
          rotate_left 2
          refine Ev_cell rfl (by walk_at "k") ?_
          with_reducible exact Is.mk
          refine' Ev_Call' ?_ ?_ ?_ ?_
          rotate_left 2
          refine Ev_blt (by assumption) (by assumption) .blt ?_
          with_reducible exact Is.mk
          with_reducible exact KOk.blt
          refine' Evs_cons' ?_ ?_
          rotate_left 2
          refine Ev_cell rfl (by walk_at "k") ?_
          with_reducible exact Is.mk
          exact Evs_nil'
          refine len_s hTl ?_
          with_reducible exact Is.mk
          refine ge_ii ?_
          refine ⟨_, rfl, ?_⟩
          refine Bif (fun hx => ?_) fun hx => ?_
          · have hjT : T.cps.size ≤ j := by have := of_decide_eq_true hx; have e : T.length = T.cps.size := rfl; lia
            refine Ex_cons ?_
            refine Ex_Return ?_
            refine' Ev_Tuple' ?_ ?_ ?_
            rotate_left 1
            refine' Evs_cons' ?_ ?_
            rotate_left 2
            refine Ev_str ?_
            with_reducible exact Is.mk
            refine' Evs_cons' ?_ ?_
            rotate_left 2
            refine Ev_cell rfl (by walk_at "k") ?_
            with_reducible exact Is.mk
            exact Evs_nil'
            exact Nat.le_of_ble_eq_true rfl
            with_reducible refine Then.ret ?_
            with_reducible refine Then.ret ?_
            obtain rfl := hrd.at_end hjT
            obtain rfl := hfin.stops
            exact (show Ret L (fun x F1 H1 => ∃ H2, Drp H1 H2 ∧ Q x F1 H2) (.ret _) _ _ from ⟨_, _, .tl .hd, _, drp_all, h⟩)
          · have hjT : j < T.cps.size := by have := of_decide_eq_false hx; have e : T.length = T.cps.size := rfl; lia
            have hc : T.cps[j]? = some T.cps[j] := Array.getElem?_eq_getElem hjT
            have hdr := (lex_at hc).2
            have hat := hrd.at
            have hsub : ((j : Int)).toNat = j := Int.toNat_natCast j
            generalize T.cps[j] = c at hc hdr
            rw [hdr] at hat
            refine Ex_cons ?_
            refine Ex_If ?_
            refine Tp.is (t := decide (c = 91) || decide (c = 123)) (It_BoolOp ?_) ?_
            · refine It_or ?_
              refine' It_Compare1' ?_ ?_ ?_
              rotate_left 2
              refine' Ev_Subscript' ?_ ?_ ?_
              rotate_left 2
              refine Ev_cell rfl (by walk_at "k") ?_
              with_reducible exact Is.mk
              refine Ev_cell rfl (by walk_at "k") ?_
              with_reducible exact Is.mk
              refine sub_str (by lia) (by lia) (c := c) (by rw [hsub]; exact hc) ?_
              with_reducible exact Is.mk
              refine Ev_str ?_
              with_reducible exact Is.mk
              refine eq_ssb (show ((⟨#[c]⟩ : Str).cps.toList == (Str.ofString "[").cps.toList) = decide (c = 91) from chr_eq (w := "[") (by decide +kernel)) ?_
              refine ⟨_, rfl, ?_⟩
              cases h91 : decide (c = 91) with
              | true =>
                refine Bif_t ?_
                exact ⟨rfl, rfl, rfl⟩
              | false =>
                refine Bif_f ?_
                refine It_or ?_
                refine' It_Compare1' ?_ ?_ ?_
                rotate_left 2
                refine' Ev_Subscript' ?_ ?_ ?_
                rotate_left 2
                refine Ev_cell rfl (by walk_at "k") ?_
                with_reducible exact Is.mk
                refine Ev_cell rfl (by walk_at "k") ?_
                with_reducible exact Is.mk
                refine sub_str (by lia) (by lia) (c := c) (by rw [hsub]; exact hc) ?_
                with_reducible exact Is.mk
                refine Ev_str ?_
                with_reducible exact Is.mk
                refine eq_ssb (show ((⟨#[c]⟩ : Str).cps.toList == (Str.ofString "{").cps.toList) = decide (c = 123) from chr_eq (w := "{") (by decide +kernel)) ?_
                refine ⟨_, rfl, ?_⟩
                cases h123 : decide (c = 123) with
                | true =>
                  refine Bif_t ?_
                  exact ⟨rfl, rfl, rfl⟩
                | false =>
                  refine Bif_f ?_
                  refine It_or_nil ?_
                  exact ⟨rfl, rfl, rfl⟩
            · refine Bif (fun hx => ?_) fun hx => ?_
              · obtain ⟨b, hcb, hrI⟩ : ∃ b, c = (if b then 123 else 91) ∧ ∃ d', RdI T d' b (j + 1) [] r2 := by
                  rw [Bool.or_eq_true, decide_eq_true_eq, decide_eq_true_eq] at hx
                  rcases hx with rfl | rfl
                  · rw [lex_a] at hat; cases hat with | arr h => exact ⟨false, rfl, _, h⟩
                  · rw [lex_o] at hat; cases hat with | obj h => exact ⟨true, rfl, _, h⟩
                obtain ⟨d', hrI⟩ := hrI
                refine Ex_cons ?_
                refine Ex_Expr ?_
                refine Ev_method ?_
                refine Ev_local (by walk_at "k") (by walk_at "k") ?_
                refine ⟨"list", _, PySem.F.plainAttrs_list, slot_list_append, type_list_append, .list .hd, ?_⟩
                refine Evs_cons ?_
                refine Ev_Tuple ?_
                refine Evs_cons ?_
                refine Ev.val (fun x => x = .str (if b then "}" else "]")) ?_ fun x hx => ?_
                · refine Ev_IfExp ?_
                  refine' It_Compare1' ?_ ?_ ?_
                  rotate_left 2
                  refine' Ev_Subscript' ?_ ?_ ?_
                  rotate_left 2
                  refine Ev_cell rfl (by walk_at "k") ?_
                  with_reducible exact Is.mk
                  refine Ev_cell rfl (by walk_at "k") ?_
                  with_reducible exact Is.mk
                  refine sub_str (by lia) (by lia) (c := c) (by rw [hsub]; exact hc) ?_
                  with_reducible exact Is.mk
                  refine Ev_str ?_
                  with_reducible exact Is.mk
                  refine eq_ssb (show ((⟨#[c]⟩ : Str).cps.toList == (Str.ofString "[").cps.toList) = decide (c = 91) from chr_eq (w := "[") (by decide +kernel)) ?_
                  refine ⟨_, rfl, ?_⟩
                  cases b with
                  | true =>
                    obtain rfl : c = 123 := hcb
                    refine Bif_f ?_
                    refine Ev_str ?_
                    exact ⟨rfl, rfl, rfl⟩
                  | false =>
                    obtain rfl : c = 91 := hcb
                    refine Bif_t ?_
                    refine Ev_str ?_
                    exact ⟨rfl, rfl, rfl⟩
                subst hx
                refine Evs_cons ?_
                refine Ev_List ?_
                refine Evs_nil ?_
                refine ⟨by exact Nat.le_of_ble_eq_true rfl, ?_⟩
                intro it
                refine Evs.perm (H := (bg, .list (begL S)) :: (L, .ns [(Str.ofString "words", some (.lst (wordsL.map fun p => .tup [.str p.1, p.2]))), (Str.ofString "steps", some (.ref st)), (Str.ofString "begun", some (.ref bg)), (Str.ofString "closing", o1), (Str.ofString "value", o2), (Str.ofString "pairs", o3), (Str.ofString "end", o4), (Str.ofString "fitting", o5), (Str.ofString "number", o6)]) ::
                  (cI, .cell o7) :: (cA, .cell (some (.int (j : Nat)))) :: (cT, .cell (some (.str T))) :: (it, .list []) :: (itsH S ++ H)) (List.perm_middle (l₁ := [_, _, _, _, _])).symm ?_
                refine Evs_nil ?_
                refine ⟨by exact Nat.le_of_ble_eq_true rfl, ?_⟩
                refine Evs_nil ?_
                have hbl : (begL S).length = S.length := by simp [begL]
                refine append .hd (by show _ ≤ 16777216; lia) ?_
                refine ⟨rfl, ?_⟩
                with_reducible refine Then.next ?_
                refine Ex_cons ?_
                refine Ex_AugAssignC rfl (by walk_at "k") ?_
                refine Ev_int ?_
                refine iadd_ii ?_
                refine' StoreC.mk ?l ?u ?_
                case l => rfl
                case u => walk_at "k"
                with_reducible refine Then.next ?_
                refine Ex_cons ?_
                refine Ex_Continue ?_
                with_reducible refine Then.cont ?_
                with_reducible refine Then.cont ?_
                with_reducible refine Then.cont ?_
                refine hn (T.cps.size - (j + 1)) _ _ (by lia) ?_
                rw [show begL S ++ [.tup [.str (if b then "}" else "]"), .ref it]] = begL ((b, it, []) :: S) from by simp [begL]]
                refine .mk (j + 1) ((b, it, []) :: S) o1 o2 o3 o4 o5 o6 o7 (fun _ => hjT) (.cons hrI hfin) (by simp; lia) fun p hp => ?_
                rcases List.mem_cons.mp hp with rfl | hp
                · exact Nat.zero_le _
                · have := hSp p hp; lia
              · rw [Bool.or_eq_false_iff, decide_eq_false_iff_not, decide_eq_false_iff_not] at hx
                refine Ex_cons ?_
                refine Ex_If ?_
                refine' It_Compare1' ?_ ?_ ?_
                rotate_left 2
                refine' Ev_Subscript' ?_ ?_ ?_
                rotate_left 2
                refine Ev_cell rfl (by walk_at "k") ?_
                with_reducible exact Is.mk
                refine Ev_cell rfl (by walk_at "k") ?_
                with_reducible exact Is.mk
                refine sub_str (by lia) (by lia) (c := c) (by rw [hsub]; exact hc) ?_
                with_reducible exact Is.mk
                refine Ev_str ?_
                with_reducible exact Is.mk
                refine eq_ssb (show ((⟨#[c]⟩ : Str).cps.toList == (Str.ofString "\"").cps.toList) = decide (c = 34) from chr_eq (w := "\"") (by decide +kernel)) ?_
                refine ⟨_, rfl, ?_⟩
                refine Bif (fun h34 => ?_) fun h34 => ?_
                · obtain rfl := of_decide_eq_true h34
                  refine Ex_cons ?_
                  refine Ex_Assign_Name ?_
                  refine' Ev_BinOp' ?_ ?_ ?_
                  rotate_left 2
                  refine Ev_cell rfl (by walk_at "k") ?_
                  with_reducible exact Is.mk
                  refine Ev_int ?_
                  with_reducible exact Is.mk
                  refine add_ii ?_
                  refine' Store.mk ?u ?v ?_
                  case u => walk_at "k"
                  case v => walk_at "k"
                  with_reducible refine Then.next ?_
                  refine Ex_cons ?_
                  rw [lex_q] at hat
                  refine Ex_While (EndM T st bg L cI cA cT F (itsH S ++ H) j (begL S) o1 o2 o3 o5 o6 o7) (T.cps.size - (j + 1)) (.mk (j + 1) (Nat.le_refl _) hjT (fun i h1 h2 => absurd h1 (by lia))) ?_ noted_no
                  rintro _ _ _ ⟨e, he1, he2, hq⟩ Qn2 hn2
                  have hle : T.length = T.cps.size := rfl
                  cases hce : T.cps[e]? with
                  | none =>
                    have he : e = T.cps.size := by
                      rcases Nat.lt_or_ge e T.cps.size with q | q
                      · rw [Array.getElem?_eq_getElem q] at hce; cases hce
                      · lia
                    refine It_BoolOp (It_and ?_)
                    refine' It_Compare1' ?_ ?_ ?_
                    rotate_left 2
                    refine Ev_local (by walk_at "k") (by walk_at "k") ?_
                    with_reducible exact Is.mk
                    refine' Ev_Call' ?_ ?_ ?_ ?_
                    rotate_left 2
                    refine Ev_blt (by assumption) (by assumption) .blt ?_
                    with_reducible exact Is.mk
                    with_reducible exact KOk.blt
                    refine' Evs_cons' ?_ ?_
                    rotate_left 2
                    refine Ev_cell rfl (by walk_at "k") ?_
                    with_reducible exact Is.mk
                    exact Evs_nil'
                    refine len_s hTl ?_
                    with_reducible exact Is.mk
                    refine lt_ii ?_
                    refine ⟨_, rfl, ?_⟩
                    rw [decide_eq_false (by lia)]
                    refine Bif_f ?_
                    refine Bif_f ?_
                    obtain rfl : r2 = .stop T.cps.size := by
                      cases hat with
                      | noq _ e => exact e
                      | str hk _ => exact absurd hk.2.1 (hq _ hk.1 (by have := (Array.getElem?_eq_some_iff.mp hk.2.1).1; lia))
                    obtain rfl := hfin.stops
                    subst he
                    with_reducible refine Then.next ?_
                    refine Ex_cons ?_
                    refine Ex_If ?_
                    refine' It_Compare1' ?_ ?_ ?_
                    rotate_left 2
                    refine Ev_local (by walk_at "k") (by walk_at "k") ?_
                    with_reducible exact Is.mk
                    refine' Ev_Call' ?_ ?_ ?_ ?_
                    rotate_left 2
                    refine Ev_blt (by assumption) (by assumption) .blt ?_
                    with_reducible exact Is.mk
                    with_reducible exact KOk.blt
                    refine' Evs_cons' ?_ ?_
                    rotate_left 2
                    refine Ev_cell rfl (by walk_at "k") ?_
                    with_reducible exact Is.mk
                    exact Evs_nil'
                    refine len_s hTl ?_
                    with_reducible exact Is.mk
                    refine eq_ii ?_
                    refine ⟨_, rfl, ?_⟩
                    rw [hle, beq_self_eq_true]
                    refine Bif_t ?_
                    refine Ex_cons ?_
                    refine Ex_Return ?_
                    refine' Ev_Tuple' ?_ ?_ ?_
                    rotate_left 1
                    refine' Evs_cons' ?_ ?_
                    rotate_left 2
                    refine Ev_str ?_
                    with_reducible exact Is.mk
                    refine' Evs_cons' ?_ ?_
                    rotate_left 2
                    refine Ev_local (by walk_at "k") (by walk_at "k") ?_
                    with_reducible exact Is.mk
                    exact Evs_nil'
                    exact Nat.le_of_ble_eq_true rfl
                    with_reducible refine Then.ret ?_
                    with_reducible refine Then.ret ?_
                    with_reducible refine Then.ret ?_
                    with_reducible refine Then.ret ?_
                    with_reducible refine Then.ret ?_
                    exact (show Ret L (fun x F1 H1 => ∃ H2, Drp H1 H2 ∧ Q x F1 H2) (.ret _) _ _ from ⟨_, _, .tl .hd, _, drp_all, h⟩)
                  | some c' =>
                    have he : e < T.cps.size := (Array.getElem?_eq_some_iff.mp hce).1
                    refine It_BoolOp (It_and ?_)
                    refine' It_Compare1' ?_ ?_ ?_
                    rotate_left 2
                    refine Ev_local (by walk_at "k") (by walk_at "k") ?_
                    with_reducible exact Is.mk
                    refine' Ev_Call' ?_ ?_ ?_ ?_
                    rotate_left 2
                    refine Ev_blt (by assumption) (by assumption) .blt ?_
                    with_reducible exact Is.mk
                    with_reducible exact KOk.blt
                    refine' Evs_cons' ?_ ?_
                    rotate_left 2
                    refine Ev_cell rfl (by walk_at "k") ?_
                    with_reducible exact Is.mk
                    exact Evs_nil'
                    refine len_s hTl ?_
                    with_reducible exact Is.mk
                    refine lt_ii ?_
                    refine ⟨_, rfl, ?_⟩
                    rw [decide_eq_true (by lia)]
                    refine Bif_t ?_
                    refine It_and ?_
                    refine' It_Compare1' ?_ ?_ ?_
                    rotate_left 2
                    refine' Ev_Subscript' ?_ ?_ ?_
                    rotate_left 2
                    refine Ev_cell rfl (by walk_at "k") ?_
                    with_reducible exact Is.mk
                    refine Ev_local (by walk_at "k") (by walk_at "k") ?_
                    with_reducible exact Is.mk
                    refine sub_str (by lia) (by lia) (c := c') (by rw [Int.toNat_natCast]; exact hce) ?_
                    with_reducible exact Is.mk
                    refine Ev_str ?_
                    with_reducible exact Is.mk
                    refine ne_ss ?_
                    refine ⟨_, rfl, ?_⟩
                    rw [show ((⟨#[c']⟩ : Str).cps.toList != (Str.ofString "\"").cps.toList) = !decide (c' = 34) from congrArg Bool.not (chr_eq (w := "\"") (by decide +kernel))]
                    by_cases hc34 : c' = 34
                    · subst hc34
                      obtain ⟨rfl⟩ : r2 = .ok (.tup [.str "text", .str (subT T (j + 1) e), .str "strict"]) (e + 1) := by
                        cases hat with
                        | noq hn _ => exact absurd hce (hn _ he1)
                        | @str k hk e' =>
                          have : k = e := by
                            rcases Nat.lt_trichotomy k e with q | q | q
                            · exact absurd hk.2.1 (hq _ hk.1 q)
                            · exact q
                            · exact absurd hce (hk.2.2 _ he1 q)
                          rw [← this]; exact e'
                      refine Bif_f ?_
                      refine Bif_f ?_
                      with_reducible refine Then.next ?_
                      refine Ex_cons ?_
                      refine Ex_If ?_
                      refine' It_Compare1' ?_ ?_ ?_
                      rotate_left 2
                      refine Ev_local (by walk_at "k") (by walk_at "k") ?_
                      with_reducible exact Is.mk
                      refine' Ev_Call' ?_ ?_ ?_ ?_
                      rotate_left 2
                      refine Ev_blt (by assumption) (by assumption) .blt ?_
                      with_reducible exact Is.mk
                      with_reducible exact KOk.blt
                      refine' Evs_cons' ?_ ?_
                      rotate_left 2
                      refine Ev_cell rfl (by walk_at "k") ?_
                      with_reducible exact Is.mk
                      exact Evs_nil'
                      refine len_s hTl ?_
                      with_reducible exact Is.mk
                      refine eq_ii ?_
                      refine ⟨_, rfl, ?_⟩
                      rw [hle, show ((e : Int) == (T.cps.size : Int)) = false from by simp; lia]
                      refine Bif_f ?_
                      have hsl : Txt.slice T (some ((j : Int) + 1)) (some (e : Int)) = subT T (j + 1) e := slice_ext (i := j + 1) he1 he2
                      rw [← hsl] at hfin
                      refine Ex_nil ?_
                      with_reducible refine Then.next ?_
                      refine Ex_cons ?_
                      refine Ex_Assign_Name ?_
                      refine' Ev_Tuple' ?_ ?_ ?_
                      rotate_left 1
                      refine' Evs_cons' ?_ ?_
                      rotate_left 2
                      refine Ev_str ?_
                      with_reducible exact Is.mk
                      refine' Evs_cons' ?_ ?_
                      rotate_left 2
                      refine Ev_slice_str ?_
                      refine Ev_cell rfl (by walk_at "k") ?_
                      refine ⟨T, rfl, hTs, ?_⟩
                      refine EvP_some ?_
                      refine' Ev_BinOp' ?_ ?_ ?_
                      rotate_left 2
                      refine Ev_cell rfl (by walk_at "k") ?_
                      with_reducible exact Is.mk
                      refine Ev_int ?_
                      with_reducible exact Is.mk
                      refine add_ii ?_
                      refine ⟨_, rfl, ?_⟩
                      refine EvP_some ?_
                      refine Ev_local (by walk_at "k") (by walk_at "k") ?_
                      refine ⟨_, rfl, ?_⟩
                      with_reducible exact Is.mk
                      refine' Evs_cons' ?_ ?_
                      rotate_left 2
                      refine Ev_str ?_
                      with_reducible exact Is.mk
                      exact Evs_nil'
                      exact Nat.le_of_ble_eq_true rfl
                      refine' Store.mk ?u ?v ?_
                      case u => walk_at "k"
                      case v => walk_at "k"
                      with_reducible refine Then.next ?_
                      refine Ex_cons ?_
                      refine Ex_Assign_NameC ?_
                      refine' Ev_BinOp' ?_ ?_ ?_
                      rotate_left 2
                      refine Ev_local (by walk_at "k") (by walk_at "k") ?_
                      with_reducible exact Is.mk
                      refine Ev_int ?_
                      with_reducible exact Is.mk
                      refine add_ii ?_
                      refine' StoreC.mk ?l ?u ?_
                      case l => rfl
                      case u => walk_at "k"
                      with_reducible refine Then.next ?_
                      refine Ex_nil ?_
                      with_reducible refine Then.next ?_
                      refine Ex_nil ?_
                      with_reducible refine Then.next ?_
                      refine Ex_nil ?_
                      with_reducible refine Then.next ?_
                      refine Ex_nil ?_
                      exact .mk S _ (e + 1) o1 o3 _ o5 o6 o7 (by lia) (by lia) hfin hSl hSp
                    · refine Bif (fun _ => ?_) fun hx => absurd hx (by simp [hc34])
                      refine It_and_nil ?_
                      refine Bif_t ?_
                      refine Ex_cons ?_
                      refine Ex_AugAssign (by walk_at "k") (by walk_at "k") ?_
                      refine Ev_int ?_
                      refine iadd_ii ?_
                      refine' Store.mk ?u ?v ?_
                      case u => walk_at "k"
                      case v => walk_at "k"
                      with_reducible refine Then.next ?_
                      refine Ex_nil ?_
                      with_reducible refine Turn.next ?_
                      exact hn2 (T.cps.size - (e + 1)) _ _ (by lia) (.mk (e + 1) (by lia) (by lia) fun i h1 h2 => by
                        rcases Nat.lt_or_ge i e with q | q
                        · exact hq i h1 q
                        · obtain rfl : i = e := by lia
                          rw [hce]; simpa using hc34)
                · obtain ⟨hx1, hx2⟩ := hx
                  have hw := lex_w (r := T.cps.toList.drop (j + 1)) (of_decide_eq_false h34) hx2 hx1
                  refine Ex_cons ?_
                  refine Ex_Assign_ListComp [Str.ofString ".0", Str.ofString "pair"] rfl ?_ (by decide)
                  refine Ev_local (by walk_at "k") (by walk_at "k") ?_
                  refine ⟨_, iter_lst hh, by rw [List.length_map]; decide, AccI F _ fun k => ((wordsL.take k).filter fun p => preL p.1 (c :: T.cps.toList.drop (j + 1))).map fun p => .tup [.str p.1, p.2], .mk, ?_, ?_⟩
                  · refine ⟨?_⟩
                    rintro k y _ _ _ C ρ hy ⟨⟩ hρ Qn hn
                    obtain ⟨q0, q1, rfl⟩ := nm2 hρ
                    obtain ⟨p, hp, rfl⟩ : ∃ p, wordsL[k]? = some p ∧ y = .tup [.str p.1, p.2] := by
                      rw [List.getElem?_map] at hy
                      cases q : wordsL[k]? with
                      | none => rw [q] at hy; cases hy
                      | some p => rw [q] at hy; exact ⟨p, rfl, (Option.some.inj hy).symm⟩
                    refine As_Name ?_
                    refine' Store.mk Upd.hd ?v ?_
                    case v => walk_at "k"
                    refine Tests_one ?_
                    refine It_value ?_
                    refine Ev_method ?_
                    refine Ev_cell rfl (by walk_at "k") ?_
                    refine ⟨"str", _, PySem.F.plainAttrs_str, PySem.F.slot_str_startswith, PySem.F.type_str_startswith, .str, ?_⟩
                    refine Evs_cons ?_
                    refine' Ev_Subscript' ?_ ?_ ?_
                    rotate_left 2
                    refine Ev_local Has.hd (by walk_at "k") ?_
                    with_reducible exact Is.mk
                    refine Ev_int ?_
                    with_reducible exact Is.mk
                    refine sub_tup (by decide) (by decide) rfl ?_
                    refine Evs_cons ?_
                    refine Ev_cell rfl (by walk_at "k") ?_
                    refine Evs_nil ?_
                    refine starts_s ?_
                    rw [starts_pre (by lia), hdr]
                    refine tr_bool ?_
                    have hmp : (if preL p.1 (c :: T.cps.toList.drop (j + 1)) = true then (((wordsL.take k).filter fun p => preL p.1 (c :: T.cps.toList.drop (j + 1))) ++ [p]) else ((wordsL.take k).filter fun p => preL p.1 (c :: T.cps.toList.drop (j + 1)))) = ((wordsL.take (k + 1)).filter fun p => preL p.1 (c :: T.cps.toList.drop (j + 1))) := by
                      rw [List.take_add_one, hp, List.filter_append]
                      show _ = _ ++ List.filter _ [p]
                      rw [List.filter_cons]
                      split <;> simp
                    cases hb : preL p.1 (c :: T.cps.toList.drop (j + 1)) with
                    | true =>
                      rw [hb, if_pos rfl] at hmp
                      refine Bif_t ?_
                      refine Ev_local Has.hd (by walk_at "k") ?_
                      refine ⟨_, _, .hd, rfl, hn _ _ _ ?_⟩
                      rw [show (V.tup [.str p.1, p.2] : V) = (fun p : Str × V => V.tup [.str p.1, p.2]) p from rfl, ← List.map_singleton (f := fun p : Str × V => V.tup [.str p.1, p.2]), ← List.map_append, hmp]
                      exact .mk
                    | false =>
                      rw [hb, if_neg (by decide)] at hmp
                      refine Bif_f ?_
                      refine ⟨_, _, .hd, rfl, hn _ _ _ ?_⟩
                      rw [hmp]
                      exact .mk
                  · rintro _ _ _ ⟨⟩
                    rw [List.length_map, List.take_length]
                    refine' Store.mk ?u ?v ?_
                    case u => walk_at "k"
                    case v => walk_at "k"
                    with_reducible refine Then.next ?_
                    refine Ex_cons ?_
                    refine Ex_Assign_Name ?_
                    refine' Ev_Call' ?_ ?_ ?_ ?_
                    rotate_left 2
                    refine Ev_global (by assumption) .ref ?_
                    with_reducible exact Is.mk
                    exact hfN.ok
                    refine' Evs_cons' ?_ ?_
                    rotate_left 2
                    refine Ev_cell rfl (by walk_at "k") ?_
                    with_reducible exact Is.mk
                    refine' Evs_cons' ?_ ?_
                    rotate_left 2
                    refine Ev_cell rfl (by walk_at "k") ?_
                    with_reducible exact Is.mk
                    refine' Evs_cons' ?_ ?_
                    rotate_left 2
                    refine Ev_local (by walk_at "k") (by walk_at "k") ?_
                    with_reducible exact Is.mk
                    exact Evs_nil'
                    refine law_number bt' hfN (hA.less (by lia)) hT (by lia) hS ?_
                    rw [hdr, show (wordsL.filter fun p => preL p.1 (c :: T.cps.toList.drop (j + 1))) = fits (c :: T.cps.toList.drop (j + 1)) from rfl]
                    cases hw with
                    | word p hp hf hl =>
                      have hpre : preL p.1 (c :: T.cps.toList.drop (j + 1)) = true := (List.mem_filter.mp (show p ∈ fits _ from by rw [hf]; exact .head _)).2
                      rw [hl] at hat
                      obtain rfl := hat.word hp
                      rw [hf]
                      have hlen : 0 < p.1.length ∧ p.1.length ≤ 9 := by
                        have : ∀ q ∈ wordsL, 0 < q.1.length ∧ q.1.length ≤ 9 := by
                          intro q hq
                          simp only [wordsL, List.mem_cons, List.mem_nil_iff, or_false] at hq
                          rcases hq with rfl | rfl | rfl | rfl | rfl | rfl <;> decide +kernel
                        exact this p hp
                      have hle := pre_len hpre
                      rw [← hdr, List.length_drop, Array.length_toList] at hle
                      refine' Store.mk ?u ?v ?_
                      case u => walk_at "k"
                      case v => walk_at "k"
                      with_reducible refine Then.next ?_
                      refine Ex_cons ?_
                      refine Ex_If ?_
                      refine It_value ?_
                      refine Ev_local (by walk_at "k") (by walk_at "k") ?_
                      refine tr_lst (by simp) ?_
                      refine Bif_t ?_
                      refine Ex_cons ?_
                      refine Ex_Assign_Name ?_
                      refine' Ev_Subscript' ?_ ?_ ?_
                      rotate_left 2
                      refine' Ev_Subscript' ?_ ?_ ?_
                      rotate_left 2
                      refine Ev_local (by walk_at "k") (by walk_at "k") ?_
                      with_reducible exact Is.mk
                      refine Ev_int ?_
                      with_reducible exact Is.mk
                      refine sub_lst .lst (by decide) (by decide) rfl ?_
                      with_reducible exact Is.mk
                      refine Ev_int ?_
                      with_reducible exact Is.mk
                      refine sub_tup (by decide) (by decide) rfl ?_
                      refine' Store.mk ?u ?v ?_
                      case u => walk_at "k"
                      case v => walk_at "k"
                      with_reducible refine Then.next ?_
                      refine Ex_cons ?_
                      refine Ex_AugAssignC rfl (by walk_at "k") ?_
                      refine' Ev_Call' ?_ ?_ ?_ ?_
                      rotate_left 2
                      refine Ev_blt (by assumption) (by assumption) .blt ?_
                      with_reducible exact Is.mk
                      with_reducible exact KOk.blt
                      refine' Evs_cons' ?_ ?_
                      rotate_left 2
                      refine' Ev_Subscript' ?_ ?_ ?_
                      rotate_left 2
                      refine' Ev_Subscript' ?_ ?_ ?_
                      rotate_left 2
                      refine Ev_local (by walk_at "k") (by walk_at "k") ?_
                      with_reducible exact Is.mk
                      refine Ev_int ?_
                      with_reducible exact Is.mk
                      refine sub_lst .lst (by decide) (by decide) rfl ?_
                      with_reducible exact Is.mk
                      refine Ev_int ?_
                      with_reducible exact Is.mk
                      refine sub_tup (by decide) (by decide) rfl ?_
                      with_reducible exact Is.mk
                      exact Evs_nil'
                      refine len_s (by lia) ?_
                      refine iadd_ii ?_
                      refine' StoreC.mk ?l ?u ?_
                      case l => rfl
                      case u => walk_at "k"
                      with_reducible refine Then.next ?_
                      refine Ex_nil ?_
                      with_reducible refine Then.next ?_
                      refine Ex_nil ?_
                      with_reducible refine Then.next ?_
                      refine Ex_nil ?_
                      with_reducible refine Then.next ?_
                      refine Ex_nil ?_
                      with_reducible refine Then.next ?_
                      refine Ex_nil ?_
                      exact .mk S _ (j + p.1.length) o1 o3 o4 _ _ o7 (by lia) (by lia) hfin hSl hSp
                    | num n b hf hb hl =>
                      rw [hl] at hat
                      obtain rfl := hat.num
                      have hnl := best_le hb
                      rw [← hdr, List.length_drop, Array.length_toList] at hnl
                      have hbv : bestV (comb none j (some (n, b))) = .tup [.int ((j + n : Nat) : Int), .str (if b then "broken" else "whole")] := by cases b <;> rfl
                      have hsl : Txt.slice T (some (j : Int)) (some ((j + n : Nat) : Int)) = subT T j (j + n) := slice_ext (by lia) (by lia)
                      rw [← hsl] at hfin
                      rw [hf, hb, hbv]
                      refine' Store.mk ?u ?v ?_
                      case u => walk_at "k"
                      case v => walk_at "k"
                      with_reducible refine Then.next ?_
                      refine Ex_cons ?_
                      refine Ex_If ?_
                      refine It_value ?_
                      refine Ev_local (by walk_at "k") (by walk_at "k") ?_
                      refine tr_lst (by decide) ?_
                      refine Bif_f ?_
                      refine Ex_cons ?_
                      refine Ex_If ?_
                      refine' It_Compare1' ?_ ?_ ?_
                      rotate_left 2
                      refine Ev_local (by walk_at "k") (by walk_at "k") ?_
                      with_reducible exact Is.mk
                      refine Ev_none ?_
                      with_reducible exact Is.mk
                      refine isNot_none ?_
                      refine ⟨_, rfl, ?_⟩
                      refine Bif_t ?_
                      refine Ex_cons ?_
                      refine Ex_Assign_Name ?_
                      refine' Ev_Tuple' ?_ ?_ ?_
                      rotate_left 1
                      refine' Evs_cons' ?_ ?_
                      rotate_left 2
                      refine' Ev_Subscript' ?_ ?_ ?_
                      rotate_left 2
                      refine Ev_local (by walk_at "k") (by walk_at "k") ?_
                      with_reducible exact Is.mk
                      refine Ev_int ?_
                      with_reducible exact Is.mk
                      refine sub_tup (by decide) (by decide) rfl ?_
                      with_reducible exact Is.mk
                      refine' Evs_cons' ?_ ?_
                      rotate_left 2
                      refine Ev_slice_str ?_
                      refine Ev_cell rfl (by walk_at "k") ?_
                      refine ⟨T, rfl, hTs, ?_⟩
                      refine EvP_some ?_
                      refine Ev_cell rfl (by walk_at "k") ?_
                      refine ⟨_, rfl, ?_⟩
                      refine EvP_some ?_
                      refine' Ev_Subscript' ?_ ?_ ?_
                      rotate_left 2
                      refine Ev_local (by walk_at "k") (by walk_at "k") ?_
                      with_reducible exact Is.mk
                      refine Ev_int ?_
                      with_reducible exact Is.mk
                      refine sub_tup (by decide) (by decide) rfl ?_
                      refine ⟨_, rfl, ?_⟩
                      with_reducible exact Is.mk
                      exact Evs_nil'
                      exact Nat.le_of_ble_eq_true rfl
                      refine' Store.mk ?u ?v ?_
                      case u => walk_at "k"
                      case v => walk_at "k"
                      with_reducible refine Then.next ?_
                      refine Ex_cons ?_
                      refine Ex_Assign_NameC ?_
                      refine' Ev_Subscript' ?_ ?_ ?_
                      rotate_left 2
                      refine Ev_local (by walk_at "k") (by walk_at "k") ?_
                      with_reducible exact Is.mk
                      refine Ev_int ?_
                      with_reducible exact Is.mk
                      refine sub_tup (by decide) (by decide) rfl ?_
                      refine' StoreC.mk ?l ?u ?_
                      case l => rfl
                      case u => walk_at "k"
                      with_reducible refine Then.next ?_
                      refine Ex_nil ?_
                      with_reducible refine Then.next ?_
                      refine Ex_nil ?_
                      with_reducible refine Then.next ?_
                      refine Ex_nil ?_
                      with_reducible refine Then.next ?_
                      refine Ex_nil ?_
                      with_reducible refine Then.next ?_
                      refine Ex_nil ?_
                      with_reducible refine Then.next ?_
                      refine Ex_nil ?_
                      exact .mk S _ (j + n) o1 o3 o4 _ _ o7 (by lia) (by lia) hfin hSl hSp
                    | none hf hb hl =>
                      rw [hl] at hat
                      obtain rfl := hat.no
                      obtain rfl := hfin.stops
                      rw [hf, hb, show bestV (comb none j none) = .none from rfl]
                      refine' Store.mk ?u ?v ?_
                      case u => walk_at "k"
                      case v => walk_at "k"
                      with_reducible refine Then.next ?_
                      refine Ex_cons ?_
                      refine Ex_If ?_
                      refine It_value ?_
                      refine Ev_local (by walk_at "k") (by walk_at "k") ?_
                      refine tr_lst (by decide) ?_
                      refine Bif_f ?_
                      refine Ex_cons ?_
                      refine Ex_If ?_
                      refine' It_Compare1' ?_ ?_ ?_
                      rotate_left 2
                      refine Ev_local (by walk_at "k") (by walk_at "k") ?_
                      with_reducible exact Is.mk
                      refine Ev_none ?_
                      with_reducible exact Is.mk
                      refine isNot_none ?_
                      refine ⟨_, rfl, ?_⟩
                      refine Bif_f ?_
                      refine Ex_cons ?_
                      refine Ex_Return ?_
                      refine' Ev_Tuple' ?_ ?_ ?_
                      rotate_left 1
                      refine' Evs_cons' ?_ ?_
                      rotate_left 2
                      refine Ev_str ?_
                      with_reducible exact Is.mk
                      refine' Evs_cons' ?_ ?_
                      rotate_left 2
                      refine Ev_cell rfl (by walk_at "k") ?_
                      with_reducible exact Is.mk
                      exact Evs_nil'
                      exact Nat.le_of_ble_eq_true rfl
                      with_reducible refine Then.ret ?_
                      with_reducible refine Then.ret ?_
                      with_reducible refine Then.ret ?_
                      with_reducible refine Then.ret ?_
                      with_reducible refine Then.ret ?_
                      with_reducible refine Then.ret ?_
                      exact (show Ret L (fun x F1 H1 => ∃ H2, Drp H1 H2 ∧ Q x F1 H2) (.ret _) _ _ from ⟨_, _, .tl .hd, _, drp_all, h⟩)
    · rintro _ _ ⟨S2, v, e, o1, o3, o4, o5, o6, o7, hje, heT, hfin, hSl, hSp⟩
      cases S2 with
      | nil =>
        refine Ex_cons ?_
        refine Ex_If ?_
        refine It_Not (It_value ?_)
        refine Ev_local (by walk_at "k") (by walk_at "k") ?_
        refine tr_list .hd (by decide) ?_
        refine Bif_t ?_
        cases hfin
        refine Ex_cons ?_
        refine Ex_Return ?_
        refine' Ev_Tuple' ?_ ?_ ?_
        rotate_left 1
        refine' Evs_cons' ?_ ?_
        rotate_left 2
        refine Ev_str ?_
        with_reducible exact Is.mk
        refine' Evs_cons' ?_ ?_
        rotate_left 2
        refine Ev_local (by walk_at "k") (by walk_at "k") ?_
        with_reducible exact Is.mk
        refine' Evs_cons' ?_ ?_
        rotate_left 2
        refine Ev_cell rfl (by walk_at "k") ?_
        with_reducible exact Is.mk
        exact Evs_nil'
        exact Nat.le_of_ble_eq_true rfl
        with_reducible refine Then.ret ?_
        with_reducible refine Then.ret ?_
        with_reducible refine Turn.ret ?_
        with_reducible refine Then.ret ?_
        exact ⟨_, _, .tl .hd, _, drp_all, h⟩
      | cons s S3 =>
        obtain ⟨b, it, l⟩ := s
        have hll := hSp _ (.head _)
        rw [show itsH ((b, it, l) :: S3) ++ H = (it, .list l) :: (itsH S3 ++ H) from rfl]
        have hbl : (begL ((b, it, l) :: S3)).length = S3.length + 1 := by simp [begL]
        have hbl2 : (begL ((b, it, l) :: S3))[S3.length]? = some (.tup [.str (if b then "}" else "]"), .ref it]) := by simp [begL]
        refine Ex_cons ?_
        refine Ex_If ?_
        refine It_Not (It_value ?_)
        refine Ev_local (by walk_at "k") (by walk_at "k") ?_
        refine tr_list .hd (by rw [hbl]; simp at hSl; lia) ?_
        refine Bif (fun hx => ?_) fun _ => ?_
        · rw [List.isEmpty_eq_false_iff.mpr (by intro q; rw [q] at hbl; cases hbl)] at hx; cases hx
        refine Ex_nil ?_
        with_reducible refine Then.next ?_
        refine Ex_cons ?_
        refine Ex_Expr ?_
        refine Ev_method (Ev_top (by walk_at "k") (by walk_at "k") .hd (by rw [hbl]; lia) (by rw [hbl]; exact hbl2) (by decide) (by decide) rfl ?_)
        refine ⟨"list", _, PySem.F.plainAttrs_list, slot_list_append, type_list_append, .list (by walk_at "k"), ?_⟩
        refine Evs_cons ?_
        refine Ev_local (by walk_at "k") (by walk_at "k") ?_
        refine Evs_nil ?_
        refine append (by walk_at "k") (by show _ ≤ 16777216; lia) ?_
        refine ⟨rfl, ?_⟩
        with_reducible refine Then.next ?_
        refine Ex_nil ?_
        with_reducible refine Turn.next ?_
        cases hfin with
        | more hgo =>
        exact hn (T.cps.size - e) _ _ (by lia) (.mk e ((b, it, l ++ [v]) :: S3) o1 _ o3 o4 o5 o6 o7 (fun _ => heT) hgo (by simp at hSl ⊢; lia) fun p hp => by
          rcases List.mem_cons.mp hp with rfl | hp
          · simp; lia
          · have := hSp p (.tail _ hp); lia)
inductive Gl01 (G : Glob) (F : Fz) (aF aT aL aO aC aR aN aM aS aK cC cK PC PK pat : Addr) : Prop where
  | mk (figs : G.mg (Str.ofString "_law_figures") = some (.ref aF)) (figsD : IsDef F (stm 5) aF) (text : G.mg (Str.ofString "_law_text") = some (.ref aT)) (textD : IsDef F (stm 6) aT) (list : G.mg (Str.ofString "_law_list") = some (.ref aL)) (listD : IsDef F (stm 7) aL) (obj : G.mg (Str.ofString "_law_object") = some (.ref aO)) (objD : IsDef F (stm 8) aO) (ctx : G.mg (Str.ofString "_law_context") = some (.ref aC)) (ctxD : IsDefC F (stm 9) aC cC) (ctxC : CodeOk F cC PC) (ctxB : BOk G PC) (read : G.mg (Str.ofString "_law_read") = some (.ref aR)) (readD : IsDef F (stm 10) aR) (num : G.mg (Str.ofString "_law_number") = some (.ref aN)) (numD : IsDef F (stm 11) aN) (mach : G.mg (Str.ofString "_law_machine") = some (.ref aM)) (machD : IsDef F (stm 12) aM) (same : G.mg (Str.ofString "_law_same") = some (.ref aS)) (sameD : IsDef F (stm 13) aS) (make : G.mg (Str.ofString "py_make_scanner") = some (.ref aK)) (makeD : IsDefC F (stm 3) aK cK) (makeC : CodeOk F cK PK) (makeB : BOk G PK) (nre : G.mg (Str.ofString "NUMBER_RE") = some (.ref pat)) (patF : PatF F pat) (bt : BtS G) (bl : BtL G) (divmod0 : G.mg (Str.ofString "divmod") = none) (divmod : G.mb (Str.ofString "divmod") = some (.builtin "divmod")) (range0 : G.mg (Str.ofString "range") = none) (range : G.mb (Str.ofString "range") = some (.type "range")) (abs0 : G.mg (Str.ofString "abs") = none) (abs : G.mb (Str.ofString "abs") = some (.builtin "abs")) (sum0 : G.mg (Str.ofString "sum") = none) (sum : G.mb (Str.ofString "sum") = some (.builtin "sum")) (exc0 : G.mg (Str.ofString "Exception") = none) (exc : G.mb (Str.ofString "Exception") = some (.type "Exception"))
noncomputable def piecesL : List Str := (["0", "7", "12", "-", ".", "e", "E+", "\"", "[", "]", "{", "}", "null", "true", "false", "NaN", "Infinity", "-Infinity", "n", "tru", "Inf", "-0.5", "3e-2", " ", "٣", "[]", "nul", "fals", "Na", "Infinit", "-Infinit", "l", "y", "N", "nULL", "-INFINITY"] : List String).map Str.ofString
theorem join_le {b : Nat} : ∀ {xs : List Str}, (∀ x ∈ xs, x.length ≤ b) → (Txt.join "" xs).length ≤ b * xs.length := by
  intro xs h
  show (Builtin.Str.glued "" xs).length ≤ _
  rw [StrLaws.glued_eq_join]
  induction xs with
  | nil => exact Nat.zero_le _
  | cons x l ih =>
    have h1 := h x (.head _)
    have h2 := ih fun y hy => h y (.tail _ hy)
    rw [List.length_cons, Nat.mul_succ]
    cases l with
    | nil => show x.length ≤ _; lia
    | cons y l =>
      show (x ++ "" ++ Str.join "" (y :: l)).length ≤ _
      rw [strLen_append, strLen_append]
      show x.length + 0 + _ ≤ _
      lia
theorem join_okk {b : Nat} {xs : List Str} (h : ∀ x ∈ xs, x.length ≤ b) (hn : b * xs.length ≤ sizeLine) : JoinOk "" xs = true := by
  have : ∀ (xs : List Str) (n : Nat), (∀ x ∈ xs, x.length ≤ b) → xs.foldl (fun (a : Nat) (x : Str) => a + x.length + (Str.ofString "").length) n ≤ n + b * xs.length := by
    intro xs
    induction xs with
    | nil => exact fun n _ => Nat.le_refl _
    | cons x l ih =>
      intro n h
      have h1 := h x (.head _)
      have h2 := ih (n + x.length + (Str.ofString "").length) fun y hy => h y (.tail _ hy)
      rw [List.length_cons, Nat.mul_succ]
      rw [List.foldl_cons]
      have h3 : (Str.ofString "").length = 0 := rfl
      lia
  have := this xs 0 h
  unfold JoinOk
  rw [List.foldl_toArray]
  have h : Builtin.Str.tooLong (xs.foldl (fun (a : Nat) (x : Str) => a + x.length + (Str.ofString "").length) 0) = false := by
    simp [Builtin.Str.tooLong]
    lia
  simp [h]
theorem piece_le {k : Nat} : (piecesL.getD k "").length ≤ 9 := by
  have : ∀ k, k < 36 → (piecesL.getD k "").length ≤ 9 := by decide +kernel
  rcases Nat.lt_or_ge k 36 with h | h
  · exact this k h
  · rw [List.getD_eq_getElem?_getD, List.getElem?_eq_none h]; exact Nat.zero_le _
theorem place_nat {zs : List Int} {n k : Nat} {y : V} (h : (((List.range (n + 1)).map fun (k : Nat) => V.int k) ++ [.int ((n : Int) + 1 + (if zs.sum < 0 then -zs.sum else zs.sum))])[k]? = some y) : ∃ i : Nat, y = .int (i : Nat) := by
  have := List.mem_of_getElem? h
  rcases List.mem_append.mp this with h | h
  · obtain ⟨k, _, rfl⟩ := List.mem_map.mp h
    exact ⟨k, rfl⟩
  · rw [List.mem_singleton] at h
    refine ⟨n + 1 + zs.sum.natAbs, ?_⟩
    rw [h]
    congr 1
    split <;> lia
inductive InvP (PK PC x D m L cP st sc : Addr) (l l' : List (Nat × Nat × Addr)) (ρ : List (Str × V)) (zs : List Int) (T : Str) (F : Fz) : Fz → Hp → Prop where
  | mk (op : Option V) : InvP PK PC x D m L cP st sc l l' ρ zs T F F ((PK, AO.raw (tabObj (tabOf l'))) :: (x, .exc "Exception" [] none (some D) true) :: (D, .attrs ρ) :: (m, .dict []) :: (PC, AO.raw (tabObj (tabOf l))) :: (L, .ns [(Str.ofString "script", some (.lst (zs.map .int))), (Str.ofString "words", some (.lst (wordsL.map fun p => .tup [.str p.1, p.2]))), (Str.ofString "steps", some (.ref st)), (Str.ofString "text", some (.str T)), (Str.ofString "scanner", some (.ref sc)), (Str.ofString "places", some (.lst (((List.range (T.cps.size + 1)).map fun (k : Nat) => V.int k) ++ [.int ((T.cps.size : Int) + 1 + (if zs.sum < 0 then -zs.sum else zs.sum))]))), (Str.ofString "place", op)]) :: (cP, .cell (some (.lst (piecesL.map .str)))) :: [])
theorem Cl.front {G : Glob} {fr : List Env} {A : Around} {F : Fz} {H H1 : Hp} {a : Addr} {x : AO} {f : V} {xs : List V} {Q : V → Fz → Hp → Prop} {E : Value → Fz → Hp → Prop} (hr : Rem H a x H1) (h : Cl G fr A F ((a, x) :: H1) f xs Q E) : Cl G fr A F H f xs Q E := h.perm hr.perm
theorem EvBox.mono {G : Glob} {fr : List Env} {A : Around} {F : Fz} {H : Hp} {E : Value → Fz → Hp → Prop} {Q Q' : V → Fz → Hp → Prop} {t : Sem Value} (h : EvBox (Ev G fr A F H t Q' E)) (k : ∀ x F1 H1, Q' x F1 H1 → Q x F1 H1) : EvBox (Ev G fr A F H t Q E) := ⟨Ev.mono h.out k fun _ _ _ e => e⟩
inductive StepsQ (G : Glob) (F : Fz) (H : Hp) : V → Fz → Hp → Prop where
  | mk (st : Addr) (F' : Fz) (le : F.le F') (h : StepsF G F' st) : StepsQ G F H (.ref st) F' H
theorem ev_steps {G : Glob} {fr : List Env} {A : Around} {env : Env} {F : Fz} {H : Hp} {E : Value → Fz → Hp → Prop} {tg : List Expr} {e : Expr} {p : Pos} (hs : sub (stm 14) 2 = some (.Assign tg e p)) : EvBox (Ev G fr A F H (eval e env) (StepsQ G F H) E) := by
  cases Option.some.inj hs.symm
  refine Ev_DictB (kInt G) (ks := [_, _, _, _, _, _, _, _, _]) rfl (List.cons_ne_nil _ _) (by decide) rfl ?_
  refine Evp.cons (Ev_int ?_)
  refine EvBox.out ?_
  refine Ev_DictB (kStr G) (ks := [_, _, _]) rfl (List.cons_ne_nil _ _) (by decide) rfl ?_
  refine Evp.cons (Ev_str (Ev_int ?_))
  refine Evp.cons (Ev_str (Ev_int ?_))
  refine Evp.cons (Ev_str (Ev_int ?_))
  refine Evp.nil ?_
  refine ⟨rowsN 0, rfl, rows_nd 0, fun d0 F0 e0 hd0 => ?_⟩
  refine Evp.cons (Ev_int ?_)
  refine EvBox.out ?_
  refine Ev_DictB (kStr G) (ks := [_, _]) rfl (List.cons_ne_nil _ _) (by decide) rfl ?_
  refine Evp.cons (Ev_str (Ev_int ?_))
  refine Evp.cons (Ev_str (Ev_int ?_))
  refine Evp.nil ?_
  refine ⟨rowsN 1, rfl, rows_nd 1, fun d1 F1 e1 hd1 => ?_⟩
  refine Evp.cons (Ev_int ?_)
  refine EvBox.out ?_
  refine Ev_DictB (kStr G) (ks := [_, _]) rfl (List.cons_ne_nil _ _) (by decide) rfl ?_
  refine Evp.cons (Ev_str (Ev_int ?_))
  refine Evp.cons (Ev_str (Ev_int ?_))
  refine Evp.nil ?_
  refine ⟨rowsN 2, rfl, rows_nd 2, fun d2 F2 e2 hd2 => ?_⟩
  refine Evp.cons (Ev_int ?_)
  refine EvBox.out ?_
  refine Ev_DictB (kStr G) (ks := [_, _, _, _]) rfl (List.cons_ne_nil _ _) (by decide) rfl ?_
  refine Evp.cons (Ev_str (Ev_int ?_))
  refine Evp.cons (Ev_str (Ev_int ?_))
  refine Evp.cons (Ev_str (Ev_int ?_))
  refine Evp.cons (Ev_str (Ev_int ?_))
  refine Evp.nil ?_
  refine ⟨rowsN 3, rfl, rows_nd 3, fun d3 F3 e3 hd3 => ?_⟩
  refine Evp.cons (Ev_int ?_)
  refine EvBox.out ?_
  refine Ev_DictB (kStr G) (ks := [_, _]) rfl (List.cons_ne_nil _ _) (by decide) rfl ?_
  refine Evp.cons (Ev_str (Ev_int ?_))
  refine Evp.cons (Ev_str (Ev_int ?_))
  refine Evp.nil ?_
  refine ⟨rowsN 4, rfl, rows_nd 4, fun d4 F4 e4 hd4 => ?_⟩
  refine Evp.cons (Ev_int ?_)
  refine EvBox.out ?_
  refine Ev_DictB (kStr G) (ks := [_, _, _]) rfl (List.cons_ne_nil _ _) (by decide) rfl ?_
  refine Evp.cons (Ev_str (Ev_int ?_))
  refine Evp.cons (Ev_str (Ev_int ?_))
  refine Evp.cons (Ev_str (Ev_int ?_))
  refine Evp.nil ?_
  refine ⟨rowsN 5, rfl, rows_nd 5, fun d5 F5 e5 hd5 => ?_⟩
  refine Evp.cons (Ev_int ?_)
  refine EvBox.out ?_
  refine Ev_DictB (kStr G) (ks := [_, _, _, _]) rfl (List.cons_ne_nil _ _) (by decide) rfl ?_
  refine Evp.cons (Ev_str (Ev_int ?_))
  refine Evp.cons (Ev_str (Ev_int ?_))
  refine Evp.cons (Ev_str (Ev_int ?_))
  refine Evp.cons (Ev_str (Ev_int ?_))
  refine Evp.nil ?_
  refine ⟨rowsN 6, rfl, rows_nd 6, fun d6 F6 e6 hd6 => ?_⟩
  refine Evp.cons (Ev_int ?_)
  refine EvBox.out ?_
  refine Ev_DictB (kStr G) (ks := [_, _]) rfl (List.cons_ne_nil _ _) (by decide) rfl ?_
  refine Evp.cons (Ev_str (Ev_int ?_))
  refine Evp.cons (Ev_str (Ev_int ?_))
  refine Evp.nil ?_
  refine ⟨rowsN 7, rfl, rows_nd 7, fun d7 F7 e7 hd7 => ?_⟩
  refine Evp.cons (Ev_int ?_)
  refine EvBox.out ?_
  refine Ev_DictB (kStr G) (ks := [_, _]) rfl (List.cons_ne_nil _ _) (by decide) rfl ?_
  refine Evp.cons (Ev_str (Ev_int ?_))
  refine Evp.cons (Ev_str (Ev_int ?_))
  refine Evp.nil ?_
  refine ⟨rowsN 8, rfl, rows_nd 8, fun d8 F8 e8 hd8 => ?_⟩
  refine Evp.nil ?_
  obtain ⟨ds, q0, q1, q2, q3, q4, q5, q6, q7, q8⟩ : ∃ ds : Nat → Addr, ds 0 = d0 ∧ ds 1 = d1 ∧ ds 2 = d2 ∧ ds 3 = d3 ∧ ds 4 = d4 ∧ ds 5 = d5 ∧ ds 6 = d6 ∧ ds 7 = d7 ∧ ds 8 = d8 := ⟨fun k => [d0, d1, d2, d3, d4, d5, d6, d7, d8].getD k 0, rfl, rfl, rfl, rfl, rfl, rfl, rfl, rfl, rfl⟩
  subst q0 q1 q2 q3 q4 q5 q6 q7 q8
  refine ⟨(List.range 9).map fun (k : Nat) => ((k : Int), .ref (ds k)), rfl, (show ([0, 1, 2, 3, 4, 5, 6, 7, 8] : List Int).Nodup by decide), fun st F9 e9 hst => ?_⟩
  have hSt : StepsF G F9 st := ⟨ds, hst, fun k hk => by
    have hk : k = 0 ∨ k = 1 ∨ k = 2 ∨ k = 3 ∨ k = 4 ∨ k = 5 ∨ k = 6 ∨ k = 7 ∨ k = 8 := by lia
    have m8 := e9
    have m7 := e8.trans m8
    have m6 := e7.trans m7
    have m5 := e6.trans m6
    have m4 := e5.trans m5
    have m3 := e4.trans m4
    have m2 := e3.trans m3
    have m1 := e2.trans m2
    have m0 := e1.trans m1
    rcases hk with rfl | rfl | rfl | rfl | rfl | rfl | rfl | rfl | rfl
    · exact hd0.mono m0
    · exact hd1.mono m1
    · exact hd2.mono m2
    · exact hd3.mono m3
    · exact hd4.mono m4
    · exact hd5.mono m5
    · exact hd6.mono m6
    · exact hd7.mono m7
    · exact hd8.mono m8⟩
  exact .mk st F9 (e0.trans (e1.trans (e2.trans (e3.trans (e4.trans (e5.trans (e6.trans (e7.trans (e8.trans e9))))))))) hSt
theorem law01 {G : Glob} {A : Around} {F : Fz} {a aF aT aL aO aC aR aN aM aS aK cC cK PC PK pat : Addr} (g : Gl01 G F aF aT aL aO aC aR aN aM aS aK cC cK PC PK pat) (hf : IsDef F (stm 14) a) (hA : Ok [] A 400) (zs : List Int) :
    ∀ R s, Rep G [] F ([(PC, AO.raw (tabObj (tabOf []))), (PK, AO.raw (tabObj (tabOf [])))] ++ R) s → ∀ xs, RVs F xs [.lst (zs.map .int)] →
      codeAny G.M A (.call (.ref a) ⟨xs, []⟩) (fun r s' => match r with
        | .ok (.ret v) => PQ G [] F R (VQ fun x F' H' => x = .bool true ∧ (∃ ps, (PC, AO.raw (tabObj ps)) ∈ H') ∧ ∃ ps, (PK, AO.raw (tabObj ps)) ∈ H') v s'
        | .ok _ => False
        | .error e => PQ G [] F R (fun e => Dn (No e)) e s') s := by
  intro R s hR xs hxs
  obtain ⟨g_figs, g_figsD, g_text, g_textD, g_list, g_listD, g_obj, g_objD, g_ctx, g_ctxD, g_ctxC, g_ctxB, g_read, g_readD, g_num, g_numD, g_mach, g_machD, g_same, g_sameD, g_make, g_makeD, g_makeC, g_makeB, g_nre, g_patF, g_bt, g_bl, g_divmod0, g_divmod, g_range0, g_range, g_abs0, g_abs, g_sum0, g_sum, g_exc0, g_exc⟩ := g
  obtain ⟨c, s', o, pm, hs, hf, hd, hc⟩ := hf
  obtain rfl := Option.some.inj hs.symm
  refine code_cells (Q := fun x F' H' => x = .bool true ∧ (∃ ps, (PC, AO.raw (tabObj ps)) ∈ H') ∧ ∃ ps, (PK, AO.raw (tabObj ps)) ∈ H') (E := No) (E' := fun _ => No) hf hd hc [true] [Str.ofString "script"] [Str.ofString "words", Str.ofString "steps", Str.ofString "text", Str.ofString "scanner", Str.ofString "places", Str.ofString "place"] [Str.ofString "pieces"] rfl (by decide) (by decide) (fun vs hv => ?_) (by rfl) (by rfl) (fun n => ?_) (by decide) (by rfl) rfl hA.room (fun _ _ => leaves_no) (fun L cs A' hcs hD => ?_) (.refl F) hxs hR
  · obtain ⟨a, rfl⟩ := len1 hv
    rfl
  · rfl
  · obtain ⟨cP, rfl⟩ := len1 hcs
    show Ex _ _ _ _ ((L, AO.ns [(Str.ofString "script", some (.lst (zs.map .int))), (Str.ofString "words", none), (Str.ofString "steps", none), (Str.ofString "text", none), (Str.ofString "scanner", none), (Str.ofString "places", none), (Str.ofString "place", none)]) :: (cP, AO.cell none) :: (PC, AO.raw (tabObj (tabOf []))) :: (PK, AO.raw (tabObj (tabOf []))) :: []) _ _ _
    have hA := hA.deep hD
    have hh := hA.handled
    refine Ex_cons ?_
    refine Ex_Assign_NameC ?_
    refine Ev_ListF ?_
    refine Evs_cons ?_
    refine Ev_str ?_
    refine Evs_cons ?_
    refine Ev_str ?_
    refine Evs_cons ?_
    refine Ev_str ?_
    refine Evs_cons ?_
    refine Ev_str ?_
    refine Evs_cons ?_
    refine Ev_str ?_
    refine Evs_cons ?_
    refine Ev_str ?_
    refine Evs_cons ?_
    refine Ev_str ?_
    refine Evs_cons ?_
    refine Ev_str ?_
    refine Evs_cons ?_
    refine Ev_str ?_
    refine Evs_cons ?_
    refine Ev_str ?_
    refine Evs_cons ?_
    refine Ev_str ?_
    refine Evs_cons ?_
    refine Ev_str ?_
    refine Evs_cons ?_
    refine Ev_str ?_
    refine Evs_cons ?_
    refine Ev_str ?_
    refine Evs_cons ?_
    refine Ev_str ?_
    refine Evs_cons ?_
    refine Ev_str ?_
    refine Evs_cons ?_
    refine Ev_str ?_
    refine Evs_cons ?_
    refine Ev_str ?_
    refine Evs_cons ?_
    refine Ev_str ?_
    refine Evs_cons ?_
    refine Ev_str ?_
    refine Evs_cons ?_
    refine Ev_str ?_
    refine Evs_cons ?_
    refine Ev_str ?_
    refine Evs_cons ?_
    refine Ev_str ?_
    refine Evs_cons ?_
    refine Ev_str ?_
    refine Evs_cons ?_
    refine Ev_str ?_
    refine Evs_cons ?_
    refine Ev_str ?_
    refine Evs_cons ?_
    refine Ev_str ?_
    refine Evs_cons ?_
    refine Ev_str ?_
    refine Evs_cons ?_
    refine Ev_str ?_
    refine Evs_cons ?_
    refine Ev_str ?_
    refine Evs_cons ?_
    refine Ev_str ?_
    refine Evs_cons ?_
    refine Ev_str ?_
    refine Evs_cons ?_
    refine Ev_str ?_
    refine Evs_cons ?_
    refine Ev_str ?_
    refine Evs_cons ?_
    refine Ev_str ?_
    refine Evs_cons ?_
    refine Ev_str ?_
    refine Evs_nil ?_
    refine ⟨by exact Nat.le_of_ble_eq_true rfl, ?_⟩
    refine' StoreC.mk ?l ?u ?_
    case l => rfl
    case u => walk_at "k"
    with_reducible refine Then.next ?_
    refine Ex_cons ?_
    refine Ex_Assign_Name ?_
    refine Ev_ListF ?_
    refine Evs_cons ?_
    refine' Ev_Tuple' ?_ ?_ ?_
    rotate_left 1
    refine' Evs_cons' ?_ ?_
    rotate_left 2
    refine Ev_str ?_
    with_reducible exact Is.mk
    refine' Evs_cons' ?_ ?_
    rotate_left 2
    refine Ev_none ?_
    with_reducible exact Is.mk
    exact Evs_nil'
    exact Nat.le_of_ble_eq_true rfl
    refine Evs_cons ?_
    refine' Ev_Tuple' ?_ ?_ ?_
    rotate_left 1
    refine' Evs_cons' ?_ ?_
    rotate_left 2
    refine Ev_str ?_
    with_reducible exact Is.mk
    refine' Evs_cons' ?_ ?_
    rotate_left 2
    refine Ev_bool ?_
    with_reducible exact Is.mk
    exact Evs_nil'
    exact Nat.le_of_ble_eq_true rfl
    refine Evs_cons ?_
    refine' Ev_Tuple' ?_ ?_ ?_
    rotate_left 1
    refine' Evs_cons' ?_ ?_
    rotate_left 2
    refine Ev_str ?_
    with_reducible exact Is.mk
    refine' Evs_cons' ?_ ?_
    rotate_left 2
    refine Ev_bool ?_
    with_reducible exact Is.mk
    exact Evs_nil'
    exact Nat.le_of_ble_eq_true rfl
    refine Evs_cons ?_
    refine' Ev_Tuple' ?_ ?_ ?_
    rotate_left 1
    refine' Evs_cons' ?_ ?_
    rotate_left 2
    refine Ev_str ?_
    with_reducible exact Is.mk
    refine' Evs_cons' ?_ ?_
    rotate_left 2
    refine' Ev_Tuple' ?_ ?_ ?_
    rotate_left 1
    refine' Evs_cons' ?_ ?_
    rotate_left 2
    refine Ev_str ?_
    with_reducible exact Is.mk
    refine' Evs_cons' ?_ ?_
    rotate_left 2
    refine Ev_str ?_
    with_reducible exact Is.mk
    exact Evs_nil'
    exact Nat.le_of_ble_eq_true rfl
    with_reducible exact Is.mk
    exact Evs_nil'
    exact Nat.le_of_ble_eq_true rfl
    refine Evs_cons ?_
    refine' Ev_Tuple' ?_ ?_ ?_
    rotate_left 1
    refine' Evs_cons' ?_ ?_
    rotate_left 2
    refine Ev_str ?_
    with_reducible exact Is.mk
    refine' Evs_cons' ?_ ?_
    rotate_left 2
    refine' Ev_Tuple' ?_ ?_ ?_
    rotate_left 1
    refine' Evs_cons' ?_ ?_
    rotate_left 2
    refine Ev_str ?_
    with_reducible exact Is.mk
    refine' Evs_cons' ?_ ?_
    rotate_left 2
    refine Ev_str ?_
    with_reducible exact Is.mk
    exact Evs_nil'
    exact Nat.le_of_ble_eq_true rfl
    with_reducible exact Is.mk
    exact Evs_nil'
    exact Nat.le_of_ble_eq_true rfl
    refine Evs_cons ?_
    refine' Ev_Tuple' ?_ ?_ ?_
    rotate_left 1
    refine' Evs_cons' ?_ ?_
    rotate_left 2
    refine Ev_str ?_
    with_reducible exact Is.mk
    refine' Evs_cons' ?_ ?_
    rotate_left 2
    refine' Ev_Tuple' ?_ ?_ ?_
    rotate_left 1
    refine' Evs_cons' ?_ ?_
    rotate_left 2
    refine Ev_str ?_
    with_reducible exact Is.mk
    refine' Evs_cons' ?_ ?_
    rotate_left 2
    refine Ev_str ?_
    with_reducible exact Is.mk
    exact Evs_nil'
    exact Nat.le_of_ble_eq_true rfl
    with_reducible exact Is.mk
    exact Evs_nil'
    exact Nat.le_of_ble_eq_true rfl
    refine Evs_nil ?_
    refine ⟨by exact Nat.le_of_ble_eq_true rfl, ?_⟩
    refine' Store.mk ?u ?v ?_
    case u => walk_at "k"
    case v => walk_at "k"
    with_reducible refine Then.next ?_
    refine Ex_cons ?_
    refine Ex_Assign_Name ?_
    refine EvBox.out ?_
    refine EvBox.mono (ev_steps rfl) fun x F9 H9 q => ?_
    obtain ⟨st, _, eF, hSt⟩ := q
    have h1 := g_figs
    refine' Store.mk ?u ?v ?_
    case u => walk_at "k"
    case v => walk_at "k"
    with_reducible refine Then.next ?_
    refine Ex_cons ?_
    refine Ex_Assign_Name ?_
    refine Ev_method ?_
    refine Ev_str ?_
    refine ⟨"str", _, PySem.F.plainAttrs_str, PySem.F.slot_str_join, PySem.F.type_str_join, .str, ?_⟩
    refine Evs_cons ?_
    refine Ev_map [Str.ofString ".0", Str.ofString "figure"] rfl ?_ (by decide)
    refine' Ev_Call' ?_ ?_ ?_ ?_
    rotate_left 2
    refine Ev_global (by assumption) .ref ?_
    with_reducible exact Is.mk
    exact (g_figsD.mono eF).ok
    refine' Evs_cons' ?_ ?_
    rotate_left 2
    refine Ev_local (by walk_at "k") (by walk_at "k") ?_
    with_reducible exact Is.mk
    refine' Evs_cons' ?_ ?_
    rotate_left 2
    refine Ev_int ?_
    with_reducible exact Is.mk
    refine' Evs_cons' ?_ ?_
    rotate_left 2
    refine Ev_int ?_
    with_reducible exact Is.mk
    exact Evs_nil'
    refine figs g_bl.len0 g_bl.len g_divmod0 g_divmod (g_figsD.mono eF) (hA.less (by decide)) zs 36 12 (by lia) (by lia) (by lia) fun fs hfl hfb => ?_
    refine ⟨_, iter_lst hh, by simp [sizeLine]; lia, fun j => .str (piecesL.getD (fs.getD j 0).toNat ""), ?_, ?_⟩
    · intro j y C ρ hy hρ
      rw [List.getElem?_map] at hy
      obtain ⟨e, he, rfl⟩ : ∃ e, fs[j]? = some e ∧ y = .int e := by
        cases hx : fs[j]? with
        | none => rw [hx] at hy; cases hy
        | some e => rw [hx] at hy; cases hy; exact ⟨e, rfl, rfl⟩
      have hb := hfb e (List.mem_of_getElem? he)
      have hgd : fs.getD j 0 = e := by rw [List.getD_eq_getElem?_getD, he]; rfl
      obtain ⟨r0, r1, rfl⟩ := nm2 hρ
      refine As_Name ?_
      refine' Store.mk Upd.hd ?v ?_
      case v => walk_at "k"
      refine' Ev_Subscript' ?_ ?_ ?_
      rotate_left 2
      refine Ev_cell rfl (by walk_at "k") ?_
      with_reducible exact Is.mk
      refine Ev_local Has.hd (by walk_at "k") ?_
      with_reducible exact Is.mk
      refine sub_lst .lst hb.1 (by lia) (y := .str (piecesL.getD e.toNat "")) ?_ ?_
      · show (piecesL.map V.str)[e.toNat]? = _
        rw [List.getElem?_map, List.getD_eq_getElem?_getD]
        have : e.toNat < piecesL.length := by show _ < 36; lia
        rw [List.getElem?_eq_getElem this]; rfl
      exact ⟨rfl, _, _, .hd, rfl, by show _ = V.str (piecesL.getD (fs.getD j 0).toNat ""); rw [hgd], rfl⟩
    have e0 : (List.range (fs.map V.int).length).map (fun j => V.str (piecesL.getD (fs.getD j 0).toNat "")) = (fs.map fun f => piecesL.getD f.toNat "").map .str := by
      rw [List.length_map, List.map_map]
      apply List.ext_getElem
      · simp
      · intro j h1 h2
        simp at h1
        simp [List.getD_eq_getElem?_getD, List.getElem?_eq_getElem h1]
    rw [e0]
    have hx9 : ∀ x ∈ fs.map (fun f => piecesL.getD f.toNat ""), x.length ≤ 9 := fun x hx => by
      obtain ⟨f, _, rfl⟩ := List.mem_map.mp hx
      exact piece_le
    generalize hxs' : fs.map (fun f => piecesL.getD f.toNat "") = xs' at hx9
    have hxl : xs'.length ≤ 12 := by rw [← hxs', List.length_map]; lia
    clear e0 hfb hxs'
    refine Evs_nil ?_
    refine join_s (join_okk hx9 (by show _ ≤ 16777216; lia)) ?_
    have hTl := join_le hx9
    generalize Txt.join "" xs' = T at hTl
    replace hTl : T.cps.size ≤ 108 := Nat.le_trans hTl (by lia)
    clear hx9 hxl
    have q0 := g_make
    have q1 := g_ctx
    refine' Store.mk ?u ?v ?_
    case u => walk_at "k"
    case v => walk_at "k"
    with_reducible refine Then.next ?_
    refine Ex_cons ?_
    refine Ex_Assign_Name ?_
    refine Ev_Call ?_
    refine Ev_global (by assumption) .ref ?_
    refine ⟨(g_makeD.mono eF).ok, ?_⟩
    refine Evs_cons ?_
    refine Ev_Call0 ?_
    refine Ev_global (by assumption) .ref ?_
    refine ⟨(g_ctxD.mono eF).ok, ?_⟩
    refine Cl.front (a := PC) (by walk_at "k") ?_
    refine context (g_ctxD.mono eF) (g_ctxC.mono eF) g_ctxB (hA.less (by decide)) g_exc0 g_exc g_obj g_list g_text fun F10 x D m li lf lc l ρ l10 hC hρ => ?_
    have l10' := eF.trans l10
    refine Evs_nil ?_
    refine Cl.front (a := D) (by walk_at "k") ?_
    refine Cl.front (a := x) (by walk_at "k") ?_
    refine Cl.front (a := PK) (by walk_at "k") ?_
    obtain ⟨_, ki⟩ := hC.i
    obtain ⟨_, kf⟩ := hC.f
    obtain ⟨_, kc⟩ := hC.c
    refine make (g_makeD.mono l10') (g_makeC.mono l10') g_makeB (hA.less (by decide)) g_nre (g_patF.mono l10') (hρ 0) rfl ⟨trivial, trivial, trivial, trivial, trivial, trivial, trivial, trivial, trivial⟩ ⟨(g_objD.mono l10').ok, (g_listD.mono l10').ok, (g_textD.mono l10').ok, kf.ok, ki.ok, kc.ok⟩ rfl fun F11 sc f mb l' l11 hO hS => ?_
    have l11' := l10'.trans l11
    have hC := hC.mono l11
    have hSt : StepsF G F11 st := by
      obtain ⟨ds, t1, t2⟩ := hSt
      exact ⟨ds, t1.mono (l10.trans l11), fun k hk => (t2 k hk).mono (l10.trans l11)⟩
    clear ki kf kc
    have u0 := g_bl.list0
    have u1 := g_bl.list
    have n0 := g_bl.len0
    have n1 := g_bl.len
    have r0 := g_range0
    have r1 := g_range
    have b0 := g_abs0
    have b1 := g_abs
    have m0 := g_sum0
    have m1 := g_sum
    refine' Store.mk ?u ?v ?_
    case u => walk_at "k"
    case v => walk_at "k"
    with_reducible refine Then.next ?_
    refine Ex_cons ?_
    refine Ex_Assign_Name ?_
    refine Ev_BinOp ?_
    refine' Ev_Call' ?_ ?_ ?_ ?_
    rotate_left 2
    refine Ev_blt (by assumption) (by assumption) .typ ?_
    with_reducible exact Is.mk
    with_reducible exact KOk.typ
    refine' Evs_cons' ?_ ?_
    rotate_left 2
    refine' Ev_Call' ?_ ?_ ?_ ?_
    rotate_left 2
    refine Ev_blt (by assumption) (by assumption) .typ ?_
    with_reducible exact Is.mk
    with_reducible exact KOk.typ
    refine' Evs_cons' ?_ ?_
    rotate_left 2
    refine' Ev_BinOp' ?_ ?_ ?_
    rotate_left 2
    refine' Ev_Call' ?_ ?_ ?_ ?_
    rotate_left 2
    refine Ev_blt (by assumption) (by assumption) .blt ?_
    with_reducible exact Is.mk
    with_reducible exact KOk.blt
    refine' Evs_cons' ?_ ?_
    rotate_left 2
    refine Ev_local (by walk_at "k") (by walk_at "k") ?_
    with_reducible exact Is.mk
    exact Evs_nil'
    refine len_s (show T.cps.size < 2 ^ 63 by lia) ?_
    with_reducible exact Is.mk
    refine Ev_int ?_
    with_reducible exact Is.mk
    refine add_ii ?_
    with_reducible exact Is.mk
    exact Evs_nil'
    refine range1 ?_
    with_reducible exact Is.mk
    exact Evs_nil'
    refine list_rngO (n := T.cps.size + 1) hh (by lia) fun a1 => ?_
    refine Ev_List ?_
    refine Evs_cons ?_
    refine' Ev_BinOp' ?_ ?_ ?_
    rotate_left 2
    refine' Ev_BinOp' ?_ ?_ ?_
    rotate_left 2
    refine' Ev_Call' ?_ ?_ ?_ ?_
    rotate_left 2
    refine Ev_blt (by assumption) (by assumption) .blt ?_
    with_reducible exact Is.mk
    with_reducible exact KOk.blt
    refine' Evs_cons' ?_ ?_
    rotate_left 2
    refine Ev_local (by walk_at "k") (by walk_at "k") ?_
    with_reducible exact Is.mk
    exact Evs_nil'
    refine len_s (show T.cps.size < 2 ^ 63 by lia) ?_
    with_reducible exact Is.mk
    refine Ev_int ?_
    with_reducible exact Is.mk
    refine add_ii ?_
    with_reducible exact Is.mk
    refine' Ev_Call' ?_ ?_ ?_ ?_
    rotate_left 2
    refine Ev_blt (by assumption) (by assumption) .blt ?_
    with_reducible exact Is.mk
    with_reducible exact KOk.blt
    refine' Evs_cons' ?_ ?_
    rotate_left 2
    refine' Ev_Call' ?_ ?_ ?_ ?_
    rotate_left 2
    refine Ev_blt (by assumption) (by assumption) .blt ?_
    with_reducible exact Is.mk
    with_reducible exact KOk.blt
    refine' Evs_cons' ?_ ?_
    rotate_left 2
    refine Ev_local (by walk_at "k") (by walk_at "k") ?_
    with_reducible exact Is.mk
    exact Evs_nil'
    refine sum_lst .lst hh ?_
    with_reducible exact Is.mk
    exact Evs_nil'
    refine abs_i ?_
    with_reducible exact Is.mk
    refine add_ii ?_
    refine Evs_nil ?_
    refine ⟨by exact Nat.le_of_ble_eq_true rfl, ?_⟩
    intro a2
    refine add_own (by walk_at "k") (by walk_at "k") (by simp [sizeLine]; lia) ?_
    refine' Store.mk ?u ?v ?_
    case u => walk_at "k"
    case v => walk_at "k"
    with_reducible refine Then.next ?_
    refine Ex_cons ?_
    refine Ex_For noted_no ?_
    refine Ev_local (by walk_at "k") (by walk_at "k") ?_
    refine ⟨_, iter_lst hh, fun _ => InvP PK PC x D m L cP st sc l l' ρ zs T F11, .mk none, ?_, ?_⟩
    · rintro t y _ _ hy ⟨op⟩ Qm hm
      obtain ⟨i, rfl⟩ := place_nat hy
      clear hy
      obtain ⟨r, hrd, _⟩ := (rd_all T (T.cps.size + 1) i (by lia)).1 (T.cps.size + 1) (by lia)
      have s0 := g_same
      have s1 := g_read
      have s2 := g_mach
      refine As_Name ?_
      refine' Store.mk ?u ?v ?_
      case u => walk_at "k"
      case v => walk_at "k"
      refine Ex_cons ?_
      refine Ex_If ?_
      refine It_Not (It_value ?_)
      refine Ev_Call ?_
      refine Ev_global (by assumption) .ref ?_
      refine ⟨(g_sameD.mono l11').ok, ?_⟩
      refine Evs_cons ?_
      refine' Ev_Call' ?_ ?_ ?_ ?_
      rotate_left 2
      refine Ev_global (by assumption) .ref ?_
      with_reducible exact Is.mk
      exact (g_readD.mono l11').ok
      refine' Evs_cons' ?_ ?_
      rotate_left 2
      refine Ev_local (by walk_at "k") (by walk_at "k") ?_
      with_reducible exact Is.mk
      refine' Evs_cons' ?_ ?_
      rotate_left 2
      refine Ev_local (by walk_at "k") (by walk_at "k") ?_
      with_reducible exact Is.mk
      refine' Evs_cons' ?_ ?_
      rotate_left 2
      refine Ev_local (by walk_at "k") (by walk_at "k") ?_
      with_reducible exact Is.mk
      exact Evs_nil'
      refine law_read (n := 2 * (T.cps.size + 1) + 2) g_bt (g_readD.mono l11') (hA.less (by lia)) hO hS.ok (by walk_at "k") (fun hA' => reads g_bt g_bl.len0 g_bl.len (by lia) (T.cps.size + 1) i r hrd hC (g_textD.mono l11') (g_listD.mono l11') (g_objD.mono l11') hS hA') ?_
      refine Evs_cons ?_
      refine' Ev_Call' ?_ ?_ ?_ ?_
      rotate_left 2
      refine Ev_global (by assumption) .ref ?_
      with_reducible exact Is.mk
      exact (g_machD.mono l11').ok
      refine' Evs_cons' ?_ ?_
      rotate_left 2
      refine Ev_local (by walk_at "k") (by walk_at "k") ?_
      with_reducible exact Is.mk
      refine' Evs_cons' ?_ ?_
      rotate_left 2
      refine Ev_local (by walk_at "k") (by walk_at "k") ?_
      with_reducible exact Is.mk
      refine' Evs_cons' ?_ ?_
      rotate_left 2
      refine Ev_local (by walk_at "k") (by walk_at "k") ?_
      with_reducible exact Is.mk
      refine' Evs_cons' ?_ ?_
      rotate_left 2
      refine Ev_local (by walk_at "k") (by walk_at "k") ?_
      with_reducible exact Is.mk
      exact Evs_nil'
      refine law_machine g_bl g_range0 g_range (g_machD.mono l11') g_num (g_numD.mono l11') (hA.less (by lia)) (by lia) hSt hrd ?_
      refine Evs_nil ?_
      refine law_same (H := []) g_bl g_same _ (resV r) (plain_res (plain_rd (Nat.le_trans hTl (by decide)) hrd)) (g_sameD.mono l11') (hA.less (by lia)) ?_
      refine tr_bool ?_
      refine Bif (fun hx => ?_) fun _ => ?_
      · cases hx
      refine Ex_nil ?_
      with_reducible refine Then.next ?_
      refine Ex_nil ?_
      with_reducible refine Turn.next ?_
      exact hm _ _ (.mk (some _))
    rintro _ _ ⟨op⟩
    with_reducible refine Then.next ?_
    refine Ex_cons ?_
    refine Ex_Return ?_
    refine Ev_bool ?_
    with_reducible refine Then.ret ?_
    exact ⟨_, _, by walk_at "k", rfl, ⟨tabOf l, Has.mem (by walk_at "k")⟩, ⟨tabOf l', Has.mem (by walk_at "k")⟩⟩
end Mine


set_option maxRecDepth 100000 in
set_option maxHeartbeats 8000000 in
theorem PySem.Challenge.cw_dm0199_01_holds : PySem.Challenge.rw_dm0199_01.Holds := by
  (w_on; o_law; k_head; (case hw => w_witness2))
  k_fill
  intro w s₀ s₁ mg mb G Y fa o pm cd doc dV kV ho hd hcd hD hmg hg args vals as hpre hlay hrd hwl hlo
  have KX := km_in_of Y
  have hT8 := km_tabs_of Y
  refine Ground.open G ?_
  intro T B D TE TW
  km_lay T hmg ho hd cd
  wrow_args hpre hlay hrd hwl hlo
  rename_i zs _ _ _ _ _ _ _ la vs _ hL _ _ _ hI _ _ _
  have e := Mine.isdef_of (tabs := [(77, 73), (42, 38)]) (a := 107) (c := 106) (st := Mine.stm 14) KX rfl rfl rfl rfl rfl rfl (by decide) (by decide)
  have hfa : fa = 107 := by
    have := mg_of KX T.g (n := Str.ofString "law") (v := .ref 107) (by kernel_rfl)
    rw [show mg (Str.ofString "law") = _ from hmg] at this
    cases this
    rfl
  subst hfa
  have gl : Mine.Gl01 (Mine.topG PySem.Challenge.rw_dm0199_01.row.prog w s₁ [(77, 73), (42, 38)] mg mb) (ghostOf s₁.heap [(77, 73), (42, 38)]).get? 50 57 64 71 78 85 92 97 102 43 77 42 73 38 36 := .mk
      (figs := mg_of KX T.g (by kernel_rfl))
      (figsD := ⟨49, Mine.isdef_of KX rfl rfl rfl rfl rfl rfl (by decide) (by decide)⟩)
      (text := mg_of KX T.g (by kernel_rfl))
      (textD := ⟨56, Mine.isdef_of KX rfl rfl rfl rfl rfl rfl (by decide) (by decide)⟩)
      (list := mg_of KX T.g (by kernel_rfl))
      (listD := ⟨63, Mine.isdef_of KX rfl rfl rfl rfl rfl rfl (by decide) (by decide)⟩)
      (obj := mg_of KX T.g (by kernel_rfl))
      (objD := ⟨70, Mine.isdef_of KX rfl rfl rfl rfl rfl rfl (by decide) (by decide)⟩)
      (ctx := mg_of KX T.g (by kernel_rfl))
      (ctxD := Mine.isdef_of KX rfl rfl rfl rfl rfl rfl (by decide) (by decide))
      (ctxC := Mine.code_of KX hT9 (by kernel_rfl) (by decide))
      (ctxB := Mine.bok_of KX T hT9 (by decide) ⟨(77, 73), by simp, rfl⟩)
      (read := mg_of KX T.g (by kernel_rfl))
      (readD := ⟨84, Mine.isdef_of KX rfl rfl rfl rfl rfl rfl (by decide) (by decide)⟩)
      (num := mg_of KX T.g (by kernel_rfl))
      (numD := ⟨91, Mine.isdef_of KX rfl rfl rfl rfl rfl rfl (by decide) (by decide)⟩)
      (mach := mg_of KX T.g (by kernel_rfl))
      (machD := ⟨96, Mine.isdef_of KX rfl rfl rfl rfl rfl rfl (by decide) (by decide)⟩)
      (same := mg_of KX T.g (by kernel_rfl))
      (sameD := ⟨101, Mine.isdef_of KX rfl rfl rfl rfl rfl rfl (by decide) (by decide)⟩)
      (make := mg_of KX T.g (by kernel_rfl))
      (makeD := Mine.isdef_of KX rfl rfl rfl rfl rfl rfl (by decide) (by decide))
      (makeC := Mine.code_of KX hT9 (by kernel_rfl) (by decide))
      (makeB := Mine.bok_of KX T hT9 (by decide) ⟨(42, 38), by simp, rfl⟩)
      (nre := mg_of KX T.g (by kernel_rfl))
      (patF := by
      refine ⟨_, _, _, 35, _, _, _, _, Mine.fz_of KX (a := 36) rfl (by decide), rfl, rfl, rfl, rfl, rfl, rfl, Mine.fz_of KX (a := 35) rfl (by decide), rfl, ?_, ?_⟩
      · refine Eq.subst (motive := Mine.Code) (a := Mine.numC) ?_ Mine.code_numC
        kernel_rfl
      · kernel_rfl)
      (bt := ⟨mg_none_of KX T.g (by kernel_rfl), (T.builtins _ (by decide)).trans (by kernel_rfl), mg_none_of KX T.g (by kernel_rfl), (T.builtins _ (by decide)).trans (by kernel_rfl)⟩)
      (bl := ⟨mg_none_of KX T.g (by kernel_rfl), (T.builtins _ (by decide)).trans (by kernel_rfl), mg_none_of KX T.g (by kernel_rfl), (T.builtins _ (by decide)).trans (by kernel_rfl), mg_none_of KX T.g (by kernel_rfl), (T.builtins _ (by decide)).trans (by kernel_rfl), mg_none_of KX T.g (by kernel_rfl), (T.builtins _ (by decide)).trans (by kernel_rfl), mg_none_of KX T.g (by kernel_rfl), (T.builtins _ (by decide)).trans (by kernel_rfl), mg_none_of KX T.g (by kernel_rfl), (T.builtins _ (by decide)).trans (by kernel_rfl), mg_none_of KX T.g (by kernel_rfl), (T.builtins _ (by decide)).trans (by kernel_rfl)⟩)
      (divmod0 := mg_none_of KX T.g (by kernel_rfl))
      (divmod := (T.builtins _ (by decide)).trans (by kernel_rfl))
      (range0 := mg_none_of KX T.g (by kernel_rfl))
      (range := (T.builtins _ (by decide)).trans (by kernel_rfl))
      (abs0 := mg_none_of KX T.g (by kernel_rfl))
      (abs := (T.builtins _ (by decide)).trans (by kernel_rfl))
      (sum0 := mg_none_of KX T.g (by kernel_rfl))
      (sum := (T.builtins _ (by decide)).trans (by kernel_rfl))
      (exc0 := mg_none_of KX T.g (by kernel_rfl))
      (exc := (T.builtins _ (by decide)).trans (by kernel_rfl))
  refine Mine.law_top (tabs := [(77, 73), (42, 38)]) (zs := zs) hT9 (by decide) (fun _ _ => rfl) (by kernel_rfl) hg hL hI (Mine.gok_of T hT9) ?_
  intro R s hR xs hxs
  refine codeAny_mono (Mine.law01 gl ⟨106, e⟩ ⟨rfl, by decide, by decide, rfl, rfl⟩ zs R s hR xs hxs) ?_
  intro r s' hr
  match r, hr with
  | .ok (.ret v), ⟨F', H', l', r', x, hx, F1, n1, e1, ⟨ps, m1⟩, ⟨qs, m2⟩⟩ =>
    refine ⟨F', H', l', r', x, hx, F1, n1, e1, fun q hq => ?_⟩
    rcases List.mem_cons.mp hq with rfl | hq
    · exact ⟨ps, m1⟩
    · rw [List.mem_singleton] at hq
      subst hq
      exact ⟨qs, m2⟩
  | .error e, hr => exact hr
