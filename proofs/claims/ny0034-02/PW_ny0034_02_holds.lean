import PyProof.Rows.All
import Wide.All
import OpenK.AllK
import Wide.FinOn
import Lean
import PySem.Challenge.RW_ny0034_02
set_option Elab.async false
-- part Re1
section
open PySem PySem.W PyProof.Rows
set_option Elab.async false
set_option maxRecDepth 100000
set_option maxHeartbeats 400000
set_option linter.unusedVariables false
namespace Mine
local macro_rules | `(tactic| walk_at "pad0") => `(tactic| skip)
open PySem.Sre

theorem runFor_done {m : M} (h : m.outcome.isSome = true) : ∀ n, M.runFor n m = m
  | 0 => rfl
  | n + 1 => by simp [M.runFor, h]
theorem runFor_add (a b : Nat) (m : M) : M.runFor (a + b) m = M.runFor b (M.runFor a m) := by
  induction a generalizing m with
  | zero => simp [M.runFor]
  | succ a ih =>
    rw [show a + 1 + b = (a + b) + 1 by omega]
    by_cases h : m.outcome.isSome = true
    · rw [runFor_done h, runFor_done h, runFor_done h]
    · simp only [M.runFor, h]; exact ih _
theorem runFor_step {m : M} (h : m.outcome = none) (n : Nat) : M.runFor (n + 1) m = M.runFor n m.step := by
  simp [M.runFor, h]

/-- m goes to m' in at most k steps -/
def Goes (k : Nat) (m m' : M) : Prop := ∃ n, n ≤ k ∧ M.runFor n m = m'
theorem Goes.refl (m : M) : Goes 0 m m := ⟨0, Nat.le_refl _, rfl⟩
theorem Goes.step {k : Nat} {m m' m'' : M} (ho : m.outcome = none) (h : m.step = m') (g : Goes k m' m'') : Goes (k + 1) m m'' := by
  obtain ⟨n, hn, e⟩ := g
  exact ⟨n + 1, Nat.succ_le_succ hn, by rw [runFor_step ho, h]; exact e⟩
theorem Goes.trans {k l : Nat} {m m' m'' : M} (h : Goes k m m') (g : Goes l m' m'') : Goes (k + l) m m'' := by
  obtain ⟨n, hn, e⟩ := h
  obtain ⟨n', hn', e'⟩ := g
  exact ⟨n + n', Nat.add_le_add hn hn', by rw [runFor_add, e]; exact e'⟩
theorem Goes.mono {k l : Nat} {m m' : M} (h : Goes k m m') (hl : k ≤ l) : Goes l m m' := by
  obtain ⟨n, hn, e⟩ := h
  exact ⟨n, Nat.le_trans hn hl, e⟩

section
variable {m : M}
theorem step_run (ho : m.outcome = none) (ha : m.answer = none) (hp : m.pc < m.code.size) : m.step = m.exec := by
  unfold M.step
  rw [ho, ha]
  simp [hp]
theorem step_lit (ho : m.outcome = none) (ha : m.answer = none) (hp : m.pc < m.code.size) (hw : m.code.getD m.pc 0 = 16)
    (hl : m.pos < m.lim) (hc : m.text.getD m.pos 0 = m.code.getD (m.pc + 1) 0) :
    m.step = { m with seen := m.seen.add 16, pc := m.pc + 2, pos := m.pos + 1 } := by
  rw [step_run ho ha hp]
  unfold M.exec
  have e : m.word 0 = 16 := hw
  rw [e]
  show (if m.pos ≥ m.lim then _ else _) = _
  rw [if_neg (by omega)]
  unfold accepts itemWidth
  simp only [hw, hc]
  simp [ops]
theorem step_lit_no (ho : m.outcome = none) (ha : m.answer = none) (hp : m.pc < m.code.size) (hw : m.code.getD m.pc 0 = 16)
    (hl : m.lim ≤ m.pos ∨ m.text.getD m.pos 0 ≠ m.code.getD (m.pc + 1) 0) :
    m.step = { m with seen := m.seen.add 16, answer := some false } := by
  rw [step_run ho ha hp]
  unfold M.exec
  have e : m.word 0 = 16 := hw
  rw [e]
  show (if m.pos ≥ m.lim then _ else _) = _
  by_cases h : m.pos ≥ m.lim
  · rw [if_pos h]; rfl
  · rw [if_neg h]
    have hc := hl.resolve_left h
    have hb : (m.text.getD m.pos 0 == m.code.getD (m.pc + 1) 0) = false := by simpa using hc
    unfold accepts
    simp only [hw, hb]
    rfl
theorem step_at (ho : m.outcome = none) (ha : m.answer = none) (hp : m.pc < m.code.size) (hw : m.code.getD m.pc 0 = 6) (hk : m.code.getD (m.pc + 1) 0 = 1)
    (hc : m.pos = 0 ∨ m.text.getD (m.pos - 1) 0 = 10) : m.step = { m with seen := (m.seen.add 6).add 44, pc := m.pc + 2 } := by
  rw [step_run ho ha hp]
  unfold M.exec
  have e : m.word 0 = 6 := hw
  have e1 : m.word 1 = 1 := hk
  rw [e]
  have hb : (m.pos == 0 || m.text.getD (m.pos - 1) 0 == 10) = true := by
    rcases hc with h | h
    · rw [h]; rfl
    · rw [h]; simp
  have hi : M.isAt { m with seen := m.seen.add 6 } (M.word { m with seen := m.seen.add 6 } 1) = .ok true := by
    have : M.word { m with seen := m.seen.add 6 } 1 = 1 := hk
    rw [this]
    show Except.ok (m.pos == 0 || m.text.getD (m.pos - 1) 0 == 10) = _
    rw [hb]
  show (match M.isAt { m with seen := m.seen.add 6 } (M.word { m with seen := m.seen.add 6 } 1) with | .error why => _ | .ok yes => _) = _
  rw [hi]
  show ({ m with seen := (m.seen.add 6).add (43 + m.word 1), pc := m.pc + 2 } : M) = _
  rw [e1]
theorem step_at_no (ho : m.outcome = none) (ha : m.answer = none) (hp : m.pc < m.code.size) (hw : m.code.getD m.pc 0 = 6) (hk : m.code.getD (m.pc + 1) 0 = 1)
    (hc : ¬ (m.pos = 0 ∨ m.text.getD (m.pos - 1) 0 = 10)) : m.step = { m with seen := (m.seen.add 6).add 44, answer := some false } := by
  rw [step_run ho ha hp]
  unfold M.exec
  have e : m.word 0 = 6 := hw
  have e1 : m.word 1 = 1 := hk
  rw [e]
  have hb : (m.pos == 0 || m.text.getD (m.pos - 1) 0 == 10) = false := by
    simpa using hc
  have hi : M.isAt { m with seen := m.seen.add 6 } (M.word { m with seen := m.seen.add 6 } 1) = .ok false := by
    have : M.word { m with seen := m.seen.add 6 } 1 = 1 := hk
    rw [this]
    show Except.ok (m.pos == 0 || m.text.getD (m.pos - 1) 0 == 10) = _
    rw [hb]
  show (match M.isAt { m with seen := m.seen.add 6 } (M.word { m with seen := m.seen.add 6 } 1) with | .error why => _ | .ok yes => _) = _
  rw [hi]
  show ({ m with seen := (m.seen.add 6).add (43 + m.word 1), answer := some false } : M) = _
  rw [e1]
theorem step_jump (ho : m.outcome = none) (ha : m.answer = none) (hp : m.pc < m.code.size) (hw : m.code.getD m.pc 0 = 15) :
    m.step = { m with seen := m.seen.add 15, pc := m.pc + 1 + m.code.getD (m.pc + 1) 0 } := by
  rw [step_run ho ha hp]
  unfold M.exec
  have e : m.word 0 = 15 := hw
  rw [e]
  rfl
theorem step_success (ho : m.outcome = none) (ha : m.answer = none) (hp : m.pc < m.code.size) (hw : m.code.getD m.pc 0 = 1)
    (h1 : m.wholeText = false) (h2 : m.mustAdvance = false) : m.step = { m with seen := m.seen.add 1, handed := m.pos, answer := some true } := by
  rw [step_run ho ha hp]
  unfold M.exec
  have e : m.word 0 = 1 := hw
  rw [e]
  show (if (m.outermost && ((m.wholeText && m.pos != m.lim) || (m.mustAdvance && m.pos == m.start))) = true then _ else _) = _
  rw [h1, h2]
  simp [M.say]
def keptOf (m : M) : Sre.Kept := { lastmark := m.lastmark, lastindex := m.lastindex, whole := false, marks := #[] }
theorem step_branch (ho : m.outcome = none) (ha : m.answer = none) (hp : m.pc < m.code.size) (hw : m.code.getD m.pc 0 = 7) (hi : m.inner = none)
    (hz : (m.code.getD (m.pc + 1) 0 == 0) = false) (hg : m.weight < 1000) :
    m.step = { m with seen := m.seen.add 7, frames := { wait := .nextBranch, pc := m.pc + 1, pos := m.pos, outermost := m.outermost, kept := keptOf m } :: m.frames, weight := m.weight + 1, pc := m.pc + 2, handed := m.pos } := by
  rw [step_run ho ha hp]
  unfold M.exec
  have e : m.word 0 = 7 := hw
  rw [e]
  show M.alternative { m with seen := m.seen.add 7 } (m.pc + 1) (M.keep { m with seen := m.seen.add 7 } m.inner.isSome) = _
  rw [hi]
  unfold M.alternative
  show (if (m.code.getD (m.pc + 1) 0 == 0) = true then _ else _) = _
  rw [hz]
  simp only [Bool.false_eq_true, if_false]
  unfold M.attempt
  show (if m.weight + 1 + 0 > 16777216 then _ else _) = _
  rw [if_neg (by omega)]
  rfl
theorem step_assertNot (ho : m.outcome = none) (ha : m.answer = none) (hp : m.pc < m.code.size) (hw : m.code.getD m.pc 0 = 5) (hi : m.inner = none)
    (hz : m.code.getD (m.pc + 2) 0 = 0) (hg : m.weight < 1000) :
    m.step = { m with seen := m.seen.add 5, frames := { wait := .lookNot, pc := m.pc, pos := m.pos, outermost := m.outermost, kept := keptOf m } :: m.frames, weight := m.weight + 1, pc := m.pc + 3, handed := m.pos, outermost := false } := by
  rw [step_run ho ha hp]
  unfold M.exec
  have e : m.word 0 = 5 := hw
  rw [e]
  have e2 : M.word { m with seen := m.seen.add 5 } 2 = 0 := hz
  show (if m.pos < M.word { m with seen := m.seen.add 5 } 2 then _ else _) = _
  rw [if_neg (by rw [e2]; omega)]
  show M.attempt { m with seen := m.seen.add 5 } { M.frame { m with seen := m.seen.add 5 } .lookNot with kept := M.keep { m with seen := m.seen.add 5 } (true && m.inner.isSome) } (m.pc + 3) (m.pos - M.word { m with seen := m.seen.add 5 } 2) false = _
  rw [e2, hi]
  unfold M.attempt
  show (if m.weight + 1 + 0 > 16777216 then _ else _) = _
  rw [if_neg (by omega)]
  rfl
theorem step_back {yes : Bool} {f : Sre.Frame} {rest : List Sre.Frame} (ho : m.outcome = none) (ha : m.answer = some yes) (hf : m.frames = f :: rest) :
    m.step = M.resume { m with answer := none, frames := rest, weight := m.weight - (1 + f.kept.marks.size), pc := f.pc, pos := f.pos, outermost := f.outermost } f yes := by
  unfold M.step
  rw [ho, ha, hf]
  rfl
theorem step_end {yes : Bool} (ho : m.outcome = none) (ha : m.answer = some yes) (hf : m.frames = []) :
    m.step = { m with outcome := some (if yes then .matched else .failed) } := by
  unfold M.step
  rw [ho, ha, hf]
  rfl
end

abbrev code2 : Array Nat := #[14, 9, 4, 1, 2, 16, 10, 16, 13, 0, 7, 7, 16, 13, 16, 10, 15, 18, 5, 16, 10, 15, 13, 11, 16, 13, 5, 5, 0, 16, 10, 1, 15, 2, 0, 1]
abbrev code1 : Array Nat := #[14, 4, 0, 1, 1, 6, 1, 16, 46, 1]

/-- a state of the search: no group, no loop, nothing that must advance -/
def S (code text : Array Nat) (lim st ls pc pos handed : Nat) (out : Bool) (frames : List Sre.Frame) (weight : Nat) (ans : Option Bool) (seen : Sre.Seen) : M :=
  { code, text, lim, start := st, lastStart := ls, pc, pos, handed, outermost := out, marks := #[], frames, weight, answer := ans, seen }
def K0 : Sre.Kept := { lastmark := -1, lastindex := -1, whole := false, marks := #[] }
abbrev fStart (pc pos : Nat) (out : Bool) : Sre.Frame := { wait := .nextStart, pc, pos, outermost := out }
abbrev fBranch (pc pos : Nat) (out : Bool) : Sre.Frame := { wait := .nextBranch, pc, pos, outermost := out, kept := K0 }
abbrev fNot (pc pos : Nat) (out : Bool) : Sre.Frame := { wait := .lookNot, pc, pos, outermost := out, kept := K0 }
section
variable {code text : Array Nat} {lim st ls pc pos handed weight : Nat} {out : Bool} {frames : List Sre.Frame} {seen : Sre.Seen}
theorem S_lit (hp : pc < code.size) (hw : code.getD pc 0 = 16) (hl : pos < lim) (hc : text.getD pos 0 = code.getD (pc + 1) 0) :
    (S code text lim st ls pc pos handed out frames weight none seen).step = S code text lim st ls (pc + 2) (pos + 1) handed out frames weight none (seen.add 16) :=
  step_lit rfl rfl hp hw hl hc
theorem S_lit_no (hp : pc < code.size) (hw : code.getD pc 0 = 16) (hl : lim ≤ pos ∨ text.getD pos 0 ≠ code.getD (pc + 1) 0) :
    (S code text lim st ls pc pos handed out frames weight none seen).step = S code text lim st ls pc pos handed out frames weight (some false) (seen.add 16) :=
  step_lit_no rfl rfl hp hw hl
theorem S_at (hp : pc < code.size) (hw : code.getD pc 0 = 6) (hk : code.getD (pc + 1) 0 = 1) (hc : pos = 0 ∨ text.getD (pos - 1) 0 = 10) :
    (S code text lim st ls pc pos handed out frames weight none seen).step = S code text lim st ls (pc + 2) pos handed out frames weight none ((seen.add 6).add 44) :=
  step_at rfl rfl hp hw hk hc
theorem S_at_no (hp : pc < code.size) (hw : code.getD pc 0 = 6) (hk : code.getD (pc + 1) 0 = 1) (hc : ¬ (pos = 0 ∨ text.getD (pos - 1) 0 = 10)) :
    (S code text lim st ls pc pos handed out frames weight none seen).step = S code text lim st ls pc pos handed out frames weight (some false) ((seen.add 6).add 44) :=
  step_at_no rfl rfl hp hw hk hc
theorem S_jump (hp : pc < code.size) (hw : code.getD pc 0 = 15) :
    (S code text lim st ls pc pos handed out frames weight none seen).step = S code text lim st ls (pc + 1 + code.getD (pc + 1) 0) pos handed out frames weight none (seen.add 15) :=
  step_jump rfl rfl hp hw
theorem S_success (hp : pc < code.size) (hw : code.getD pc 0 = 1) :
    (S code text lim st ls pc pos handed out frames weight none seen).step = S code text lim st ls pc pos pos out frames weight (some true) (seen.add 1) :=
  step_success rfl rfl hp hw rfl rfl
theorem S_branch (hp : pc < code.size) (hw : code.getD pc 0 = 7) (hz : (code.getD (pc + 1) 0 == 0) = false) (hg : weight < 1000) :
    (S code text lim st ls pc pos handed out frames weight none seen).step = S code text lim st ls (pc + 2) pos pos out (fBranch (pc + 1) pos out :: frames) (weight + 1) none (seen.add 7) :=
  step_branch rfl rfl hp hw rfl hz hg
theorem S_assertNot (hp : pc < code.size) (hw : code.getD pc 0 = 5) (hz : code.getD (pc + 2) 0 = 0) (hg : weight < 1000) :
    (S code text lim st ls pc pos handed out frames weight none seen).step = S code text lim st ls (pc + 3) pos pos false (fNot pc pos out :: frames) (weight + 1) none (seen.add 5) :=
  step_assertNot rfl rfl hp hw rfl hz hg
theorem S_end {yes : Bool} : (S code text lim st ls pc pos handed out [] weight (some yes) seen).step = { S code text lim st ls pc pos handed out [] weight (some yes) seen with outcome := some (if yes then .matched else .failed) } :=
  step_end rfl rfl rfl
theorem S_start_yes {q p0 : Nat} {o : Bool} : (S code text lim st ls pc pos handed out (fStart q p0 o :: frames) (weight + 1) (some true) seen).step = S code text lim st ls q p0 handed o frames weight (some true) seen := by
  rw [step_back rfl rfl rfl]
  show S code text lim st ls q p0 handed o frames (weight + 1 - (1 + 0)) (some true) seen = _
  rw [show weight + 1 - (1 + 0) = weight by omega]
theorem S_branch_yes {q p0 : Nat} {o : Bool} : (S code text lim st ls pc pos handed out (fBranch q p0 o :: frames) (weight + 1) (some true) seen).step = S code text lim st ls q p0 handed o frames weight (some true) seen := by
  rw [step_back rfl rfl rfl]
  show S code text lim st ls q p0 handed o frames (weight + 1 - (1 + 0)) (some true) seen = _
  rw [show weight + 1 - (1 + 0) = weight by omega]
theorem S_branch_no {q p0 : Nat} {o : Bool} (hz : (code.getD (q + code.getD q 0) 0 == 0) = false) (hg : weight < 1000) :
    (S code text lim st ls pc pos handed out (fBranch q p0 o :: frames) (weight + 1) (some false) seen).step =
      S code text lim st ls (q + code.getD q 0 + 1) p0 p0 o (fBranch (q + code.getD q 0) p0 o :: frames) (weight + 1) none seen := by
  rw [step_back rfl rfl rfl]
  show M.alternative (S code text lim st ls q p0 handed o frames (weight + 1 - (1 + 0)) none seen) (q + code.getD q 0) K0 = _
  rw [show weight + 1 - (1 + 0) = weight by omega]
  unfold M.alternative
  show (if (code.getD (q + code.getD q 0) 0 == 0) = true then _ else _) = _
  rw [hz]
  simp only [Bool.false_eq_true, if_false]
  unfold M.attempt
  show (if weight + 1 + 0 > 16777216 then _ else _) = _
  rw [if_neg (by omega)]
  rfl
theorem S_not_no {q p0 : Nat} {o : Bool} : (S code text lim st ls pc pos handed out (fNot q p0 o :: frames) (weight + 1) (some false) seen).step = S code text lim st ls (q + 1 + code.getD (q + 1) 0) p0 handed o frames weight none seen := by
  rw [step_back rfl rfl rfl]
  show S code text lim st ls (q + 1 + code.getD (q + 1) 0) p0 handed o frames (weight + 1 - (1 + 0)) none seen = _
  rw [show weight + 1 - (1 + 0) = weight by omega]
end

section
variable {text : Array Nat} {lim s ls h : Nat} {out : Bool} {seen : Sre.Seen} {st : Nat}
/-- ahead of an attempt of the second pattern at s -/
def m2 (text : Array Nat) (lim s ls : Nat) (out : Bool) (h : Nat) (seen : Sre.Seen) : M := S code2 text lim s ls 10 s h out [fStart 10 s out] 1 none seen

theorem m2_lf (hs : s < lim) (hc : text.getD s 0 = 10) :
    ∃ m, Goes 20 (m2 text lim s ls out h seen) m ∧ m.outcome = some .matched ∧ m.start = s ∧ m.handed = s + 1 := by
  refine ⟨?m, Goes.mono (k := 9) ?g (by omega), ?h⟩
  case g =>
    refine Goes.step rfl (S_branch (by decide) rfl rfl (by omega)) ?_
    refine Goes.step rfl (S_lit_no (by decide) rfl (.inr (by show text.getD s 0 ≠ 13; omega))) ?_
    refine Goes.step rfl (S_branch_no rfl (by omega)) ?_
    refine Goes.step rfl (S_lit (by decide) rfl hs hc) ?_
    refine Goes.step rfl (S_jump (by decide) rfl) ?_
    refine Goes.step rfl (S_success (by decide) rfl) ?_
    refine Goes.step rfl S_branch_yes ?_
    refine Goes.step rfl S_start_yes ?_
    refine Goes.step rfl S_end ?_
    exact Goes.refl _
  case h => exact ⟨rfl, rfl, rfl⟩
theorem m2_crlf (hs : s < lim) (hc : text.getD s 0 = 13) (hs1 : s + 1 < lim) (hc1 : text.getD (s + 1) 0 = 10) :
    ∃ m, Goes 20 (m2 text lim s ls out h seen) m ∧ m.outcome = some .matched ∧ m.start = s ∧ m.handed = s + 2 := by
  refine ⟨?m, Goes.mono (k := 8) ?g (by omega), ?h⟩
  case g =>
    refine Goes.step rfl (S_branch (by decide) rfl rfl (by omega)) ?_
    refine Goes.step rfl (S_lit (by decide) rfl hs hc) ?_
    refine Goes.step rfl (S_lit (by decide) rfl hs1 hc1) ?_
    refine Goes.step rfl (S_jump (by decide) rfl) ?_
    refine Goes.step rfl (S_success (by decide) rfl) ?_
    refine Goes.step rfl S_branch_yes ?_
    refine Goes.step rfl S_start_yes ?_
    refine Goes.step rfl S_end ?_
    exact Goes.refl _
  case h => exact ⟨rfl, rfl, rfl⟩
theorem m2_cr (hs : s < lim) (hc : text.getD s 0 = 13) (hn : lim ≤ s + 1 ∨ text.getD (s + 1) 0 ≠ 10) :
    ∃ m, Goes 20 (m2 text lim s ls out h seen) m ∧ m.outcome = some .matched ∧ m.start = s ∧ m.handed = s + 1 := by
  refine ⟨?m, Goes.mono (k := 15) ?g (by omega), ?h⟩
  case g =>
    refine Goes.step rfl (S_branch (by decide) rfl rfl (by omega)) ?_
    refine Goes.step rfl (S_lit (by decide) rfl hs hc) ?_
    refine Goes.step rfl (S_lit_no (by decide) rfl hn) ?_
    refine Goes.step rfl (S_branch_no rfl (by omega)) ?_
    refine Goes.step rfl (S_lit_no (by decide) rfl (.inr (by show text.getD s 0 ≠ 10; omega))) ?_
    refine Goes.step rfl (S_branch_no rfl (by omega)) ?_
    refine Goes.step rfl (S_lit (by decide) rfl hs hc) ?_
    refine Goes.step rfl (S_assertNot (by decide) rfl rfl (by omega)) ?_
    refine Goes.step rfl (S_lit_no (by decide) rfl hn) ?_
    refine Goes.step rfl S_not_no ?_
    refine Goes.step rfl (S_jump (by decide) rfl) ?_
    refine Goes.step rfl (S_success (by decide) rfl) ?_
    refine Goes.step rfl S_branch_yes ?_
    refine Goes.step rfl S_start_yes ?_
    refine Goes.step rfl S_end ?_
    exact Goes.refl _
  case h => exact ⟨rfl, rfl, rfl⟩

abbrev is2 (c : Nat) : Prop := c = 10 ∨ c = 13

theorem inSet2_yes {c : Nat} {seen : Sre.Seen} (h : is2 c) : ∃ seen', inSet code2 c 36 5 true seen = .ok (true, seen') := by
  rcases h with rfl | rfl
  · exact ⟨_, rfl⟩
  · exact ⟨_, rfl⟩
theorem inSet2_no {c : Nat} {seen : Sre.Seen} (h : ¬ is2 c) : ∃ seen', inSet code2 c 36 5 true seen = .ok (false, seen') := by
  unfold is2 at h
  have h1 : (c == 10) = false := by simp; omega
  have h2 : (c == 13) = false := by simp; omega
  refine ⟨((seen.add 16).add 16).add 0, ?_⟩
  show (if (c == 10) = true then _ else (if (c == 13) = true then _ else _)) = _
  rw [h1, h2]
  rfl
theorem admitted_some (m : M) (hm : m.code = code2) (k : Nat) : ∀ (fuel p : Nat) (seen : Sre.Seen), p + k < m.lim → k < fuel → (∀ i, p ≤ i → i < p + k → ¬ is2 (m.text.getD i 0)) → is2 (m.text.getD (p + k) 0) →
    ∃ seen', m.admitted fuel p seen = .ok (some (p + k), seen') := by
  induction k with
  | zero =>
    intro fuel p seen hl hf _ hy
    obtain ⟨fuel, rfl⟩ : ∃ f, fuel = f + 1 := ⟨fuel - 1, by omega⟩
    obtain ⟨seen', e⟩ := inSet2_yes (seen := seen) hy
    refine ⟨seen', ?_⟩
    unfold M.admitted
    rw [if_neg (by omega), hm]
    have e' : inSet code2 (m.text.getD p 0) code2.size 5 true seen = .ok (true, seen') := e
    rw [e']
    rfl
  | succ k ih =>
    intro fuel p seen hl hf hn hy
    obtain ⟨fuel, rfl⟩ : ∃ f, fuel = f + 1 := ⟨fuel - 1, by omega⟩
    obtain ⟨seen', e⟩ := inSet2_no (seen := seen) (hn p (Nat.le_refl _) (by omega))
    have e' : inSet code2 (m.text.getD p 0) code2.size 5 true seen = .ok (false, seen') := e
    obtain ⟨s2, r⟩ := ih fuel (p + 1) seen' (by omega) (by omega) (fun i h1 h2 => hn i (by omega) (by omega)) (by rw [show p + 1 + k = p + (k + 1) by omega]; exact hy)
    refine ⟨s2, ?_⟩
    unfold M.admitted
    rw [if_neg (by omega), hm, e']
    show m.admitted fuel (p + 1) seen' = _
    rw [r]
    rw [show p + 1 + k = p + (k + 1) by omega]
theorem admitted_none (m : M) (hm : m.code = code2) : ∀ (fuel p : Nat) (seen : Sre.Seen), (∀ i, p ≤ i → i < m.lim → ¬ is2 (m.text.getD i 0)) →
    ∃ seen', m.admitted fuel p seen = .ok (none, seen') := by
  intro fuel
  induction fuel with
  | zero => intro p seen _; exact ⟨_, rfl⟩
  | succ fuel ih =>
    intro p seen hn
    by_cases hp : p ≥ m.lim
    · refine ⟨seen, ?_⟩
      unfold M.admitted
      rw [if_pos hp]
    · obtain ⟨seen', e⟩ := inSet2_no (seen := seen) (hn p (Nat.le_refl _) (by omega))
      have e' : inSet code2 (m.text.getD p 0) code2.size 5 true seen = .ok (false, seen') := e
      obtain ⟨s2, r⟩ := ih (p + 1) seen' (fun i h1 h2 => hn i (by omega) h2)
      refine ⟨s2, ?_⟩
      unfold M.admitted
      rw [if_neg hp, hm, e']
      exact r
/-- how long the second pattern's match at s is -/
def len2 (text : Array Nat) (lim s : Nat) : Nat := if text.getD s 0 = 13 ∧ s + 1 < lim ∧ text.getD (s + 1) 0 = 10 then 2 else 1

abbrev seen0 : Sre.Seen := ({} : Sre.Seen).add 14
abbrev b2 (text : Array Nat) (lim p : Nat) : M := S code2 text lim p lim 10 p p true [] 0 none seen0
theorem fs2 {p lim : Nat} : forSearch code2 text 0 p lim false =
    if (decide (p > lim) || decide (lim - p < 1)) = true then S code2 text lim p 0 10 p p true [] 0 (some false) seen0 else M.attemptFrom (b2 text lim p) p true := rfl
theorem af2 {p lim : Nat} : M.attemptFrom (b2 text lim p) p true = match M.admitted (b2 text lim p) (lim + 1 - p) p seen0 with
    | .ok (some s, seen) => ({ (b2 text lim p) with mustAdvance := false, seen := seen } : M).attemptAt s true
    | .ok (none, seen) => ({ (b2 text lim p) with seen := seen } : M).say false
    | .error why => (b2 text lim p).stick why := by
  unfold M.attemptFrom
  have e : (b2 text lim p).hasFirstSet = true := rfl
  rw [e]
  rfl
theorem search2_some {p s lim : Nat} (hp : p ≤ s) (hs : s < lim) (hn : ∀ i, p ≤ i → i < s → ¬ is2 (text.getD i 0)) (hy : is2 (text.getD s 0)) :
    ∃ m, Goes 20 (forSearch code2 text 0 p lim false) m ∧ m.outcome = some .matched ∧ m.start = s ∧ m.handed = s + len2 text lim s := by
  obtain ⟨k, rfl⟩ : ∃ k, s = p + k := ⟨s - p, by omega⟩
  have h0 : ∃ seen', forSearch code2 text 0 p lim false = m2 text lim (p + k) lim true (p + k) seen' := by
    rw [fs2, if_neg (by simp; omega), af2]
    obtain ⟨s1, e⟩ := admitted_some (b2 text lim p) rfl k (lim + 1 - p) p seen0 hs (by omega) hn hy
    rw [e]
    exact ⟨s1, rfl⟩
  obtain ⟨seen', e⟩ := h0
  rw [e]
  by_cases h13 : text.getD (p + k) 0 = 13
  · by_cases h2 : p + k + 1 < lim ∧ text.getD (p + k + 1) 0 = 10
    · have := m2_crlf (text := text) (ls := lim) (out := true) (h := p + k) (seen := seen') hs h13 h2.1 h2.2
      rw [show len2 text lim (p + k) = 2 from if_pos ⟨h13, h2⟩]
      exact this
    · have := m2_cr (text := text) (ls := lim) (out := true) (h := p + k) (seen := seen') hs h13 (by omega)
      rw [show len2 text lim (p + k) = 1 from if_neg (fun q => h2 q.2)]
      exact this
  · have h10 : text.getD (p + k) 0 = 10 := hy.resolve_right h13
    have := m2_lf (text := text) (ls := lim) (out := true) (h := p + k) (seen := seen') hs h10
    rw [show len2 text lim (p + k) = 1 from if_neg (fun q => h13 q.1)]
    exact this
theorem search2_none {p lim : Nat} (hn : ∀ i, p ≤ i → i < lim → ¬ is2 (text.getD i 0)) :
    ∃ m, Goes 20 (forSearch code2 text 0 p lim false) m ∧ m.outcome = some .failed := by
  have h0 : ∃ m0 : M, forSearch code2 text 0 p lim false = m0 ∧ m0.outcome = none ∧ m0.answer = some false ∧ m0.frames = [] := by
    rw [fs2]
    by_cases hc : (decide (p > lim) || decide (lim - p < 1)) = true
    · rw [if_pos hc]; exact ⟨_, rfl, rfl, rfl, rfl⟩
    · rw [if_neg hc, af2]
      obtain ⟨s1, e⟩ := admitted_none (b2 text lim p) rfl (lim + 1 - p) p seen0 hn
      rw [e]
      exact ⟨_, rfl, rfl, rfl, rfl⟩
  obtain ⟨m0, e, h1, h2, h3⟩ := h0
  rw [e]
  exact ⟨_, Goes.mono (Goes.step h1 (step_end h1 h2 h3) (Goes.refl _)) (by omega), rfl⟩

/-! the first pattern: a dot at a row's head -/
abbrev is1 (text : Array Nat) (i : Nat) : Prop := (i = 0 ∨ text.getD (i - 1) 0 = 10) ∧ text.getD i 0 = 46
def m1 (text : Array Nat) (lim s : Nat) (out : Bool) (h : Nat) (seen : Sre.Seen) : M := S code1 text lim s lim 5 s h out [fStart 5 s out] 1 none seen
theorem m1_yes (hs : s < lim) (hc : is1 text s) :
    ∃ m, Goes 5 (m1 text lim s out h seen) m ∧ m.outcome = some .matched ∧ m.start = s ∧ m.handed = s + 1 := by
  refine ⟨?m, Goes.mono (k := 5) ?g (by omega), ?h⟩
  case g =>
    refine Goes.step rfl (S_at (by decide) rfl rfl hc.1) ?_
    refine Goes.step rfl (S_lit (by decide) rfl hs hc.2) ?_
    refine Goes.step rfl (S_success (by decide) rfl) ?_
    refine Goes.step rfl S_start_yes ?_
    refine Goes.step rfl S_end ?_
    exact Goes.refl _
  case h => exact ⟨rfl, rfl, rfl⟩
theorem m1_fails (hc : lim ≤ s ∨ ¬ is1 text s) : ∃ pc pos seen', Goes 2 (m1 text lim s out h seen) (S code1 text lim s lim pc pos h out [fStart 5 s out] 1 (some false) seen') := by
  by_cases ha : s = 0 ∨ text.getD (s - 1) 0 = 10
  · exact ⟨_, _, _, Goes.step rfl (S_at (by decide) rfl rfl ha) (Goes.step rfl (S_lit_no (by decide) rfl (hc.imp id fun q e => q ⟨ha, e⟩)) (Goes.refl _))⟩
  · exact ⟨_, _, _, Goes.mono (Goes.step rfl (S_at_no (by decide) rfl rfl ha) (Goes.refl _)) (by omega)⟩
theorem m1_next {pc pos : Nat} (hs : s < lim) : (S code1 text lim s lim pc pos h out [fStart 5 s out] 1 (some false) seen).step = m1 text lim (s + 1) false (s + 1) seen := by
  rw [step_back rfl rfl rfl]
  show (if s < lim then _ else _) = _
  rw [if_pos hs]
  rfl
theorem m1_last {pc pos : Nat} (hs : lim ≤ s) : (S code1 text lim s lim pc pos h out [fStart 5 s out] 1 (some false) seen).step = S code1 text lim s lim 5 s h out [] 0 (some false) seen := by
  rw [step_back rfl rfl rfl]
  show (if s < lim then _ else _) = _
  rw [if_neg (by omega)]
  rfl
theorem m1_some (k : Nat) : ∀ {p h : Nat} {out : Bool} {seen : Sre.Seen}, p + k < lim → (∀ i, p ≤ i → i < p + k → ¬ is1 text i) → is1 text (p + k) →
    ∃ m, Goes (3 * k + 5) (m1 text lim p out h seen) m ∧ m.outcome = some .matched ∧ m.start = p + k ∧ m.handed = p + k + 1 := by
  induction k with
  | zero => intro p h out seen hl _ hy; exact m1_yes hl hy
  | succ k ih =>
    intro p h out seen hl hn hy
    obtain ⟨pc, pos, s1, g1⟩ := m1_fails (h := h) (out := out) (seen := seen) (lim := lim) (.inr (hn p (Nat.le_refl _) (by omega)))
    obtain ⟨m, g2, r⟩ := ih (p := p + 1) (h := p + 1) (out := false) (seen := s1) (by omega) (fun i h1 h2 => hn i (by omega) (by omega)) (by rw [show p + 1 + k = p + (k + 1) by omega]; exact hy)
    rw [show p + (k + 1) = p + 1 + k by omega]
    exact ⟨m, Goes.mono (Goes.trans g1 (Goes.step rfl (m1_next (by omega)) g2)) (by omega), r⟩
theorem m1_none (k : Nat) : ∀ {p h : Nat} {out : Bool} {seen : Sre.Seen}, p + k = lim → (∀ i, p ≤ i → i < lim → ¬ is1 text i) →
    ∃ m, Goes (3 * k + 5) (m1 text lim p out h seen) m ∧ m.outcome = some .failed := by
  induction k with
  | zero =>
    intro p h out seen hl _
    obtain ⟨pc, pos, s1, g1⟩ := m1_fails (text := text) (s := p) (h := h) (out := out) (seen := seen) (lim := lim) (.inl (by omega))
    exact ⟨_, Goes.mono (Goes.trans g1 (Goes.step rfl (m1_last (by omega)) (Goes.step rfl S_end (Goes.refl _)))) (by omega), rfl⟩
  | succ k ih =>
    intro p h out seen hl hn
    obtain ⟨pc, pos, s1, g1⟩ := m1_fails (h := h) (out := out) (seen := seen) (lim := lim) (.inr (hn p (Nat.le_refl _) (by omega)))
    obtain ⟨m, g2, r⟩ := ih (p := p + 1) (h := p + 1) (out := false) (seen := s1) (by omega) (fun i h1 h2 => hn i (by omega) h2)
    exact ⟨m, Goes.mono (Goes.trans g1 (Goes.step rfl (m1_next (by omega)) g2)) (by omega), r⟩
theorem fs1 {p lim : Nat} : forSearch code1 text 0 p lim false =
    if (decide (p > lim) || decide (lim - p < 1)) = true then S code1 text lim p 0 5 p p true [] 0 (some false) seen0 else m1 text lim p true p seen0 := rfl
theorem search1_some {p s lim : Nat} (hp : p ≤ s) (hs : s < lim) (hn : ∀ i, p ≤ i → i < s → ¬ is1 text i) (hy : is1 text s) :
    ∃ m, Goes (3 * lim + 5) (forSearch code1 text 0 p lim false) m ∧ m.outcome = some .matched ∧ m.start = s ∧ m.handed = s + 1 := by
  obtain ⟨k, rfl⟩ : ∃ k, s = p + k := ⟨s - p, by omega⟩
  rw [fs1, if_neg (by simp; omega)]
  obtain ⟨m, g, r⟩ := m1_some k (h := p) (out := true) (seen := seen0) hs hn hy
  exact ⟨m, g.mono (by omega), r⟩
theorem search1_none {p lim : Nat} (hn : ∀ i, p ≤ i → i < lim → ¬ is1 text i) :
    ∃ m, Goes (3 * lim + 5) (forSearch code1 text 0 p lim false) m ∧ m.outcome = some .failed := by
  rw [fs1]
  by_cases hc : (decide (p > lim) || decide (lim - p < 1)) = true
  · rw [if_pos hc]
    exact ⟨_, Goes.mono (Goes.step rfl S_end (Goes.refl _)) (by omega), rfl⟩
  · rw [if_neg hc]
    have hc' : p ≤ lim := by simp at hc; omega
    obtain ⟨m, g, r⟩ := m1_none (lim - p) (text := text) (p := p) (h := p) (out := true) (seen := seen0) (by omega) hn
    exact ⟨m, g.mono (by omega), r⟩
end
end Mine
end
-- part Re2
section
open PySem PySem.W PyProof.Rows
set_option Elab.async false
set_option maxRecDepth 100000
set_option maxHeartbeats 400000
set_option linter.unusedVariables false
namespace Mine
local macro_rules | `(tactic| walk_at "pad0") => `(tactic| skip)
local macro_rules | `(tactic| walk_at "pad1") => `(tactic| skip)
open PySem.Builtin PySem.Builtin.Re

section
variable {M : Model} {A : Around} {E : Value → Shared → Prop} {s : Shared}
theorem drive_any {Q : Sre.M → Shared → Prop} : ∀ (turns n : Nat) (m m' : Sre.M), n ≤ 4 * turns → 0 < turns → Sre.M.runFor n m = m' → m'.outcome.isSome = true → Q m' s → wpAny M A (reDrive turns m) Q E s := by
  intro turns
  induction turns with
  | zero => intro n m m' _ h; exact absurd h (Nat.lt_irrefl _)
  | succ turns ih =>
    intro n m m' hn _ he ho hq
    have hst : ∀ k, n ≤ k → Sre.M.runFor k m = m' := fun k hk => by
      obtain ⟨j, rfl⟩ : ∃ j, k = n + j := ⟨k - n, by omega⟩
      rw [runFor_add, he, runFor_done ho]
    show wpAny M A (if (Sre.M.runFor 4 m).outcome.isSome = true then pure (Sre.M.runFor 4 m) else do rule "sre.turn"; reDrive turns (Sre.M.runFor 4 m)) Q E s
    by_cases h4 : n ≤ 4
    · rw [hst 4 h4, if_pos ho]
      exact wpAny_pure hq
    · by_cases hb : (Sre.M.runFor 4 m).outcome.isSome = true
      · rw [if_pos hb]
        have : Sre.M.runFor 4 m = m' := by
          rw [← he, show n = 4 + (n - 4) by omega, runFor_add, runFor_done hb]
        rw [this]; exact wpAny_pure hq
      · rw [if_neg hb]
        refine wpAny_bind (wpAny_rule ?_)
        exact ih (n - 4) _ m' (by omega) (by omega) (by rw [← he, ← runFor_add]; congr 1; omega) ho hq
theorem rules_any (has : Nat → Bool) {Q : PUnit → Shared → Prop} (h : Q ⟨⟩ s) : ∀ l : List Nat,
    wpAny M A (forIn l PUnit.unit fun i _ => if has i = true then (do rule (Sre.names.getD i ""); pure (ForInStep.yield PUnit.unit)) else pure (ForInStep.yield PUnit.unit)) Q E s
  | [] => by rw [List.forIn_nil]; exact wpAny_pure h
  | i :: l => by
    rw [List.forIn_cons]
    refine wpAny_bind ?_
    by_cases hb : has i = true
    · rw [if_pos hb]
      exact wpAny_bind (wpAny_rule (wpAny_pure (rules_any has h l)))
    · rw [if_neg hb]
      exact wpAny_pure (rules_any has h l)
theorem runToEnd_some {k : Nat} {m m' : Sre.M} {Q : Option Sre.M → Shared → Prop} (hk : k ≤ 2 ^ 60) (g : Goes k m m') (ho : m'.outcome = some .matched) (hq : Q (some m') s) : wpAny M A (reRunToEnd m) Q E s := by
  obtain ⟨n, hn, e⟩ := g
  unfold reRunToEnd
  refine wpAny_bind (drive_any (2 ^ 64) n m m' (by omega) (by omega) e (by rw [ho]; rfl) ?_)
  refine wpAny_bind (rules_any _ ?_ _)
  rw [ho]
  exact wpAny_pure hq
theorem runToEnd_none {k : Nat} {m m' : Sre.M} {Q : Option Sre.M → Shared → Prop} (hk : k ≤ 2 ^ 60) (g : Goes k m m') (ho : m'.outcome = some .failed) (hq : Q none s) : wpAny M A (reRunToEnd m) Q E s := by
  obtain ⟨n, hn, e⟩ := g
  unfold reRunToEnd
  refine wpAny_bind (drive_any (2 ^ 64) n m m' (by omega) (by omega) e (by rw [ho]; rfl) ?_)
  refine wpAny_bind (rules_any _ ?_ _)
  rw [ho]
  exact wpAny_pure hq
end

/-- what a substitution by a literal gives from p on -/
inductive Sub (code text : Array Nat) (repl : List Nat) : Nat → List Nat → Prop
  | stop {p : Nat} : p ≤ text.size → (∃ m, Goes (3 * text.size + 20) (Sre.forSearch code text 0 p text.size false) m ∧ m.outcome = some .failed) → Sub code text repl p (text.toList.drop p)
  | next {p a b : Nat} {out : List Nat} : p ≤ a → a < b → b ≤ text.size → (∃ m, Goes (3 * text.size + 20) (Sre.forSearch code text 0 p text.size false) m ∧ m.outcome = some .matched ∧ m.start = a ∧ m.handed = b) →
      Sub code text repl b out → Sub code text repl p ((text.toList.drop p).take (a - p) ++ repl ++ out)

theorem entry_sub : entryFor table "re.Pattern.sub" = some Builtin.«re.Pattern.sub» := entryFor_of_tree (by kernel_rfl)
theorem entry_loop : entryFor table "re.Pattern.sub.loop" = some Builtin.«re.Pattern.sub.loop» := entryFor_of_tree (by kernel_rfl)
theorem slot_sub : Slot "re.Pattern" "sub" "re.Pattern.sub" :=
  .of (owner := "re.Pattern") (n := "sub") (by rw [typeLookup_type, builtinLookup_eq_fast]; kernel_rfl) (by decide +kernel) (by decide +kernel) (by decide +kernel)
    (by first | exact .inl (by decide +kernel) | exact .inr (by decide +kernel)) (by rw [isSubtype_type]; kernel_rfl)
theorem type_sub : typeOf (.builtin "re.Pattern.sub") = pure (.type "method_descriptor") := by show builtinType _ = _; rw [builtinType_eq_fast]; kernel_rfl
theorem args_sub (a b c : Value) : argsOk "re.Pattern.sub" ⟨[a, b, c], []⟩ := by unfold argsOk; kernel_rfl
theorem plain_loop : plainId "re.Pattern.sub.loop" = true := by decide +kernel
theorem pattern_attrs : PlainAttrs "re.Pattern" :=
  ⟨⟨"object.__getattribute__", by rw [typeLookup_type, builtinLookup_eq_fast]; kernel_rfl, by decide +kernel⟩, by rw [typeLookup_type, builtinLookup_eq_fast]; kernel_rfl⟩
theorem str_no_call : typeLookup (.type "str") "__call__" = pure none := by rw [typeLookup_type, builtinLookup_eq_fast]; kernel_rfl

structure PatAt (h : Heap) (P : Addr) (code : Array Nat) : Prop where
  it : ∃ oP fs C oC items ep, h.get? P = some oP ∧ oP.cls = .type "re.Pattern" ∧ oP.dict = none ∧ oP.data = .fields fs ∧ reRawNat (fs.getD 6 .none) = 0 ∧ fs.getD 5 .none = .ref C ∧ reRawNat (fs.getD 2 .none) = 0 ∧
    h.get? C = some oC ∧ oC.data = .seq items ep ∧ (items.map reRawOf).map (·.toNat) = code
theorem PatAt.keeps {h h' : Heap} {P : Addr} {code : Array Nat} (X : PatAt h P code) (k : ∀ b o, h.get? b = some o → h'.get? b = some o) : PatAt h' P code := by
  obtain ⟨oP, fs, C, oC, items, ep, hP, a, b, hf, h6, h5, h2, hC, r⟩ := X.it
  exact ⟨oP, fs, C, oC, items, ep, k _ _ hP, a, b, hf, h6, h5, h2, k _ _ hC, r⟩
section
variable {M : Model} {A : Around} {E : Value → Shared → Prop} {s : Shared}
theorem whole_any {P : Addr} {code : Array Nat} {x : Str} {t : Tok} {Q : ReTarget → Shared → Prop} (X : PatAt s.heap P code)
    (h : Q { pattern := .ref P, string := .str x t, code, text := x.cps, kind := 0, groups := 0, pos := 0, lim := x.cps.size } s) :
    wpAny M A (reWholeTarget (.ref P) (.str x t)) Q E s := by
  obtain ⟨oP, fs, C, oC, items, ep, hP, _, _, hf, h6, h5, h2, hC, hd, hc⟩ := X.it
  unfold reWholeTarget
  refine wpAny_bind ?_
  unfold fieldsOf
  refine wpAny_bind (wpAny_load hP ?_)
  rw [hf]
  refine wpAny_pure ?_
  refine wpAny_bind (wpAny_pure ?_)
  show wpAny M A (if (reRawNat (fs.getD 6 .none) == 0 && (0 : Nat) == 1) = true then _ else _) Q E s
  rw [h6]
  show wpAny M A (reNoCollectionInside (.str x t) 0 >>= _) Q E s
  refine wpAny_bind (wpAny_pure ?_)
  refine wpAny_bind ?_
  rw [h5]
  unfold reRawItems
  refine wpAny_bind ?_
  refine wpAny_seqItems hC hd ?_
  refine wpAny_pure ?_
  show wpAny M A (pure _) Q E s
  refine wpAny_pure ?_
  rw [h2]
  show Q { pattern := .ref P, string := .str x t, code := (items.map reRawOf).map (·.toNat), text := x.cps, kind := 0, groups := 0, pos := 0, lim := x.cps.size } s
  rw [hc]
  exact h
end

/-- the signs of all pieces, one behind the other -/
def cat (acc : List (Str × Tok)) : List Nat := acc.flatMap fun p => p.1.cps.toList
theorem cat_append (a b : List (Str × Tok)) : cat (a ++ b) = cat a ++ cat b := by simp [cat]
theorem join_empty : ∀ (l : List (Str × Tok)) , Str.join ⟨#[]⟩ (l.map (·.1)) = ⟨(cat l).toArray⟩
  | [] => rfl
  | [x] => by
    show x.1 = _
    cases x with | mk x t => cases x; simp [cat]
  | x :: y :: r => by
    have ih := join_empty (y :: r)
    show x.1 ++ ⟨#[]⟩ ++ Str.join ⟨#[]⟩ ((y :: r).map (·.1)) = _
    rw [ih]
    show Str.append (Str.append x.1 ⟨#[]⟩) _ = _
    unfold Str.append
    simp only [Str.mk.injEq]
    apply Array.ext'
    simp [cat]
theorem cat_length (l : List (Str × Tok)) : (cat l).length = ((l.map (·.1)).map (·.length)).sum := by
  induction l with
  | nil => rfl
  | cons x r ih =>
    show ((x.1.cps.toList ++ cat r)).length = _
    rw [List.length_append, ih]
    simp [Str.length]
theorem quiet_loop (args : Args) : (Code.builtin "re.Pattern.sub.loop" args).quiet = true := plainId_quiet plain_loop args
theorem extract_list (text : Array Nat) (a b : Nat) : (text.extract a b).toList = (text.toList.drop a).take (b - a) := by simp

section
variable {prog : Program} {w : World} {A : Around} {R : Result → Shared → Prop} {g : Heap} {P l : Addr} {code : Array Nat} {x r : Str} {t tr : Tok}
abbrev subArgs (P : Addr) (x : Str) (t : Tok) (r : Str) (tr : Tok) (n : Int) (p : Nat) (l : Addr) : Args :=
  ⟨[.ref P, .str x t, .str r tr, rawInt 0, rawInt 0, rawInt n, rawInt p, rawInt p, .bool false, .ref l, .bool false], []⟩
abbrev lst (acc : List (Str × Tok)) (ep : Nat) : Obj := { cls := .type "list", data := .seq (strValues acc).toArray ep }

/-- a piece onto the list -/
theorem push_any {M : Model} {A : Around} {E : Value → Shared → Prop} {s : Shared} {acc : List (Str × Tok)} {ep : Nat} {y : Str} {ty : Tok} {Q : Unit → Shared → Prop} (hl : s.heap.get? l = some (lst acc ep)) (hz : acc.length ≤ 4194304)
    (h : ∀ h' ep', h'.get? l = some (lst (acc ++ [(y, ty)]) ep') → (∀ b o, b ≠ l → s.heap.get? b = some o → h'.get? b = some o) → Q () { s with heap := h' }) :
    wpAny M A (updateSeq l fun xs => xs.push (.str y ty)) Q E s := by
  have e24 : sizeLine = 16777216 := by decide
  have hs : (strValues acc).toArray.size = acc.length := by simp [strValues]
  refine wpAny_updateSeq hl rfl (h _ (if (strValues acc).toArray.size + 1 == (strValues acc).toArray.size then ep else ep + 1) ?_ ?_) (by rw [hs]; omega) (by rw [Array.size_push, hs]; omega)
  · refine (Heap.get?_update_self _ hl rfl).trans ?_
    congr 1
    show Obj.mk _ _ (Data.seq ((strValues acc).toArray.push (.str y ty)) (if ((strValues acc).toArray.push (.str y ty)).size == (strValues acc).toArray.size then ep else ep + 1)) _ = _
    have e1 : (strValues acc).toArray.push (.str y ty) = (strValues (acc ++ [(y, ty)])).toArray := by simp [strValues]
    rw [Array.size_push, e1]
  · intro b o hb ho
    exact (Heap.get?_update_other _ _ (fun q : l = b => hb q.symm)).trans ho

theorem slice_any {M : Model} {A : Around} {E : Value → Shared → Prop} {s : Shared} {text : Array Nat} {a b : Nat} {Q : Value → Shared → Prop} (hz : text.size ≤ 4194304) (h : Q (.str ⟨text.extract a b⟩ s.toks) { s with toks := s.toks + 1 }) : wpAny M A (reSlice text 0 a b) Q E s := by
  have e24 : sizeLine = 16777216 := by decide
  show wpAny M A (mkStr ⟨text.extract a b⟩) Q E s
  refine wpAny_mkStr h ?_
  show (text.extract a b).size ≤ _
  simp
  omega

theorem sub_loop (X : PatAt g P code) (hgl : g.get? l = none) (hx : x.cps.size ≤ 100000) {p : Nat} {out : List Nat} (S : Sub code x.cps r.cps.toList p out) :
    ∀ (s : Shared) (n : Int) (acc : List (Str × Tok)) (ep : Nat), (∀ b o, g.get? b = some o → s.heap.get? b = some o) → s.heap.get? l = some (lst acc ep) →
    acc.length + 2 * (x.cps.size - p) ≤ 300000 → (cat acc).length + out.length ≤ 300000 →
    (∀ h' u tk, (∀ b o, b ≠ l → s.heap.get? b = some o → h'.get? b = some o) → R (.ok (.ret (.str ⟨(cat acc ++ out).toArray⟩ u))) { s with heap := h', toks := tk }) →
    codeAny (model prog w) A (.builtin "re.Pattern.sub.loop" (subArgs P x t r tr n p l)) R s := by
  induction S with
  | @stop p hp hm =>
    intro s n acc ep hk hl hz1 hz2 hR
    obtain ⟨m, g1, ho⟩ := hm
    refine codeAny_builtin entry_loop ?_
    show wpAny _ _ («re.Pattern.sub.loop» _) _ _ s
    unfold «re.Pattern.sub.loop»
    dsimp only [rawInt]
    refine wpAny_bind (whole_any (X.keeps hk) ?_)
    rw [if_pos (by rfl)]
    refine wpAny_bind (wpAny_pure ?_)
    refine wpAny_bind ?_
    rw [if_neg (by simp)]
    unfold reNextFound
    have e0 : ((p : Int)).toNat = p := by simp
    rw [e0]
    refine runToEnd_none (by omega) g1 ho ?_
    dsimp only
    -- the rest of the text
    have rest : ∀ (s₁ : Shared) (acc₁ : List (Str × Tok)) (ep₁ : Nat), s₁.heap.get? l = some (lst acc₁ ep₁) → cat acc₁ = cat acc ++ List.drop p x.cps.toList → acc₁.length ≤ 300001 →
        (∀ u tk, R (.ok (.ret (.str ⟨(cat acc ++ List.drop p x.cps.toList).toArray⟩ u))) { s₁ with toks := tk }) →
        wpAny (model prog w) (A.under (.builtin "re.Pattern.sub.loop" (subArgs P x t r tr n p l))) (do
          let joiner ← reSlice x.cps 0 0 0
          let __do_lift ← seqItems? (.ref l)
          if (__do_lift.getD #[]).isEmpty = true then do
              let text ← pure joiner
              if false = true then do
                  let __do_lift ← holding [text] do
                      let __do_lift ← mkInt n
                      newTuple [text, __do_lift]
                  ret __do_lift
                else ret text
            else do
              let text ← call (Value.builtin (if ((0 : Nat) == 0) = true then "str.join" else "bytes.join")) [joiner, .ref l]
              if false = true then do
                  let __do_lift ← holding [text] do
                      let __do_lift ← mkInt n
                      newTuple [text, __do_lift]
                  ret __do_lift
                else ret text)
          (fun fin s' => match fin with | .done f => R (.ok f) s' | .again c' => c'.quiet = true ∧ codeAny (model prog w) A c' R s') (fun e s' => R (.error e) s') s₁ := by
      intro s₁ acc₁ ep₁ hl₁ hc₁ hz₁ hR₁
      refine wpAny_bind (slice_any (by omega) ?_)
      refine wpAny_bind (wpAny_seqItems hl₁ rfl ?_)
      by_cases he : ((some (strValues acc₁).toArray).getD #[]).isEmpty = true
      · rw [if_pos he]
        refine wpAny_bind (wpAny_pure ?_)
        rw [if_neg (by simp)]
        have hn : acc₁ = [] := by
          have h2 : (strValues acc₁).toArray = #[] := by simpa using he
          simpa [strValues] using h2
        rw [hn] at hc₁
        refine wpAny_pure ?_
        have hh := hR₁ s₁.toks (s₁.toks + 1)
        rw [← hc₁] at hh
        have e1 : (x.cps.extract 0 0) = #[] := by simp
        rw [e1]
        exact hh
      · rw [if_neg he]
        refine wpAny_bind ?_
        rw [if_pos (by rfl)]
        have e1 : (x.cps.extract 0 0) = #[] := by simp
        rw [e1]
        refine SC.join (l := acc₁) ⟨_, hl₁, rfl, _, rfl⟩ rfl ?_ ?_
        · have hl2 := cat_length acc₁
          refine joinOk_of_weight ?_ (by show (0 : Nat) ≤ 16; omega)
          rw [← hl2, hc₁, List.length_map, List.length_append]
          omega
        · intro t' k
          rw [if_neg (by simp)]
          refine wpAny_pure ?_
          have hj : Txt.join ⟨#[]⟩ (acc₁.map (·.1)) = ⟨(cat acc ++ List.drop p x.cps.toList).toArray⟩ := by
            show PySem.Builtin.Str.glued _ _ = _
            rw [StrLaws.glued_eq_join, join_empty, hc₁]
          rw [hj]
          exact hR₁ t' k
    by_cases hlt : p < x.cps.size
    · rw [if_pos hlt]
      refine wpAny_bind (slice_any (by omega) ?_)
      refine wpAny_bind (push_any (acc := acc) (ep := ep) hl (by omega) fun h' ep' hl' hk' => ?_)
      refine rest _ (acc ++ [(⟨x.cps.extract p x.cps.size⟩, s.toks)]) ep' hl' ?_ (by simp; omega) fun u tk => ?_
      · rw [cat_append]
        congr 1
        simp only [cat, List.flatMap_cons, List.flatMap_nil, List.append_nil]
        rw [extract_list]
        exact List.take_of_length_le (by simp)
      · exact hR h' u tk hk'
    · rw [if_neg hlt]
      refine rest _ acc ep hl ?_ (by omega) fun u tk => ?_
      · have : List.drop p x.cps.toList = [] := by simp; omega
        rw [this, List.append_nil]
      · exact hR s.heap u tk (fun _ _ _ h => h)
  | @next p a b out hpa hab hb hm _ ih =>
    intro s n acc ep hk hl hz1 hz2 hR
    obtain ⟨m, g1, ho, hst, hhd⟩ := hm
    subst hst
    subst hhd
    have hlen : ((List.take (m.start - p) (List.drop p x.cps.toList) ++ r.cps.toList ++ out)).length = (m.start - p) + r.cps.size + out.length := by
      simp; omega
    rw [hlen] at hz2
    refine codeAny_builtin entry_loop ?_
    show wpAny _ _ («re.Pattern.sub.loop» _) _ _ s
    unfold «re.Pattern.sub.loop»
    dsimp only [rawInt]
    refine wpAny_bind (whole_any (X.keeps hk) ?_)
    rw [if_pos (by rfl)]
    refine wpAny_bind (wpAny_pure ?_)
    refine wpAny_bind ?_
    rw [if_neg (by simp)]
    unfold reNextFound
    have e0 : ((p : Int)).toNat = p := by simp
    rw [e0]
    refine runToEnd_some (by omega) g1 ho ?_
    dsimp only
    have hbe : (m.handed == m.start) = false := by simp; omega
    have fin : ∀ (s₁ : Shared) (acc₁ : List (Str × Tok)) (ep₁ : Nat), s₁.heap.get? l = some (lst acc₁ ep₁) → (∀ b o, g.get? b = some o → s₁.heap.get? b = some o) → cat acc₁ = cat acc ++ List.take (m.start - p) (List.drop p x.cps.toList) → acc₁.length ≤ acc.length + 1 →
        (∀ h' u tk, (∀ b o, b ≠ l → s₁.heap.get? b = some o → h'.get? b = some o) → R (.ok (.ret (.str ⟨(cat acc ++ (List.take (m.start - p) (List.drop p x.cps.toList) ++ r.cps.toList ++ out)).toArray⟩ u))) { s₁ with heap := h', toks := tk }) →
        wpAny (model prog w) (A.under (.builtin "re.Pattern.sub.loop" (subArgs P x t r tr n p l))) (do
          let item ← pure (Value.str r tr)
          if (item != Value.none) = true then do
              let __r ← updateSeq l fun (x : Array Value) => x.push item
              again (Code.builtin "re.Pattern.sub.loop" { pos := [.ref P, .str x t, .str r tr, rawInt 0, rawInt 0, rawInt (n + 1), rawInt ↑m.handed, rawInt ↑m.handed, Value.bool (m.handed == m.start), .ref l, Value.bool false] })
            else again (Code.builtin "re.Pattern.sub.loop" { pos := [.ref P, .str x t, .str r tr, rawInt 0, rawInt 0, rawInt (n + 1), rawInt ↑m.handed, rawInt ↑m.handed, Value.bool (m.handed == m.start), .ref l, Value.bool false] }))
          (fun fin s' => match fin with | .done f => R (.ok f) s' | .again c' => c'.quiet = true ∧ codeAny (model prog w) A c' R s') (fun e s' => R (.error e) s') s₁ := by
      intro s₁ acc₁ ep₁ hl₁ hk₁ hc₁ hz₁ hR₁
      refine wpAny_bind (wpAny_pure ?_)
      rw [if_pos (by simp)]
      refine wpAny_bind (push_any (acc := acc₁) (ep := ep₁) hl₁ (by omega) fun h' ep' hl' hk' => ?_)
      refine wpAny_pure ⟨quiet_loop _, ?_⟩
      rw [hbe]
      refine ih { s₁ with heap := h' } (n + 1) (acc₁ ++ [(r, tr)]) ep' ?_ hl' (by simp; omega) ?_ ?_
      · intro b o hb'
        exact hk' b o (fun q => by rw [q, hgl] at hb'; cases hb') (hk₁ b o hb')
      · rw [cat_append, List.length_append, hc₁, List.length_append]
        simp [cat] at hz2 ⊢
        omega
      · intro h'' u tk hk''
        have hh := hR₁ h'' u tk (fun b o hb' ho' => hk'' b o hb' (hk' b o hb' ho'))
        have e : cat (acc₁ ++ [(r, tr)]) ++ out = cat acc ++ (List.take (m.start - p) (List.drop p x.cps.toList) ++ r.cps.toList ++ out) := by
          rw [cat_append, hc₁]
          simp [cat]
        rw [e]
        exact hh
    by_cases hlt : p < m.start
    · rw [if_pos hlt]
      refine wpAny_bind (slice_any (by omega) ?_)
      refine wpAny_bind (push_any (acc := acc) (ep := ep) hl (by omega) fun h' ep' hl' hk' => ?_)
      rw [if_pos (by rfl)]
      refine fin { s with heap := h', toks := s.toks + 1 } (acc ++ [(⟨x.cps.extract p m.start⟩, s.toks)]) ep' hl' ?_ ?_ (by simp) fun h'' u tk hk'' => ?_
      · intro b o hb'
        exact hk' b o (fun q => by rw [q, hgl] at hb'; cases hb') (hk b o hb')
      · rw [cat_append]
        congr 1
        simp [cat]
      · exact hR h'' u tk (fun b o hb' ho' => hk'' b o hb' (hk' b o hb' ho'))
    · rw [if_neg hlt, if_pos (by rfl)]
      refine fin _ acc ep hl hk ?_ (by omega) hR
      have : m.start - p = 0 := by omega
      rw [this]; simp
end
end Mine
end
-- part Re3
section
open PySem PySem.W PyProof.Rows
set_option Elab.async false
set_option maxRecDepth 100000
set_option maxHeartbeats 400000
set_option linter.unusedVariables false
namespace Mine
local macro_rules | `(tactic| walk_at "pad0") => `(tactic| skip)
local macro_rules | `(tactic| walk_at "pad1") => `(tactic| skip)
local macro_rules | `(tactic| walk_at "pad2") => `(tactic| skip)

/-- line ends of the three kinds become CRLF -/
def crlf : List Nat → List Nat
  | [] => []
  | [c] => if c = 10 ∨ c = 13 then [13, 10] else [c]
  | c :: d :: r => if c = 13 ∧ d = 10 then 13 :: 10 :: crlf r else if c = 10 ∨ c = 13 then 13 :: 10 :: crlf (d :: r) else c :: crlf (d :: r)
/-- a dot at a row's head is doubled -/
def dots : Bool → List Nat → List Nat
  | _, [] => []
  | b, c :: r => if b = true ∧ c = 46 then 46 :: 46 :: dots false r else c :: dots (c == 10) r

theorem crlf_other {c : Nat} (r : List Nat) (h : ¬ is2 c) : crlf (c :: r) = c :: crlf r := by
  unfold is2 at h
  cases r with
  | nil => simp [crlf, h]
  | cons d r => rw [crlf, if_neg (by omega), if_neg h]
theorem crlf_lf (r : List Nat) : crlf (10 :: r) = 13 :: 10 :: crlf r := by
  cases r with
  | nil => simp [crlf]
  | cons d r => rw [crlf, if_neg (by omega), if_pos (by simp)]
theorem crlf_crlf (r : List Nat) : crlf (13 :: 10 :: r) = 13 :: 10 :: crlf r := by rw [crlf, if_pos (by simp)]
theorem crlf_cr (r : List Nat) (h : r.head? ≠ some 10) : crlf (13 :: r) = 13 :: 10 :: crlf r := by
  cases r with
  | nil => simp [crlf]
  | cons d r => rw [crlf, if_neg (by simp at h; simp [h]), if_pos (by simp)]

theorem first_or (P : Nat → Prop) [DecidablePred P] (n : Nat) : ∀ k p, p + k = n → (∀ i, p ≤ i → i < n → ¬ P i) ∨ ∃ s, p ≤ s ∧ s < n ∧ P s ∧ ∀ i, p ≤ i → i < s → ¬ P i := by
  intro k
  induction k with
  | zero => intro p h; exact .inl fun i h1 h2 => absurd h2 (by omega)
  | succ k ih =>
    intro p h
    by_cases hp : P p
    · exact .inr ⟨p, Nat.le_refl _, by omega, hp, fun i h1 h2 => absurd h2 (by omega)⟩
    · rcases ih (p + 1) (by omega) with h0 | ⟨s, h1, h2, h3, h4⟩
      · refine .inl fun i hi1 hi2 => ?_
        by_cases he : i = p
        · rw [he]; exact hp
        · exact h0 i (by omega) hi2
      · refine .inr ⟨s, by omega, h2, h3, fun i hi1 hi2 => ?_⟩
        by_cases he : i = p
        · rw [he]; exact hp
        · exact h4 i (by omega) hi2

theorem drop_cons {text : Array Nat} {p : Nat} (h : p < text.size) : text.toList.drop p = text.getD p 0 :: text.toList.drop (p + 1) := by
  have e : text.toList[p]? = some (text.getD p 0) := by simp [Array.getD, h]
  have h' : p < text.toList.length := by simpa using h
  rw [List.drop_eq_getElem_cons h']
  congr 1
  simp [Array.getD, h]

theorem crlf_clean {text : Array Nat} (k : Nat) : ∀ p, p + k ≤ text.size → (∀ i, p ≤ i → i < p + k → ¬ is2 (text.getD i 0)) →
    crlf (text.toList.drop p) = (text.toList.drop p).take k ++ crlf (text.toList.drop (p + k)) := by
  induction k with
  | zero => intro p _ _; simp
  | succ k ih =>
    intro p hp hn
    rw [drop_cons (by omega), crlf_other _ (hn p (Nat.le_refl _) (by omega)), ih (p + 1) (by omega) (fun i h1 h2 => hn i (by omega) (by omega)), List.take_succ_cons,
      show p + 1 + k = p + (k + 1) by omega]
    rfl
theorem len2_cases (text : Array Nat) (lim s : Nat) : (len2 text lim s = 2 ∧ s + 1 < lim) ∨ len2 text lim s = 1 := by
  unfold len2
  by_cases h : text.getD s 0 = 13 ∧ s + 1 < lim ∧ text.getD (s + 1) 0 = 10
  · rw [if_pos h]; exact .inl ⟨rfl, h.2.1⟩
  · rw [if_neg h]; exact .inr rfl
theorem sub2 (text : Array Nat) : ∀ k p, text.size - p = k → p ≤ text.size → Sub code2 text [13, 10] p (crlf (text.toList.drop p)) := by
  intro k
  induction k using Nat.strongRecOn with
  | ind k ih =>
    intro p hk hp
    rcases first_or (fun i => is2 (text.getD i 0)) text.size (text.size - p) p (by omega) with h | ⟨s, h1, h2, h3, h4⟩
    · have e := crlf_clean (text.size - p) p (by omega) (fun i a b => h i a (by omega))
      rw [e, show p + (text.size - p) = text.size by omega]
      have e2 : text.toList.drop text.size = [] := by simp
      have e3 : (text.toList.drop p).take (text.size - p) = text.toList.drop p := List.take_of_length_le (by simp)
      rw [e2, e3, crlf, List.append_nil]
      obtain ⟨m, g, ho⟩ := search2_none (text := text) (p := p) h
      exact .stop hp ⟨m, g.mono (by omega), ho⟩
    · have e := crlf_clean (s - p) p (by omega) (fun i a b => h4 i a (by omega))
      obtain ⟨m, g, ho, hs, hh⟩ := search2_some h1 h2 h4 h3
      have hb : s + len2 text text.size s ≤ text.size := by rcases len2_cases text text.size s with q | q <;> omega
      have hl : 1 ≤ len2 text text.size s := by rcases len2_cases text text.size s with q | q <;> omega
      have e1 : crlf (text.toList.drop s) = [13, 10] ++ crlf (text.toList.drop (s + len2 text text.size s)) := by
        rw [drop_cons h2]
        by_cases h13 : text.getD s 0 = 13
        · rw [h13]
          by_cases h10 : s + 1 < text.size ∧ text.getD (s + 1) 0 = 10
          · rw [show len2 text text.size s = 2 from if_pos ⟨h13, h10⟩, drop_cons h10.1, h10.2, crlf_crlf]
            rfl
          · rw [show len2 text text.size s = 1 from if_neg (fun q => h10 q.2), crlf_cr]
            · rfl
            · by_cases hlt : s + 1 < text.size
              · rw [drop_cons hlt]
                simp
                intro q
                exact h10 ⟨hlt, by simpa [Array.getD, hlt] using q⟩
              · have : text.toList.drop (s + 1) = [] := by simp; omega
                rw [this]; simp
        · have h10 : text.getD s 0 = 10 := h3.resolve_right h13
          rw [h10, show len2 text text.size s = 1 from if_neg (fun q => h13 q.1), crlf_lf]
          rfl
      rw [e, show p + (s - p) = s by omega, e1, ← List.append_assoc]
      exact .next h1 (by omega) hb ⟨m, g.mono (by omega), ho, hs, hh⟩ (ih (text.size - (s + len2 text text.size s)) (by omega) _ rfl hb)

/-- is place i a row's head -/
def bol (text : Array Nat) (i : Nat) : Bool := i == 0 || text.getD (i - 1) 0 == 10
theorem dots_clean {text : Array Nat} (k : Nat) : ∀ p, p + k ≤ text.size → (∀ i, p ≤ i → i < p + k → ¬ is1 text i) →
    dots (bol text p) (text.toList.drop p) = (text.toList.drop p).take k ++ dots (bol text (p + k)) (text.toList.drop (p + k)) := by
  induction k with
  | zero => intro p _ _; simp
  | succ k ih =>
    intro p hp hn
    have hd := drop_cons (text := text) (p := p) (by omega)
    have hno := hn p (Nat.le_refl _) (by omega)
    have hb : bol text (p + 1) = (text.getD p 0 == 10) := by simp [bol]
    rw [hd, dots, if_neg (by intro q; apply hno; unfold is1; refine ⟨?_, q.2⟩; have := q.1; simpa [bol] using this), ← hb,
      ih (p + 1) (by omega) (fun i h1 h2 => hn i (by omega) (by omega)), List.take_succ_cons, show p + 1 + k = p + (k + 1) by omega]
    rfl
theorem sub1 (text : Array Nat) : ∀ k p, text.size - p = k → p ≤ text.size → Sub code1 text [46, 46] p (dots (bol text p) (text.toList.drop p)) := by
  intro k
  induction k using Nat.strongRecOn with
  | ind k ih =>
    intro p hk hp
    rcases first_or (fun i => is1 text i) text.size (text.size - p) p (by omega) with h | ⟨s, h1, h2, h3, h4⟩
    · have e := dots_clean (text.size - p) p (by omega) (fun i a b => h i a (by omega))
      rw [e, show p + (text.size - p) = text.size by omega]
      have e2 : text.toList.drop text.size = [] := by simp
      have e3 : (text.toList.drop p).take (text.size - p) = text.toList.drop p := List.take_of_length_le (by simp)
      rw [e2, e3, dots, List.append_nil]
      obtain ⟨m, g, ho⟩ := search1_none (text := text) (p := p) h
      exact .stop hp ⟨m, g.mono (by omega), ho⟩
    · have e := dots_clean (s - p) p (by omega) (fun i a b => h4 i a (by omega))
      obtain ⟨m, g, ho, hs, hh⟩ := search1_some h1 h2 h4 h3
      have hb1 : bol text s = true := by
        have := h3.1
        unfold bol
        simpa using this
      have hb2 : bol text (s + 1) = false := by
        have := h3.2
        unfold bol
        rw [show s + 1 - 1 = s by omega, this]
        rfl
      have e1 : dots (bol text s) (text.toList.drop s) = [46, 46] ++ dots (bol text (s + 1)) (text.toList.drop (s + 1)) := by
        rw [drop_cons h2, h3.2, dots, if_pos ⟨hb1, rfl⟩, hb2]
        rfl
      rw [e, show p + (s - p) = s by omega, e1, ← List.append_assoc]
      exact .next h1 (by omega) h2 ⟨m, g.mono (by omega), ho, hs, hh⟩ (ih (text.size - (s + 1)) (by omega) _ rfl h2)
theorem sub2_all (x : Str) : Sub code2 x.cps [13, 10] 0 (crlf x.cps.toList) := by
  have := sub2 x.cps x.cps.size 0 (by omega) (Nat.zero_le _)
  simpa using this
theorem sub1_all (x : Str) : Sub code1 x.cps [46, 46] 0 (dots true x.cps.toList) := by
  have := sub1 x.cps x.cps.size 0 (by omega) (Nat.zero_le _)
  simpa [bol] using this
theorem crlf_len : ∀ l : List Nat, (crlf l).length ≤ 2 * l.length
  | [] => by simp [crlf]
  | [c] => by unfold crlf; split <;> simp
  | c :: d :: r => by
    unfold crlf
    split
    · have := crlf_len r; simp; omega
    · split
      · have := crlf_len (d :: r); simp at this ⊢; omega
      · have := crlf_len (d :: r); simp at this ⊢; omega
theorem dots_len : ∀ (l : List Nat) (b : Bool), (dots b l).length ≤ 2 * l.length
  | [], _ => by simp [dots]
  | c :: r, b => by
    unfold dots
    split
    · have := dots_len r false; simp; omega
    · have := dots_len r (c == 10); simp; omega
end Mine
end
-- part Re4
section
open PySem PySem.W PyProof.Rows
set_option Elab.async false
set_option maxRecDepth 100000
set_option maxHeartbeats 400000
set_option linter.unusedVariables false
namespace Mine
local macro_rules | `(tactic| walk_at "pad0") => `(tactic| skip)
local macro_rules | `(tactic| walk_at "pad1") => `(tactic| skip)
local macro_rules | `(tactic| walk_at "pad2") => `(tactic| skip)
local macro_rules | `(tactic| walk_at "pad3") => `(tactic| skip)
open PySem.Builtin PySem.Builtin.Re
section
variable {prog : Program} {w : World} {A : Around} {E : Value → Shared → Prop} {s : Shared} {h₀ : Heap} {L : Addr} {m : Str → Option Value} {news : List (Addr × Obj)} {P : Addr} {code : Array Nat} {x r : Str} {t tr : Tok} {out : List Nat}

theorem named_sub (a b : Value) : reNamed "re.Pattern.sub" "sub" ["repl", "string", "count"] 2 [a, b] [] = pure [some a, some b, none] := by
  kernel_rfl

theorem call_sub {Q : Value → Shared → Prop} (X : PatAt h₀ P code) (F : Fr h₀ L s.heap m) (N : News h₀ L s.heap news) (hr : r.cps.contains 92 = false) (S : Sub code x.cps r.cps.toList 0 out)
    (hx : x.cps.size ≤ 100000) (ho : out.length ≤ 300000)
    (h : ∀ h' u tk, Fr h₀ L h' m → News h₀ L h' news → Q (.str ⟨out.toArray⟩ u) { s with heap := h', toks := tk }) :
    wpAny (model prog w) A (call (.builtin "re.Pattern.sub") [.ref P, .str r tr, .str x t]) Q E s := by
  have X' := X.keeps F.keep
  obtain ⟨oP, _, _, _, _, _, hP, hcls, _⟩ := X'.it
  refine wpAny_call (codeAny_call_builtin slot_sub.plain entry_sub (slot_sub.check _ _ _ _ _ _ _ _ ⟨oP, hP, hcls⟩ (args_sub _ _ _) ?_))
  show wpAny _ _ (reSubstitute "re.Pattern.sub" "sub" false ⟨[.ref P, .str r tr, .str x t], []⟩) _ _ s
  unfold reSubstitute
  dsimp only
  rw [named_sub]
  refine wpAny_bind (wpAny_pure ?_)
  dsimp only
  refine wpAny_bind (wpAny_pure ?_)
  refine wpAny_bind (wpAny_specialOf (typeIs_str _ _ _) str_no_call ?_)
  rw [if_neg (by simp)]
  refine wpAny_bind (wpAny_pure ?_)
  dsimp only
  refine wpAny_bind (wpAny_pure ?_)
  rw [if_neg (by simp), if_pos (by rw [hr]; rfl)]
  refine wpAny_bind (wpAny_pure ?_)
  dsimp only
  refine wpAny_bind (wpAny_holding (whole_any X' ?_))
  rw [if_neg (by simp)]
  refine wpAny_bind ?_
  refine wpAny_newObj_type ?_ (by show (0 : Nat) ≤ sizeLine; omega)
  refine wpAny_pure ⟨quiet_loop _, ?_⟩
  have hno : h₀.get? s.heap.objs.size = none := by
    cases q : h₀.get? s.heap.objs.size with
    | none => rfl
    | some o => exact absurd (Heap.lt_size (F.keep _ _ q)) (Nat.lt_irrefl _)
  refine sub_loop X hno hx S _ 0 [] 0 (fun b o hb => Heap.get?_push_of_some _ (F.keep b o hb)) (Heap.get?_push_size _ rfl) (by simp; omega) (by simp [cat]; omega) fun h' u tk hk => ?_
  show Q (.str ⟨([] ++ out).toArray⟩ u) _
  rw [List.nil_append]
  have hk' : ∀ b o, b ≠ s.heap.objs.size → s.heap.get? b = some o → h'.get? b = some o := fun b o hb ho' => hk b o hb (Heap.get?_push_of_some _ ho')
  obtain ⟨oL, es, ep, hL, rL⟩ := F.ns
  refine h h' u tk ⟨⟨oL, es, ep, hk' _ _ (Nat.ne_of_lt (Heap.lt_size hL)) hL, rL⟩, fun b o hb => hk' b o (fun q => by rw [q, hno] at hb; cases hb) (F.keep b o hb), F.above⟩ fun p hp => ⟨hk' _ _ (Nat.ne_of_lt (Heap.lt_size (N p hp).1)) (N p hp).1, (N p hp).2⟩
theorem sub_method {M : Model} {pl : Sem Bool} {Q : Value × List Value → Shared → Prop} (X : PatAt s.heap P code) (h : Q (.builtin "re.Pattern.sub", [.ref P]) s) : wpAny M A (getMethod (.ref P) "sub" pl) Q E s := by
  obtain ⟨oP, _, _, _, _, _, hP, hcls, hd, _⟩ := X.it
  exact getMethod_builtin ⟨oP, hP, hcls⟩ pattern_attrs slot_sub type_sub (fun a e => by cases e; exact ⟨oP, hP, hd⟩) h
def crlfS (x : Str) : Str := ⟨(crlf x.cps.toList).toArray⟩
def dotsS (x : Str) : Str := ⟨(dots true x.cps.toList).toArray⟩
def quoted (x : Str) : Str := dotsS (crlfS x)
theorem crlfS_size (x : Str) : (crlfS x).cps.size ≤ 2 * x.cps.size := by
  have := crlf_len x.cps.toList
  simpa [crlfS] using this
theorem dotsS_size (x : Str) : (dotsS x).cps.size ≤ 2 * x.cps.size := by
  have := dots_len x.cps.toList true
  simpa [dotsS] using this
theorem call_sub2 {Q : Value → Shared → Prop} (X : PatAt h₀ P code2) (F : Fr h₀ L s.heap m) (N : News h₀ L s.heap news) (hx : x.cps.size ≤ 20000)
    (h : ∀ h' u tk, Fr h₀ L h' m → News h₀ L h' news → Q (.str (crlfS x) u) { s with heap := h', toks := tk }) :
    wpAny (model prog w) A (call (.builtin "re.Pattern.sub") [.ref P, .str (Str.ofString "\r\n") tr, .str x t]) Q E s := by
  have hr : (Str.ofString "\r\n") = ⟨#[13, 10]⟩ := by decide +kernel
  rw [hr]
  refine call_sub X F N (by decide +kernel) (sub2_all x) (by omega) ?_ h
  have := crlf_len x.cps.toList
  simp at this
  omega
theorem call_sub1 {Q : Value → Shared → Prop} (X : PatAt h₀ P code1) (F : Fr h₀ L s.heap m) (N : News h₀ L s.heap news) (hx : x.cps.size ≤ 40000)
    (h : ∀ h' u tk, Fr h₀ L h' m → News h₀ L h' news → Q (.str (dotsS x) u) { s with heap := h', toks := tk }) :
    wpAny (model prog w) A (call (.builtin "re.Pattern.sub") [.ref P, .str (Str.ofString "..") tr, .str x t]) Q E s := by
  have hr : (Str.ofString "..") = ⟨#[46, 46]⟩ := by decide +kernel
  rw [hr]
  refine call_sub X F N (by decide +kernel) (sub1_all x) (by omega) ?_ h
  have := dots_len x.cps.toList true
  simp at this
  omega
end
end Mine
end
-- part Kit1
section
open PySem PySem.W PyProof.Rows PySem.Calls
set_option Elab.async false
set_option maxRecDepth 100000
set_option maxHeartbeats 400000
set_option linter.unusedVariables false
namespace Mine
local macro_rules | `(tactic| walk_at "pad0") => `(tactic| skip)
local macro_rules | `(tactic| walk_at "pad1") => `(tactic| skip)
local macro_rules | `(tactic| walk_at "pad2") => `(tactic| skip)
local macro_rules | `(tactic| walk_at "pad3") => `(tactic| skip)
local macro_rules | `(tactic| walk_at "pad4") => `(tactic| skip)

/-- what must be shown where a called function leaves: its frame, its own part of the ledger, and what the caller wants of both and the untouched rest -/
def LeaveO (h₀ : Heap) (L : Addr) (m : Str → Option Value) (g : Heap) (rest : List (Addr × Obj)) (R : Result → Shared → Prop) (v : Value) (s' : Shared) : Prop :=
  ∃ L' m' own', Fr g L' s'.heap m' ∧ News g L' s'.heap own' ∧ (Fr h₀ L s'.heap m → News h₀ L s'.heap (own' ++ rest) → (∀ q ∈ own', ∀ r ∈ rest, q.1 ≠ r.1) → R (.ok (.ret v)) s')

section
variable {prog : Program} {w : World} {A A₀ : Around} {s : Shared} {K : Frag} {L : Addr} {h₀ base : Heap} {m mg mb : Str → Option Value} {own rest : List (Addr × Obj)} {p : Program} {loose : List Str} {mean : ExcName → Option Value}
theorem code_own {env : Env} {outer : List Env} {R : Result → Shared → Prop} {name qual : Str} {params : Arguments} {body : List Stmt} {scope : Scope} {dV kV doc pm cdv ct oc : Value} {an od : Option Addr} {osl : Array (Option Value)} {f : Addr} {args : Args} {binds : List (Str × Value)}
    (B : Below A₀ base outer h₀) (F : Fr h₀ L s.heap m) (X₀ : K.In h₀) (N : News h₀ L s.heap (own ++ rest)) (hsep : ∀ q ∈ rest, q.1 ∉ own.map (·.1)) (T : Top p loose mean mg mb h₀) (hA : A.frames = some (env :: outer)) (hf : env.frame = some L) (hke : env.scope.kind = .function)
    (ho : K.lookup f = some ⟨oc, od, .func (fnOf name qual params body scope dV kV doc pm an cdv ct), osl⟩) (hcd : codeIn K cdv qual = true) (hroom : A.depth < recursionLimit)
    (hbind : BindsTo s (fnOf name qual params body scope dV kV doc pm an cdv ct) args binds) (hloc : ∀ y ∈ binds, scope.names.lookup y.1 = some .local)
    (h : ∀ g L' h₁, Fr g L' h₁ (fun y => binds.reverse.lookup y) → News g L' h₁ own → Below A base (env :: outer) g → K.In g → Top p loose mean mg mb g → h₀.StaysIn g → (∀ q ∈ rest, g.get? q.1 = some q.2) → (∀ q ∈ own ++ rest, q.1 < L') →
      wpAny (model prog w) (A.deeper (envOf qual scope L' f cdv)) (execs body (envOf qual scope L' f cdv))
        (fun fl s' => LeaveO h₀ L m g rest R (match fl with | .ret v => v | _ => .none) s')
        (fun _ _ => False)
        { s with heap := h₁, toks := s.toks + binds.length })
    (hco : scope.isCoroutine = false) (hgen : scope.isGenerator = false) (hk : scope.kind = .function)
    (hcell : ∀ x ∈ scope.names, x.2 ≠ .cell) : codeAny (model prog w) A (.call (.ref f) args) R s := by
  have N₁ : News h₀ L s.heap own := fun q hq => N q (List.mem_append_left _ hq)
  obtain ⟨FG, BG, st, lv⟩ := groundX (R := R) B F N₁ hA hf hke
  have hX := X₀.keeps F.keep
  refine codeAny_call_def (fd := fnOf name qual params body scope dV kV doc pm an cdv ct) (body := body) (binds := binds) hroom (hX _ _ ho) rfl (T.nolimit.keeps F.keep) (codeRec_of hX hcd) rfl hbind hcell hloc (fun h₁ hns hk₁ => ?_) hco hgen hk
  have hrest : ∀ q ∈ rest, (hideAll s.heap (own.map (·.1))).get? q.1 = some q.2 := fun q hq => hideAll_get _ (N q (List.mem_append_right _ hq)).1 (hsep q hq)
  refine wpAny_mono (h _ s.heap.objs.size h₁ ⟨hns, fun b o e => hk₁ b o (of_hideAll _ e), Nat.le_of_eq (hideAll_size _ _)⟩
    (fun q hq => ⟨hk₁ _ _ (N₁ q hq).1, Nat.ne_of_lt (Heap.lt_size (N₁ q hq).1), hideAll_none _ (List.mem_map_of_mem hq)⟩) BG (X₀.keeps st) (T.keeps st) st hrest (fun q hq => Heap.lt_size (N q hq).1)) (fun fl s' hl => ?_) fun _ _ y => y.elim
  obtain ⟨L', m', own', F', N', k⟩ := hl
  refine lv _ s' ⟨L', m', own', F', N', fun F₂ N₂ => k F₂ (fun q hq => ?_) fun q hq r hr e => ?_⟩
  · rcases List.mem_append.mp hq with hq | hq
    · exact N₂ q hq
    · exact ⟨F'.keep _ _ (hrest q hq), (N q (List.mem_append_right _ hq)).2⟩
  · have h1 := (N' q hq).2.2
    rw [e, hrest r hr] at h1
    cases h1
end

section
variable {prog : Program} {w : World} {A A₀ : Around} {s : Shared} {K : Frag} {L : Addr} {h₀ base : Heap} {m mg mb : Str → Option Value} {own rest : List (Addr × Obj)} {p : Program} {loose : List Str} {mean : ExcName → Option Value}
/-- the same for a function object that is at hand, with a closure -/
theorem code_ownX {env : Env} {outer : List Env} {R : Result → Shared → Prop} {name qual : Str} {params : Arguments} {body : List Stmt} {scope : Scope} {cl : List (Str × Addr)} {dV kV doc pm cdv ct : Value} {an : Option Addr} {fo : Obj} {f : Addr} {args : Args} {binds : List (Str × Value)}
    (B : Below A₀ base outer h₀) (F : Fr h₀ L s.heap m) (X₀ : K.In h₀) (N : News h₀ L s.heap (own ++ rest)) (hsep : ∀ q ∈ rest, q.1 ∉ own.map (·.1)) (T : Top p loose mean mg mb h₀) (hA : A.frames = some (env :: outer)) (hf : env.frame = some L) (hke : env.scope.kind = .function)
    (ho : s.heap.get? f = some fo) (hd : fo.data = .func (fnX name qual params body scope cl dV kV doc pm an cdv ct)) (hcd : s.heap.CodeRec cdv qual) (hroom : A.depth < recursionLimit)
    (hbind : BindsTo s (fnX name qual params body scope cl dV kV doc pm an cdv ct) args binds) (hloc : ∀ y ∈ binds, scope.names.lookup y.1 = some .local)
    (h : ∀ g L' h₁, Fr g L' h₁ (fun y => binds.reverse.lookup y) → News g L' h₁ own → Below A base (env :: outer) g → K.In g → Top p loose mean mg mb g → h₀.StaysIn g → (∀ q ∈ rest, g.get? q.1 = some q.2) → (∀ q ∈ own ++ rest, q.1 < L') →
      wpAny (model prog w) (A.deeper (envX qual scope L' f cdv cl)) (execs body (envX qual scope L' f cdv cl))
        (fun fl s' => LeaveO h₀ L m g rest R (match fl with | .ret v => v | _ => .none) s')
        (fun _ _ => False)
        { s with heap := h₁, toks := s.toks + binds.length })
    (hco : scope.isCoroutine = false) (hgen : scope.isGenerator = false) (hk : scope.kind = .function)
    (hcell : ∀ x ∈ scope.names, x.2 ≠ .cell) : codeAny (model prog w) A (.call (.ref f) args) R s := by
  have N₁ : News h₀ L s.heap own := fun q hq => N q (List.mem_append_left _ hq)
  obtain ⟨FG, BG, st, lv⟩ := groundX (R := R) B F N₁ hA hf hke
  refine codeAny_call_def (fd := fnX name qual params body scope cl dV kV doc pm an cdv ct) (body := body) (binds := binds) hroom ho hd (T.nolimit.keeps F.keep) hcd rfl hbind hcell hloc (fun h₁ hns hk₁ => ?_) hco hgen hk
  have hrest : ∀ q ∈ rest, (hideAll s.heap (own.map (·.1))).get? q.1 = some q.2 := fun q hq => hideAll_get _ (N q (List.mem_append_right _ hq)).1 (hsep q hq)
  refine wpAny_mono (h _ s.heap.objs.size h₁ ⟨hns, fun b o e => hk₁ b o (of_hideAll _ e), Nat.le_of_eq (hideAll_size _ _)⟩
    (fun q hq => ⟨hk₁ _ _ (N₁ q hq).1, Nat.ne_of_lt (Heap.lt_size (N₁ q hq).1), hideAll_none _ (List.mem_map_of_mem hq)⟩) BG (X₀.keeps st) (T.keeps st) st hrest (fun q hq => Heap.lt_size (N q hq).1)) (fun fl s' hl => ?_) fun _ _ y => y.elim
  obtain ⟨L', m', own', F', N', k⟩ := hl
  refine lv _ s' ⟨L', m', own', F', N', fun F₂ N₂ => k F₂ (fun q hq => ?_) fun q hq r hr e => ?_⟩
  · rcases List.mem_append.mp hq with hq | hq
    · exact N₂ q hq
    · exact ⟨F'.keep _ _ (hrest q hq), (N q (List.mem_append_right _ hq)).2⟩
  · have h1 := (N' q hq).2.2
    rw [e, hrest r hr] at h1
    cases h1
end

/-- a function's contract: what it owns, what it finds, what it leaves -/
def SpecF (prog : Program) (w : World) (K : Frag) (p : Program) (loose : List Str) (mean : ExcName → Option Value) (mg mb : Str → Option Value) (f : Addr) (room : Nat) (vs : List Value) (own : List (Addr × Obj)) (Pre : Heap → Prop) (Post : Value → List (Addr × Obj) → Prop) : Prop :=
  ∀ (dp un : Nat) (gd : Option (List Code)) (cn : Str) (cs : Scope) (a : Addr) (ccd : Value) (cl : List (Str × Addr)) (outer : List Env) (A₀ : Around) (base h₀ : Heap) (L : Addr) (m : Str → Option Value) (s : Shared) (rest : List (Addr × Obj)) (R : Result → Shared → Prop),
    Below A₀ base outer h₀ → Fr h₀ L s.heap m → K.In h₀ → News h₀ L s.heap (own ++ rest) → (∀ q ∈ rest, q.1 ∉ own.map (·.1)) → Top p loose mean mg mb h₀ → cs.kind = .function →
    (∀ g, h₀.StaysIn g → (∀ q ∈ rest, g.get? q.1 = some q.2) → Pre g) → dp + room < recursionLimit → un + 8 * room < cLine →
    (∀ v own' h' tk', Post v own' → (∀ q ∈ own', ∀ r ∈ rest, q.1 ≠ r.1) → Fr h₀ L h' m → News h₀ L h' (own' ++ rest) → R (.ok (.ret v)) { s with heap := h', toks := tk' }) →
    codeAny (model prog w) (ktrTop dp un gd cn cs L a ccd cl outer) (.call (.ref f) ⟨vs, []⟩) R s

section
variable {prog : Program} {w : World} {K : Frag} {p : Program} {loose : List Str} {mean : ExcName → Option Value} {mg mb : Str → Option Value} {f : Addr} {room : Nat} {vs : List Value} {own : List (Addr × Obj)} {Pre : Heap → Prop} {Post : Value → List (Addr × Obj) → Prop}
  {dp un : Nat} {gd : Option (List Code)} {cn : Str} {cs : Scope} {a : Addr} {ccd : Value} {cl : List (Str × Addr)} {outer : List Env} {A₀ : Around} {base h₀ : Heap} {L : Addr} {m : Str → Option Value} {s : Shared} {news : List (Addr × Obj)}
theorem SpecF.code (S : SpecF prog w K p loose mean mg mb f room vs own Pre Post) (rest : List (Addr × Obj)) {R : Result → Shared → Prop}
    (B : Below A₀ base outer h₀) (F : Fr h₀ L s.heap m) (X : K.In h₀) (N : News h₀ L s.heap news) (hin : ∀ q ∈ own ++ rest, q ∈ news) (hsep : ∀ q ∈ rest, q.1 ∉ own.map (·.1)) (T : Top p loose mean mg mb h₀) (hk : cs.kind = .function)
    (hpre : ∀ g, h₀.StaysIn g → (∀ q ∈ rest, g.get? q.1 = some q.2) → Pre g) (hd : dp + room < recursionLimit) (hu : un + 8 * room < cLine)
    (hret : ∀ v own' h' tk', Post v own' → (∀ q ∈ own', ∀ r ∈ rest, q.1 ≠ r.1) → Fr h₀ L h' m → News h₀ L h' (own' ++ rest) → R (.ok (.ret v)) { s with heap := h', toks := tk' }) :
    codeAny (model prog w) (ktrTop dp un gd cn cs L a ccd cl outer) (.call (.ref f) ⟨vs, []⟩) R s :=
  S dp un gd cn cs a ccd cl outer A₀ base h₀ L m s rest R B F X (fun q hq => N q (hin q hq)) hsep T hk hpre hd hu hret
theorem SpecF.call (S : SpecF prog w K p loose mean mg mb f room vs own Pre Post) (rest : List (Addr × Obj)) {Q E : Value → Shared → Prop}
    (B : Below A₀ base outer h₀) (F : Fr h₀ L s.heap m) (X : K.In h₀) (N : News h₀ L s.heap news) (hin : ∀ q ∈ own ++ rest, q ∈ news) (hsep : ∀ q ∈ rest, q.1 ∉ own.map (·.1)) (T : Top p loose mean mg mb h₀) (hk : cs.kind = .function)
    (hpre : ∀ g, h₀.StaysIn g → (∀ q ∈ rest, g.get? q.1 = some q.2) → Pre g) (hd : dp + room < recursionLimit) (hu : un + 8 * room < cLine)
    (hret : ∀ v own' h' tk', Post v own' → (∀ q ∈ own', ∀ r ∈ rest, q.1 ≠ r.1) → Fr h₀ L h' m → News h₀ L h' (own' ++ rest) → Q v { s with heap := h', toks := tk' }) :
    wpAny (model prog w) (ktrTop dp un gd cn cs L a ccd cl outer) (PySem.call (.ref f) vs) Q E s :=
  wpAny_call (S.code rest B F X N hin hsep T hk hpre hd hu hret)
end

theorem nd5 {a b c d e : Nat} (h : List.Nodup [a, b, c, d, e]) : a ≠ b ∧ a ≠ c ∧ a ≠ d ∧ a ≠ e ∧ b ≠ c ∧ b ≠ d ∧ b ≠ e ∧ c ≠ d ∧ c ≠ e ∧ d ≠ e := by
  simp only [List.nodup_cons, List.mem_cons, List.not_mem_nil, or_false, not_or] at h
  exact ⟨h.1.1, h.1.2.1, h.1.2.2.1, h.1.2.2.2, h.2.1.1, h.2.1.2.1, h.2.1.2.2, h.2.2.1.1, h.2.2.1.2, h.2.2.2.1⟩

theorem leaveO_ {h₀ g : Heap} {L L' : Addr} {m m' : Str → Option Value} {rest news' : List (Addr × Obj)} {R : Result → Shared → Prop} {v : Value} {s' : Shared} (own' : List (Addr × Obj)) (F' : Fr g L' s'.heap m') (N' : News g L' s'.heap news') (hin : ∀ q ∈ own', q ∈ news')
    (k : Fr h₀ L s'.heap m → News h₀ L s'.heap (own' ++ rest) → (∀ q ∈ own', ∀ r ∈ rest, q.1 ≠ r.1) → R (.ok (.ret v)) s') : LeaveO h₀ L m g rest R v s' :=
  ⟨L', m', own', F', fun q hq => N' q (hin q hq), k⟩
/-- what a loop's turn must leave -/
def RoundEnd (I : Nat → Shared → Prop) (n : Nat) (Q : Flow → Shared → Prop) (f : Flow) (s : Shared) : Prop :=
  match f with
  | .next => ∃ k, k < n ∧ I k s
  | .cont => ∃ k, k < n ∧ I k s
  | .brk => Q .next s
  | .ret v => Q (.ret v) s
section
variable {prog : Program} {w : World} {A : Around} {s : Shared} {env : Env}
theorem while_inv {test : Expr} {body orelse : List Stmt} {pos : Pos} {Q : Flow → Shared → Prop} (I : Nat → Shared → Prop)
    (turn : ∀ n s, I n s → wpAny (model prog w) A (isTrue test env (eval test env)) (fun b s₂ => WhlIf b (wpAny (model prog w) A (execs body env) (RoundEnd I n Q) (fun _ _ => False) s₂) (wpAny (model prog w) A (execs orelse env) Q (fun _ _ => False) s₂)) (fun _ _ => False) s)
    (n : Nat) (h : I n s) : wpAny (model prog w) A (exec (.While test body orelse pos) env) Q (fun _ _ => False) s := by
  refine whl_start 0 ?_
  induction n using Nat.strongRecOn generalizing s with
  | ind n ih =>
    refine whl_turn (k := 0) PassesOwn.never (wpAny_mono (turn n s h) (fun b s₂ h₂ => ?_) fun _ _ x => x)
    cases b with
    | false => exact h₂
    | true =>
      refine WhlIf.yes rfl ?_
      have h₃ : wpAny (model prog w) A (execs body env) (RoundEnd I n Q) (fun _ _ => False) s₂ := h₂
      refine wpAny_mono h₃ (fun f s₃ h₄ => ?_) fun _ _ x => x
      cases f with
      | next => obtain ⟨k, hk, hI⟩ := h₄; exact ih k hk hI
      | cont => obtain ⟨k, hk, hI⟩ := h₄; exact ih k hk hI
      | brk => exact h₄
      | ret v => exact h₄
theorem for_inv {x : Str} {px : Pos} {it : Value} {body : List Stmt} {Q : Flow → Shared → Prop} (I : Nat → Shared → Prop)
    (turn : ∀ n s, I n s → wpAny (model prog w) A (pyNext it) (fun r s₁ => match r with
      | none => Q .next s₁
      | some v => wpAny (model prog w) A (storeName env x v) (fun _ s₂ => wpAny (model prog w) A (execs body env) (RoundEnd I n Q) (fun _ _ => False) s₂) (fun _ _ => False) s₁) (fun _ _ => False) s)
    (n : Nat) (h : I n s) :
    codeAny (model prog w) A (.forLoop (.Name x px) it body [] env) (fun r s' => match r with | .ok f => Q f s' | .error e => cameBackBy (model prog w) A env (fun _ _ => False) e s') s := by
  refine codeAny_forLoop I (fun n s hI => ?_) n h
  refine wpAny_mono (turn n s hI) (fun r s₁ h₁ => ?_) fun _ _ x => x.elim
  cases r with
  | none => exact wpAny_execs_nil h₁
  | some v =>
    refine wpAny_assign_Name (wpAny_mono h₁ (fun _ s₂ h₂ => ?_) fun _ _ x => x.elim)
    refine wpAny_mono h₂ (fun f s₃ h₃ => ?_) fun _ _ x => x.elim
    cases f <;> exact h₃
end

theorem whl_if {b : Bool} {T F : Prop} (h1 : b = true → T) (h2 : b = false → F) : WhlIf b T F := by
  cases b with
  | true => exact WhlIf.yes rfl (h1 rfl)
  | false => exact WhlIf.no rfl (h2 rfl)
end Mine
end
-- part Kit2
section
open PySem PySem.W PyProof.Rows PySem.Calls
set_option Elab.async false
set_option maxRecDepth 100000
set_option maxHeartbeats 400000
set_option linter.unusedVariables false
namespace Mine
local macro_rules | `(tactic| walk_at "pad0") => `(tactic| skip)
local macro_rules | `(tactic| walk_at "pad1") => `(tactic| skip)
local macro_rules | `(tactic| walk_at "pad2") => `(tactic| skip)
local macro_rules | `(tactic| walk_at "pad3") => `(tactic| skip)
local macro_rules | `(tactic| walk_at "pad4") => `(tactic| skip)
local macro_rules | `(tactic| walk_at "pad5") => `(tactic| skip)
open PySem.Builtin

/-- iter(f, sentinel) -/
abbrev ciO (q : Addr) (x : Str) (t : Tok) : Obj := { cls := .type "callable_iterator", data := .fields #[.ref q, .str x t, .bool false] }
abbrev ciEnd : Obj := { cls := .type "callable_iterator", data := .fields #[.none, .none, .bool true] }

theorem slot_ci_next : Slot "callable_iterator" "__next__" "callable_iterator.__next__" :=
  .of (owner := "callable_iterator") (n := "__next__") (by rw [typeLookup_type, builtinLookup_eq_fast]; kernel_rfl) (by decide +kernel) (by decide +kernel) (by decide +kernel)
    (by first | exact .inl (by decide +kernel) | exact .inr (by decide +kernel)) (by rw [isSubtype_type]; kernel_rfl)
theorem entry_ci_next : entryFor table "callable_iterator.__next__" = some Builtin.«callable_iterator.__next__» := entryFor_of_tree (by kernel_rfl)
theorem args_ci_next (a : Value) : argsOk "callable_iterator.__next__" ⟨[a], []⟩ := by unfold argsOk; kernel_rfl
theorem slot_ci_iter : Slot "callable_iterator" "__iter__" "callable_iterator.__iter__" :=
  .of (owner := "callable_iterator") (n := "__iter__") (by rw [typeLookup_type, builtinLookup_eq_fast]; kernel_rfl) (by decide +kernel) (by decide +kernel) (by decide +kernel)
    (by first | exact .inl (by decide +kernel) | exact .inr (by decide +kernel)) (by rw [isSubtype_type]; kernel_rfl)
theorem entry_ci_iter : entryFor table "callable_iterator.__iter__" = some Builtin.«dict_keyiterator.__iter__» :=
  entryFor_alias (id' := "dict_keyiterator.__iter__") (by kernel_rfl) rfl (by decide +kernel) (by kernel_rfl)
theorem args_ci_iter (a : Value) : argsOk "callable_iterator.__iter__" ⟨[a], []⟩ := by unfold argsOk; kernel_rfl
theorem kind_iter : builtinKind "iter" = none := by decide +kernel
theorem plain_iter : plainId "iter" = true := by decide +kernel
theorem entry_iter : entryFor table "iter" = some Builtin.«iter» := entryFor_of_tree (by kernel_rfl)
theorem args_iter (a b : Value) : argsOk "iter" ⟨[a, b], []⟩ := by unfold argsOk; kernel_rfl
theorem method_callable : typeLookup (.type "method") "__call__" = pure (some (.builtin "method.__call__")) := by rw [typeLookup_type, builtinLookup_eq_fast]; kernel_rfl

section
variable {M : Model} {A : Around} {E : Value → Shared → Prop} {s : Shared}
theorem borrowed_any {f : Value} {pos : List Value} {Q : Value → Shared → Prop}
    (hc : codeAny M A (.call f ⟨pos, []⟩) (fun r s' => match r with | .ok (.ret v) => Q v s' | .ok _ => False | .error e => E e s') s) : wpAny M A (callBorrowed f pos) Q E s := fun Γ p hΓ => by
  unfold callBorrowed
  rw [Sem.wp_call]
  refine wpCode_mono (fun r s' h => ?_) (hc _ p rfl (hΓ.enter _ none p (by intro x; cases x)))
  cases r with
  | error e => exact h
  | ok f => cases f <;> first | exact h | exact h.elim
theorem borrows_any {q f : Addr} {self : Value} {Q : Bool → Shared → Prop} (hq : s.heap.get? q = some (methodObj (.ref f) self)) (hf : FnAt f s.heap) (h : Q true s) : wpAny M A (borrowsExactly (.ref q)) Q E s := by
  obtain ⟨oc, od, fd, sl, ho⟩ := hf
  unfold borrowsExactly
  refine wpAny_bind (wpAny_load hq ?_)
  exact wpAny_bind (wpAny_load ho (wpAny_pure h))
end
section
variable {prog : Program} {w : World} {A : Around} {E : Value → Shared → Prop} {s : Shared} {ci q f : Addr} {self : Value} {x : Str} {t : Tok}
theorem ci_iter {o : Obj} {Q : Value → Shared → Prop} (ho : s.heap.get? ci = some o) (hc : o.cls = .type "callable_iterator") (h : Q (.ref ci) s) : wpAny (model prog w) A (pyIter (.ref ci)) Q E s := by
  have hT : s.TypeIs (.ref ci) "callable_iterator" := ⟨o, ho, hc⟩
  refine wpAny_pyIter_slot hT slot_ci_iter (wpAny_call_entry slot_ci_iter hT entry_ci_iter ?_ (args_ci_iter _))
  show wpAny _ _ (ret (.ref ci)) _ _ s
  exact wpAny_pure ⟨_, rfl, "callable_iterator", _, hT, slot_ci_next.lookup, h⟩
theorem call_iter2 {Q : Value → Shared → Prop} (hq : s.heap.get? q = some (methodObj (.ref f) self))
    (h : Q (.ref s.heap.objs.size) { s with heap := s.heap.push (ciO q x t) }) : wpAny (model prog w) A (call (.builtin "iter") [.ref q, .str x t]) Q E s := by
  refine call_function_entry kind_iter plain_iter entry_iter (args_iter _ _) ?_
  unfold Builtin.«iter»
  refine wpAny_bind (m := someArgs "iter" 1 2 _) (wpAny_pure ?_)
  dsimp only
  refine wpAny_bind (wpAny_specialOf (T := "method") ⟨_, hq, rfl⟩ method_callable ?_)
  rw [if_neg (by simp)]
  refine wpAny_bind (wpAny_rule ?_)
  refine wpAny_bind ?_
  exact wpAny_newObj_type (wpAny_pure ⟨_, rfl, h⟩) (by show (3 : Nat) ≤ sizeLine + 2; decide)
theorem stop_any {α : Type} {M : Model} {s : Shared} {Q : α → Shared → Prop} (hh : A.handled = none) (h : ∀ h' e, (∀ b o, s.heap.get? b = some o → h'.get? b = some o) → (∃ o, h'.get? e = some o ∧ o.cls = .type "StopIteration") → E (.ref e) { s with heap := h' }) :
    wpAny M A (SmallTypes.stopIteration : Sem α) Q E s := by
  show wpAny _ _ (newExc (.type "StopIteration") [] >>= _) _ _ _
  refine wpAny_bind ?_
  simp only [newExc, newTuple]
  refine wpAny_bind (wpAny_newObj_type ?_ (by size_fits))
  refine wpAny_bind (m := firstArgMember _ _) (wpAny_of_eq (a := Value.none) (by first | rfl | (simp only [firstArgMember]; rfl)) ?_)
  refine wpAny_newObj_type ?_ (by size_fits)
  simp only [raiseNew]
  refine wpAny_bind (wpAny_handled ?_)
  rw [hh]
  refine wpAny_bind (wpAny_pure (wpAny_throw ?_))
  exact h _ _ (fun b o e => Heap.get?_push_of_some _ (Heap.get?_push_of_some _ e)) ⟨_, Heap.get?_push_size _ rfl, rfl⟩

theorem ci_next {Q : Option Value → Shared → Prop} (hh : A.handled = none) (hci : s.heap.get? ci = some (ciO q x t)) (hq : s.heap.get? q = some (methodObj (.ref f) self)) (hf : FnAt f s.heap)
    (hc : codeAny (model prog w) A.in1 (.call (.ref f) ⟨[self], []⟩) (fun r s' => ∃ y ty, r = .ok (.ret (.str y ty)) ∧ s'.heap.get? ci = some (ciO q x t) ∧ s'.heap.get? q = some (methodObj (.ref f) self) ∧ FnAt f s'.heap ∧
      (x = y → ∀ h', (∀ b o, b ≠ ci → s'.heap.get? b = some o → h'.get? b = some o) → h'.get? ci = some ciEnd → Q none { s' with heap := h' }) ∧ (x ≠ y → Q (some (.str y ty)) s')) s) :
    wpAny (model prog w) A (pyNext (.ref ci)) Q E s := by
  have hT : s.TypeIs (.ref ci) "callable_iterator" := ⟨_, hci, rfl⟩
  unfold pyNext
  refine wpAny_bind (wpAny_attempt (wpAny_callSpecial?_slot (name := Str.ofString "__next__") hT slot_ci_next (wpAny_call_entry slot_ci_next hT entry_ci_next ?_ (args_ci_next _))))
  unfold «callable_iterator.__next__»
  refine wpAny_bind (m := slotArgs "__next__" 0 _) (wpAny_pure ?_)
  dsimp only
  refine wpAny_bind (wpAny_field hci rfl (x := .bool false) rfl ?_)
  rw [if_neg (by simp)]
  refine wpAny_bind ?_
  refine wpAny_field hci rfl (x := .ref q) rfl ?_
  refine wpAny_bind (wpAny_attempt ?_)
  unfold callOutOfASlot
  refine wpAny_bind (borrows_any hq hf ?_)
  rw [if_pos rfl]
  refine borrowed_any (method_call hq (codeAny_mono hc fun r s' h => ?_))
  obtain ⟨y, ty, rfl, hci', hq', hf', h1, h2⟩ := h
  dsimp only
  refine wpAny_bind (wpAny_field hci' rfl (x := .bool false) rfl ?_)
  rw [if_neg (by simp)]
  refine wpAny_bind ?_
  refine wpAny_field hci' rfl (x := .str x t) rfl ?_
  refine wpAny_bind (wpAny_holding (wpAny_eqBool_str ?_))
  by_cases he : x = y
  · rw [if_neg (by simp [he])]
    refine wpAny_bind (wpAny_rule ?_)
    refine wpAny_bind ?_
    show wpAny _ _ (do slotLetsGo "callable_iterator.__next__" (← field (.ref ci) 0) _; _) _ _ _
    refine wpAny_bind (wpAny_field hci' rfl (x := .ref q) rfl ?_)
    refine wpAny_bind ?_
    unfold slotLetsGo
    refine wpAny_bind (borrows_any hq' hf' ?_)
    rw [if_pos rfl]
    refine wpAny_pure ?_
    refine wpAny_bind (wpAny_setField_rec hci' (by show (0 : Nat) < 3; omega) fun k1 e1 b1 => ?_)
    refine wpAny_bind (wpAny_setField_rec e1 (by show (1 : Nat) < 3; omega) fun k2 e2 b2 => ?_)
    refine wpAny_setField_rec e2 (by show (2 : Nat) < 3; omega) fun k3 e3 b3 => ?_
    refine stop_any hh fun h' e hk hE => ?_
    obtain ⟨oe, he1, he2⟩ := hE
    dsimp only
    refine wpAny_bind (wpAny_isInstance (T := "StopIteration") (b := true) ⟨oe, he1, he2⟩ isSubtype_stop ?_)
    rw [if_pos rfl]
    refine wpAny_pure (h1 he h' (fun b o hb ho => hk b o ?_) (hk _ _ ?_))
    · exact b3.extBut b o hb (b2.extBut b o hb (b1.extBut b o hb ho))
    · exact e3
  · rw [if_pos (by simp [he])]
    exact wpAny_pure ⟨_, rfl, wpAny_pure (h2 he)⟩
theorem ci_ended {Q : Option Value → Shared → Prop} (hh : A.handled = none) (hci : s.heap.get? ci = some ciEnd) (h : ∀ h', (∀ b o, s.heap.get? b = some o → h'.get? b = some o) → Q none { s with heap := h' }) : wpAny (model prog w) A (pyNext (.ref ci)) Q E s := by
  have hT : s.TypeIs (.ref ci) "callable_iterator" := ⟨_, hci, rfl⟩
  unfold pyNext
  refine wpAny_bind (wpAny_attempt (wpAny_callSpecial?_slot (name := Str.ofString "__next__") hT slot_ci_next (wpAny_call_entry slot_ci_next hT entry_ci_next ?_ (args_ci_next _))))
  unfold «callable_iterator.__next__»
  refine wpAny_bind (m := slotArgs "__next__" 0 _) (wpAny_pure ?_)
  dsimp only
  refine wpAny_bind (wpAny_field hci rfl (x := .bool true) rfl ?_)
  rw [if_pos (by rfl)]
  refine wpAny_bind (wpAny_rule ?_)
  refine wpAny_bind (stop_any hh fun h' e hk hE => ?_)
  obtain ⟨oe, he1, he2⟩ := hE
  (try dsimp only)
  refine wpAny_bind (wpAny_isInstance (T := "StopIteration") (b := true) ⟨oe, he1, he2⟩ isSubtype_stop ?_)
  rw [if_pos rfl]
  exact wpAny_pure (h h' hk)
theorem iter_K {Q : Value → Shared → Prop} {h₀ : Heap} {L : Addr} {m : Str → Option Value} {news : List (Addr × Obj)} (F : Fr h₀ L s.heap m) (N : News h₀ L s.heap news) (hq : (q, methodObj (.ref f) self) ∈ news)
    (h : ∀ ci h', Fr h₀ L h' m → News h₀ L h' ((ci, ciO q x t) :: news) → (∀ p ∈ news, p.1 < ci) → Q (.ref ci) { s with heap := h' }) : wpAny (model prog w) A (call (.builtin "iter") [.ref q, .str x t]) Q E s :=
  call_iter2 (N _ hq).1 (h _ _ (F.push _) (N.push F _) fun p hp => Heap.lt_size (N p hp).1)
end
end Mine
end
-- part Kit3
section
open PySem PySem.W PyProof.Rows PySem.Calls
set_option Elab.async false
set_option maxRecDepth 100000
set_option maxHeartbeats 400000
set_option linter.unusedVariables false
namespace Mine
local macro_rules | `(tactic| walk_at "pad0") => `(tactic| skip)
local macro_rules | `(tactic| walk_at "pad1") => `(tactic| skip)
local macro_rules | `(tactic| walk_at "pad2") => `(tactic| skip)
local macro_rules | `(tactic| walk_at "pad3") => `(tactic| skip)
local macro_rules | `(tactic| walk_at "pad4") => `(tactic| skip)
local macro_rules | `(tactic| walk_at "pad5") => `(tactic| skip)
local macro_rules | `(tactic| walk_at "pad6") => `(tactic| skip)

abbrev ent (P : Params) (n : String) (k : Tok) (v : Value) : DictEntry := { hash := PyData.keyHash P (Str.ofString n), key := .str (Str.ofString n) k, val := v }
/-- a machine's dict -/
abbrev lexD (P : Params) (k1 k2 k3 k4 : Tok) (ln : Int) (tl : Tok) (st : Value) (ws : Str) (tw : Tok) (pb : Addr) : Obj :=
  dictOf [ent P "lineno" k1 (.int ln tl), ent P "instream" k2 st, ent P "whitespace" k3 (.str ws tw), ent P "pushback" k4 (.ref pb)] 4
abbrev stD (P : Params) (k1 k2 k3 k4 k5 : Tok) (v1 v2 v3 v4 : Value) (f : Addr) : Obj :=
  dictOf [ent P "lineno" k1 v1, ent P "instream" k2 v2, ent P "whitespace" k3 v3, ent P "pushback" k4 v4, ent P "read" k5 (.ref f)] 5
abbrev atO (p : Nat) (t : Tok) : Obj := listOf #[.int p t] 0
/-- what read(1) gives at p -/
def piece (sent : Str) (p : Nat) : Str := ⟨sent.cps.extract p (p + 1)⟩
/-- the row number at p -/
def lnAt (sent : Str) (p : Nat) : Int := 1 + ((sent.cps.toList.take p).count 10 : Nat)

theorem piece_lt {sent : Str} {p : Nat} (h : p < sent.cps.size) : piece sent p = ⟨#[sent.cps[p]]⟩ := by
  unfold piece
  congr 1
  apply Array.ext'
  simp [List.take_one, h]
theorem piece_ge {sent : Str} {p : Nat} (h : sent.cps.size ≤ p) : piece sent p = ⟨#[]⟩ := by
  unfold piece
  congr 1
  simp
  omega
theorem piece_ne {sent : Str} {p : Nat} (h : p < sent.cps.size) : Str.ofString "" ≠ piece sent p := by
  rw [piece_lt h]
  intro e
  have := congrArg (fun x : Str => x.cps.size) e
  simp at this
  exact absurd this (by decide)
theorem lnAt_step {sent : Str} {p : Nat} : lnAt sent p + (if piece sent p = Str.ofString "\n" then 1 else 0) = lnAt sent (p + (piece sent p).length) := by
  have e10 : Str.ofString "\n" = ⟨#[10]⟩ := by decide +kernel
  rw [e10]
  by_cases h : p < sent.cps.size
  · have hl : (piece sent p).length = 1 := by rw [piece_lt h]; rfl
    rw [hl, piece_lt h]
    unfold lnAt
    rw [List.take_add_one]
    have e : sent.cps.toList[p]? = some sent.cps[p] := by simp [h]
    rw [e]
    simp only [Option.toList_some, List.count_append, Str.mk.injEq]
    by_cases hc : sent.cps[p] = 10
    · rw [if_pos (by rw [hc]), hc]
      simp
      omega
    · rw [if_neg (by intro q; apply hc; simpa using q)]
      have : List.count 10 [sent.cps[p]] = 0 := by rw [List.count_singleton]; simp [hc]
      rw [this]
      omega
  · rw [piece_ge (by omega)]
    rw [if_neg (by intro q; simp at q)]
    show _ = lnAt sent (p + 0)
    rw [Nat.add_zero, Int.add_zero]

/-! what get_token reads, on plain lists -/
def tokQ : List Nat → List Nat × List Nat
  | [] => ([], [])
  | [c] => if c = 34 ∨ c = 92 then ([], []) else ([c], [])
  | c :: d :: r => if c = 34 then ([], d :: r) else if c = 92 then (d :: (tokQ r).1, (tokQ r).2) else (c :: (tokQ (d :: r)).1, (tokQ (d :: r)).2)
def tokP (ws : List Nat) : List Nat → List Nat × List Nat
  | [] => ([], [])
  | [c] => if c ∈ ws ∨ c = 92 then ([], []) else ([c], [])
  | c :: d :: r => if c ∈ ws then ([], d :: r) else if c = 92 then (d :: (tokP ws r).1, (tokP ws r).2) else (c :: (tokP ws (d :: r)).1, (tokP ws (d :: r)).2)
def tok (ws : List Nat) : List Nat → List Nat × List Nat
  | [] => ([], [])
  | c :: r => if c ∈ ws then tok ws r else if c = 34 then tokQ r else if c = 92 then (match r with | [] => ([], []) | d :: r' => (d :: (tokP ws r').1, (tokP ws r').2)) else (c :: (tokP ws r).1, (tokP ws r).2)

/-- a machine over a stream: its parts' places and what stays as it is -/
structure Lx where
  (lex lexd st std f atA pb : Addr)
  (k1 k2 k3 k4 j1 j2 j3 j4 j5 : Tok)
  (v1 v2 v3 v4 : Value)
  ws : Str
  tw : Tok
abbrev Lx.own (x : Lx) (C : Addr) (P : Params) (sent : Str) (p : Nat) (tl ta : Tok) : List (Addr × Obj) :=
  [(x.lex, instObj C x.lexd), (x.lexd, lexD P x.k1 x.k2 x.k3 x.k4 (lnAt sent p) tl (.ref x.st) x.ws x.tw x.pb), (x.st, instObj C x.std), (x.std, stD P x.j1 x.j2 x.j3 x.j4 x.j5 x.v1 x.v2 x.v3 x.v4 x.f), (x.atA, atO p ta)]

theorem nd6 {a b c d e f : Nat} (h : List.Nodup [a, b, c, d, e, f]) : List.Nodup [a, b, c, d, e] ∧ a ≠ f ∧ b ≠ f ∧ c ≠ f ∧ d ≠ f ∧ e ≠ f := by
  simp only [List.nodup_cons, List.mem_cons, List.not_mem_nil, or_false, not_or, not_false_eq_true, true_and] at h ⊢
  exact ⟨⟨⟨h.1.1, h.1.2.1, h.1.2.2.1, h.1.2.2.2.1⟩, ⟨h.2.1.1, h.2.1.2.1, h.2.1.2.2.1⟩, ⟨h.2.2.1.1, h.2.2.1.2.1⟩, h.2.2.2.1.1, List.nodup_nil⟩, h.1.2.2.2.2, h.2.1.2.2.2, h.2.2.1.2.2, h.2.2.2.1.2, h.2.2.2.2.1⟩
/-- the frame of get_token between two steps -/
abbrev gtM (lex ci : Addr) (tkn : List Nat) (t : Tok) (u : Str → Option Value) : Str → Option Value :=
  fun y => if y = Str.ofString "token" then some (.str ⟨tkn.toArray⟩ t) else if y = Str.ofString "fiter" then some (.ref ci) else if y = Str.ofString "self" then some (.ref lex) else u y
theorem gtM_of {g h : Heap} {L lex ci : Addr} {tkn : List Nat} {t : Tok} {y : Str} {m : Str → Option Value} (F : Fr g L h m) (e1 : m (Str.ofString "token") = some (.str y t)) (e2 : m (Str.ofString "fiter") = some (.ref ci)) (e3 : m (Str.ofString "self") = some (.ref lex)) (hy : y = ⟨tkn.toArray⟩) :
    Fr g L h (gtM lex ci tkn t m) := by
  subst hy
  have : gtM lex ci tkn t m = m := by
    funext y
    unfold gtM
    by_cases h1 : y = Str.ofString "token"
    · rw [if_pos h1, h1, e1]
    · rw [if_neg h1]
      by_cases h2 : y = Str.ofString "fiter"
      · rw [if_pos h2, h2, e2]
      · rw [if_neg h2]
        by_cases h3 : y = Str.ofString "self"
        · rw [if_pos h3, h3, e3]
        · rw [if_neg h3]
  rw [this]; exact F

theorem not_in_ws {ws : Str} {c : Nat} (h : (Builtin.Str.occurrences ws ⟨#[c]⟩ 0 ws.length 1).isEmpty = true) : c ∉ ws.cps.toList := by
  have e := StrLaws.found_one ws c
  rw [h] at e
  simpa using e.symm
theorem in_ws {ws : Str} {c : Nat} (h : (Builtin.Str.occurrences ws ⟨#[c]⟩ 0 ws.length 1).isEmpty = false) : c ∈ ws.cps.toList := by
  have e := StrLaws.found_one ws c
  rw [h] at e
  simpa using e.symm
theorem ofQ : Str.ofString "\"" = ⟨#[34]⟩ := by decide +kernel
theorem ofB : Str.ofString "\\" = ⟨#[92]⟩ := by decide +kernel
theorem one34 {c : Nat} (h : ((⟨#[c]⟩ : Str) == Str.ofString "\"") = true) : c = 34 := by
  rw [ofQ] at h
  simpa using h
theorem one34_no {c : Nat} (h : ((⟨#[c]⟩ : Str) == Str.ofString "\"") = false) : c ≠ 34 := by
  rw [ofQ] at h
  simpa using h
theorem one92 {c : Nat} (h : ((⟨#[c]⟩ : Str) == Str.ofString "\\") = true) : c = 92 := by
  rw [ofB] at h
  simpa using h
theorem one92_no {c : Nat} (h : ((⟨#[c]⟩ : Str) == Str.ofString "\\") = false) : c ≠ 92 := by
  rw [ofB] at h
  simpa using h
theorem app_str (a b : Str) : a ++ b = ⟨(a.cps.toList ++ b.cps.toList).toArray⟩ := by
  show Str.append a b = _
  unfold Str.append
  simp
theorem app_lit (a : List Nat) (b : Str) : (⟨a.toArray⟩ : Str) ++ b = ⟨(a ++ b.cps.toList).toArray⟩ := by rw [app_str]

theorem drop_here {sent : Str} {p : Nat} (h : p < sent.cps.size) : sent.cps.toList.drop p = sent.cps[p] :: sent.cps.toList.drop (p + 1) := by
  have h' : p < sent.cps.toList.length := by simpa using h
  rw [List.drop_eq_getElem_cons h']
  simp
theorem drop_end {sent : Str} {p : Nat} (h : sent.cps.size ≤ p) : sent.cps.toList.drop p = [] := by simp; omega

theorem tokQ_q (r : List Nat) : tokQ (34 :: r) = ([], r) := by cases r <;> simp [tokQ]
theorem tokQ_b (d : Nat) (r : List Nat) : tokQ (92 :: d :: r) = (d :: (tokQ r).1, (tokQ r).2) := by simp [tokQ]
theorem tokQ_b0 : tokQ [92] = ([], []) := by simp [tokQ]
theorem tokQ_o {c : Nat} (r : List Nat) (h1 : c ≠ 34) (h2 : c ≠ 92) : tokQ (c :: r) = (c :: (tokQ r).1, (tokQ r).2) := by cases r <;> simp [tokQ, h1, h2]
section
variable {ws : List Nat}
theorem tokP_w {c : Nat} (r : List Nat) (h : c ∈ ws) : tokP ws (c :: r) = ([], r) := by cases r <;> simp [tokP, h]
theorem tokP_b (d : Nat) (r : List Nat) (h : 92 ∉ ws) : tokP ws (92 :: d :: r) = (d :: (tokP ws r).1, (tokP ws r).2) := by simp [tokP, h]
theorem tokP_b0 : tokP ws [92] = ([], []) := by simp [tokP]
theorem tokP_o {c : Nat} (r : List Nat) (h1 : c ∉ ws) (h2 : c ≠ 92) : tokP ws (c :: r) = (c :: (tokP ws r).1, (tokP ws r).2) := by cases r <;> simp [tokP, h1, h2]
theorem tok_w {c : Nat} (r : List Nat) (h : c ∈ ws) : tok ws (c :: r) = tok ws r := by simp [tok, h]
theorem tok_q (r : List Nat) (h : 34 ∉ ws) : tok ws (34 :: r) = tokQ r := by simp [tok, h]
theorem tok_b (d : Nat) (r : List Nat) (h : 92 ∉ ws) : tok ws (92 :: d :: r) = (d :: (tokP ws r).1, (tokP ws r).2) := by simp [tok, h]
theorem tok_b0 (h : 92 ∉ ws) : tok ws [92] = ([], []) := by simp [tok, h]
theorem tok_o {c : Nat} (r : List Nat) (h1 : c ∉ ws) (h2 : c ≠ 34) (h3 : c ≠ 92) : tok ws (c :: r) = (c :: (tokP ws r).1, (tokP ws r).2) := by simp [tok, h1, h2, h3]
end

/-- a backslash at p and what it leaves, plain or quoted -/
theorem tokQ_at_b {sent : Str} {p : Nat} (h : p < sent.cps.size) (hb : sent.cps[p] = 92) :
    (tokQ (sent.cps.toList.drop p)).1 = (piece sent (p + 1)).cps.toList ++ (tokQ (sent.cps.toList.drop (p + 1 + (piece sent (p + 1)).length))).1 ∧ (tokQ (sent.cps.toList.drop p)).2 = (tokQ (sent.cps.toList.drop (p + 1 + (piece sent (p + 1)).length))).2 := by
  by_cases h1 : p + 1 < sent.cps.size
  · rw [piece_lt h1, drop_here h, drop_here h1, hb, tokQ_b]
    exact ⟨rfl, rfl⟩
  · rw [piece_ge (by omega), drop_here h, drop_end (p := p + 1) (by omega), hb, tokQ_b0]
    show _ = [] ++ (tokQ (sent.cps.toList.drop (p + 1 + 0))).1 ∧ _ = (tokQ (sent.cps.toList.drop (p + 1 + 0))).2
    rw [Nat.add_zero, drop_end (p := p + 1) (by omega)]
    exact ⟨rfl, rfl⟩
theorem tokP_at_b {ws : List Nat} {sent : Str} {p : Nat} (h : p < sent.cps.size) (hb : sent.cps[p] = 92) (hw : 92 ∉ ws) :
    (tokP ws (sent.cps.toList.drop p)).1 = (piece sent (p + 1)).cps.toList ++ (tokP ws (sent.cps.toList.drop (p + 1 + (piece sent (p + 1)).length))).1 ∧ (tokP ws (sent.cps.toList.drop p)).2 = (tokP ws (sent.cps.toList.drop (p + 1 + (piece sent (p + 1)).length))).2 := by
  by_cases h1 : p + 1 < sent.cps.size
  · rw [piece_lt h1, drop_here h, drop_here h1, hb, tokP_b _ _ hw]
    exact ⟨rfl, rfl⟩
  · rw [piece_ge (by omega), drop_here h, drop_end (p := p + 1) (by omega), hb, tokP_b0]
    show _ = [] ++ (tokP ws (sent.cps.toList.drop (p + 1 + 0))).1 ∧ _ = (tokP ws (sent.cps.toList.drop (p + 1 + 0))).2
    rw [Nat.add_zero, drop_end (p := p + 1) (by omega)]
    exact ⟨rfl, rfl⟩
theorem tok_at_b {ws : List Nat} {sent : Str} {p : Nat} (h : p < sent.cps.size) (hb : sent.cps[p] = 92) (hw : 92 ∉ ws) :
    (tok ws (sent.cps.toList.drop p)).1 = (piece sent (p + 1)).cps.toList ++ (tokP ws (sent.cps.toList.drop (p + 1 + (piece sent (p + 1)).length))).1 ∧ (tok ws (sent.cps.toList.drop p)).2 = (tokP ws (sent.cps.toList.drop (p + 1 + (piece sent (p + 1)).length))).2 := by
  by_cases h1 : p + 1 < sent.cps.size
  · rw [piece_lt h1, drop_here h, drop_here h1, hb, tok_b _ _ hw]
    exact ⟨rfl, rfl⟩
  · rw [piece_ge (by omega), drop_here h, drop_end (p := p + 1) (by omega), hb, tok_b0 hw]
    show _ = [] ++ (tokP ws (sent.cps.toList.drop (p + 1 + 0))).1 ∧ _ = (tokP ws (sent.cps.toList.drop (p + 1 + 0))).2
    rw [Nat.add_zero, drop_end (p := p + 1) (by omega)]
    exact ⟨rfl, rfl⟩
theorem piece_len {sent : Str} {p : Nat} (h : p ≤ sent.cps.size) : p + (piece sent p).length ≤ sent.cps.size := by
  by_cases h1 : p < sent.cps.size
  · rw [piece_lt h1]; exact h1
  · rw [piece_ge (by omega)]; exact h
theorem drop_len {sent : Str} {p : Nat} (h : p ≤ sent.cps.size) : p = sent.cps.size - (sent.cps.toList.drop p).length := by simp; omega

theorem sep3 {x : Lx} {q ci : Addr} (hnd : List.Nodup [x.lex, x.lexd, x.st, x.std, x.atA, x.pb]) (hq : x.pb < q ∧ x.lex < q ∧ x.lexd < q ∧ x.st < q ∧ x.std < q ∧ x.atA < q) (hci : q < ci) {C : Addr} {P : Params} {sent : Str} {p : Nat} {tl ta : Tok} {o1 o2 o3 : Obj} :
    ∀ r ∈ [(ci, o1), (q, o2), (x.pb, o3)], r.1 ∉ (x.own C P sent p tl ta).map (·.1) := by
  obtain ⟨nd, e1, e2, e3, e4, e5⟩ := nd6 hnd
  obtain ⟨q1, q2, q3, q4, q5, q6⟩ := hq
  have neq : ∀ b : Nat, b < q → b ≠ ci := fun b hb => Nat.ne_of_lt (Nat.lt_trans hb hci)
  intro r hr
  have l1 := neq _ q2; have l2 := neq _ q3; have l3 := neq _ q4; have l4 := neq _ q5; have l5 := neq _ q6
  have m1 := Nat.ne_of_lt q2; have m2 := Nat.ne_of_lt q3; have m3 := Nat.ne_of_lt q4; have m4 := Nat.ne_of_lt q5; have m5 := Nat.ne_of_lt q6
  simp at hr
  rcases hr with rfl | rfl | rfl
  · simp; exact ⟨Ne.symm l1, Ne.symm l2, Ne.symm l3, Ne.symm l4, Ne.symm l5⟩
  · simp; exact ⟨Ne.symm m1, Ne.symm m2, Ne.symm m3, Ne.symm m4, Ne.symm m5⟩
  · simp; exact ⟨Ne.symm e1, Ne.symm e2, Ne.symm e3, Ne.symm e4, Ne.symm e5⟩
theorem fit1 {a : List Nat} {y : Str} (h : a.length ≤ 1000000) (hy : y.length ≤ 1) : Str.length ⟨a.toArray⟩ + y.length ≤ sizeLine := by
  have e24 : sizeLine = 16777216 := by decide
  have : Str.length ⟨a.toArray⟩ = a.length := by simp [Str.length]
  omega
theorem piece_le1 (sent : Str) (p : Nat) : (piece sent p).length ≤ 1 := by
  by_cases h1 : p < sent.cps.size
  · rw [piece_lt h1]; exact Nat.le_refl 1
  · rw [piece_ge (by omega)]; exact Nat.zero_le 1
theorem tokQ_len : ∀ l : List Nat, (tokQ l).1.length ≤ l.length
  | [] => by simp [tokQ]
  | [c] => by by_cases h : c = 34 ∨ c = 92 <;> simp [tokQ, h]
  | c :: d :: r => by
    have h1 := tokQ_len r
    have h2 := tokQ_len (d :: r)
    unfold tokQ
    by_cases a : c = 34
    · simp [a]
    · by_cases b : c = 92
      · simp [b]; omega
      · simp [a, b] at h2 ⊢; exact h2
theorem tokP_len (ws : List Nat) : ∀ l : List Nat, (tokP ws l).1.length ≤ l.length
  | [] => by simp [tokP]
  | [c] => by by_cases h : c ∈ ws ∨ c = 92 <;> simp [tokP, h]
  | c :: d :: r => by
    have h1 := tokP_len ws r
    have h2 := tokP_len ws (d :: r)
    unfold tokP
    by_cases a : c ∈ ws
    · simp [a]
    · by_cases b : c = 92
      · subst b; simp [a]; omega
      · simp [a, b] at h2 ⊢; exact h2
theorem tok_len (ws : List Nat) : ∀ l : List Nat, (tok ws l).1.length ≤ l.length
  | [] => by simp [tok]
  | c :: r => by
    have h1 := tok_len ws r
    have h2 := tokQ_len r
    have h3 := tokP_len ws r
    unfold tok
    by_cases a : c ∈ ws
    · simp [a]; omega
    · by_cases b : c = 34
      · subst b; simp [a]; omega
      · by_cases d : c = 92
        · subst d
          cases r with
          | nil => simp [a]
          | cons e r' => have := tokP_len ws r'; simp [a]; omega
        · simp [a, b, d]; exact h3
end Mine
end
-- part Kit4
section
open PySem PySem.W PyProof.Rows PySem.Calls
set_option Elab.async false
set_option maxRecDepth 100000
set_option maxHeartbeats 400000
set_option linter.unusedVariables false
namespace Mine
local macro_rules | `(tactic| walk_at "pad0") => `(tactic| skip)
local macro_rules | `(tactic| walk_at "pad1") => `(tactic| skip)
local macro_rules | `(tactic| walk_at "pad2") => `(tactic| skip)
local macro_rules | `(tactic| walk_at "pad3") => `(tactic| skip)
local macro_rules | `(tactic| walk_at "pad4") => `(tactic| skip)
local macro_rules | `(tactic| walk_at "pad5") => `(tactic| skip)
local macro_rules | `(tactic| walk_at "pad6") => `(tactic| skip)
local macro_rules | `(tactic| walk_at "pad7") => `(tactic| skip)
open Builtin Builtin.Str
theorem idx_clip (a b n : Nat) : strSliceIndices (some (a : Int)) (some (b : Int)) 1 n = strSliceIndices (some ((min a n : Nat) : Int)) (some ((min b n : Nat) : Int)) 1 n := by
  unfold strSliceIndices
  have h1 : ¬ ((a : Int) < 0) := by omega
  have h2 : ¬ ((b : Int) < 0) := by omega
  have h3 : ¬ (((min a n : Nat) : Int) < 0) := by omega
  have h4 : ¬ (((min b n : Nat) : Int) < 0) := by omega
  simp only [h1, h2, h3, h4, if_false, show (1 : Int) > 0 by decide, if_true]
  congr 1
  · omega
  · omega
theorem idx_empty {a b n : Nat} (h : b ≤ a) : strSliceIndices (some (a : Int)) (some (b : Int)) 1 n = [] := by
  unfold strSliceIndices sliceRange
  have h1 : ¬ ((a : Int) < 0) := by omega
  have h2 : ¬ ((b : Int) < 0) := by omega
  simp only [h1, h2, if_false, show (1 : Int) > 0 by decide, if_true]
  rw [if_neg (by omega)]
  rfl
theorem slice_nat (x : PySem.Str) (a b : Nat) : Txt.slice x (some (a : Int)) (some (b : Int)) = ⟨((x.cps.toList.drop a).take (b - a)).toArray⟩ := by
  show StrLaws.sliceText x _ _ = _
  by_cases h : a ≤ b
  · have e : StrLaws.sliceText x (some (a : Int)) (some (b : Int)) = StrLaws.sliceText x (some ((min a x.length : Nat) : Int)) (some ((min b x.length : Nat) : Int)) := by
      unfold StrLaws.sliceText; rw [idx_clip]
    rw [e, StrLaws.sliceText_nat x (by omega) (by omega)]
    have hl : x.length = x.cps.toList.length := by simp [PySem.Str.length]
    congr 2
    rw [hl]
    generalize x.cps.toList = l
    by_cases h1 : a ≤ l.length
    · rw [Nat.min_eq_left h1]
      by_cases h2 : b ≤ l.length
      · rw [Nat.min_eq_left h2]
      · rw [show min b l.length = l.length by omega, List.take_of_length_le (by simp), List.take_of_length_le (by simp; omega)]
    · rw [show min a l.length = l.length by omega, List.drop_of_length_le (Nat.le_refl _), List.drop_of_length_le (by omega)]
      simp
  · unfold StrLaws.sliceText
    rw [idx_empty (by omega), show b - a = 0 by omega, List.take_zero]
    by_cases h0 : x.length = 0
    · rw [if_pos (by simp [h0])]
      cases x with | mk c => have : c = #[] := by simpa [PySem.Str.length] using h0
                             rw [this]
    · rw [if_neg (by simp; omega)]
      rfl
theorem slice_piece (sent : PySem.Str) (n : Nat) : Txt.slice sent (some (n : Int)) (some ((n : Int) + 1)) = piece sent n := by
  have := slice_nat sent n (n + 1)
  rw [show ((n + 1 : Nat) : Int) = (n : Int) + 1 by omega] at this
  rw [this]
  unfold piece
  congr 1
  apply Array.ext'
  simp
theorem slice_to (x : PySem.Str) (b : Nat) : Txt.slice x none (some (b : Int)) = ⟨(x.cps.toList.take b).toArray⟩ := by
  have e : Txt.slice x none (some (b : Int)) = Txt.slice x (some ((0 : Nat) : Int)) (some (b : Int)) := by
    show StrLaws.sliceText x _ _ = StrLaws.sliceText x _ _
    unfold StrLaws.sliceText; rw [StrLaws.sliceIdx_none_lo]; rfl
  rw [e, slice_nat]
  simp
end Mine
end
-- part Kit5
section
open PySem PySem.W PyProof.Rows PySem.Calls
set_option Elab.async false
set_option maxRecDepth 100000
set_option maxHeartbeats 400000
set_option linter.unusedVariables false
namespace Mine
local macro_rules | `(tactic| walk_at "pad0") => `(tactic| skip)
local macro_rules | `(tactic| walk_at "pad1") => `(tactic| skip)
local macro_rules | `(tactic| walk_at "pad2") => `(tactic| skip)
local macro_rules | `(tactic| walk_at "pad3") => `(tactic| skip)
local macro_rules | `(tactic| walk_at "pad4") => `(tactic| skip)
local macro_rules | `(tactic| walk_at "pad5") => `(tactic| skip)
local macro_rules | `(tactic| walk_at "pad6") => `(tactic| skip)
local macro_rules | `(tactic| walk_at "pad7") => `(tactic| skip)
local macro_rules | `(tactic| walk_at "pad8") => `(tactic| skip)
abbrev liO (D : Addr) (i : Nat) : Obj := { cls := .type "list_iterator", data := .fields #[.ref D, .int i 0] }
abbrev riO (x left step : Int) : Obj := { cls := .type "range_iterator", data := .fields #[rawInt x, rawInt left, rawInt step] }
section
variable {prog : Program} {w : World} {A : Around} {E : Value → Shared → Prop} {s : Shared} {h₀ : Heap} {L it D : Addr} {m : Str → Option Value} {news : List (Addr × Obj)} {its : Array Value} {i : Nat}
theorem fr_sameBut {h' : Heap} (F : Fr h₀ L s.heap m) (hit : h₀.get? it = none) (hL : it ≠ L) (hs : Heap.SameBut it s.heap h') : Fr h₀ L h' m := by
  obtain ⟨oL, es, ep, hL', rL⟩ := F.ns
  exact ⟨⟨oL, es, ep, (hs.2 _ (Ne.symm hL)).trans hL', rL⟩, fun b o e => (hs.2 b (fun z => by rw [z, hit] at e; cases e)).trans (F.keep b o e), F.above⟩
theorem fr_extBut {h' : Heap} (F : Fr h₀ L s.heap m) (hit : h₀.get? it = none) (hL : it ≠ L) (hs : Heap.ExtBut it s.heap h') : Fr h₀ L h' m := by
  obtain ⟨oL, es, ep, hL', rL⟩ := F.ns
  exact ⟨⟨oL, es, ep, hs _ _ (Ne.symm hL) hL', rL⟩, fun b o e => hs b o (fun z => by rw [z, hit] at e; cases e) (F.keep b o e), F.above⟩
theorem liter_K {Q : Value → Shared → Prop} (F : Fr h₀ L s.heap m) (N : News h₀ L s.heap news) (hD : s.heap.IsList D its)
    (h : ∀ it h', Fr h₀ L h' m → News h₀ L h' ((it, liO D 0) :: news) → (∀ p ∈ news, p.1 < it) → Q (.ref it) { s with heap := h' }) : wpAny (model prog w) A (pyIter (.ref D)) Q E s :=
  wpAny_pyIter_list hD (h _ _ (F.push _) (N.push F _) fun p hp => Heap.lt_size (N p hp).1)
theorem lnext_K {Q : Option Value → Shared → Prop} (hh : A.handled = none) (F : Fr h₀ L s.heap m) (N : News h₀ L s.heap ((it, liO D i) :: news)) (hD : s.heap.IsList D its) (hne : ∀ p ∈ news, p.1 ≠ it)
    (h1 : ∀ v, its[i]? = some v → ∀ h', Fr h₀ L h' m → News h₀ L h' ((it, liO D (i + 1)) :: news) → Q (some v) { s with heap := h' })
    (h2 : its[i]? = none → ∀ h', Fr h₀ L h' m → News h₀ L h' news → Q none { s with heap := h' }) : wpAny (model prog w) A (pyNext (.ref it)) Q E s := by
  obtain ⟨hit, hL, h0⟩ := N _ (.head _)
  have hI : s.heap.IsListIter it D i := ⟨_, hit, rfl, rfl⟩
  cases hx : its[i]? with
  | none => exact wpAny_pyNext_list_end hh hI hD hx fun h' hs => h2 hx h' (fr_extBut F h0 hL hs) fun p hp => ⟨hs _ _ (hne p hp) (N p (.tail _ hp)).1, (N p (.tail _ hp)).2⟩
  | some v =>
    obtain ⟨ol, hol, _, nl, hdl⟩ := hD
    unfold pyNext
    refine wpAny_bind (wpAny_attempt (wpAny_callSpecial?_slot (name := Str.ofString "__next__") hI.typeIs slot_listiter_next
      (wpAny_call_entry slot_listiter_next hI.typeIs entry_listiter_next ?_ (args_listiter_next _))))
    show wpAny _ _ (field (.ref it) 0 >>= _) _ _ s
    refine wpAny_bind (wpAny_field hit rfl (x := .ref D) rfl ?_)
    show wpAny _ _ (if (Value.ref D == Value.none) = true then _ else _) _ _ s
    rw [if_neg (show ¬ ((Value.ref D == Value.none) = true) from Bool.false_ne_true)]
    show wpAny _ _ (field (.ref it) 1 >>= _) _ _ s
    refine wpAny_bind (wpAny_field hit rfl (x := .int i 0) rfl ?_)
    show wpAny _ _ (seqItems? (.ref D) >>= _) _ _ s
    refine wpAny_bind (wpAny_seqItems hol hdl ?_)
    simp only [Int.toNat_natCast, hx]
    refine wpAny_bind (wpAny_setField_rec hit (by show (1 : Nat) < 2; omega) fun h' e1 b1 => wpAny_pure ⟨v, rfl, wpAny_pure ?_⟩)
    refine h1 v hx h' (fr_sameBut F h0 hL b1) fun p hp => ?_
    rcases List.mem_cons.mp hp with rfl | hp
    · exact ⟨e1, hL, h0⟩
    · exact ⟨(b1.2 _ (hne p hp)).trans (N p (.tail _ hp)).1, (N p (.tail _ hp)).2⟩
theorem rnext_K {x left step : Int} {Q : Option Value → Shared → Prop} (hh : A.handled = none) (F : Fr h₀ L s.heap m) (N : News h₀ L s.heap ((it, riO x left step) :: news)) (hne : ∀ p ∈ news, p.1 ≠ it)
    (h1 : 0 < left → ∀ h' t tk, Fr h₀ L h' m → News h₀ L h' ((it, riO (x + step) (left - 1) step) :: news) → Q (some (.int x t)) { s with heap := h', toks := tk })
    (h2 : left ≤ 0 → ∀ h', Fr h₀ L h' m → News h₀ L h' news → Q none { s with heap := h' }) : wpAny (model prog w) A (pyNext (.ref it)) Q E s := by
  obtain ⟨hit, hL, h0⟩ := N _ (.head _)
  by_cases hl : 0 < left
  · refine wpAny_pyNext_range_item hit hl fun h' hi' hs => h1 hl h' _ _ (fr_sameBut F h0 hL hs) fun p hp => ?_
    rcases List.mem_cons.mp hp with rfl | hp
    · exact ⟨hi', hL, h0⟩
    · exact ⟨(hs.2 _ (hne p hp)).trans (N p (.tail _ hp)).1, (N p (.tail _ hp)).2⟩
  · exact wpAny_pyNext_range_end hh hit (by omega) fun h' hs => h2 (by omega) h' (fr_extBut F h0 hL hs) fun p hp => ⟨hs _ _ (hne p hp) (N p (.tail _ hp)).1, (N p (.tail _ hp)).2⟩
end

section
variable {prog : Program} {w : World} {A : Around} {E : Value → Shared → Prop} {s : Shared} {h₀ : Heap} {L r : Addr} {m : Str → Option Value} {news : List (Addr × Obj)}
theorem riter_K {n : Nat} {t u v : Tok} {Q : Value → Shared → Prop} (F : Fr h₀ L s.heap m) (N : News h₀ L s.heap news) (hr : IsRange s.heap r 0 (n : Int) 1 t u v) (hn : n ≤ 1000000)
    (h : ∀ it h', Fr h₀ L h' m → News h₀ L h' ((it, riO 0 n 1) :: news) → (∀ p ∈ news, p.1 < it) → Q (.ref it) { s with heap := h' }) : wpAny (model prog w) A (pyIter (.ref r)) Q E s := by
  have e : Builtin.Range.rangeSize 0 (n : Int) 1 = (n : Int) := by
    unfold Builtin.Range.rangeSize
    simp
    omega
  refine wpAny_pyIter_range hr ?_ ?_
  · unfold Builtin.Range.small Builtin.Range.rangeFitsLong
    simp
    omega
  · rw [e]
    exact h _ _ (F.push _) (N.push F _) fun p hp => Heap.lt_size (N p hp).1
end
section
variable {g h : Heap} {L : Addr} {m : Str → Option Value}
theorem canon1 (F : Fr g L h m) (a : Str) {v : Value} (e : m a = some v) : Fr g L h (fun y => if y = a then some v else m y) := by
  have : (fun y => if y = a then some v else m y) = m := by
    funext y
    by_cases h1 : y = a
    · rw [if_pos h1, h1, e]
    · rw [if_neg h1]
  rw [this]; exact F
theorem canon2 (F : Fr g L h m) (a b : Str) {v v2 : Value} (e : m a = some v) (e2 : m b = some v2) : Fr g L h (fun y => if y = a then some v else if y = b then some v2 else m y) := by
  have F2 := canon1 (canon1 F b e2) a (v := v) (by by_cases q : a = b; · { subst q; rw [e2] at e; cases e; simp } ; · { rw [if_neg q]; exact e })
  exact F2
theorem canon3 (F : Fr g L h m) (a b c : Str) {v v2 v3 : Value} (e : m a = some v) (e2 : m b = some v2) (e3 : m c = some v3) : Fr g L h (fun y => if y = a then some v else if y = b then some v2 else if y = c then some v3 else m y) := by
  have F2 := canon1 (canon2 F b c e2 e3) a (v := v) (by by_cases q : a = b; · { subst q; rw [e2] at e; cases e; simp } ; · { rw [if_neg q]; by_cases q2 : a = c; · { subst q2; rw [e3] at e; cases e; simp }; · { rw [if_neg q2]; exact e } })
  exact F2
end
end Mine
end
-- part Kit6
section
open PySem PySem.W PyProof.Rows PySem.Calls
set_option Elab.async false
set_option maxRecDepth 100000
set_option maxHeartbeats 400000
set_option linter.unusedVariables false
namespace Mine
local macro_rules | `(tactic| walk_at "pad0") => `(tactic| skip)
local macro_rules | `(tactic| walk_at "pad1") => `(tactic| skip)
local macro_rules | `(tactic| walk_at "pad2") => `(tactic| skip)
local macro_rules | `(tactic| walk_at "pad3") => `(tactic| skip)
local macro_rules | `(tactic| walk_at "pad4") => `(tactic| skip)
local macro_rules | `(tactic| walk_at "pad5") => `(tactic| skip)
local macro_rules | `(tactic| walk_at "pad6") => `(tactic| skip)
local macro_rules | `(tactic| walk_at "pad7") => `(tactic| skip)
local macro_rules | `(tactic| walk_at "pad8") => `(tactic| skip)
local macro_rules | `(tactic| walk_at "pad9") => `(tactic| skip)
/-- the pieces of a text -/
def pcs : Option Nat → List Nat → List (List Nat)
  | _, [] => []
  | a, c :: r => if c = 13 ∨ c = 10 then (if c = 13 ∨ a ≠ some 13 then [13, 10] :: pcs (some c) r else pcs (some c) r) else if c = 46 ∧ (a = none ∨ a = some 13 ∨ a = some 10) then [46, 46] :: pcs (some c) r else [c] :: pcs (some c) r
abbrev strsO (l : List (Str × Tok)) (n : Nat) : Obj := listOf (strValues l).toArray n
abbrev lists (l : List (Str × Tok)) : List (List Nat) := l.map fun q => q.1.cps.toList

def prevAt (x : Str) (i : Nat) : Option Nat := if i = 0 then none else x.cps[i - 1]?
def aheadS : Option Nat → Str
  | none => ⟨#[]⟩
  | some a => ⟨#[a]⟩
theorem push_strs (l : List (Str × Tok)) (q : Str) (tq : Tok) : (strValues l).toArray.push (.str q tq) = (strValues (l ++ [(q, tq)])).toArray := by simp [strValues]
theorem ofCRLF : (Str.ofString "\r\n").cps.toList = [13, 10] := by decide +kernel
theorem ofCR : Str.ofString "\r" = ⟨#[13]⟩ := by decide +kernel
theorem ofLF : Str.ofString "\n" = ⟨#[10]⟩ := by decide +kernel
theorem ofDot : Str.ofString "." = ⟨#[46]⟩ := by decide +kernel
theorem ofNil : Str.ofString "" = ⟨#[]⟩ := by decide +kernel
end Mine
end
-- part Kit7
section
open PySem PySem.W PyProof.Rows PySem.Calls
set_option Elab.async false
set_option maxRecDepth 100000
set_option maxHeartbeats 400000
set_option linter.unusedVariables false
namespace Mine
local macro_rules | `(tactic| walk_at "pad0") => `(tactic| skip)
local macro_rules | `(tactic| walk_at "pad1") => `(tactic| skip)
local macro_rules | `(tactic| walk_at "pad2") => `(tactic| skip)
local macro_rules | `(tactic| walk_at "pad3") => `(tactic| skip)
local macro_rules | `(tactic| walk_at "pad4") => `(tactic| skip)
local macro_rules | `(tactic| walk_at "pad5") => `(tactic| skip)
local macro_rules | `(tactic| walk_at "pad6") => `(tactic| skip)
local macro_rules | `(tactic| walk_at "pad7") => `(tactic| skip)
local macro_rules | `(tactic| walk_at "pad8") => `(tactic| skip)
local macro_rules | `(tactic| walk_at "pad9") => `(tactic| skip)
local macro_rules | `(tactic| walk_at "pad10") => `(tactic| skip)
section
variable {prog : Program} {w : World} {A : Around} {E : Value → Shared → Prop} {s : Shared} {g : Heap} {L P : Addr} {m : Str → Option Value} {news : List (Addr × Obj)} {l : List (Str × Tok)} {value slice : Expr} {k : Nat} {u : Tok} {Q : Value → Shared → Prop}
theorem strVals_at (h : k < l.length) : (strValues l)[k]? = some (.str l[k].1 l[k].2) := by simp [strValues, h]
theorem strs_item (hP : s.heap.IsList P (strValues l).toArray) (hl : l.length ≤ 1000000) (hk : k < l.length) (h : Q (.str l[k].1 l[k].2) s)
    (hs : subscripted slice false (.ref P) (.int (k : Int) u) = operate [.ref P, .int (k : Int) u] (getItem (.ref P) (.int (k : Int) u)) := by with_unfolding_all rfl) :
    wpAny (model prog w) A (subscriptTail value slice (.ref P) (.int (k : Int) u)) Q E s :=
  tail_any hP.typeIs slot_list_getitem.lookup (wpAny_getItem_list hP (by omega) (by omega) (by simpa using strVals_at hk) h) hs
theorem strs_len (hP : s.heap.IsList P (strValues l).toArray) (hl : l.length ≤ 1000000) (h : ∀ t tk, Q (.int (l.length : Int) t) { s with toks := tk }) : wpAny (model prog w) A (call (.builtin "len") [.ref P]) Q E s := by
  have e : (strValues l).toArray.size = l.length := by simp [strValues]
  refine call_len_list hP (by rw [e]; omega) ?_
  rw [e]
  exact h _ _
end
end Mine
end
-- part Kit8
section
open PySem PySem.W PyProof.Rows PySem.Calls PySem.SeqAt
set_option Elab.async false
set_option maxRecDepth 100000
set_option maxHeartbeats 400000
set_option linter.unusedVariables false
namespace Mine
local macro_rules | `(tactic| walk_at "pad0") => `(tactic| skip)
local macro_rules | `(tactic| walk_at "pad1") => `(tactic| skip)
local macro_rules | `(tactic| walk_at "pad2") => `(tactic| skip)
local macro_rules | `(tactic| walk_at "pad3") => `(tactic| skip)
local macro_rules | `(tactic| walk_at "pad4") => `(tactic| skip)
local macro_rules | `(tactic| walk_at "pad5") => `(tactic| skip)
local macro_rules | `(tactic| walk_at "pad6") => `(tactic| skip)
local macro_rules | `(tactic| walk_at "pad7") => `(tactic| skip)
local macro_rules | `(tactic| walk_at "pad8") => `(tactic| skip)
local macro_rules | `(tactic| walk_at "pad9") => `(tactic| skip)
local macro_rules | `(tactic| walk_at "pad10") => `(tactic| skip)
local macro_rules | `(tactic| walk_at "pad11") => `(tactic| skip)
/-- do two lists agree at j -/
def eqAtJ (xs ys : List Str) (j : Nat) : Bool := xs.getD j ⟨#[]⟩ == ys.getD j ⟨#[]⟩
theorem getD_at {α : Type} {xs : List α} {j : Nat} {d : α} (h : j < xs.length) : xs.getD j d = xs[j] := by simp [List.getD_eq_getElem?_getD, h]
theorem all_eqAtJ : ∀ {xs ys : List Str}, xs.length = ys.length → (List.range xs.length).all (eqAtJ xs ys) = decide (xs = ys) := by
  intro xs ys h
  rw [Bool.eq_iff_iff, List.all_eq_true, decide_eq_true_iff]
  constructor
  · intro q
    refine List.ext_getElem h fun i h1 h2 => ?_
    have := q i (List.mem_range.mpr h1)
    unfold eqAtJ at this
    rw [beq_iff_eq, getD_at h1, getD_at h2] at this
    exact this
  · rintro rfl i _
    exact beq_self_eq_true _
section
variable {prog : Program} {w : World} {A : Around} {E : Value → Shared → Prop} {s : Shared} {a b : Addr} {l l2 : List (Str × Tok)} {Q : Value → Shared → Prop}
theorem strs_eqAt (j : Nat) (h1 : j < (strValues l).toArray.size) (h2 : j < (strValues l2).toArray.size) : EqAt A s (strValues l).toArray[j] (strValues l2).toArray[j] (eqAtJ (l.map (·.1)) (l2.map (·.1)) j) := by
  have g1 : j < l.length := by simpa [strValues] using h1
  have g2 : j < l2.length := by simpa [strValues] using h2
  have e1 : (strValues l).toArray[j] = .str l[j].1 l[j].2 := by simp [strValues]
  have e2 : (strValues l2).toArray[j] = .str l2[j].1 l2[j].2 := by simp [strValues]
  rw [e1, e2]
  have e3 : eqAtJ (l.map (·.1)) (l2.map (·.1)) j = (l[j].1 == l2[j].1) := by
    unfold eqAtJ
    rw [getD_at (by simpa using g1), getD_at (by simpa using g2)]
    simp
  rw [e3]
  exact EqAt.str_str _ _ _ _
theorem strs_size : (strValues l).toArray.size = (l.map (·.1)).length := by simp [strValues]
theorem strs_ne (ha : s.heap.IsList a (strValues l).toArray) (hb : s.heap.IsList b (strValues l2).toArray) (hu : A.units < cLine) (h : Q (.bool (!decide (l.map (·.1) = l2.map (·.1)))) s) :
    wpAny (model prog w) A (compareOp .NotEq (.ref a) (.ref b)) Q E s := by
  by_cases hs : (l.map (·.1)).length = (l2.map (·.1)).length
  · have := RcNeAt.lists (A := A) ha hb (by rw [strs_size, strs_size, hs]) hu (fun j h1 h2 => strs_eqAt j h1 h2)
    rw [strs_size, all_eqAtJ hs] at this
    exact this prog w E Q h
  · have e : decide (l.map (·.1) = l2.map (·.1)) = false := decide_eq_false fun q => hs (by rw [q])
    rw [e] at h
    exact RcNeAt.lists_lengths (A := A) ha hb (by rw [strs_size, strs_size]; simpa using hs) hu prog w E Q h
/-- a text and two numbers against their like -/
theorem trip_ne {x y : Str} {i j i2 j2 : Int} {t1 t2 t3 u1 u2 u3 : Tok} (ha : s.heap.IsTuple a #[.str x t1, .int i t2, .int j t3]) (hb : s.heap.IsTuple b #[.str y u1, .int i2 u2, .int j2 u3]) (hu : A.units < cLine) (h : Q (.bool (!(x == y && i == i2 && j == j2))) s) :
    wpAny (model prog w) A (compareOp .NotEq (.ref a) (.ref b)) Q E s := by
  have := RcNeAt.tuples (A := A) (e := fun k => if k = 0 then x == y else if k = 1 then i == i2 else j == j2) ha hb hu (fun k h1 h2 => by
    match k, h1, h2 with
    | 0, _, _ => exact EqAt.str_str _ _ _ _
    | 1, _, _ => exact (MeetsSeq.EqGives.int i i2 t2 u2).at _ _
    | 2, _, _ => exact (MeetsSeq.EqGives.int j j2 t3 u3).at _ _
    | k + 3, h1, _ => exact absurd h1 (by simp))
  have e : (!((List.range (min (#[Value.str x t1, .int i t2, .int j t3] : Array Value).size (#[Value.str y u1, .int i2 u2, .int j2 u3] : Array Value).size)).all (fun k => if k = 0 then x == y else if k = 1 then i == i2 else j == j2) && (#[Value.str x t1, .int i t2, .int j t3] : Array Value).size == (#[Value.str y u1, .int i2 u2, .int j2 u3] : Array Value).size)) = (!(x == y && i == i2 && j == j2)) := by
    simp [List.range_succ, Bool.and_assoc]
  rw [e] at this
  exact this prog w E Q h
end
theorem len_app (a b : Str) : (a ++ b).length = a.length + b.length := by rw [app_str]; simp [Str.length]
section
variable {prog : Program} {w : World} {A : Around} {E : Value → Shared → Prop} {s : Shared} {D : Addr} {Q : Value → Shared → Prop}
end
theorem canon4 {g h : Heap} {L : Addr} {m : Str → Option Value} (F : Fr g L h m) (a1 a2 a3 a4 : Str) {v1 v2 v3 v4 : Value} (e1 : m a1 = some v1) (e2 : m a2 = some v2) (e3 : m a3 = some v3) (e4 : m a4 = some v4) : Fr g L h (fun y => if y = a1 then some v1 else if y = a2 then some v2 else if y = a3 then some v3 else if y = a4 then some v4 else m y) := by
  have : (fun y => if y = a1 then some v1 else if y = a2 then some v2 else if y = a3 then some v3 else if y = a4 then some v4 else m y) = m := by
    funext y
    by_cases h1 : y = a1
    · rw [if_pos h1, h1, e1]
    rw [if_neg h1]
    by_cases h2 : y = a2
    · rw [if_pos h2, h2, e2]
    rw [if_neg h2]
    by_cases h3 : y = a3
    · rw [if_pos h3, h3, e3]
    rw [if_neg h3]
    by_cases h4 : y = a4
    · rw [if_pos h4, h4, e4]
    rw [if_neg h4]
  rw [this]; exact F
theorem canon5 {g h : Heap} {L : Addr} {m : Str → Option Value} (F : Fr g L h m) (a1 a2 a3 a4 a5 : Str) {v1 v2 v3 v4 v5 : Value} (e1 : m a1 = some v1) (e2 : m a2 = some v2) (e3 : m a3 = some v3) (e4 : m a4 = some v4) (e5 : m a5 = some v5) : Fr g L h (fun y => if y = a1 then some v1 else if y = a2 then some v2 else if y = a3 then some v3 else if y = a4 then some v4 else if y = a5 then some v5 else m y) := by
  have : (fun y => if y = a1 then some v1 else if y = a2 then some v2 else if y = a3 then some v3 else if y = a4 then some v4 else if y = a5 then some v5 else m y) = m := by
    funext y
    by_cases h1 : y = a1
    · rw [if_pos h1, h1, e1]
    rw [if_neg h1]
    by_cases h2 : y = a2
    · rw [if_pos h2, h2, e2]
    rw [if_neg h2]
    by_cases h3 : y = a3
    · rw [if_pos h3, h3, e3]
    rw [if_neg h3]
    by_cases h4 : y = a4
    · rw [if_pos h4, h4, e4]
    rw [if_neg h4]
    by_cases h5 : y = a5
    · rw [if_pos h5, h5, e5]
    rw [if_neg h5]
  rw [this]; exact F
theorem canon6 {g h : Heap} {L : Addr} {m : Str → Option Value} (F : Fr g L h m) (a1 a2 a3 a4 a5 a6 : Str) {v1 v2 v3 v4 v5 v6 : Value} (e1 : m a1 = some v1) (e2 : m a2 = some v2) (e3 : m a3 = some v3) (e4 : m a4 = some v4) (e5 : m a5 = some v5) (e6 : m a6 = some v6) : Fr g L h (fun y => if y = a1 then some v1 else if y = a2 then some v2 else if y = a3 then some v3 else if y = a4 then some v4 else if y = a5 then some v5 else if y = a6 then some v6 else m y) := by
  have : (fun y => if y = a1 then some v1 else if y = a2 then some v2 else if y = a3 then some v3 else if y = a4 then some v4 else if y = a5 then some v5 else if y = a6 then some v6 else m y) = m := by
    funext y
    by_cases h1 : y = a1
    · rw [if_pos h1, h1, e1]
    rw [if_neg h1]
    by_cases h2 : y = a2
    · rw [if_pos h2, h2, e2]
    rw [if_neg h2]
    by_cases h3 : y = a3
    · rw [if_pos h3, h3, e3]
    rw [if_neg h3]
    by_cases h4 : y = a4
    · rw [if_pos h4, h4, e4]
    rw [if_neg h4]
    by_cases h5 : y = a5
    · rw [if_pos h5, h5, e5]
    rw [if_neg h5]
    by_cases h6 : y = a6
    · rw [if_pos h6, h6, e6]
    rw [if_neg h6]
  rw [this]; exact F
theorem canon7 {g h : Heap} {L : Addr} {m : Str → Option Value} (F : Fr g L h m) (a1 a2 a3 a4 a5 a6 a7 : Str) {v1 v2 v3 v4 v5 v6 v7 : Value} (e1 : m a1 = some v1) (e2 : m a2 = some v2) (e3 : m a3 = some v3) (e4 : m a4 = some v4) (e5 : m a5 = some v5) (e6 : m a6 = some v6) (e7 : m a7 = some v7) : Fr g L h (fun y => if y = a1 then some v1 else if y = a2 then some v2 else if y = a3 then some v3 else if y = a4 then some v4 else if y = a5 then some v5 else if y = a6 then some v6 else if y = a7 then some v7 else m y) := by
  have : (fun y => if y = a1 then some v1 else if y = a2 then some v2 else if y = a3 then some v3 else if y = a4 then some v4 else if y = a5 then some v5 else if y = a6 then some v6 else if y = a7 then some v7 else m y) = m := by
    funext y
    by_cases h1 : y = a1
    · rw [if_pos h1, h1, e1]
    rw [if_neg h1]
    by_cases h2 : y = a2
    · rw [if_pos h2, h2, e2]
    rw [if_neg h2]
    by_cases h3 : y = a3
    · rw [if_pos h3, h3, e3]
    rw [if_neg h3]
    by_cases h4 : y = a4
    · rw [if_pos h4, h4, e4]
    rw [if_neg h4]
    by_cases h5 : y = a5
    · rw [if_pos h5, h5, e5]
    rw [if_neg h5]
    by_cases h6 : y = a6
    · rw [if_pos h6, h6, e6]
    rw [if_neg h6]
    by_cases h7 : y = a7
    · rw [if_pos h7, h7, e7]
    rw [if_neg h7]
  rw [this]; exact F
end Mine
end
-- part Kit9
section
open PySem PySem.W PyProof.Rows PySem.Calls
set_option Elab.async false
set_option maxRecDepth 100000
set_option maxHeartbeats 400000
set_option linter.unusedVariables false
namespace Mine
local macro_rules | `(tactic| walk_at "pad0") => `(tactic| skip)
local macro_rules | `(tactic| walk_at "pad1") => `(tactic| skip)
local macro_rules | `(tactic| walk_at "pad2") => `(tactic| skip)
local macro_rules | `(tactic| walk_at "pad3") => `(tactic| skip)
local macro_rules | `(tactic| walk_at "pad4") => `(tactic| skip)
local macro_rules | `(tactic| walk_at "pad5") => `(tactic| skip)
local macro_rules | `(tactic| walk_at "pad6") => `(tactic| skip)
local macro_rules | `(tactic| walk_at "pad7") => `(tactic| skip)
local macro_rules | `(tactic| walk_at "pad8") => `(tactic| skip)
local macro_rules | `(tactic| walk_at "pad9") => `(tactic| skip)
local macro_rules | `(tactic| walk_at "pad10") => `(tactic| skip)
local macro_rules | `(tactic| walk_at "pad11") => `(tactic| skip)
local macro_rules | `(tactic| walk_at "pad12") => `(tactic| skip)
theorem carried_snoc {y : Value} {d : PyData} (h : Carried y d) : ∀ {ys : List Value} {ds : List PyData}, CarriedAll ys ds → CarriedAll (ys ++ [y]) (ds ++ [d])
  | _, _, .nil => .cons h .nil
  | _, _, .cons a r => .cons a (carried_snoc h r)
/-- what a comprehension's turn must leave -/
def CompTurn (d : PyData) (s : Shared) (h : Heap) (y : Value) (s' : Shared) : Prop := Carried y d ∧ ∃ tk', s' = { s with heap := h, toks := tk' }
section
variable {prog : Program} {w : World} {A : Around} {s : Shared} {h₀ : Heap} {L : Addr} {m : Str → Option Value} {env : Env} {elt : Expr} {x : Str} {scope : Scope} {cl : List (Str × Addr)} {S : List (Addr × Obj) → Prop} {Fin : List Value → List (Addr × Obj) → Prop} {news : List (Addr × Obj)} {l : List (Str × Tok)}
end
section
variable {prog : Program} {w : World} {A : Around} {E : Value → Shared → Prop} {s : Shared} {D : Addr} {l : List (Str × Tok)} {Q : Value → Shared → Prop}
end
theorem ints_of_carried {f : (Str × Tok) → Int} : ∀ {l : List (Str × Tok)} {ys : List Value}, CarriedAll ys (l.map fun q => PyData.int (f q)) → IntsAre ys (l.map f)
  | [], _, h => by cases h; exact .nil
  | q :: r, _, h => by
    cases h with
    | cons a b =>
      cases a
      exact .cons _ _ (ints_of_carried b)
end Mine
end
-- part Kit10
section
open PySem PySem.W PyProof.Rows PySem.Calls
set_option Elab.async false
set_option maxRecDepth 100000
set_option maxHeartbeats 400000
set_option linter.unusedVariables false
namespace Mine
local macro_rules | `(tactic| walk_at "pad0") => `(tactic| skip)
local macro_rules | `(tactic| walk_at "pad1") => `(tactic| skip)
local macro_rules | `(tactic| walk_at "pad2") => `(tactic| skip)
local macro_rules | `(tactic| walk_at "pad3") => `(tactic| skip)
local macro_rules | `(tactic| walk_at "pad4") => `(tactic| skip)
local macro_rules | `(tactic| walk_at "pad5") => `(tactic| skip)
local macro_rules | `(tactic| walk_at "pad6") => `(tactic| skip)
local macro_rules | `(tactic| walk_at "pad7") => `(tactic| skip)
local macro_rules | `(tactic| walk_at "pad8") => `(tactic| skip)
local macro_rules | `(tactic| walk_at "pad9") => `(tactic| skip)
local macro_rules | `(tactic| walk_at "pad10") => `(tactic| skip)
local macro_rules | `(tactic| walk_at "pad11") => `(tactic| skip)
local macro_rules | `(tactic| walk_at "pad12") => `(tactic| skip)
local macro_rules | `(tactic| walk_at "pad13") => `(tactic| skip)
open Builtin Builtin.Str StrLaws
/-- replace, on plain lists -/
def rep (y z : List Nat) : Nat → List Nat → List Nat
  | _, [] => []
  | k + 1, _ :: r => rep y z k r
  | 0, c :: r => if y.isPrefixOf (c :: r) = true then z ++ rep y z (y.length - 1) r else c :: rep y z 0 r
def occL (y : List Nat) : Nat → Nat → List Nat → List Nat
  | _, _, [] => []
  | i, f, c :: r => if f ≤ i ∧ y.isPrefixOf (c :: r) = true then i :: occL y (i + 1) (i + y.length) r else occL y (i + 1) f r
def joinL (z : List Nat) : List (List Nat) → List Nat
  | [] => []
  | [p] => p
  | p :: q :: r => p ++ z ++ joinL z (q :: r)
theorem join_toList (z : PySem.Str) : ∀ ps : List PySem.Str, (PySem.Str.join z ps).cps.toList = joinL z.cps.toList (ps.map fun p => p.cps.toList)
  | [] => rfl
  | [p] => rfl
  | p :: q :: r => by
    have ih := join_toList z (q :: r)
    show (p ++ z ++ PySem.Str.join z (q :: r)).cps.toList = _
    simp only [PySem.Str.cps_append, Array.toList_append, ih]
    rfl
theorem prefix_take {y l : List Nat} : y.isPrefixOf l = true ↔ l.take y.length = y := by
  rw [List.isPrefixOf_iff_prefix]
  constructor
  · rintro ⟨t, rfl⟩; simp
  · intro h
    have e := List.take_append_drop y.length l
    rw [h] at e
    exact ⟨_, e⟩
theorem occ_list (x y : PySem.Str) (hy : 1 ≤ y.length) (limit : Nat) : ∀ (k i f : Nat) (arr : Array Nat), i + k = x.length + 1 → arr.size + k ≤ limit →
    (forIn (List.range' i k) (arr, f) (occBody x y x.length limit)).run.fst.toList = arr.toList ++ occL y.cps.toList i f (x.cps.toList.drop i) := by
  have hn : x.cps.toList.length = x.length := by simp [PySem.Str.length]
  have hyl : y.cps.toList.length = y.length := by simp [PySem.Str.length]
  intro k
  induction k with
  | zero =>
    intro i f arr hi hl
    have e : x.cps.toList.drop i = [] := List.drop_of_length_le (by omega)
    rw [e]
    show arr.toList = _
    simp [occL]
  | succ k ih =>
    intro i f arr hi hl
    rw [List.range'_succ, List.forIn_cons]
    unfold occBody
    by_cases hlt : i < x.length
    · have hi' : i < x.cps.toList.length := by omega
      rw [List.drop_eq_getElem_cons hi']
      by_cases hc : f ≤ i ∧ y.cps.toList.isPrefixOf (x.cps.toList.drop i) = true
      · have ht := prefix_take.mp hc.2
        have hle : i + y.length ≤ x.length := by
          have := congrArg List.length ht
          simp only [List.length_take, List.length_drop] at this
          omega
        have hs : subAt x y i = true := by rw [subAt_eq, ← hyl, ht]; exact beq_self_eq_true _
        rw [if_pos ⟨⟨⟨by show arr.size < limit; omega, hc.1⟩, hle⟩, hs⟩]
        have := ih (i + 1) (i + y.length) (arr.push i) (by omega) (by simp; omega)
        unfold occBody at this
        show _ = arr.toList ++ occL y.cps.toList i f (x.cps.toList[i] :: x.cps.toList.drop (i + 1))
        rw [occL, if_pos (by rw [← List.drop_eq_getElem_cons hi']; exact hc)]
        rw [hyl]
        have e2 : arr.toList ++ i :: occL y.cps.toList (i + 1) (i + y.length) (x.cps.toList.drop (i + 1)) = (arr.push i).toList ++ occL y.cps.toList (i + 1) (i + y.length) (x.cps.toList.drop (i + 1)) := by simp
        rw [e2]
        exact this
      · rw [if_neg (fun q => hc ⟨q.1.1.2, by
          have q2 := q.2
          rw [subAt_eq, beq_iff_eq, ← hyl] at q2
          exact prefix_take.mpr q2⟩)]
        have := ih (i + 1) f arr (by omega) (by omega)
        unfold occBody at this
        show _ = arr.toList ++ occL y.cps.toList i f (x.cps.toList[i] :: x.cps.toList.drop (i + 1))
        rw [occL, if_neg (by rw [← List.drop_eq_getElem_cons hi']; exact hc)]
        exact this
    · rw [if_neg (fun q => by have := q.1.2; omega)]
      have := ih (i + 1) f arr (by omega) (by omega)
      unfold occBody at this
      have e : x.cps.toList.drop i = [] := List.drop_of_length_le (by omega)
      have e' : x.cps.toList.drop (i + 1) = [] := List.drop_of_length_le (by omega)
      rw [e]
      rw [e'] at this
      simp only [occL] at this ⊢
      exact this
theorem occs_list (x y : PySem.Str) (hy : 1 ≤ y.length) : occurrences x y 0 x.length (x.length + 1) = occL y.cps.toList 0 0 x.cps.toList := by
  rw [occ_eq]
  have := occ_list x y hy (x.length + 1) (x.length + 1) 0 0 #[] (by omega) (by simp)
  rw [List.drop_zero] at this
  simpa using this
theorem join_parts (x y z : PySem.Str) (hy : 1 ≤ y.length) : ∀ (k i a : Nat), i + k = x.length → 
    (PySem.Str.join z (partsFrom x y.length a (occL y.cps.toList i a (x.cps.toList.drop i)))).cps.toList = (x.cps.toList.drop a).take (i - a) ++ rep y.cps.toList z.cps.toList (a - i) (x.cps.toList.drop i) := by
  have hn : x.cps.toList.length = x.length := by simp [PySem.Str.length]
  have hyl : y.cps.toList.length = y.length := by simp [PySem.Str.length]
  intro k
  induction k with
  | zero =>
    intro i a hi
    have e : x.cps.toList.drop i = [] := List.drop_of_length_le (by omega)
    rw [e]
    have e2 : rep y.cps.toList z.cps.toList (a - i) [] = [] := by cases (a - i) <;> rfl
    rw [e2, List.append_nil]
    show (strSub x a x.length).cps.toList = _
    rw [strSub_toList, show x.length = i by omega]
  | succ k ih =>
    intro i a hi
    have hi' : i < x.cps.toList.length := by omega
    rw [List.drop_eq_getElem_cons hi']
    by_cases ha : a ≤ i
    · by_cases hp : y.cps.toList.isPrefixOf (x.cps.toList[i] :: x.cps.toList.drop (i + 1)) = true
      · rw [occL, if_pos ⟨ha, hp⟩, hyl]
        have h1 := ih (i + 1) (i + y.length) (by omega)
        obtain ⟨p, r, e⟩ := partsFrom_ne x y.length (i + y.length) (occL y.cps.toList (i + 1) (i + y.length) (x.cps.toList.drop (i + 1)))
        show (PySem.Str.join z (strSub x a i :: partsFrom x y.length (i + y.length) _)).cps.toList = _
        rw [e] at h1 ⊢
        show (strSub x a i ++ z ++ PySem.Str.join z (p :: r)).cps.toList = _
        simp only [PySem.Str.cps_append, Array.toList_append, h1, strSub_toList]
        rw [show i + 1 - (i + y.length) = 0 by omega, List.take_zero, List.nil_append, show a - i = 0 by omega, rep, if_pos hp, hyl, show i + y.length - (i + 1) = y.length - 1 by omega, List.append_assoc]
      · rw [occL, if_neg (fun q => hp q.2), ih (i + 1) a (by omega), show a - i = 0 by omega, show a - (i + 1) = 0 by omega, rep, if_neg hp]
        have e3 : (x.cps.toList.drop a).take (i + 1 - a) = (x.cps.toList.drop a).take (i - a) ++ [x.cps.toList[i]] := by
          rw [show i + 1 - a = (i - a) + 1 by omega, List.take_add_one, List.getElem?_drop, show a + (i - a) = i by omega, List.getElem?_eq_getElem hi']
          rfl
        rw [e3, List.append_assoc]
        rfl
    · rw [occL, if_neg (fun q => ha q.1), ih (i + 1) a (by omega)]
      obtain ⟨j, hj⟩ : ∃ j, a - i = j + 1 := ⟨a - i - 1, by omega⟩
      rw [hj, rep, show a - (i + 1) = j by omega, show i + 1 - a = 0 by omega, show i - a = 0 by omega]
theorem replace_rep (x y z : PySem.Str) (hy : 1 ≤ y.length) : (Txt.replace x y z).cps.toList = rep y.cps.toList z.cps.toList 0 x.cps.toList := by
  have key := join_parts x y z hy x.length 0 0 (by omega)
  rw [List.drop_zero, ← occs_list x y hy, ← partsBetween_eq, ← glued_eq_join] at key
  simp only [Nat.sub_self, List.take_zero, List.nil_append, List.drop_zero] at key
  unfold Txt.replace
  have e0 : (y.length == 0) = false := by rw [beq_eq_false_iff_ne]; omega
  rw [e0, Bool.false_and, Bool.or_false]
  cases he : (occurrences x y 0 x.length (x.length + 1)).isEmpty
  · rw [if_neg (by simp)]; exact key
  · rw [if_pos rfl, ← key]
    rw [List.isEmpty_iff.mp he, glued_eq_join, partsBetween_eq]
    show _ = (strSub x 0 x.length).cps.toList
    rw [sub_whole]
/-- one sign replaced -/
def subs1 (c : Nat) (z : List Nat) (l : List Nat) : List Nat := l.flatMap fun k => if k = c then z else [k]
theorem rep_one (c : Nat) (z : List Nat) : ∀ l : List Nat, rep [c] z 0 l = subs1 c z l
  | [] => rfl
  | k :: r => by
    have ih := rep_one c z r
    rw [rep]
    show (if (c == k && List.isPrefixOf [] r) = true then z ++ rep [c] z 0 r else k :: rep [c] z 0 r) = (if k = c then z else [k]) ++ subs1 c z r
    rw [ih]
    by_cases h : k = c
    · subst h; simp
    · have : (c == k) = false := by rw [beq_eq_false_iff_ne]; exact fun q => h q.symm
      simp [this, h]
/-- CRLF made a feed -/
def unCR : List Nat → List Nat
  | [] => []
  | [c] => [c]
  | c :: d :: r => if c = 13 ∧ d = 10 then 10 :: unCR r else c :: unCR (d :: r)
theorem rep_crlf : ∀ (n : Nat) (l : List Nat), l.length ≤ n → rep [13, 10] [10] 0 l = unCR l := by
  intro n
  induction n with
  | zero => intro l h; have : l = [] := List.length_eq_zero_iff.mp (by omega); subst this; rfl
  | succ n ih =>
    intro l h
    match l with
    | [] => rfl
    | [c] =>
      rw [rep]
      show (if (13 == c && List.isPrefixOf [10] []) = true then _ else c :: rep _ _ 0 []) = _
      simp [List.isPrefixOf, rep, unCR]
    | c :: d :: r =>
      have h1 := ih (d :: r) (by simp at h ⊢; omega)
      have h2 := ih r (by simp at h; omega)
      rw [rep, unCR]
      show (if (13 == c && (10 == d && List.isPrefixOf [] r)) = true then [10] ++ rep [13, 10] [10] 1 (d :: r) else c :: rep _ _ 0 (d :: r)) = _
      rw [h1, show rep [13, 10] [10] 1 (d :: r) = rep [13, 10] [10] 0 r by rw [rep], h2]
      by_cases hc : c = 13 ∧ d = 10
      · obtain ⟨rfl, rfl⟩ := hc
        simp
      · rw [if_neg hc, if_neg (by
          intro q
          apply hc
          simp at q
          exact ⟨q.1.symm, q.2.symm⟩)]
def spl (c : Nat) : List Nat → List (List Nat)
  | [] => [[]]
  | k :: r => if k = c then [] :: spl c r else (match spl c r with | [] => [[k]] | p :: ps => (k :: p) :: ps)
theorem spl_free (c : Nat) : ∀ p : List Nat, c ∉ p → spl c p = [p]
  | [], _ => rfl
  | k :: r, h => by
    have h1 : k ≠ c := fun e => h (e ▸ List.mem_cons_self ..)
    rw [spl, if_neg h1, spl_free c r (fun m => h (List.mem_cons_of_mem _ m))]
theorem spl_app (c : Nat) (r : List Nat) : ∀ p : List Nat, c ∉ p → spl c (p ++ c :: r) = p :: spl c r
  | [], _ => by show spl c (c :: r) = _; rw [spl, if_pos rfl]
  | k :: q, h => by
    have h1 : k ≠ c := fun e => h (e ▸ List.mem_cons_self ..)
    show spl c (k :: (q ++ c :: r)) = _
    rw [spl, if_neg h1, spl_app c r q (fun m => h (List.mem_cons_of_mem _ m))]
theorem spl_join (c : Nat) : ∀ ps : List (List Nat), ps ≠ [] → (∀ p ∈ ps, c ∉ p) → spl c (joinL [c] ps) = ps
  | [], h, _ => absurd rfl h
  | [p], _, h => spl_free c p (h p (List.mem_singleton.mpr rfl))
  | p :: q :: r, _, h => by
    have ih := spl_join c (q :: r) (by simp) fun a ha => h a (List.mem_cons_of_mem _ ha)
    show spl c (p ++ [c] ++ joinL [c] (q :: r)) = _
    rw [List.append_assoc, List.singleton_append, spl_app c _ p (h p (List.mem_cons_self ..)), ih]
theorem split_ne (x y : PySem.Str) : Txt.split x y ≠ [] := by
  unfold Txt.split
  split
  · simp
  · split
    · simp
    · rw [partsBetween_eq]
      obtain ⟨p, r, e⟩ := partsFrom_ne x y.length 0 (occurrences x y 0 x.length (x.length + 1))
      rw [e]; simp
theorem split_spl (x : PySem.Str) (c : Nat) : (Txt.split x ⟨#[c]⟩).map (fun p => p.cps.toList) = spl c x.cps.toList := by
  have h1 := join_split x ⟨#[c]⟩
  have h2 := congrArg (fun s : PySem.Str => s.cps.toList) h1
  simp only [join_toList] at h2
  rw [← h2]
  refine (spl_join c _ ?_ ?_).symm
  · simpa using split_ne x ⟨#[c]⟩
  · intro p hp
    obtain ⟨q, hq, rfl⟩ := List.mem_map.mp hp
    exact split_free x c q hq
/-- the rows of a text -/
def rowsOf (l : List Nat) : List (List Nat) := spl 10 (subs1 13 [10] (unCR l))
end Mine
end
-- part KitU
section
open PySem PySem.W PyProof.Rows PySem.Calls
set_option Elab.async false
set_option maxRecDepth 100000
set_option maxHeartbeats 400000
set_option linter.unusedVariables false
namespace Mine
local macro_rules | `(tactic| walk_at "pad0") => `(tactic| skip)
local macro_rules | `(tactic| walk_at "pad1") => `(tactic| skip)
local macro_rules | `(tactic| walk_at "pad2") => `(tactic| skip)
local macro_rules | `(tactic| walk_at "pad3") => `(tactic| skip)
local macro_rules | `(tactic| walk_at "pad4") => `(tactic| skip)
local macro_rules | `(tactic| walk_at "pad5") => `(tactic| skip)
local macro_rules | `(tactic| walk_at "pad6") => `(tactic| skip)
local macro_rules | `(tactic| walk_at "pad7") => `(tactic| skip)
local macro_rules | `(tactic| walk_at "pad8") => `(tactic| skip)
local macro_rules | `(tactic| walk_at "pad9") => `(tactic| skip)
local macro_rules | `(tactic| walk_at "pad10") => `(tactic| skip)
local macro_rules | `(tactic| walk_at "pad11") => `(tactic| skip)
local macro_rules | `(tactic| walk_at "pad12") => `(tactic| skip)
local macro_rules | `(tactic| walk_at "pad13") => `(tactic| skip)
local macro_rules | `(tactic| walk_at "pad14") => `(tactic| skip)
/-- numbers for texts are handed out upwards alone -/
theorem runs_up {M : Model} {Γ : Ctx} {p : Pos} {t : Sem Fin} {fs : List Frame} {s : Shared} {e : End} {s' : Shared} (h : Runs M Γ p t fs s e s') : s.toks ≤ s'.toks := by
  induction h with
  | fresh _ ih => simp only at ih; omega
  | call _ _ ih1 ih2 => exact Nat.le_trans ih1 ih2
  | resumeFresh _ _ _ _ ih1 ih2 => exact Nat.le_trans ih1 ih2
  | resumeSuspended _ _ _ _ ih1 ih2 => exact Nat.le_trans ih1 ih2
  | segRet _ _ ih1 ih2 => exact Nat.le_trans ih1 ih2
  | segGen _ _ ih1 ih2 => exact Nat.le_trans ih1 ih2
  | segSuspGen _ _ _ _ ih1 ih2 => exact Nat.le_trans ih1 ih2
  | _ => first | exact Nat.le_refl _ | assumption
theorem wakes_up {M : Model} {Γ : Ctx} {p : Pos} {g : Nat} {r : Resume} {s : Shared} {res : GenResult} {s' : Shared} (h : Wakes M Γ p g r s res s') : s.toks ≤ s'.toks := by
  unfold Wakes at h
  split at h
  · exact h.elim
  · split at h
    · obtain ⟨e₁, s₁, h1, _, _, rfl⟩ := h; have h2 := runs_up h1; exact h2
    · rw [h.2]; exact Nat.le_refl _
    · rw [h.2]; exact Nat.le_refl _
  · obtain ⟨e₁, s₁, h1, _, _, rfl⟩ := h; have h2 := runs_up h1; exact h2
  · rw [h.2]; exact Nat.le_refl _
  · rw [h.2]; exact Nat.le_refl _
theorem wp_up {α : Type} (M : Model) (Γ : Ctx) (n : Nat) (t : Sem α) : ∀ (Q : α → Pos → Shared → Prop) (E : Value → Pos → Shared → Prop) (p : Pos) (s : Shared), n ≤ s.toks →
    Sem.wp M Γ t (fun a p s' => n ≤ s'.toks → Q a p s') (fun e p s' => n ≤ s'.toks → E e p s') p s → Sem.wp M Γ t Q E p s := by
  induction t with
  | pure a => intro Q E p s hn h; exact h hn
  | raise e => intro Q E p s hn h; exact h hn
  | fresh k ih => intro Q E p s hn h; exact ih _ Q E p _ (Nat.le_succ_of_le hn) h
  | load a part k ih => intro Q E p s hn h; obtain ⟨o, ho, h⟩ := h; exact ⟨o, ho, ih _ Q E p _ hn h⟩
  | genState g k ih => intro Q E p s hn h; obtain ⟨o, ho, h⟩ := h; exact ⟨o, ho, ih _ Q E p _ hn h⟩
  | update a part f k ih => intro Q E p s hn h; exact ⟨h.1, ih _ Q E p _ hn h.2⟩
  | choose src m k ih => intro Q E p s hn h; exact ⟨h.1, ih _ Q E p _ hn h.2⟩
  | call c hd g l k ih => intro Q E p s hn h; obtain ⟨r, s', hr, h⟩ := h; exact ⟨r, s', hr, ih _ Q E p _ (Nat.le_trans hn (runs_up hr)) h⟩
  | resume g r l k ih => intro Q E p s hn h; obtain ⟨r, s', hr, h⟩ := h; exact ⟨r, s', hr, ih _ Q E p _ (Nat.le_trans hn (wakes_up hr)) h⟩
  | _ => intro Q E p s hn h; first | exact h.elim | (rename_i ih; exact ih _ Q E _ _ hn h)
section
variable {α : Type} {M : Model} {A : Around} {s : Shared}
theorem wpAny_up {t : Sem α} {Q : α → Shared → Prop} {E : Value → Shared → Prop} (n : Nat) (hn : n ≤ s.toks) (h : wpAny M A t (fun a s' => n ≤ s'.toks → Q a s') (fun e s' => n ≤ s'.toks → E e s') s) : wpAny M A t Q E s :=
  fun Γ p hΓ => wp_up M Γ n t _ _ p s hn (h Γ p hΓ)
end
end Mine
end
-- part Kit11
section
open PySem PySem.W PyProof.Rows PySem.Calls
set_option Elab.async false
set_option maxRecDepth 100000
set_option maxHeartbeats 400000
set_option linter.unusedVariables false
namespace Mine
local macro_rules | `(tactic| walk_at "pad0") => `(tactic| skip)
local macro_rules | `(tactic| walk_at "pad1") => `(tactic| skip)
local macro_rules | `(tactic| walk_at "pad2") => `(tactic| skip)
local macro_rules | `(tactic| walk_at "pad3") => `(tactic| skip)
local macro_rules | `(tactic| walk_at "pad4") => `(tactic| skip)
local macro_rules | `(tactic| walk_at "pad5") => `(tactic| skip)
local macro_rules | `(tactic| walk_at "pad6") => `(tactic| skip)
local macro_rules | `(tactic| walk_at "pad7") => `(tactic| skip)
local macro_rules | `(tactic| walk_at "pad8") => `(tactic| skip)
local macro_rules | `(tactic| walk_at "pad9") => `(tactic| skip)
local macro_rules | `(tactic| walk_at "pad10") => `(tactic| skip)
local macro_rules | `(tactic| walk_at "pad11") => `(tactic| skip)
local macro_rules | `(tactic| walk_at "pad12") => `(tactic| skip)
local macro_rules | `(tactic| walk_at "pad13") => `(tactic| skip)
local macro_rules | `(tactic| walk_at "pad14") => `(tactic| skip)
local macro_rules | `(tactic| walk_at "pad15") => `(tactic| skip)
/-- signs put ahead of the first row -/
def prep (a : List Nat) : List (List Nat) → List (List Nat)
  | [] => []
  | p :: ps => (a ++ p) :: ps
theorem unCR_o {c : Nat} (r : List Nat) (h : ¬ (c = 13 ∧ r.head? = some 10)) : unCR (c :: r) = c :: unCR r := by
  cases r with
  | nil => rfl
  | cons d r => rw [unCR, if_neg (by simpa using h)]
theorem spl_ne (c : Nat) : ∀ l : List Nat, spl c l ≠ []
  | [] => by simp [spl]
  | k :: r => by
    rw [spl]
    split
    · simp
    · split <;> simp
theorem spl_o {c k : Nat} (r : List Nat) (h : k ≠ c) : spl c (k :: r) = prep [k] (spl c r) := by
  rw [spl, if_neg h]
  have := spl_ne c r
  split
  · rename_i e; exact absurd e this
  · rename_i e; rw [e]; rfl
theorem rows_nil : rowsOf [] = [[]] := rfl
theorem subs1_cons (c k : Nat) (z r : List Nat) : subs1 c z (k :: r) = (if k = c then z else [k]) ++ subs1 c z r := by simp [subs1]
theorem rows_crlf (r : List Nat) : rowsOf (13 :: 10 :: r) = [] :: rowsOf r := by
  unfold rowsOf
  rw [unCR, if_pos ⟨rfl, rfl⟩, subs1_cons, if_neg (by decide)]
  show spl 10 (10 :: _) = _
  rw [spl, if_pos rfl]; rfl
theorem rows_cr (r : List Nat) (h : r.head? ≠ some 10) : rowsOf (13 :: r) = [] :: rowsOf r := by
  unfold rowsOf
  rw [unCR_o _ (fun q => h q.2), subs1_cons, if_pos rfl]
  show spl 10 (10 :: _) = _
  rw [spl, if_pos rfl]; rfl
theorem rows_lf (r : List Nat) : rowsOf (10 :: r) = [] :: rowsOf r := by
  unfold rowsOf
  rw [unCR_o _ (fun q => absurd q.1 (by decide)), subs1_cons, if_neg (by decide)]
  show spl 10 (10 :: _) = _
  rw [spl, if_pos rfl]; rfl
theorem rows_o {c : Nat} (r : List Nat) (h1 : c ≠ 10) (h2 : c ≠ 13) : rowsOf (c :: r) = prep [c] (rowsOf r) := by
  unfold rowsOf
  rw [unCR_o _ (fun q => h2 q.1), subs1_cons, if_neg h2]
  show spl 10 (c :: _) = _
  rw [spl_o _ h1]; rfl
theorem rows_ne (l : List Nat) : rowsOf l ≠ [] := spl_ne _ _
theorem prep_len {a : List Nat} {ps : List (List Nat)} : (prep a ps).length = ps.length := by cases ps <;> rfl
theorem joinL_prep (z a : List Nat) {ps : List (List Nat)} (h : ps ≠ []) : joinL z (prep a ps) = a ++ joinL z ps := by
  cases ps with
  | nil => exact absurd rfl h
  | cons p r => cases r with
    | nil => rfl
    | cons q r => simp [prep, joinL]
theorem joinL_cons (z p : List Nat) {ps : List (List Nat)} (h : ps ≠ []) : joinL z (p :: ps) = p ++ z ++ joinL z ps := by
  cases ps with
  | nil => exact absurd rfl h
  | cons q r => rfl
/-- a proof by the shape of a text: its end, its three line ends, another sign -/
theorem rows_ind {P : List Nat → Prop} (h0 : P []) (h1 : ∀ r, P r → P (13 :: 10 :: r)) (h2 : ∀ r, r.head? ≠ some 10 → P r → P (13 :: r)) (h3 : ∀ r, P r → P (10 :: r)) (h4 : ∀ c r, c ≠ 10 → c ≠ 13 → P r → P (c :: r)) (l : List Nat) : P l := by
  have : ∀ n (l : List Nat), l.length ≤ n → P l := by
    intro n
    induction n with
    | zero => intro l h; have : l = [] := List.length_eq_zero_iff.mp (by omega); subst this; exact h0
    | succ n ih =>
      intro l h
      cases l with
      | nil => exact h0
      | cons c r =>
        have hr := ih r (by simp at h; omega)
        by_cases c13 : c = 13
        · subst c13
          cases r with
          | nil => exact h2 _ (by simp) hr
          | cons d r' =>
            by_cases d10 : d = 10
            · subst d10; exact h1 _ (ih r' (by simp at h; omega))
            · exact h2 _ (by simpa using d10) hr
        · by_cases c10 : c = 10
          · subst c10; exact h3 _ hr
          · exact h4 _ _ c10 c13 hr
  exact this _ l (Nat.le_refl _)
theorem rows_free (l : List Nat) : ∀ p ∈ rowsOf l, 10 ∉ p ∧ 13 ∉ p := by
  induction l using rows_ind with
  | h0 => intro p hp; rw [rows_nil] at hp; simp at hp; subst hp; simp
  | h1 r ih => rw [rows_crlf]; intro p hp; rcases List.mem_cons.mp hp with rfl | hp; · simp
               · exact ih p hp
  | h2 r hr ih => rw [rows_cr _ hr]; intro p hp; rcases List.mem_cons.mp hp with rfl | hp; · simp
                  · exact ih p hp
  | h3 r ih => rw [rows_lf]; intro p hp; rcases List.mem_cons.mp hp with rfl | hp; · simp
               · exact ih p hp
  | h4 c r h1 h2 ih =>
    rw [rows_o _ h1 h2]
    have hne := rows_ne r
    cases hr : rowsOf r with
    | nil => exact absurd hr hne
    | cons p ps =>
      rw [hr] at ih
      intro q hq
      rcases List.mem_cons.mp hq with rfl | hq
      · have := ih p (.head _)
        simp only [List.singleton_append, List.mem_cons, not_or]
        exact ⟨⟨Ne.symm h1, this.1⟩, ⟨Ne.symm h2, this.2⟩⟩
      · exact ih q (.tail _ hq)
theorem crlf13 (r : List Nat) (h : r.head? ≠ some 10) : crlf (13 :: r) = 13 :: 10 :: crlf r := by
  cases r with
  | nil => rfl
  | cons d r => rw [crlf, if_neg (by simpa using h), if_pos (.inr rfl)]
theorem crlf10 (r : List Nat) : crlf (10 :: r) = 13 :: 10 :: crlf r := by
  cases r with
  | nil => rfl
  | cons d r => rw [crlf, if_neg (by simp), if_pos (.inl rfl)]
theorem crlf_rows (l : List Nat) : crlf l = joinL [13, 10] (rowsOf l) := by
  induction l using rows_ind with
  | h0 => rfl
  | h1 r ih => rw [rows_crlf, joinL_cons _ _ (rows_ne r), crlf, if_pos ⟨rfl, rfl⟩, ih]; rfl
  | h2 r hr ih => rw [rows_cr _ hr, joinL_cons _ _ (rows_ne r), crlf13 _ hr, ih]; rfl
  | h3 r ih => rw [rows_lf, joinL_cons _ _ (rows_ne r), crlf10, ih]; rfl
  | h4 c r h1 h2 ih => rw [rows_o _ h1 h2, joinL_prep _ _ (rows_ne r), crlf_other _ (by unfold is2; omega), ih]; rfl
def dotRow (p : List Nat) : List Nat := if p.head? = some 46 then 46 :: p else p
theorem dots_mid : ∀ (p r : List Nat), 10 ∉ p → dots false (p ++ r) = p ++ dots false r
  | [], _, _ => rfl
  | c :: p, r, h => by
    have h1 : c ≠ 10 := fun e => h (e ▸ List.mem_cons_self ..)
    show dots false (c :: (p ++ r)) = _
    rw [dots, if_neg (by simp), show (c == 10) = false by simpa using h1, dots_mid p r (fun m => h (List.mem_cons_of_mem _ m))]
    rfl
theorem dots_head (p r : List Nat) (h : 10 ∉ p) (hp : p ≠ []) : dots true (p ++ r) = dotRow p ++ dots false r := by
  cases p with
  | nil => exact absurd rfl hp
  | cons c p =>
    have h1 : c ≠ 10 := fun e => h (e ▸ List.mem_cons_self ..)
    have h2 : 10 ∉ p := fun m => h (List.mem_cons_of_mem _ m)
    show dots true (c :: (p ++ r)) = _
    unfold dotRow
    by_cases hc : c = 46
    · subst hc
      rw [dots, if_pos ⟨rfl, rfl⟩, dots_mid p r h2]
      rfl
    · rw [dots, if_neg (fun q => hc q.2), show (c == 10) = false by simpa using h1, dots_mid p r h2, if_neg (by simpa using hc)]
      rfl
theorem dots_row (p r : List Nat) (h : 10 ∉ p) : dots true (p ++ [13, 10] ++ r) = dotRow p ++ [13, 10] ++ dots true r := by
  have key : dots false ([13, 10] ++ r) = [13, 10] ++ dots true r := by
    show dots false (13 :: 10 :: r) = _
    rw [dots, if_neg (by simp), dots, if_neg (by simp)]
    rfl
  cases p with
  | nil =>
    show dots true (13 :: 10 :: r) = _
    rw [dots, if_neg (by simp), dots, if_neg (by simp)]
    rfl
  | cons c p =>
    rw [List.append_assoc, dots_head _ _ h (by simp), key, List.append_assoc]
theorem dots_one (p : List Nat) (h : 10 ∉ p) : dots true p = dotRow p := by
  cases p with
  | nil => rfl
  | cons c p =>
    have := dots_head (c :: p) [] h (by simp)
    rw [List.append_nil] at this
    rw [this]
    simp [dots]
theorem dots_rows : ∀ ps : List (List Nat), (∀ p ∈ ps, 10 ∉ p) → dots true (joinL [13, 10] ps) = joinL [13, 10] (ps.map dotRow)
  | [], _ => rfl
  | [p], h => dots_one p (h p (List.mem_singleton.mpr rfl))
  | p :: q :: r, h => by
    have ih := dots_rows (q :: r) fun a ha => h a (List.mem_cons_of_mem _ ha)
    show dots true (p ++ [13, 10] ++ joinL [13, 10] (q :: r)) = dotRow p ++ [13, 10] ++ joinL [13, 10] ((q :: r).map dotRow)
    rw [dots_row _ _ (h p (List.mem_cons_self ..)), ih]
theorem quoted_rows (x : Str) : (quoted x).cps.toList = joinL [13, 10] ((rowsOf x.cps.toList).map dotRow) := by
  show (dots true (crlf x.cps.toList).toArray.toList).toArray.toList = _
  rw [← dots_rows _ (fun p hp => (rows_free _ p hp).1), ← crlf_rows]
/-- signs written out by a map that leaves line ends alone -/
structure EscOk (f : Nat → List Nat) : Prop where
  lf : f 10 = [10]
  cr : f 13 = [13]
  free : ∀ c, c ≠ 10 → c ≠ 13 → 10 ∉ f c ∧ 13 ∉ f c
  ne : ∀ c, f c ≠ []
theorem rows_app : ∀ (a r : List Nat), 10 ∉ a → 13 ∉ a → rowsOf (a ++ r) = prep a (rowsOf r)
  | [], r, _, _ => by
    have := rows_ne r
    cases hr : rowsOf r with
    | nil => exact absurd hr this
    | cons p ps => show rowsOf r = _; rw [hr]; rfl
  | c :: a, r, h1, h2 => by
    have c10 : c ≠ 10 := fun e => h1 (e ▸ List.mem_cons_self ..)
    have c13 : c ≠ 13 := fun e => h2 (e ▸ List.mem_cons_self ..)
    show rowsOf (c :: (a ++ r)) = _
    rw [rows_o _ c10 c13, rows_app a r (fun m => h1 (List.mem_cons_of_mem _ m)) (fun m => h2 (List.mem_cons_of_mem _ m))]
    cases rowsOf r <;> rfl
theorem esc_head {f : Nat → List Nat} (E : EscOk f) (r : List Nat) (h : r.head? ≠ some 10) : (r.flatMap f).head? ≠ some 10 := by
  cases r with
  | nil => simp
  | cons d r =>
    have hd : d ≠ 10 := by simpa using h
    by_cases d13 : d = 13
    · subst d13; rw [List.flatMap_cons, E.cr]; simp
    · rw [List.flatMap_cons]
      have h1 := (E.free d hd d13).1
      have h2 := E.ne d
      cases hf : f d with
      | nil => exact absurd hf h2
      | cons k q =>
        rw [hf] at h1
        have : k ≠ 10 := fun e => h1 (e ▸ List.mem_cons_self ..)
        simpa using this
theorem rows_esc {f : Nat → List Nat} (E : EscOk f) (l : List Nat) : rowsOf (l.flatMap f) = (rowsOf l).map (List.flatMap f) := by
  induction l using rows_ind with
  | h0 => rfl
  | h1 r ih => rw [List.flatMap_cons, List.flatMap_cons, E.cr, E.lf, rows_crlf]; show rowsOf (13 :: 10 :: r.flatMap f) = _; rw [rows_crlf, ih]; rfl
  | h2 r hr ih => rw [List.flatMap_cons, E.cr, rows_cr _ hr]; show rowsOf (13 :: r.flatMap f) = _; rw [rows_cr _ (esc_head E r hr), ih]; rfl
  | h3 r ih => rw [List.flatMap_cons, E.lf, rows_lf]; show rowsOf (10 :: r.flatMap f) = _; rw [rows_lf, ih]; rfl
  | h4 c r h1 h2 ih =>
    rw [List.flatMap_cons, rows_o _ h1 h2, rows_app _ _ (E.free c h1 h2).1 (E.free c h1 h2).2, ih]
    have := rows_ne r
    cases hr : rowsOf r with
    | nil => exact absurd hr this
    | cons p ps => simp [prep]
/-- a backslash ahead of each quote and backslash -/
def escF (c : Nat) : List Nat := if c = 92 then [92, 92] else if c = 34 then [92, 34] else [c]
abbrev esc (l : List Nat) : List Nat := l.flatMap escF
theorem escOk : EscOk escF where
  lf := rfl
  cr := rfl
  free := fun c h1 h2 => by unfold escF; split; · simp
                            · split
                              · simp
                              · simp; omega
  ne := fun c => by unfold escF; split; · simp
                    · split <;> simp
theorem esc_subs (l : List Nat) : subs1 34 [92, 34] (subs1 92 [92, 92] l) = esc l := by
  induction l with
  | nil => rfl
  | cons c r ih =>
    have e : ∀ a b : List Nat, subs1 34 [92, 34] (a ++ b) = subs1 34 [92, 34] a ++ subs1 34 [92, 34] b := fun a b => by simp [subs1]
    rw [subs1_cons, e, ih]
    show _ = escF c ++ esc r
    congr 1
    unfold escF
    by_cases h : c = 92
    · subst h; rfl
    · rw [if_neg h, if_neg h]
      show subs1 34 [92, 34] [c] = _
      rw [subs1_cons]
      by_cases h2 : c = 34
      · rw [if_pos h2]; rfl
      · rw [if_neg h2]; rfl
end Mine
end
-- part Kit12
section
open PySem PySem.W PyProof.Rows PySem.Calls PySem.SeqAt
set_option Elab.async false
set_option maxRecDepth 100000
set_option maxHeartbeats 400000
set_option linter.unusedVariables false
namespace Mine
local macro_rules | `(tactic| walk_at "pad0") => `(tactic| skip)
local macro_rules | `(tactic| walk_at "pad1") => `(tactic| skip)
local macro_rules | `(tactic| walk_at "pad2") => `(tactic| skip)
local macro_rules | `(tactic| walk_at "pad3") => `(tactic| skip)
local macro_rules | `(tactic| walk_at "pad4") => `(tactic| skip)
local macro_rules | `(tactic| walk_at "pad5") => `(tactic| skip)
local macro_rules | `(tactic| walk_at "pad6") => `(tactic| skip)
local macro_rules | `(tactic| walk_at "pad7") => `(tactic| skip)
local macro_rules | `(tactic| walk_at "pad8") => `(tactic| skip)
local macro_rules | `(tactic| walk_at "pad9") => `(tactic| skip)
local macro_rules | `(tactic| walk_at "pad10") => `(tactic| skip)
local macro_rules | `(tactic| walk_at "pad11") => `(tactic| skip)
local macro_rules | `(tactic| walk_at "pad12") => `(tactic| skip)
local macro_rules | `(tactic| walk_at "pad13") => `(tactic| skip)
local macro_rules | `(tactic| walk_at "pad14") => `(tactic| skip)
local macro_rules | `(tactic| walk_at "pad15") => `(tactic| skip)
local macro_rules | `(tactic| walk_at "pad16") => `(tactic| skip)
section
variable {prog : Program} {w : World} {K : Frag} {p : Program} {loose : List Str} {mean : ExcName → Option Value} {mg mb : Str → Option Value} {f : Addr} {room : Nat} {vs : List Value} {own : List (Addr × Obj)} {Pre : Heap → Prop} {Post : Value → List (Addr × Obj) → Prop}
  {dp un : Nat} {gd : Option (List Code)} {cn : Str} {cs : Scope} {a : Addr} {ccd : Value} {cl : List (Str × Addr)} {outer : List Env} {A₀ : Around} {base h₀ : Heap} {L : Addr} {m : Str → Option Value} {s : Shared} {news : List (Addr × Obj)}
end
section
variable {prog : Program} {w : World} {A : Around} {s : Shared} {env : Env}
theorem for_invT {tgt : Expr} {it : Value} {body : List Stmt} {Q : Flow → Shared → Prop} (n₀ : Nat) (I : Nat → Shared → Prop)
    (turn : ∀ n s, I n s → n₀ ≤ s.toks → wpAny (model prog w) A (pyNext it) (fun r s₁ => match r with
      | none => Q .next s₁
      | some v => wpAny (model prog w) A (letOwnedTupleGo tgt it v) (fun _ s₀ => wpAny (model prog w) A (assign tgt env v) (fun _ s₂ => wpAny (model prog w) A (execs body env) (RoundEnd I n Q) (fun _ _ => False) s₂) (fun _ _ => False) s₀) (fun _ _ => False) s₁) (fun _ _ => False) s)
    (n : Nat) (h : I n s) (hn : n₀ ≤ s.toks) :
    codeAny (model prog w) A (.forLoop tgt it body [] env) (fun r s' => match r with | .ok f => Q f s' | .error e => cameBackBy (model prog w) A env (fun _ _ => False) e s') s := by
  refine codeAny_forLoop_any (fun n s => I n s ∧ n₀ ≤ s.toks) (fun n s hI => ?_) n ⟨h, hn⟩
  refine wpAny_up n₀ hI.2 (wpAny_mono (turn n s hI.1 hI.2) (fun r s₁ h₁ hs₁ => ?_) fun _ _ x => x.elim)
  cases r with
  | none => exact wpAny_execs_nil h₁
  | some v =>
    refine wpAny_up n₀ hs₁ (wpAny_mono h₁ (fun _ s₀ h₀ hs₀ => ?_) fun _ _ x => x.elim)
    refine wpAny_up n₀ hs₀ (wpAny_mono h₀ (fun _ s₂ h₂ hs₂ => ?_) fun _ _ x => x.elim)
    refine wpAny_up n₀ hs₂ (wpAny_mono h₂ (fun f s₃ h₃ hs₃ => ?_) fun _ _ x => x.elim)
    cases f with
    | next => obtain ⟨k, hk, hi⟩ := h₃; exact ⟨k, hk, hi, hs₃⟩
    | cont => obtain ⟨k, hk, hi⟩ := h₃; exact ⟨k, hk, hi, hs₃⟩
    | brk => exact h₃
    | ret v => exact h₃
end
abbrev tiO (t : Addr) (i : Nat) : Obj := { cls := .type "tuple_iterator", data := .fields #[.ref t, .int i 0] }
abbrev tupO (vs : Array Value) : Obj := { cls := .type "tuple", data := .seq vs }
section
variable {prog : Program} {w : World} {A : Around} {E : Value → Shared → Prop} {s : Shared} {h₀ : Heap} {L it D : Addr} {m : Str → Option Value} {news : List (Addr × Obj)} {its : Array Value} {i : Nat}
end
section
variable {prog : Program} {w : World} {A : Around} {E : Value → Shared → Prop} {s : Shared} {a b : Addr} {Q : Value → Shared → Prop}
theorem replU {x y z : Str} {t u v : Tok} (hu : u ≠ 0) (hv : v ≠ 0) (huv : u ≠ v) (hyz : (y == z) = false) (hx : x.length ≤ 1048576) (hz : z.length ≤ 14) (hy : 1 ≤ y.length)
    (hq : ∀ r t' k, s.toks ≤ k → r.cps.toList = rep y.cps.toList z.cps.toList 0 x.cps.toList → Q (.str r t') { s with toks := k }) : wpAny (model prog w) A (call (.builtin "str.replace") [.str x t, .str y u, .str z v]) Q E s :=
  wpAny_up s.toks (Nat.le_refl _) (SC.replaceW hu hv huv hyz hx hz fun t' k hk => hq _ t' k hk (replace_rep x y z hy))
end
/-- places, texts and numbers of a list of pairs -/
abbrev DT := Addr × (Str × Tok) × (Nat × Tok)
abbrev dtO (q : DT) : Obj := tupO #[.str q.2.1.1 q.2.1.2, .int (q.2.2.1 : Int) q.2.2.2]
def dtRefs (l : List DT) : List Value := l.map fun q => .ref q.1
def dtObjs (l : List DT) : List (Addr × Obj) := l.map fun q => (q.1, dtO q)
def dtData (l : List DT) : List (List Nat × Nat) := l.map fun q => (q.2.1.1.cps.toList, q.2.2.1)
end Mine
end
-- part Kit13
section
open PySem PySem.W PyProof.Rows PySem.Calls PySem.SeqAt
set_option Elab.async false
set_option maxRecDepth 100000
set_option maxHeartbeats 400000
set_option linter.unusedVariables false
namespace Mine
local macro_rules | `(tactic| walk_at "pad0") => `(tactic| skip)
local macro_rules | `(tactic| walk_at "pad1") => `(tactic| skip)
local macro_rules | `(tactic| walk_at "pad2") => `(tactic| skip)
local macro_rules | `(tactic| walk_at "pad3") => `(tactic| skip)
local macro_rules | `(tactic| walk_at "pad4") => `(tactic| skip)
local macro_rules | `(tactic| walk_at "pad5") => `(tactic| skip)
local macro_rules | `(tactic| walk_at "pad6") => `(tactic| skip)
local macro_rules | `(tactic| walk_at "pad7") => `(tactic| skip)
local macro_rules | `(tactic| walk_at "pad8") => `(tactic| skip)
local macro_rules | `(tactic| walk_at "pad9") => `(tactic| skip)
local macro_rules | `(tactic| walk_at "pad10") => `(tactic| skip)
local macro_rules | `(tactic| walk_at "pad11") => `(tactic| skip)
local macro_rules | `(tactic| walk_at "pad12") => `(tactic| skip)
local macro_rules | `(tactic| walk_at "pad13") => `(tactic| skip)
local macro_rules | `(tactic| walk_at "pad14") => `(tactic| skip)
local macro_rules | `(tactic| walk_at "pad15") => `(tactic| skip)
local macro_rules | `(tactic| walk_at "pad16") => `(tactic| skip)
local macro_rules | `(tactic| walk_at "pad17") => `(tactic| skip)
/-- shut against the walk: what is to be shown once the number is known to be n or more -/
def TokGe (n : Nat) (s : Shared) (P : Prop) : Prop := n ≤ s.toks → P
theorem wpAny_upO {α : Type} {M : Model} {A : Around} {s : Shared} {t : Sem α} {Q : α → Shared → Prop} {E : Value → Shared → Prop} (n : Nat) (hn : n ≤ s.toks) (h : wpAny M A t (fun a s' => TokGe n s' (Q a s')) (fun e s' => TokGe n s' (E e s')) s) : wpAny M A t Q E s :=
  wpAny_up n hn h
theorem rep_len (y z : List Nat) : ∀ (l : List Nat) (k : Nat), (rep y z k l).length ≤ l.length * (z.length + 1)
  | [], k => by cases k <;> simp [rep]
  | c :: r, 0 => by
    have h1 := rep_len y z r (y.length - 1)
    have h2 := rep_len y z r 0
    rw [rep]
    split
    · simp only [List.length_append, List.length_cons, Nat.add_mul]
      simp only [Nat.mul_add] at h1 ⊢
      omega
    · simp only [List.length_cons, Nat.add_mul]
      simp only [Nat.mul_add] at h2 ⊢
      omega
  | c :: r, k + 1 => by
    have h1 := rep_len y z r k
    rw [rep]
    simp only [List.length_cons, Nat.add_mul]
    omega
theorem rows_cnt (l : List Nat) : (rowsOf l).length ≤ l.length + 1 := by
  induction l using rows_ind with
  | h0 => exact Nat.le_refl _
  | h1 r ih => rw [rows_crlf]; simp only [List.length_cons] at ih ⊢; omega
  | h2 r hr ih => rw [rows_cr _ hr]; simp only [List.length_cons] at ih ⊢; omega
  | h3 r ih => rw [rows_lf]; simp only [List.length_cons] at ih ⊢; omega
  | h4 c r h1 h2 ih => rw [rows_o _ h1 h2, prep_len]; simp only [List.length_cons] at ih ⊢; omega
theorem rows_each (l : List Nat) : ∀ p ∈ rowsOf l, p.length ≤ l.length := by
  induction l using rows_ind with
  | h0 => intro p hp; rw [rows_nil] at hp; simp at hp; subst hp; exact Nat.le_refl _
  | h1 r ih => rw [rows_crlf]; intro p hp; rcases List.mem_cons.mp hp with rfl | hp; · simp
               · have := ih p hp; simp only [List.length_cons]; omega
  | h2 r hr ih => rw [rows_cr _ hr]; intro p hp; rcases List.mem_cons.mp hp with rfl | hp; · simp
                  · have := ih p hp; simp only [List.length_cons]; omega
  | h3 r ih => rw [rows_lf]; intro p hp; rcases List.mem_cons.mp hp with rfl | hp; · simp
               · have := ih p hp; simp only [List.length_cons]; omega
  | h4 c r h1 h2 ih =>
    rw [rows_o _ h1 h2]
    cases hr : rowsOf r with
    | nil => exact absurd hr (rows_ne r)
    | cons p ps =>
      rw [hr] at ih
      intro q hq
      rcases List.mem_cons.mp hq with rfl | hq
      · have := ih p (.head _)
        simp only [List.length_append, List.length_cons, List.length_nil]
        omega
      · have := ih q (.tail _ hq)
        simp only [List.length_cons]
        omega
theorem len_list (x : Str) : x.length = x.cps.toList.length := by simp [Str.length]
theorem rows_split {y r1 r2 : Str} {l : List (Str × Tok)} (h1 : r1.cps.toList = rep (Str.ofString "\r\n").cps.toList (Str.ofString "\n").cps.toList 0 y.cps.toList) (h2 : r2.cps.toList = rep (Str.ofString "\r").cps.toList (Str.ofString "\n").cps.toList 0 r1.cps.toList)
    (h3 : l.map (·.1) = Txt.split r2 (Str.ofString "\n")) : lists l = rowsOf y.cps.toList := by
  have e : lists l = (l.map (·.1)).map fun p => p.cps.toList := by simp [lists]
  have eCR : (Str.ofString "\r").cps.toList = [13] := by rw [ofCR]
  have eLF : (Str.ofString "\n").cps.toList = [10] := by rw [ofLF]
  rw [e, h3, ofLF, split_spl, h2, eCR, eLF, rep_one, h1, ofCRLF, eLF, rep_crlf _ _ (Nat.le_refl _)]
  rfl
theorem esc_repl {y r1 r2 : Str} (h1 : r1.cps.toList = rep (Str.ofString "\\").cps.toList (Str.ofString "\\\\").cps.toList 0 y.cps.toList) (h2 : r2.cps.toList = rep (Str.ofString "\"").cps.toList (Str.ofString "\\\"").cps.toList 0 r1.cps.toList) : r2.cps.toList = esc y.cps.toList := by
  have e1 : (Str.ofString "\\").cps.toList = [92] := by rw [ofB]
  have e2 : (Str.ofString "\"").cps.toList = [34] := by rw [ofQ]
  have e3 : (Str.ofString "\\\\").cps.toList = [92, 92] := by decide +kernel
  have e4 : (Str.ofString "\\\"").cps.toList = [92, 34] := by decide +kernel
  rw [h2, e2, e4, rep_one, h1, e1, e3, rep_one, esc_subs]
/-- a dot more at a row that begins with one -/
def dotS (q : Str) : Str := ⟨(dotRow q.cps.toList).toArray⟩
theorem dotS_list (q : Str) : (dotS q).cps.toList = dotRow q.cps.toList := rfl
theorem dot_yes {q : Str} (h : (Txt.slice q none (some 1) == Str.ofString ".") = true) : Str.ofString "." ++ q = dotS q := by
  have e : Txt.slice q none (some 1) = ⟨(q.cps.toList.take 1).toArray⟩ := slice_to q 1
  rw [e, ofDot, beq_iff_eq, Str.mk.injEq] at h
  have h' := congrArg Array.toList h
  simp only at h'
  rw [app_str, ofDot]
  unfold dotS dotRow
  cases hq : q.cps.toList with
  | nil => rw [hq] at h'; simp at h'
  | cons c r =>
    rw [hq] at h'
    have : c = 46 := by simpa using h'
    rw [if_pos (by simpa using this)]
    rfl
theorem dot_no {q : Str} (h : (Txt.slice q none (some 1) == Str.ofString ".") = false) : q = dotS q := by
  have e : Txt.slice q none (some 1) = ⟨(q.cps.toList.take 1).toArray⟩ := slice_to q 1
  rw [e, ofDot] at h
  unfold dotS dotRow
  rw [if_neg]
  intro hq
  apply absurd h
  cases hc : q.cps.toList with
  | nil => rw [hc] at hq; simp at hq
  | cons c r =>
    rw [hc] at hq
    have : c = 46 := by simpa using hq
    subst this
    simp
/-- what a comprehension's turn must leave, where it makes things that it drops -/
def CompTurnH (d : PyData) (s : Shared) (h₀ : Heap) (L : Addr) (m : Str → Option Value) (news : List (Addr × Obj)) (y : Value) (s' : Shared) : Prop := Carried y d ∧ ∃ h' tk', s' = { s with heap := h', toks := tk' } ∧ Fr h₀ L h' m ∧ News h₀ L h' news
section
variable {prog : Program} {w : World} {A : Around} {s : Shared} {h₀ : Heap} {L : Addr} {m : Str → Option Value} {env : Env} {elt : Expr} {x : Str} {scope : Scope} {cl : List (Str × Addr)} {S : List (Addr × Obj) → Prop} {Fin : List Value → List (Addr × Obj) → Prop} {news : List (Addr × Obj)} {l : List (Str × Tok)}
theorem strs_restH (d : Str → PyData)
    (turn : ∀ q t I oI C oC D m₂ ys h tk (E' : Value → Shared → Prop), (q, t) ∈ l → LCg.NsObj oC m₂ → m₂ x = some (.str q t) → Fr h₀ L h m → News h₀ L h ((I, oI) :: (C, oC) :: (D, LCg.lst ys) :: news) → LCg.Off3 I C D news → ((@Ne Nat I C) ∧ (@Ne Nat I D) ∧ (@Ne Nat C D)) →
      wpAny (model prog w) A (eval elt (compEnvC scope cl C env)) (CompTurnH (d q) s h₀ L m ((I, oI) :: (C, oC) :: (D, LCg.lst ys) :: news)) E' { s with heap := h, toks := tk })
    (hS : S news) (fin : ∀ ys, CarriedAll ys (l.map fun q => d q.1) → Fin ys news) : LCg.CompRest prog w A h₀ L m env elt x scope cl s S (fun i v => (strValues l).toArray[i]? = some v) Fin (strValues l).toArray.size 0 [] news := by
  have key : ∀ (j i : Nat) (ys : List Value), i + j = l.length → CarriedAll ys ((l.take i).map fun q => d q.1) → LCg.CompRest prog w A h₀ L m env elt x scope cl s S (fun i v => (strValues l).toArray[i]? = some v) Fin j i ys news := by
    intro j
    induction j with
    | zero =>
      intro i ys hi hy
      have e : i = l.length := by omega
      subst e
      rw [List.take_length] at hy
      exact LCg.CompRest.zero (fin ys hy)
    | succ j ih =>
      intro i ys hi hy
      refine LCg.CompRest.succ ?_
      intro v I oI C oC D m₂ h tk E' hv hC hx F N off ne
      have hil : i < l.length := by omega
      have hv' : v = .str l[i].1 l[i].2 := by
        have := strVals_at hil
        rw [List.getElem?_toArray] at hv
        rw [this] at hv
        exact (Option.some.inj hv).symm
      rw [hv'] at hx
      refine wpAny_mono (turn l[i].1 l[i].2 I oI C oC D m₂ ys h tk E' (List.getElem_mem hil) hC hx F N off ne) (fun y s₂ hq => ?_) fun _ _ e => e
      obtain ⟨hc, h', tk', rfl, F', N'⟩ := hq
      refine ⟨h', tk', news, rfl, F', N', off, hS, ?_⟩
      refine ih (i + 1) _ (by omega) ?_
      rw [List.take_add_one, List.getElem?_eq_getElem hil, List.map_append]
      exact carried_snoc hc hy
  have e : (strValues l).toArray.size = l.length := by simp [strValues]
  rw [e]
  exact key l.length 0 [] (by omega) (by simp only [List.take_zero, List.map_nil]; exact .nil)
end
end Mine
end
-- part Kit14
section
open PySem PySem.W PyProof.Rows PySem.Calls PySem.SeqAt
set_option Elab.async false
set_option maxRecDepth 100000
set_option maxHeartbeats 400000
set_option linter.unusedVariables false
namespace Mine
local macro_rules | `(tactic| walk_at "pad0") => `(tactic| skip)
local macro_rules | `(tactic| walk_at "pad1") => `(tactic| skip)
local macro_rules | `(tactic| walk_at "pad2") => `(tactic| skip)
local macro_rules | `(tactic| walk_at "pad3") => `(tactic| skip)
local macro_rules | `(tactic| walk_at "pad4") => `(tactic| skip)
local macro_rules | `(tactic| walk_at "pad5") => `(tactic| skip)
local macro_rules | `(tactic| walk_at "pad6") => `(tactic| skip)
local macro_rules | `(tactic| walk_at "pad7") => `(tactic| skip)
local macro_rules | `(tactic| walk_at "pad8") => `(tactic| skip)
local macro_rules | `(tactic| walk_at "pad9") => `(tactic| skip)
local macro_rules | `(tactic| walk_at "pad10") => `(tactic| skip)
local macro_rules | `(tactic| walk_at "pad11") => `(tactic| skip)
local macro_rules | `(tactic| walk_at "pad12") => `(tactic| skip)
local macro_rules | `(tactic| walk_at "pad13") => `(tactic| skip)
local macro_rules | `(tactic| walk_at "pad14") => `(tactic| skip)
local macro_rules | `(tactic| walk_at "pad15") => `(tactic| skip)
local macro_rules | `(tactic| walk_at "pad16") => `(tactic| skip)
local macro_rules | `(tactic| walk_at "pad17") => `(tactic| skip)
local macro_rules | `(tactic| walk_at "pad18") => `(tactic| skip)
/-- a list of numbers from nought up -/
def natValues (l : List (Nat × Tok)) : List Value := l.map fun q => .int (q.1 : Int) q.2
abbrev natsO (l : List (Nat × Tok)) (n : Nat) : Obj := listOf (natValues l).toArray n
abbrev nats (l : List (Nat × Tok)) : List Nat := l.map (·.1)
theorem push_nats (l : List (Nat × Tok)) (q : Nat) (tq : Tok) : (natValues l).toArray.push (.int (q : Int) tq) = (natValues (l ++ [(q, tq)])).toArray := by simp [natValues]
section
variable {prog : Program} {w : World} {A : Around} {E : Value → Shared → Prop} {s : Shared} {g : Heap} {L P a b : Addr} {m : Str → Option Value} {news : List (Addr × Obj)} {l : List (Nat × Tok)} {value slice : Expr} {k : Nat} {u : Tok} {Q : Value → Shared → Prop}
theorem natVals_at (h : k < l.length) : (natValues l)[k]? = some (.int (l[k].1 : Int) l[k].2) := by simp [natValues, h]
theorem nats_item (hP : s.heap.IsList P (natValues l).toArray) (hl : l.length ≤ 1000000) (hk : k < l.length) (h : Q (.int (l[k].1 : Int) l[k].2) s)
    (hs : subscripted slice false (.ref P) (.int (k : Int) u) = operate [.ref P, .int (k : Int) u] (getItem (.ref P) (.int (k : Int) u)) := by with_unfolding_all rfl) :
    wpAny (model prog w) A (subscriptTail value slice (.ref P) (.int (k : Int) u)) Q E s :=
  tail_any hP.typeIs slot_list_getitem.lookup (wpAny_getItem_list hP (by omega) (by omega) (by simpa using natVals_at hk) h) hs
theorem nats_len (hP : s.heap.IsList P (natValues l).toArray) (hl : l.length ≤ 1000000) (h : ∀ t tk, Q (.int (l.length : Int) t) { s with toks := tk }) : wpAny (model prog w) A (call (.builtin "len") [.ref P]) Q E s := by
  have e : (natValues l).toArray.size = l.length := by simp [natValues]
  refine call_len_list hP (by rw [e]; omega) ?_
  rw [e]
  exact h _ _
/-- is a list empty -/
theorem ne_nil {vs : Array Value} (ha : s.heap.IsList a vs) (hb : s.heap.IsList b #[]) (hu : A.units < cLine) (h1 : vs = #[] → Q (.bool false) s) (h2 : vs ≠ #[] → Q (.bool true) s) : wpAny (model prog w) A (compareOp .NotEq (.ref a) (.ref b)) Q E s := by
  by_cases e : vs = #[]
  · subst e
    exact strs_ne (l := []) (l2 := []) ha hb hu (h1 rfl)
  · refine RcNeAt.lists_lengths (A := A) ha hb ?_ hu prog w E Q (h2 e)
    have : vs.size ≠ 0 := fun q => e (Array.eq_empty_of_size_eq_zero q)
    simpa using this
theorem setItem_neg {l : Addr} {o : Obj} {items : Array Value} {n : Nat} {k : Int} {t : Tok} {v x : Value} {Q : Unit → Shared → Prop} (ho : s.heap.get? l = some o) (hc : o.cls = .type "list") (hd : o.data = .seq items n)
    (h0 : k < 0) (h1 : -(items.size : Int) ≤ k) (hfit : -(2 ^ 63) ≤ k) (hx : items[(k + items.size).toNat]? = some x)
    (hQ : ∀ h', h'.get? l = some (o.mapSeq (·.setIfInBounds (k + items.size).toNat v)) → Heap.SameBut l s.heap h' → Q () { s with heap := h' }) :
    wpAny (model prog w) A (setItem (.ref l) (.int k t) v) Q E s := by
  have hl : s.heap.IsList l items := ⟨o, ho, hc, n, hd⟩
  unfold setItem
  try with_reducible refine wpAny_holding ?_
  first | refine wpAny_bind (wpAny_pure ?_) | skip
  refine wpAny_bind (wpAny_sequenceKey hl.typeIs (by decide) ?_)
  refine wpAny_bind (wpAny_callSpecial?_slot (name := Str.ofString "__setitem__") hl.typeIs slot_list_setitem
    (wpAny_call_entry slot_list_setitem hl.typeIs entry_list_setitem ?_ (args_list_setitem _ _ _)))
  show wpAny _ _ (Builtin.List.listSubscript? (.int k t) >>= _) _ _ s
  refine wpAny_bind (wpAny_listSubscript_int (fitsIndex_neg h0 hfit) ?_)
  clear hfit
  have hidx := seqIndex_neg h0 h1
  obtain ⟨j, rfl⟩ : ∃ j : Nat, k = Int.negSucc j := by
    cases k with
    | ofNat n => exact absurd h0 (Int.not_lt.mpr (Int.ofNat_nonneg n))
    | negSucc n => exact ⟨n, rfl⟩
  show wpAny _ _ ((Builtin.List.listItems (.ref l) >>= fun xs => pure ((seqIndex? (Int.negSucc j) xs.size).bind fun i => xs[i]?.map (i, ·))) >>= _) _ _ s
  refine wpAny_bind (wpAny_bind ?_)
  show wpAny _ _ (seqItems? (.ref l) >>= _) _ _ s
  refine wpAny_bind (wpAny_seqItems ho hd (wpAny_pure (wpAny_pure ?_)))
  rw [hidx]
  simp only [Option.bind_some, hx, Option.map_some]
  obtain ⟨n', hd'⟩ := Obj.data_mapSeq hd (·.setIfInBounds (Int.negSucc j + items.size).toNat v)
  have hfin := Heap.get?_update_self (Obj.mapSeq (·.setIfInBounds (Int.negSucc j + items.size).toNat v)) ho (Obj.isFreed_of_seq hd')
  refine wpAny_bind (wpAny_setSeqItemAt ho hd ?_)
  first
    | exact wpAny_bind (wpAny_pure (wpAny_pure ⟨.none, rfl, wpAny_pure (hQ _ hfin (Heap.SameBut.update ..))⟩))
    | exact wpAny_pure ⟨.none, rfl, wpAny_pure (hQ _ hfin (Heap.SameBut.update ..))⟩
theorem strs_last_at {l0 : List (Str × Tok)} {x : Str} {t : Tok} : (strValues (l0 ++ [(x, t)])).toArray[((-1 : Int) + ((strValues (l0 ++ [(x, t)])).toArray.size : Nat)).toNat]? = some (.str x t) := by
  have e : ((-1 : Int) + ((strValues (l0 ++ [(x, t)])).toArray.size : Nat)).toNat = l0.length := by simp [strValues]; omega
  rw [e]
  simp [strValues]
theorem strs_last_get {l0 : List (Str × Tok)} {x : Str} {t : Tok} {u : Tok} {Q : Value → Shared → Prop} (hl : s.heap.IsList P (strValues (l0 ++ [(x, t)])).toArray) (h : Q (.str x t) s) : wpAny (model prog w) A (getItem (.ref P) (.int (-1) u)) Q E s :=
  wpAny_getItem_list_neg hl (by decide) (by simp [strValues]; omega) (by decide) strs_last_at h
theorem strs_last_set {l0 : List (Str × Tok)} {x y : Str} {t t2 u : Tok} {n : Nat} {news' : List (Addr × Obj)} {Q : Unit → Shared → Prop} (F : Fr g L s.heap m) (N : News g L s.heap news) (U : Upd P (strsO (l0 ++ [(x, t)]) n) (strsO (l0 ++ [(y, t2)]) n) news news')
    (h : ∀ h', Fr g L h' m → News g L h' news' → Q () { s with heap := h' }) : wpAny (model prog w) A (setItem (.ref P) (.int (-1) u) (.str y t2)) Q E s := by
  obtain ⟨pre, post, rfl, rfl, a, b⟩ := U.split
  have z := N (P, strsO (l0 ++ [(x, t)]) n) (List.mem_append.mpr (.inr (.head _)))
  refine setItem_neg z.1 rfl rfl (by decide) (by simp [strValues]; omega) (by decide) strs_last_at fun h' ho' hs => h h' (F.change hs z.2.1 z.2.2) (news_set N a b hs ?_)
  rw [ho']
  have e : ((-1 : Int) + ((strValues (l0 ++ [(x, t)])).toArray.size : Nat)).toNat = l0.length := by simp [strValues]; omega
  rw [e]
  have e2 : (strValues (l0 ++ [(x, t)])).toArray.setIfInBounds l0.length (.str y t2) = (strValues (l0 ++ [(y, t2)])).toArray := by
    simp [strValues]
  show some (Obj.mapSeq (·.setIfInBounds l0.length (.str y t2)) (listOf (strValues (l0 ++ [(x, t)])).toArray n)) = _
  unfold Obj.mapSeq
  dsimp only
  rw [e2]
  have e3 : ((strValues (l0 ++ [(y, t2)])).toArray.size == (strValues (l0 ++ [(x, t)])).toArray.size) = true := by simp [strValues]
  rw [e3]
  rfl
theorem nats_ints (l : List (Nat × Tok)) : IntsAre (natValues l) (l.map fun q => (q.1 : Int)) := by
  induction l with
  | nil => exact .nil
  | cons q r ih => exact .cons _ _ ih
end
end Mine
end
-- part Kit15
section
open PySem PySem.W PyProof.Rows PySem.Calls PySem.SeqAt
set_option Elab.async false
set_option maxRecDepth 100000
set_option maxHeartbeats 400000
set_option linter.unusedVariables false
namespace Mine
local macro_rules | `(tactic| walk_at "pad0") => `(tactic| skip)
local macro_rules | `(tactic| walk_at "pad1") => `(tactic| skip)
local macro_rules | `(tactic| walk_at "pad2") => `(tactic| skip)
local macro_rules | `(tactic| walk_at "pad3") => `(tactic| skip)
local macro_rules | `(tactic| walk_at "pad4") => `(tactic| skip)
local macro_rules | `(tactic| walk_at "pad5") => `(tactic| skip)
local macro_rules | `(tactic| walk_at "pad6") => `(tactic| skip)
local macro_rules | `(tactic| walk_at "pad7") => `(tactic| skip)
local macro_rules | `(tactic| walk_at "pad8") => `(tactic| skip)
local macro_rules | `(tactic| walk_at "pad9") => `(tactic| skip)
local macro_rules | `(tactic| walk_at "pad10") => `(tactic| skip)
local macro_rules | `(tactic| walk_at "pad11") => `(tactic| skip)
local macro_rules | `(tactic| walk_at "pad12") => `(tactic| skip)
local macro_rules | `(tactic| walk_at "pad13") => `(tactic| skip)
local macro_rules | `(tactic| walk_at "pad14") => `(tactic| skip)
local macro_rules | `(tactic| walk_at "pad15") => `(tactic| skip)
local macro_rules | `(tactic| walk_at "pad16") => `(tactic| skip)
local macro_rules | `(tactic| walk_at "pad17") => `(tactic| skip)
local macro_rules | `(tactic| walk_at "pad18") => `(tactic| skip)
local macro_rules | `(tactic| walk_at "pad19") => `(tactic| skip)
section
variable {prog : Program} {w : World} {K : Frag} {p : Program} {loose : List Str} {mean : ExcName → Option Value} {mg mb : Str → Option Value} {f : Addr} {room : Nat} {vs : List Value} {Pre : Heap → Prop} {Post : Value → List (Addr × Obj) → Prop}
  {dp un : Nat} {gd : Option (List Code)} {cn : Str} {cs : Scope} {a : Addr} {ccd : Value} {cl : List (Str × Addr)} {outer : List Env} {A₀ : Around} {base h₀ : Heap} {L : Addr} {m : Str → Option Value} {s : Shared} {news : List (Addr × Obj)}
theorem SpecF.call0 (S : SpecF prog w K p loose mean mg mb f room vs [] Pre Post) {Q E : Value → Shared → Prop}
    (B : Below A₀ base outer h₀) (F : Fr h₀ L s.heap m) (X : K.In h₀) (N : News h₀ L s.heap news) (T : Top p loose mean mg mb h₀) (hk : cs.kind = .function)
    (hpre : ∀ g, h₀.StaysIn g → (∀ q ∈ news, g.get? q.1 = some q.2) → Pre g) (hd : dp + room < recursionLimit) (hu : un + 8 * room < cLine)
    (hret : ∀ v own' h' tk', Post v own' → (∀ q ∈ own', ∀ r ∈ news, q.1 ≠ r.1) → Fr h₀ L h' m → News h₀ L h' (own' ++ news) → Q v { s with heap := h', toks := tk' }) :
    wpAny (model prog w) (ktrTop dp un gd cn cs L a ccd cl outer) (PySem.call (.ref f) vs) Q E s :=
  S.call news B F X N (fun q hq => hq) (fun _ _ h => nomatch h) T hk hpre hd hu hret
end
theorem neNil {x : Str} (h : (x != Str.ofString "") = true) : x.cps.toList ≠ [] := by
  intro q
  have : x = Str.ofString "" := by rw [ofNil]; obtain ⟨⟨c⟩⟩ := x; simp at q; rw [q]
  rw [this] at h
  simp at h
theorem isNil {x : Str} (h : (x != Str.ofString "") = false) : x.cps.toList = [] := by
  have : x = Str.ofString "" := by simpa using h
  rw [this, ofNil]
end Mine
end
-- part Kit16
section
open PySem PySem.W PyProof.Rows PySem.Calls PySem.SeqAt
set_option Elab.async false
set_option maxRecDepth 100000
set_option maxHeartbeats 400000
set_option linter.unusedVariables false
namespace Mine
local macro_rules | `(tactic| walk_at "pad0") => `(tactic| skip)
local macro_rules | `(tactic| walk_at "pad1") => `(tactic| skip)
local macro_rules | `(tactic| walk_at "pad2") => `(tactic| skip)
local macro_rules | `(tactic| walk_at "pad3") => `(tactic| skip)
local macro_rules | `(tactic| walk_at "pad4") => `(tactic| skip)
local macro_rules | `(tactic| walk_at "pad5") => `(tactic| skip)
local macro_rules | `(tactic| walk_at "pad6") => `(tactic| skip)
local macro_rules | `(tactic| walk_at "pad7") => `(tactic| skip)
local macro_rules | `(tactic| walk_at "pad8") => `(tactic| skip)
local macro_rules | `(tactic| walk_at "pad9") => `(tactic| skip)
local macro_rules | `(tactic| walk_at "pad10") => `(tactic| skip)
local macro_rules | `(tactic| walk_at "pad11") => `(tactic| skip)
local macro_rules | `(tactic| walk_at "pad12") => `(tactic| skip)
local macro_rules | `(tactic| walk_at "pad13") => `(tactic| skip)
local macro_rules | `(tactic| walk_at "pad14") => `(tactic| skip)
local macro_rules | `(tactic| walk_at "pad15") => `(tactic| skip)
local macro_rules | `(tactic| walk_at "pad16") => `(tactic| skip)
local macro_rules | `(tactic| walk_at "pad17") => `(tactic| skip)
local macro_rules | `(tactic| walk_at "pad18") => `(tactic| skip)
local macro_rules | `(tactic| walk_at "pad19") => `(tactic| skip)
local macro_rules | `(tactic| walk_at "pad20") => `(tactic| skip)
abbrev zipO (TI TO : Addr) (f0 : Value) : Obj := { cls := .type "zip", dict := none, data := .fields #[f0, .bool false, .bool false, .ref TI, .ref TO], slots := #[] }
/-- the object of a list's iterator -/
def ItO (o : Obj) (l : Addr) (k : Nat) : Prop := o.cls = .type "list_iterator" ∧ o.data = .fields #[.ref l, .int k 0]
/-- the parts of a zip over two lists, k items taken -/
structure ZipAt (g h : Heap) (L z TI TO i1 i2 l1 l2 : Addr) (k : Nat) : Prop where
  hz : h.get? z = some (zipO TI TO .none)
  hTI : h.get? TI = some (tupO #[.ref i1, .ref i2])
  hTO : ∃ a b, h.get? TO = some (tupO #[a, b])
  h1 : h.IsListIter i1 l1 k
  h2 : h.IsListIter i2 l2 k
  gz : g.get? z = none
  gTI : g.get? TI = none
  gTO : g.get? TO = none
  g1 : g.get? i1 = none
  g2 : g.get? i2 = none
  nz : z ≠ L
  nTI : TI ≠ L
  nTO : TO ≠ L
  n1 : i1 ≠ L
  n2 : i2 ≠ L
  ap : ZipApart z TI TO i1 i2 l1 l2
section
variable {prog : Program} {w : World} {A : Around} {E : Value → Shared → Prop} {s : Shared} {h₀ : Heap} {L z TI TO i1 i2 l1 l2 : Addr} {m : Str → Option Value} {news : List (Addr × Obj)} {xs ys : Array Value} {k : Nat}
theorem fr_off {h' : Heap} {P : Addr → Prop} (F : Fr h₀ L s.heap m) (hP : ∀ a, P a → h₀.get? a = none ∧ a ≠ L) (hs : ∀ c o, ¬ P c → s.heap.get? c = some o → h'.get? c = some o) : Fr h₀ L h' m := by
  obtain ⟨oL, es, ep, hL', rL⟩ := F.ns
  exact ⟨⟨oL, es, ep, hs _ _ (fun q => (hP _ q).2 rfl) hL', rL⟩, fun b o e => hs b o (fun q => by rw [(hP _ q).1] at e; cases e) (F.keep b o e), F.above⟩
theorem zip_K {Q : Value → Shared → Prop} (F : Fr h₀ L s.heap m) (N : News h₀ L s.heap news) (hl1 : s.heap.IsList l1 xs) (hl2 : s.heap.IsList l2 ys)
    (h : ∀ z TI TO i1 i2 h', Fr h₀ L h' m → News h₀ L h' news → ZipAt h₀ h' L z TI TO i1 i2 l1 l2 0 → (∀ p ∈ news, p.1 < i1) → i1 < i2 ∧ i2 < TI ∧ TI < TO ∧ TO < z → Q (.ref z) { s with heap := h' }) : wpAny (model prog w) A (call (.type "zip") [.ref l1, .ref l2]) Q E s := by
  have hS : L < s.heap.objs.size := by
    obtain ⟨oL, es, ep, hL', rL⟩ := F.ns
    exact Heap.lt_size hL'
  have e1 : l1 < s.heap.objs.size := by obtain ⟨o, ho, _⟩ := hl1; exact Heap.lt_size ho
  have e2 : l2 < s.heap.objs.size := by obtain ⟨o, ho, _⟩ := hl2; exact Heap.lt_size ho
  have gn : ∀ j, h₀.get? (s.heap.objs.size + j) = none := fun j => by
    cases hq : h₀.get? (s.heap.objs.size + j) with
    | none => rfl
    | some o =>
      exact absurd (Heap.lt_size (F.keep _ _ hq)) (Nat.not_lt.mpr (Nat.le_add_right _ _))
  have hL : ∀ j : Nat, (s.heap.objs.size + j : Nat) ≠ L := fun j q => by
    rw [← q] at hS
    exact absurd hS (Nat.not_lt.mpr (Nat.le_add_right _ _))
  refine call_zip_2 hl1 hl2 fun h' hz hTI hTO h1 h2 hsz hk => ?_
  refine h (s.heap.objs.size + 4) (s.heap.objs.size + 2) (s.heap.objs.size + 3) s.heap.objs.size (s.heap.objs.size + 1) h' ?_ ?_ ?_ (fun p hp => Heap.lt_size (N p hp).1) ?_
  · exact fr_off (P := fun _ => False) F (fun _ q => q.elim) (fun c o _ e => hk c o e)
  · exact fun p hp => ⟨hk _ _ (N p hp).1, (N p hp).2⟩
  · have nl : ∀ (l j : Nat), l < s.heap.objs.size → l ≠ s.heap.objs.size + j := fun l j q => by omega
    refine ⟨hz, hTI, ⟨_, _, hTO⟩, h1, h2, gn 4, gn 2, gn 3, gn 0, gn 1, hL 4, hL 2, hL 3, hL 0, hL 1, ?_⟩
    constructor <;> first | exact nl _ _ e1 | exact nl _ 0 e1 | exact nl _ _ e2 | exact nl _ 0 e2 | (show @Ne Nat _ _; omega)
  · refine ⟨?_, ?_, ?_, ?_⟩ <;> (show (_ : Nat) < _; omega)
theorem zip_news {h' : Heap} (N : News h₀ L s.heap news) (hne : ∀ p ∈ news, (@Ne Nat p.1 z) ∧ (@Ne Nat p.1 TO) ∧ (@Ne Nat p.1 i1) ∧ (@Ne Nat p.1 i2)) (hk : ∀ c o, c ≠ z → c ≠ TO → c ≠ i1 → c ≠ i2 → s.heap.get? c = some o → h'.get? c = some o) : News h₀ L h' news :=
  fun p hp => ⟨hk _ _ (hne p hp).1 (hne p hp).2.1 (hne p hp).2.2.1 (hne p hp).2.2.2 (N p hp).1, (N p hp).2⟩
theorem znext_K {Q : Option Value → Shared → Prop} (hh : A.handled = none) (F : Fr h₀ L s.heap m) (N : News h₀ L s.heap news) (Z : ZipAt h₀ s.heap L z TI TO i1 i2 l1 l2 k) (hl1 : s.heap.IsList l1 xs) (hl2 : s.heap.IsList l2 ys)
    (hne : ∀ p ∈ news, (@Ne Nat p.1 z) ∧ (@Ne Nat p.1 TO) ∧ (@Ne Nat p.1 i1) ∧ (@Ne Nat p.1 i2))
    (g1 : ∀ x y, xs[k]? = some x → ys[k]? = some y → ∀ T h', Fr h₀ L h' m → News h₀ L h' ((T, tupO #[x, y]) :: news) → IsZip h' z TI TO (rawInt T) → (∀ h'', IsZip h'' z TI TO .none → Heap.SameBut z h' h'' → ZipAt h₀ h'' L z TI TO i1 i2 l1 l2 (k + 1) ∧ Fr h₀ L h'' m ∧ News h₀ L h'' ((T, tupO #[x, y]) :: news)) → (∀ p ∈ news, p.1 < T) → z < T → Q (some (.ref T)) { s with heap := h' })
    (g2 : (xs[k]? = none ∨ ys[k]? = none) → ∀ h', Fr h₀ L h' m → News h₀ L h' news → Q none { s with heap := h' }) : wpAny (model prog w) A (pyNext (.ref z)) Q E s := by
  obtain ⟨a, b, hTO⟩ := Z.hTO
  have hP : ∀ c, (c = z ∨ c = TO ∨ c = i1 ∨ c = i2) → h₀.get? c = none ∧ c ≠ L := by
    rintro c (rfl | rfl | rfl | rfl)
    · exact ⟨Z.gz, Z.nz⟩
    · exact ⟨Z.gTO, Z.nTO⟩
    · exact ⟨Z.g1, Z.n1⟩
    · exact ⟨Z.g2, Z.n2⟩
  have frk : ∀ h', (∀ c o, c ≠ z → c ≠ TO → c ≠ i1 → c ≠ i2 → s.heap.get? c = some o → h'.get? c = some o) → Fr h₀ L h' m := fun h' hk =>
    fr_off (P := fun c => c = z ∨ c = TO ∨ c = i1 ∨ c = i2) F hP (fun c o q e => hk c o (fun r => q (.inl r)) (fun r => q (.inr (.inl r))) (fun r => q (.inr (.inr (.inl r)))) (fun r => q (.inr (.inr (.inr r)))) e)
  have stop : (xs[k]? = none ∨ ys[k]? = none) → wpAny (model prog w) A (pyNext (.ref z)) Q E s := fun hend =>
    wpAny_pyNext_zip_end hh Z.ap Z.hz Z.hTI hTO Z.h1 Z.h2 hl1 hl2 hend fun h' hk => g2 hend h' (frk h' hk) (zip_news N hne hk)
  cases hx : xs[k]? with
  | none => exact stop (.inl hx)
  | some x =>
    cases hy : ys[k]? with
    | none => exact stop (.inr hy)
    | some y =>
      refine wpAny_pyNext_zip_item Z.ap Z.hz Z.hTI hTO Z.h1 Z.h2 hl1 hl2 hx hy fun h' z' to' i1' i2' t' hsz hk => ?_
      have F2 := frk h' hk
      have gT : h₀.get? s.heap.objs.size = none := by
        cases hq : h₀.get? s.heap.objs.size with
        | none => rfl
        | some o => exact absurd (Heap.lt_size (F.keep _ _ hq)) (Nat.lt_irrefl _)
      have hTL : s.heap.objs.size ≠ L := by
        obtain ⟨oL, es, ep, hL', rL⟩ := F.ns
        exact Ne.symm (Nat.ne_of_lt (Heap.lt_size hL'))
      have hzT : z < s.heap.objs.size := Heap.lt_size Z.hz
      have N2 : News h₀ L h' ((s.heap.objs.size, tupO #[x, y]) :: news) := fun p hp => by
        rcases List.mem_cons.mp hp with rfl | hp
        · exact ⟨t', hTL, gT⟩
        · exact zip_news N hne hk p hp
      refine g1 x y hx hy s.heap.objs.size h' F2 N2 z' ?_ (fun p hp => Heap.lt_size (N p hp).1) hzT
      intro h'' z'' hs
      refine ⟨⟨z'', (hs.2 _ Z.ap.TIz).trans (hk _ _ Z.ap.TIz Z.ap.TITO Z.ap.TIi1 Z.ap.TIi2 Z.hTI), ⟨x, y, (hs.2 _ Z.ap.TOz).trans to'⟩, ?_, ?_, Z.gz, Z.gTI, Z.gTO, Z.g1, Z.g2, Z.nz, Z.nTI, Z.nTO, Z.n1, Z.n2, Z.ap⟩, fr_sameBut (s := { s with heap := h' }) F2 Z.gz Z.nz hs, fun p hp => ?_⟩
      · obtain ⟨o, ho, r⟩ := i1'
        exact ⟨o, (hs.2 _ Z.ap.i1z).trans ho, r⟩
      · obtain ⟨o, ho, r⟩ := i2'
        exact ⟨o, (hs.2 _ Z.ap.i2z).trans ho, r⟩
      · refine ⟨(hs.2 _ ?_).trans (N2 p hp).1, (N2 p hp).2⟩
        rcases List.mem_cons.mp hp with rfl | hp
        · exact Ne.symm (Nat.ne_of_lt hzT)
        · exact (hne p hp).1
end
end Mine
end
-- part Kit17
section
open PySem PySem.W PyProof.Rows PySem.Calls PySem.SeqAt
set_option Elab.async false
set_option maxRecDepth 100000
set_option maxHeartbeats 400000
set_option linter.unusedVariables false
namespace Mine
local macro_rules | `(tactic| walk_at "pad0") => `(tactic| skip)
local macro_rules | `(tactic| walk_at "pad1") => `(tactic| skip)
local macro_rules | `(tactic| walk_at "pad2") => `(tactic| skip)
local macro_rules | `(tactic| walk_at "pad3") => `(tactic| skip)
local macro_rules | `(tactic| walk_at "pad4") => `(tactic| skip)
local macro_rules | `(tactic| walk_at "pad5") => `(tactic| skip)
local macro_rules | `(tactic| walk_at "pad6") => `(tactic| skip)
local macro_rules | `(tactic| walk_at "pad7") => `(tactic| skip)
local macro_rules | `(tactic| walk_at "pad8") => `(tactic| skip)
local macro_rules | `(tactic| walk_at "pad9") => `(tactic| skip)
local macro_rules | `(tactic| walk_at "pad10") => `(tactic| skip)
local macro_rules | `(tactic| walk_at "pad11") => `(tactic| skip)
local macro_rules | `(tactic| walk_at "pad12") => `(tactic| skip)
local macro_rules | `(tactic| walk_at "pad13") => `(tactic| skip)
local macro_rules | `(tactic| walk_at "pad14") => `(tactic| skip)
local macro_rules | `(tactic| walk_at "pad15") => `(tactic| skip)
local macro_rules | `(tactic| walk_at "pad16") => `(tactic| skip)
local macro_rules | `(tactic| walk_at "pad17") => `(tactic| skip)
local macro_rules | `(tactic| walk_at "pad18") => `(tactic| skip)
local macro_rules | `(tactic| walk_at "pad19") => `(tactic| skip)
local macro_rules | `(tactic| walk_at "pad20") => `(tactic| skip)
local macro_rules | `(tactic| walk_at "pad21") => `(tactic| skip)
theorem news_app {g h : Heap} {L : Addr} {A B : List (Addr × Obj)} (hA : News g L h A) (hB : News g L h B) : News g L h (A ++ B) := fun q hq => (List.mem_append.mp hq).elim (hA q) (hB q)
abbrev zipL (z TI TO i1 i2 : Addr) (a b : Value) (o1 o2 : Obj) : List (Addr × Obj) := [(z, zipO TI TO .none), (TI, tupO #[.ref i1, .ref i2]), (TO, tupO #[a, b]), (i1, o1), (i2, o2)]
theorem zip_entries {g h : Heap} {L z TI TO i1 i2 l1 l2 : Addr} {k : Nat} (Z : ZipAt g h L z TI TO i1 i2 l1 l2 k) : ∃ a b o1 o2, News g L h (zipL z TI TO i1 i2 a b o1 o2) ∧ ItO o1 l1 k ∧ ItO o2 l2 k := by
  obtain ⟨a, b, hTO⟩ := Z.hTO
  obtain ⟨o1, h1, r1⟩ := Z.h1
  obtain ⟨o2, h2, r2⟩ := Z.h2
  refine ⟨a, b, o1, o2, fun q hq => ?_, r1, r2⟩
  simp only [List.mem_cons, List.not_mem_nil, or_false] at hq
  rcases hq with rfl | rfl | rfl | rfl | rfl
  · exact ⟨Z.hz, Z.nz, Z.gz⟩
  · exact ⟨Z.hTI, Z.nTI, Z.gTI⟩
  · exact ⟨hTO, Z.nTO, Z.gTO⟩
  · exact ⟨h1, Z.n1, Z.g1⟩
  · exact ⟨h2, Z.n2, Z.g2⟩
theorem zip_of {g h : Heap} {L z TI TO i1 i2 l1 l2 : Addr} {k : Nat} {a b : Value} {o1 o2 : Obj} {news : List (Addr × Obj)} (N : News g L h news) (hin : ∀ q ∈ zipL z TI TO i1 i2 a b o1 o2, q ∈ news) (r1 : ItO o1 l1 k) (r2 : ItO o2 l2 k) (ap : ZipApart z TI TO i1 i2 l1 l2) : ZipAt g h L z TI TO i1 i2 l1 l2 k := by
  have e1 := N _ (hin _ (.head _))
  have e2 := N _ (hin _ (.tail _ (.head _)))
  have e3 := N _ (hin _ (.tail _ (.tail _ (.head _))))
  have e4 := N _ (hin _ (.tail _ (.tail _ (.tail _ (.head _)))))
  have e5 := N _ (hin _ (.tail _ (.tail _ (.tail _ (.tail _ (.head _))))))
  exact ⟨e1.1, e2.1, ⟨a, b, e3.1⟩, ⟨_, e4.1, r1⟩, ⟨_, e5.1, r2⟩, e1.2.2, e2.2.2, e3.2.2, e4.2.2, e5.2.2, e1.2.1, e2.2.1, e3.2.1, e4.2.1, e5.2.1, ap⟩
/-- the object of a text's iterator -/
def SItO (o : Obj) (x : Str) (t : Tok) (i : Nat) : Prop := o.cls = .type (strIterType x) ∧ o.data = .fields #[.str x t, .int i 0]
section
variable {prog : Program} {w : World} {A : Around} {E : Value → Shared → Prop} {s : Shared} {h₀ : Heap} {L it : Addr} {m : Str → Option Value} {news : List (Addr × Obj)} {x : Str} {t : Tok} {i : Nat} {o : Obj}
theorem siter_K {Q : Value → Shared → Prop} (F : Fr h₀ L s.heap m) (N : News h₀ L s.heap news)
    (h : ∀ it o h', SItO o x t 0 → Fr h₀ L h' m → News h₀ L h' ((it, o) :: news) → (∀ p ∈ news, p.1 < it) → Q (.ref it) { s with heap := h' }) : wpAny (model prog w) A (pyIter (.str x t)) Q E s :=
  wpAny_pyIter_strU (h _ _ _ ⟨rfl, rfl⟩ (F.push _) (N.push F _) fun p hp => Heap.lt_size (N p hp).1)
theorem snext_K {Q : Option Value → Shared → Prop} (hh : A.handled = none) (F : Fr h₀ L s.heap m) (N : News h₀ L s.heap ((it, o) :: news)) (ho : SItO o x t i) (hne : ∀ p ∈ news, p.1 ≠ it)
    (h1 : ∀ hi : i < x.cps.size, ∀ o' h' u tk, SItO o' x t (i + 1) → Fr h₀ L h' m → News h₀ L h' ((it, o') :: news) → Q (some (.str ⟨#[x.cps[i]]⟩ u)) { s with heap := h', toks := tk })
    (h2 : x.cps.size ≤ i → ∀ h', Fr h₀ L h' m → News h₀ L h' news → Q none { s with heap := h' }) : wpAny (model prog w) A (pyNext (.ref it)) Q E s := by
  obtain ⟨hit, hL, h0⟩ := N _ (.head _)
  have hI : s.heap.IsStrIter it (strIterType x) x t i := ⟨_, hit, ho.1, ho.2⟩
  have item : ∀ (hi : i < x.cps.size) (h' : Heap) (u : Tok) (tk : Nat), h'.IsStrIter it (strIterType x) x t (i + 1) → Heap.SameBut it s.heap h' → Q (some (.str ⟨#[x.cps[i]]⟩ u)) { s with heap := h', toks := tk } := by
    rintro hi h' u tk ⟨o', ho', r⟩ hs
    refine h1 hi o' h' u tk r (fr_sameBut F h0 hL hs) fun p hp => ?_
    rcases List.mem_cons.mp hp with rfl | hp
    · exact ⟨ho', hL, h0⟩
    · exact ⟨(hs.2 _ (hne p hp)).trans (N p (.tail _ hp)).1, (N p (.tail _ hp)).2⟩
  have fin : x.cps.size ≤ i → ∀ h', Heap.ExtBut it s.heap h' → Q none { s with heap := h' } := fun hi h' hs =>
    h2 hi h' (fr_extBut F h0 hL hs) fun p hp => ⟨hs _ _ (hne p hp) (N p (.tail _ hp)).1, (N p (.tail _ hp)).2⟩
  cases ha : x.cps.all (· < 128)
  · have e : strIterType x = "str_iterator" := by simp [strIterType, ha]
    rw [e] at hI item
    by_cases hi : i < x.cps.size
    · exact wpAny_pyNext_wide_item hI (by simp [hi]) fun h' a b => item hi h' _ _ a b
    · exact wpAny_pyNext_wide_end hh hI (by simp; omega) fun h' a => fin (by omega) h' a
  · have e : strIterType x = "str_ascii_iterator" := by simp [strIterType, ha]
    rw [e] at hI item
    by_cases hi : i < x.cps.size
    · exact wpAny_pyNext_ascii_item hI (by simp [hi]) fun h' a b => item hi h' _ _ a b
    · exact wpAny_pyNext_ascii_end hh hI (by simp; omega) fun h' a => fin (by omega) h' a
end
end Mine
end
-- part Kit18
section
open PySem PySem.W PyProof.Rows PySem.Calls PySem.SeqAt
set_option Elab.async false
set_option maxRecDepth 100000
set_option maxHeartbeats 400000
set_option linter.unusedVariables false
namespace Mine
local macro_rules | `(tactic| walk_at "pad0") => `(tactic| skip)
local macro_rules | `(tactic| walk_at "pad1") => `(tactic| skip)
local macro_rules | `(tactic| walk_at "pad2") => `(tactic| skip)
local macro_rules | `(tactic| walk_at "pad3") => `(tactic| skip)
local macro_rules | `(tactic| walk_at "pad4") => `(tactic| skip)
local macro_rules | `(tactic| walk_at "pad5") => `(tactic| skip)
local macro_rules | `(tactic| walk_at "pad6") => `(tactic| skip)
local macro_rules | `(tactic| walk_at "pad7") => `(tactic| skip)
local macro_rules | `(tactic| walk_at "pad8") => `(tactic| skip)
local macro_rules | `(tactic| walk_at "pad9") => `(tactic| skip)
local macro_rules | `(tactic| walk_at "pad10") => `(tactic| skip)
local macro_rules | `(tactic| walk_at "pad11") => `(tactic| skip)
local macro_rules | `(tactic| walk_at "pad12") => `(tactic| skip)
local macro_rules | `(tactic| walk_at "pad13") => `(tactic| skip)
local macro_rules | `(tactic| walk_at "pad14") => `(tactic| skip)
local macro_rules | `(tactic| walk_at "pad15") => `(tactic| skip)
local macro_rules | `(tactic| walk_at "pad16") => `(tactic| skip)
local macro_rules | `(tactic| walk_at "pad17") => `(tactic| skip)
local macro_rules | `(tactic| walk_at "pad18") => `(tactic| skip)
local macro_rules | `(tactic| walk_at "pad19") => `(tactic| skip)
local macro_rules | `(tactic| walk_at "pad20") => `(tactic| skip)
local macro_rules | `(tactic| walk_at "pad21") => `(tactic| skip)
local macro_rules | `(tactic| walk_at "pad22") => `(tactic| skip)
section
variable {prog : Program} {w : World} {A : Around} {E : Value → Shared → Prop} {s : Shared} {h₀ : Heap} {L r : Addr} {m : Str → Option Value} {news : List (Addr × Obj)}
/-- range from one -/
theorem riter1_K {e : Int} {t u v : Tok} {Q : Value → Shared → Prop} (F : Fr h₀ L s.heap m) (N : News h₀ L s.heap news) (hr : IsRange s.heap r 1 e 1 t u v) (h1 : 1 ≤ e) (hn : e ≤ 1000000)
    (h : ∀ it h', Fr h₀ L h' m → News h₀ L h' ((it, riO 1 (e - 1) 1) :: news) → (∀ p ∈ news, p.1 < it) → Q (.ref it) { s with heap := h' }) : wpAny (model prog w) A (pyIter (.ref r)) Q E s := by
  have e1 : Builtin.Range.rangeSize 1 e 1 = e - 1 := by
    unfold Builtin.Range.rangeSize
    simp
    omega
  refine wpAny_pyIter_range hr ?_ ?_
  · unfold Builtin.Range.small Builtin.Range.rangeFitsLong
    simp
    omega
  · rw [e1]
    exact h _ _ (F.push _) (N.push F _) fun p hp => Heap.lt_size (N p hp).1
end
/-- what a comprehension's turn must leave where the ledger changes -/
def CompTurnJ (J : Nat → List Value → List (Addr × Obj) → Prop) (S : List (Addr × Obj) → Prop) (k : Nat) (s : Shared) (h₀ : Heap) (L : Addr) (m : Str → Option Value) (I : Addr) (oI : Obj) (C : Addr) (oC : Obj) (D : Addr) (ys : List Value) (y : Value) (s' : Shared) : Prop :=
  ∃ h' tk' news', s' = { s with heap := h', toks := tk' } ∧ Fr h₀ L h' m ∧ News h₀ L h' ((I, oI) :: (C, oC) :: (D, LCg.lst ys) :: news') ∧ LCg.Off3 I C D news' ∧ S news' ∧ J k (ys ++ [y]) news'
section
variable {prog : Program} {w : World} {A : Around} {s : Shared} {h₀ : Heap} {L : Addr} {m : Str → Option Value} {env : Env} {elt : Expr} {x : Str} {scope : Scope} {cl : List (Str × Addr)} {S : List (Addr × Obj) → Prop} {Fin : List Value → List (Addr × Obj) → Prop} {news : List (Addr × Obj)} {l : List (Str × Tok)}
theorem strs_restJ (J : Nat → List Value → List (Addr × Obj) → Prop)
    (turn : ∀ i (hi : i < l.length) q t I oI C oC D m₂ ys news h tk (E' : Value → Shared → Prop), J i ys news → LCg.NsObj oC m₂ → m₂ x = some (.str q t) → Fr h₀ L h m → News h₀ L h ((I, oI) :: (C, oC) :: (D, LCg.lst ys) :: news) → LCg.Off3 I C D news → ((@Ne Nat I C) ∧ (@Ne Nat I D) ∧ (@Ne Nat C D)) →
      wpAny (model prog w) A (eval elt (compEnvC scope cl C env)) (CompTurnJ J S (i + 1) s h₀ L m I oI C oC D ys) E' { s with heap := h, toks := tk })
    (hJ : J 0 [] news) (fin : ∀ ys news, J l.length ys news → Fin ys news) : LCg.CompRest prog w A h₀ L m env elt x scope cl s S (fun i v => (strValues l).toArray[i]? = some v) Fin (strValues l).toArray.size 0 [] news := by
  have key : ∀ (j i : Nat) (ys : List Value) (news : List (Addr × Obj)), i + j = l.length → J i ys news → LCg.CompRest prog w A h₀ L m env elt x scope cl s S (fun i v => (strValues l).toArray[i]? = some v) Fin j i ys news := by
    intro j
    induction j with
    | zero =>
      intro i ys news hi hy
      have e : i = l.length := by omega
      subst e
      exact LCg.CompRest.zero (fin ys news hy)
    | succ j ih =>
      intro i ys news hi hy
      refine LCg.CompRest.succ ?_
      intro v I oI C oC D m₂ h tk E' hv hC hx F N off ne
      have hil : i < l.length := by omega
      have hv' : v = .str l[i].1 l[i].2 := by
        have := strVals_at hil
        rw [List.getElem?_toArray] at hv
        rw [this] at hv
        exact (Option.some.inj hv).symm
      rw [hv'] at hx
      refine wpAny_mono (turn i hil l[i].1 l[i].2 I oI C oC D m₂ ys news h tk E' hy hC hx F N off ne) (fun y s₂ hq => ?_) fun _ _ e => e
      obtain ⟨h', tk', news', rfl, F', N', off', hS', hJ'⟩ := hq
      exact ⟨h', tk', news', rfl, F', N', off', hS', ih (i + 1) _ _ (by omega) hJ'⟩
  have e : (strValues l).toArray.size = l.length := by simp [strValues]
  rw [e]
  exact key l.length 0 [] news (by omega) hJ
end
theorem lists_inj {a b : List (Str × Tok)} (h : lists a = lists b) : a.map (·.1) = b.map (·.1) := by
  induction a generalizing b with
  | nil => cases b with
    | nil => rfl
    | cons q r => cases h
  | cons p a ih => cases b with
    | nil => cases h
    | cons q b =>
      have h : p.1.cps.toList :: lists a = q.1.cps.toList :: lists b := h
      obtain ⟨h1, h2⟩ := List.cons.inj h
      rw [List.map_cons, List.map_cons, ih h2]
      congr 1
      obtain ⟨⟨⟨x⟩⟩, t⟩ := p
      obtain ⟨⟨⟨y⟩⟩, u⟩ := q
      simp only at h1
      rw [h1]
theorem off3_keep {I C D : Addr} {a b : List (Addr × Obj)} (h : LCg.Off3 I C D a) (hs : ∀ q ∈ b, ∃ o, (q.1, o) ∈ a) : LCg.Off3 I C D b :=
  LCg.Off3.of fun p hp => by
    obtain ⟨o, ho⟩ := hs p hp
    have := h.mem _ ho
    exact this
end Mine
end
-- part H02
section
open PySem PySem.W PyProof.Rows
set_option Elab.async false
set_option maxRecDepth 100000
set_option maxHeartbeats 8000000
namespace Mine
local macro_rules | `(tactic| walk_at "pad0") => `(tactic| skip)
local macro_rules | `(tactic| walk_at "pad1") => `(tactic| skip)
local macro_rules | `(tactic| walk_at "pad2") => `(tactic| skip)
local macro_rules | `(tactic| walk_at "pad3") => `(tactic| skip)
local macro_rules | `(tactic| walk_at "pad4") => `(tactic| skip)
local macro_rules | `(tactic| walk_at "pad5") => `(tactic| skip)
local macro_rules | `(tactic| walk_at "pad6") => `(tactic| skip)
local macro_rules | `(tactic| walk_at "pad7") => `(tactic| skip)
local macro_rules | `(tactic| walk_at "pad8") => `(tactic| skip)
local macro_rules | `(tactic| walk_at "pad9") => `(tactic| skip)
local macro_rules | `(tactic| walk_at "pad10") => `(tactic| skip)
local macro_rules | `(tactic| walk_at "pad11") => `(tactic| skip)
local macro_rules | `(tactic| walk_at "pad12") => `(tactic| skip)
local macro_rules | `(tactic| walk_at "pad13") => `(tactic| skip)
local macro_rules | `(tactic| walk_at "pad14") => `(tactic| skip)
local macro_rules | `(tactic| walk_at "pad15") => `(tactic| skip)
local macro_rules | `(tactic| walk_at "pad16") => `(tactic| skip)
local macro_rules | `(tactic| walk_at "pad17") => `(tactic| skip)
local macro_rules | `(tactic| walk_at "pad18") => `(tactic| skip)
local macro_rules | `(tactic| walk_at "pad19") => `(tactic| skip)
local macro_rules | `(tactic| walk_at "pad20") => `(tactic| skip)
local macro_rules | `(tactic| walk_at "pad21") => `(tactic| skip)
local macro_rules | `(tactic| walk_at "pad22") => `(tactic| skip)
local macro_rules | `(tactic| walk_at "pad23") => `(tactic| skip)
open_top hd02 for PySem.Challenge.rw_ny0034_02
end Mine
end
-- part Q02
section
open PySem PySem.W PyProof.Rows PySem.Calls
set_option Elab.async false
set_option maxRecDepth 100000
set_option maxHeartbeats 8000000
set_option linter.unusedVariables false
namespace Mine
local macro_rules | `(tactic| walk_at "pad0") => `(tactic| skip)
local macro_rules | `(tactic| walk_at "pad1") => `(tactic| skip)
local macro_rules | `(tactic| walk_at "pad2") => `(tactic| skip)
local macro_rules | `(tactic| walk_at "pad3") => `(tactic| skip)
local macro_rules | `(tactic| walk_at "pad4") => `(tactic| skip)
local macro_rules | `(tactic| walk_at "pad5") => `(tactic| skip)
local macro_rules | `(tactic| walk_at "pad6") => `(tactic| skip)
local macro_rules | `(tactic| walk_at "pad7") => `(tactic| skip)
local macro_rules | `(tactic| walk_at "pad8") => `(tactic| skip)
local macro_rules | `(tactic| walk_at "pad9") => `(tactic| skip)
local macro_rules | `(tactic| walk_at "pad10") => `(tactic| skip)
local macro_rules | `(tactic| walk_at "pad11") => `(tactic| skip)
local macro_rules | `(tactic| walk_at "pad12") => `(tactic| skip)
local macro_rules | `(tactic| walk_at "pad13") => `(tactic| skip)
local macro_rules | `(tactic| walk_at "pad14") => `(tactic| skip)
local macro_rules | `(tactic| walk_at "pad15") => `(tactic| skip)
local macro_rules | `(tactic| walk_at "pad16") => `(tactic| skip)
local macro_rules | `(tactic| walk_at "pad17") => `(tactic| skip)
local macro_rules | `(tactic| walk_at "pad18") => `(tactic| skip)
local macro_rules | `(tactic| walk_at "pad19") => `(tactic| skip)
local macro_rules | `(tactic| walk_at "pad20") => `(tactic| skip)
local macro_rules | `(tactic| walk_at "pad21") => `(tactic| skip)
local macro_rules | `(tactic| walk_at "pad22") => `(tactic| skip)
local macro_rules | `(tactic| walk_at "pad23") => `(tactic| skip)

abbrev Sp02 (w : World) (p : Program) (loose : List Str) (mean : ExcName → Option Value) (mg mb : Str → Option Value) := SpecF PySem.Challenge.rw_ny0034_02.row.prog w (hd02.heap_39 w.params) p loose mean mg mb

local macro_rules | `(tactic| walk_at "getMethod ref") => `(tactic| (k_here; (with_reducible show wpAny _ _ (getMethod (Value.ref _) (Str.ofString "sub") _) _ _ _); refine sub_method (PatAt.keeps (by assumption) (Fr.keep (by k_asm))) ?_))
theorem quotedata02 (w : World) (p : Program) (loose : List Str) (mean : ExcName → Option Value) (mg mb : Str → Option Value) (x : Str) (t : Tok) (hx : x.cps.size ≤ 20000) :
    SpecF PySem.Challenge.rw_ny0034_02.row.prog w (hd02.heap_39 w.params) p loose mean mg mb 55 1 [.str x t] [] (fun _ => True) (fun v own' => own' = [] ∧ ∃ t', v = .str (quoted x) t') := by
  w_top off
  k_fill
  intro dp un gd cn cs a ccd cl outer A₀ base h₀ L m s rest R B F X N hsep T hk _ hd hu hret
  k_dflt (refine' code_own (own := []) (rest := rest) ?k1 ?k2 ?k3 ?k4 ?kS ?k5 ?kA ?kF ?kK ?k6 ?k7 ?k8 ?k9 ?kB ?_ ?c2 ?c3 ?c4 ?c5; (case kA => exact rfl); (case kF => exact rfl); (case kK => assumption); (case kS => assumption); (case k1 => k_asm); (case k2 => k_asm); (case k3 => k_asm); (case k4 => k_asm); (case k5 => k_asm); (case k6 => k_is); (case k7 => k_is); (case k8 => ktr_room); (case k9 => exact BindsTo.of_eq rfl); (case c5 => decide); (case kB => exact locs rfl); (case c2 => exact rfl); (case c3 => exact rfl); (case c4 => exact rfl); k_whole)
  intro g L' h₁ F' N' B' X' T' hst hrest hlt
  clear B F X T
  dsimp only
  have P1 : PatAt g 43 code1 := ⟨_, _, _, _, _, _, X' _ _ (by k_is), rfl, rfl, rfl, rfl, rfl, rfl, X' _ _ (by k_is), rfl, by decide +kernel⟩
  have P2 : PatAt g 48 code2 := ⟨_, _, _, _, _, _, X' _ _ (by k_is), rfl, rfl, rfl, rfl, rfl, rfl, X' _ _ (by k_is), rfl, by decide +kernel⟩
  k_steps
  refine' call_sub2 P2 ?f ?n hx ?_; (case f => k_asm); (case n => k_asm)
  intro h' u tk' F2 N2
  (try dsimp only)
  k_steps
  refine' call_sub1 P1 ?f ?n ?s ?_; (case f => k_asm); (case n => k_asm); (case s => have := crlfS_size x; omega)
  intro h'' u' tk'' F3 N3
  (try dsimp only)
  k_steps
  exact ⟨L', _, [], F3, N3, fun F4 N4 H4 => hret _ [] _ _ ⟨rfl, _, rfl⟩ H4 F4 N4⟩
end Mine
end
-- part R02
section
open PySem PySem.W PyProof.Rows PySem.Calls
set_option Elab.async false
set_option maxRecDepth 100000
set_option maxHeartbeats 8000000
set_option linter.unusedVariables false
namespace Mine
local macro_rules | `(tactic| walk_at "pad0") => `(tactic| skip)
local macro_rules | `(tactic| walk_at "pad1") => `(tactic| skip)
local macro_rules | `(tactic| walk_at "pad2") => `(tactic| skip)
local macro_rules | `(tactic| walk_at "pad3") => `(tactic| skip)
local macro_rules | `(tactic| walk_at "pad4") => `(tactic| skip)
local macro_rules | `(tactic| walk_at "pad5") => `(tactic| skip)
local macro_rules | `(tactic| walk_at "pad6") => `(tactic| skip)
local macro_rules | `(tactic| walk_at "pad7") => `(tactic| skip)
local macro_rules | `(tactic| walk_at "pad8") => `(tactic| skip)
local macro_rules | `(tactic| walk_at "pad9") => `(tactic| skip)
local macro_rules | `(tactic| walk_at "pad10") => `(tactic| skip)
local macro_rules | `(tactic| walk_at "pad11") => `(tactic| skip)
local macro_rules | `(tactic| walk_at "pad12") => `(tactic| skip)
local macro_rules | `(tactic| walk_at "pad13") => `(tactic| skip)
local macro_rules | `(tactic| walk_at "pad14") => `(tactic| skip)
local macro_rules | `(tactic| walk_at "pad15") => `(tactic| skip)
local macro_rules | `(tactic| walk_at "pad16") => `(tactic| skip)
local macro_rules | `(tactic| walk_at "pad17") => `(tactic| skip)
local macro_rules | `(tactic| walk_at "pad18") => `(tactic| skip)
local macro_rules | `(tactic| walk_at "pad19") => `(tactic| skip)
local macro_rules | `(tactic| walk_at "pad20") => `(tactic| skip)
local macro_rules | `(tactic| walk_at "pad21") => `(tactic| skip)
local macro_rules | `(tactic| walk_at "pad22") => `(tactic| skip)
local macro_rules | `(tactic| walk_at "pad23") => `(tactic| skip)
local macro_rules | `(tactic| walk_at "pad24") => `(tactic| skip)
local macro_rules | `(tactic| walk_at "pad25") => `(tactic| skip)
local macro_rules | `(tactic| k_room) => `(tactic| ktr_room)
local macro_rules | `(tactic| k_units) => `(tactic| ktr_units)
/-- the contract of a stream's read(1) -/
abbrev ReadOk02 (w : World) (p : Program) (loose : List Str) (mean : ExcName → Option Value) (mg mb : Str → Option Value) (sent : Str) (f atA : Addr) (rd : List (Addr × Obj)) : Prop :=
  ∀ (n : Nat) (t t1 : Tok), n ≤ sent.cps.size → SpecF PySem.Challenge.rw_ny0034_02.row.prog w (hd02.heap_39 w.params) p loose mean mg mb f 1 [.int 1 t1] [(atA, atO n t)] (fun g => ∀ q ∈ rd, g.get? q.1 = some q.2) (fun v own' => ∃ t1 t2, v = .str (piece sent n) t1 ∧ own' = [(atA, atO (n + (piece sent n).length) t2)])

theorem read02 (w : World) (p : Program) (loose : List Str) (mean : ExcName → Option Value) (mg mb : Str → Option Value) (sent : Str) (x : Lx) (rd : List (Addr × Obj)) (hfn : ∃ fo, (x.f, fo) ∈ rd ∧ ∃ oc od fd sl, fo = ⟨oc, od, .func fd, sl⟩)
    (hR : ReadOk02 w p loose mean mg mb sent x.f x.atA rd) (hnd : List.Nodup [x.lex, x.lexd, x.st, x.std, x.atA]) (ps : Nat) (hps : ps ≤ sent.cps.size) (ta tl : Tok) :
    SpecF PySem.Challenge.rw_ny0034_02.row.prog w (hd02.heap_39 w.params) p loose mean mg mb 76 2 [.ref x.lex] (x.own 93 w.params sent ps tl ta) (fun g => ∀ q ∈ rd, g.get? q.1 = some q.2)
      (fun v own' => ∃ t1 ta' tl', v = .str (piece sent ps) t1 ∧ own' = x.own 93 w.params sent (ps + (piece sent ps).length) tl' ta') := by
  w_top off
  k_fill
  intro dp un gd cn cs a ccd cl outer A₀ base h₀ L m s rest R B F X N hsep T hk hpre hd hu hret
  k_dflt (refine' code_own (rest := rest) ?k1 ?k2 ?k3 ?k4 ?kS ?k5 ?kA ?kF ?kK ?k6 ?k7 ?k8 ?k9 ?kB ?_ ?c2 ?c3 ?c4 ?c5; (case kA => exact rfl); (case kF => exact rfl); (case kK => assumption); (case kS => assumption); (case k1 => k_asm); (case k2 => k_asm); (case k3 => k_asm); (case k4 => k_asm); (case k5 => k_asm); (case k6 => k_is); (case k7 => k_is); (case k8 => ktr_room); (case k9 => exact BindsTo.of_eq rfl); (case c5 => decide); (case kB => exact locs rfl); (case c2 => exact rfl); (case c3 => exact rfl); (case c4 => exact rfl); k_whole)
  intro g L' h₁ F' N' B' X' T' hst hrest hlt
  have hrd := hpre g hst hrest
  clear B F X T N
  (try dsimp only)
  have hFn : ∀ h, (∀ b o, g.get? b = some o → h.get? b = some o) → FnAt x.f h := fun h hk => by
    obtain ⟨fo, hm, oc, od, fd, sl, rfl⟩ := hfn
    exact ⟨oc, od, fd, sl, hk _ _ (hrd _ hm)⟩
  walk1; walk1; walk1; walk1; walk1; walk1; walk1; walk1; (try dsimp only)
  refine callWith_F (hFn _ F'.keep) ?_
  walk1; walk1; walk1; (try dsimp only)
  refine ⟨hFn _ (Fr.keep (by k_asm)), ?_⟩
  obtain ⟨n1, n2, n3, n4, n5, n6, n7, n8, n9, n10⟩ := nd5 hnd
  k_dflt (refine' (hR ps ta _ hps).call [(x.lex, instObj 93 x.lexd), (x.lexd, lexD w.params x.k1 x.k2 x.k3 x.k4 (lnAt sent ps) tl (.ref x.st) x.ws x.tw x.pb), (x.st, instObj 93 x.std), (x.std, stD w.params x.j1 x.j2 x.j3 x.j4 x.j5 x.v1 x.v2 x.v3 x.v4 x.f)] ?k1 ?k2 ?k3 ?k4 ?hin ?hsep ?k5 ?kK ?hpre ?kd ?ku ?_; (case k1 => k_asm); (case k2 => k_asm); (case k3 => k_asm); (case k4 => k_asm); (case k5 => k_asm); (case kK => exact rfl); (case kd => ktr_room); (case ku => ktr_units); k_whole)
  case hin => kcj_all
  case hsep => intro q hq; simp at hq; rcases hq with rfl | rfl | rfl | rfl <;> simp <;> assumption
  case hpre => exact fun g' hg' _ q hq => hg' _ _ (hrd q hq)
  rintro v own' h' tk' ⟨t1, t2, rfl, rfl⟩ _ F2 N2
  simp only [List.cons_append, List.nil_append] at N2
  (try dsimp only)
  k_steps
  all_goals (try dsimp only)
  all_goals k_steps
  · rename_i hb _ _ _
    have e : (if piece sent ps = Str.ofString "\n" then (1 : Int) else 0) = 1 := if_pos (eq_of_beq hb)
    have e2 := lnAt_step (sent := sent) (p := ps)
    rw [e] at e2
    refine' leaveO_ [(x.lex, instObj 93 x.lexd), (x.lexd, lexD w.params x.k1 x.k2 x.k3 x.k4 (lnAt sent ps + 1) ?tl (.ref x.st) x.ws x.tw x.pb), (x.st, instObj 93 x.std), (x.std, stD w.params x.j1 x.j2 x.j3 x.j4 x.j5 x.v1 x.v2 x.v3 x.v4 x.f), (x.atA, atO (ps + (piece sent ps).length) t2)] ?f ?n ?i ?k
    case f => k_asm
    case n => k_asm
    case i => kcj_all
    case k => rw [e2]; exact fun F4 N4 H4 => hret _ _ _ _ ⟨_, _, _, rfl, rfl⟩ H4 F4 N4
  · rename_i hb
    have e : (if piece sent ps = Str.ofString "\n" then (1 : Int) else 0) = 0 := if_neg (fun q => by rw [q] at hb; simp at hb)
    have e2 := lnAt_step (sent := sent) (p := ps)
    rw [e, Int.add_zero] at e2
    refine' leaveO_ [(x.lex, instObj 93 x.lexd), (x.lexd, lexD w.params x.k1 x.k2 x.k3 x.k4 (lnAt sent ps) tl (.ref x.st) x.ws x.tw x.pb), (x.st, instObj 93 x.std), (x.std, stD w.params x.j1 x.j2 x.j3 x.j4 x.j5 x.v1 x.v2 x.v3 x.v4 x.f), (x.atA, atO (ps + (piece sent ps).length) t2)] ?f ?n ?i ?k
    case f => k_asm
    case n => k_asm
    case i => kcj_all
    case k => rw [e2]; exact fun F4 N4 H4 => hret _ _ _ _ ⟨_, _, _, rfl, rfl⟩ H4 F4 N4
end Mine
end
-- part G02
section
open PySem PySem.W PyProof.Rows PySem.Calls
set_option Elab.async false
set_option maxRecDepth 100000
set_option maxHeartbeats 8000000
set_option linter.unusedVariables false
namespace Mine
local macro_rules | `(tactic| walk_at "pad0") => `(tactic| skip)
local macro_rules | `(tactic| walk_at "pad1") => `(tactic| skip)
local macro_rules | `(tactic| walk_at "pad2") => `(tactic| skip)
local macro_rules | `(tactic| walk_at "pad3") => `(tactic| skip)
local macro_rules | `(tactic| walk_at "pad4") => `(tactic| skip)
local macro_rules | `(tactic| walk_at "pad5") => `(tactic| skip)
local macro_rules | `(tactic| walk_at "pad6") => `(tactic| skip)
local macro_rules | `(tactic| walk_at "pad7") => `(tactic| skip)
local macro_rules | `(tactic| walk_at "pad8") => `(tactic| skip)
local macro_rules | `(tactic| walk_at "pad9") => `(tactic| skip)
local macro_rules | `(tactic| walk_at "pad10") => `(tactic| skip)
local macro_rules | `(tactic| walk_at "pad11") => `(tactic| skip)
local macro_rules | `(tactic| walk_at "pad12") => `(tactic| skip)
local macro_rules | `(tactic| walk_at "pad13") => `(tactic| skip)
local macro_rules | `(tactic| walk_at "pad14") => `(tactic| skip)
local macro_rules | `(tactic| walk_at "pad15") => `(tactic| skip)
local macro_rules | `(tactic| walk_at "pad16") => `(tactic| skip)
local macro_rules | `(tactic| walk_at "pad17") => `(tactic| skip)
local macro_rules | `(tactic| walk_at "pad18") => `(tactic| skip)
local macro_rules | `(tactic| walk_at "pad19") => `(tactic| skip)
local macro_rules | `(tactic| walk_at "pad20") => `(tactic| skip)
local macro_rules | `(tactic| walk_at "pad21") => `(tactic| skip)
local macro_rules | `(tactic| walk_at "pad22") => `(tactic| skip)
local macro_rules | `(tactic| walk_at "pad23") => `(tactic| skip)
local macro_rules | `(tactic| walk_at "pad24") => `(tactic| skip)
local macro_rules | `(tactic| walk_at "pad25") => `(tactic| skip)
local macro_rules | `(tactic| k_room) => `(tactic| ktr_room)
local macro_rules | `(tactic| k_units) => `(tactic| ktr_units)
local macro_rules | `(tactic| walk_at "go") => `(tactic| repeat' (first | (k_unfold; (try dsimp only)) | ((fail_if_success (with_reducible show wpAny _ _ (exec (Stmt.While _ _ _ _) _) _ _ _)); (fail_if_success (with_reducible show wpAny _ _ (exec (Stmt.For _ _ _ _ _) _) _ _ _)); (fail_if_success (with_reducible show wpAny _ _ (PySem.call (Value.ref _) _) _ _ _)); first | walk1 | (dsimp only; walk1))))


/-- one step of the iterator, in get_token's frame -/
theorem nx02 {w : World} {p : Program} {loose : List Str} {mean : ExcName → Option Value} {mg mb : Str → Option Value} {sent : Str} {x : Lx} {rd : List (Addr × Obj)} (hfn : ∃ fo, (x.f, fo) ∈ rd ∧ ∃ oc od fd sl, fo = ⟨oc, od, .func fd, sl⟩)
    (hR : ReadOk02 w p loose mean mg mb sent x.f x.atA rd) (hnd : List.Nodup [x.lex, x.lexd, x.st, x.std, x.atA, x.pb]) {ps : Nat} (hps : ps ≤ sent.cps.size) {ta tl : Tok} {nb : Nat} {dp un : Nat} {gd : Option (List Code)} {cn : Str} {cs : Scope} {a : Addr} {ccd : Value} {cl : List (Str × Addr)} {outer : List Env} {A₀ : Around} {base g : Heap} {L : Addr} {m : Str → Option Value} {s : Shared} {q ci : Addr} {t0 : Tok} {Q : Option Value → Shared → Prop} {E : Value → Shared → Prop}
    (B : Below A₀ base outer g) (F : Fr g L s.heap m) (X : (hd02.heap_39 w.params).In g) (N : News g L s.heap ((ci, ciO q (Str.ofString "") t0) :: (q, methodObj (.ref 76) (.ref x.lex)) :: (x.pb, listOf #[] nb) :: x.own 93 w.params sent ps tl ta)) (T : Top p loose mean mg mb g) (hk : cs.kind = .function)
    (hq : x.pb < q ∧ x.lex < q ∧ x.lexd < q ∧ x.st < q ∧ x.std < q ∧ x.atA < q) (hci : q < ci) (hrd : ∀ q ∈ rd, g.get? q.1 = some q.2) (hd : dp + 2 < recursionLimit) (hu : un + 20 < cLine)
    (h1 : ∀ (hlt : ps < sent.cps.size) h' tk' tl' ta' ty, Fr g L h' m → News g L h' ((ci, ciO q (Str.ofString "") t0) :: (q, methodObj (.ref 76) (.ref x.lex)) :: (x.pb, listOf #[] nb) :: x.own 93 w.params sent (ps + 1) tl' ta') → Q (some (.str ⟨#[sent.cps[ps]]⟩ ty)) { s with heap := h', toks := tk' })
    (h2 : sent.cps.size ≤ ps → ∀ h' tk' tl' ta', Fr g L h' m → News g L h' ((ci, ciEnd) :: (q, methodObj (.ref 76) (.ref x.lex)) :: (x.pb, listOf #[] nb) :: x.own 93 w.params sent ps tl' ta') → Q none { s with heap := h', toks := tk' }) :
    wpAny (model PySem.Challenge.rw_ny0034_02.row.prog w) (ktrTop dp un gd cn cs L a ccd cl outer) (pyNext (.ref ci)) Q E s := by
  revert X
  w_top off
  k_fill
  intro X
  have hF59 : ∀ h, (∀ b o, g.get? b = some o → h.get? b = some o) → FnAt 76 h := fun h hk => ⟨_, _, _, _, hk _ _ (X _ _ (by k_is))⟩
  obtain ⟨nd, e1, e2, e3, e4, e5⟩ := nd6 hnd
  obtain ⟨q1, q2, q3, q4, q5, q6⟩ := hq
  have S := read02 w p loose mean mg mb sent x rd hfn hR nd ps hps ta tl
  refine ci_next rfl (N _ (.head _)).1 (N _ (.tail _ (.head _))).1 (hF59 _ F.keep) ?_
  show codeAny _ (ktrTop dp (un + 1) gd cn cs L a ccd cl outer) _ _ _
  have neq : ∀ b : Nat, b < q → b ≠ ci := fun b hb => Nat.ne_of_lt (Nat.lt_trans hb hci)
  refine S.code [(ci, ciO q (Str.ofString "") t0), (q, methodObj (.ref 76) (.ref x.lex)), (x.pb, listOf #[] nb)] B F X N (by kcj_all) ?_ T hk (fun g' hg' _ r hr => hg' _ _ (hrd r hr)) (by omega) (by omega) ?_
  · intro r hr
    have l1 := neq _ q2; have l2 := neq _ q3; have l3 := neq _ q4; have l4 := neq _ q5; have l5 := neq _ q6
    have m1 := Nat.ne_of_lt q2; have m2 := Nat.ne_of_lt q3; have m3 := Nat.ne_of_lt q4; have m4 := Nat.ne_of_lt q5; have m5 := Nat.ne_of_lt q6
    simp at hr
    rcases hr with rfl | rfl | rfl
    · simp; exact ⟨Ne.symm l1, Ne.symm l2, Ne.symm l3, Ne.symm l4, Ne.symm l5⟩
    · simp; exact ⟨Ne.symm m1, Ne.symm m2, Ne.symm m3, Ne.symm m4, Ne.symm m5⟩
    · simp; exact ⟨Ne.symm e1, Ne.symm e2, Ne.symm e3, Ne.symm e4, Ne.symm e5⟩
  · rintro v own' h' tk' ⟨t1, ta', tl', rfl, rfl⟩ _ F2 N2
    have N3 : News g L h' ((ci, ciO q (Str.ofString "") t0) :: (q, methodObj (.ref 76) (.ref x.lex)) :: (x.pb, listOf #[] nb) :: x.own 93 w.params sent (ps + (piece sent ps).length) tl' ta') := cb_drop N2 (by kcj_all)
    refine ⟨_, _, rfl, (N3 _ (.head _)).1, (N3 _ (.tail _ (.head _))).1, hF59 _ F2.keep, fun hy h'' hk'' hc'' => ?_, fun hy => ?_⟩
    · have hge : sent.cps.size ≤ ps := by
        refine Nat.le_of_not_lt fun hlt => ?_
        exact piece_ne hlt hy
      have hl : (piece sent ps).length = 0 := by rw [piece_ge hge]; rfl
      rw [hl, Nat.add_zero] at N3
      obtain ⟨oL, es, ep, hL, rL⟩ := F2.ns
      have hgc : g.get? ci = none := (N3 _ (.head _)).2.2
      refine h2 hge h'' tk' tl' ta' ⟨⟨oL, es, ep, hk'' _ _ (Ne.symm (N3 _ (.head _)).2.1) hL, rL⟩, fun b o e => hk'' b o (fun z => by rw [z, hgc] at e; cases e) (F2.keep b o e), F2.above⟩ fun r hr => ?_
      rcases List.mem_cons.mp hr with rfl | hr
      · exact ⟨hc'', (N3 _ (.head _)).2⟩
      · have hn := N3 r (.tail _ hr)
        refine ⟨hk'' _ _ ?_ hn.1, hn.2⟩
        simp at hr
        rcases hr with rfl | rfl | rfl | rfl | rfl | rfl | rfl
        · exact Nat.ne_of_lt hci
        all_goals exact neq _ (by assumption)
    · have hlt : ps < sent.cps.size := by
        refine Nat.lt_of_not_le fun hge => hy ?_
        rw [piece_ge hge]
        decide +kernel
      have hl : (piece sent ps).length = 1 := by rw [piece_lt hlt]; rfl
      rw [hl] at N3
      rw [piece_lt hlt]
      exact h1 hlt h' tk' tl' ta' t1 F2 N3

end Mine
end
-- part G02b
section
open PySem PySem.W PyProof.Rows PySem.Calls
set_option Elab.async false
set_option maxRecDepth 100000
set_option maxHeartbeats 8000000
set_option linter.unusedVariables false
namespace Mine
local macro_rules | `(tactic| walk_at "pad0") => `(tactic| skip)
local macro_rules | `(tactic| walk_at "pad1") => `(tactic| skip)
local macro_rules | `(tactic| walk_at "pad2") => `(tactic| skip)
local macro_rules | `(tactic| walk_at "pad3") => `(tactic| skip)
local macro_rules | `(tactic| walk_at "pad4") => `(tactic| skip)
local macro_rules | `(tactic| walk_at "pad5") => `(tactic| skip)
local macro_rules | `(tactic| walk_at "pad6") => `(tactic| skip)
local macro_rules | `(tactic| walk_at "pad7") => `(tactic| skip)
local macro_rules | `(tactic| walk_at "pad8") => `(tactic| skip)
local macro_rules | `(tactic| walk_at "pad9") => `(tactic| skip)
local macro_rules | `(tactic| walk_at "pad10") => `(tactic| skip)
local macro_rules | `(tactic| walk_at "pad11") => `(tactic| skip)
local macro_rules | `(tactic| walk_at "pad12") => `(tactic| skip)
local macro_rules | `(tactic| walk_at "pad13") => `(tactic| skip)
local macro_rules | `(tactic| walk_at "pad14") => `(tactic| skip)
local macro_rules | `(tactic| walk_at "pad15") => `(tactic| skip)
local macro_rules | `(tactic| walk_at "pad16") => `(tactic| skip)
local macro_rules | `(tactic| walk_at "pad17") => `(tactic| skip)
local macro_rules | `(tactic| walk_at "pad18") => `(tactic| skip)
local macro_rules | `(tactic| walk_at "pad19") => `(tactic| skip)
local macro_rules | `(tactic| walk_at "pad20") => `(tactic| skip)
local macro_rules | `(tactic| walk_at "pad21") => `(tactic| skip)
local macro_rules | `(tactic| walk_at "pad22") => `(tactic| skip)
local macro_rules | `(tactic| walk_at "pad23") => `(tactic| skip)
local macro_rules | `(tactic| walk_at "pad24") => `(tactic| skip)
local macro_rules | `(tactic| walk_at "pad25") => `(tactic| skip)
local macro_rules | `(tactic| k_room) => `(tactic| ktr_room)
local macro_rules | `(tactic| k_units) => `(tactic| ktr_units)
local macro_rules | `(tactic| walk_at "go") => `(tactic| repeat' (first | (k_unfold; (try dsimp only)) | ((fail_if_success (with_reducible show wpAny _ _ (exec (Stmt.While _ _ _ _) _) _ _ _)); (fail_if_success (with_reducible show wpAny _ _ (exec (Stmt.For _ _ _ _ _) _) _ _ _)); (fail_if_success (with_reducible show wpAny _ _ (PySem.call (Value.ref _) _) _ _ _)); first | walk1 | (dsimp only; walk1))))


local macro_rules | `(tactic| walk_at "inplaceOp Add str str") => `(tactic| (refine PyProof.Rows.iadd_str ?_ (fit1 (by assumption) (by first | exact Nat.le_refl 1 | exact piece_le1 _ _)); intro _ _))
theorem token02 (w : World) (p : Program) (loose : List Str) (mean : ExcName → Option Value) (mg mb : Str → Option Value) (sent : Str) (x : Lx) (rd : List (Addr × Obj)) (hfn : ∃ fo, (x.f, fo) ∈ rd ∧ ∃ oc od fd sl, fo = ⟨oc, od, .func fd, sl⟩)
    (hR : ReadOk02 w p loose mean mg mb sent x.f x.atA rd) (hnd : List.Nodup [x.lex, x.lexd, x.st, x.std, x.atA, x.pb]) (ps : Nat) (hps : ps ≤ sent.cps.size) (hsz : sent.cps.size ≤ 1000000) (ta tl : Tok) (nb : Nat) :
    SpecF PySem.Challenge.rw_ny0034_02.row.prog w (hd02.heap_39 w.params) p loose mean mg mb 83 4 [.ref x.lex] ((x.pb, listOf #[] nb) :: x.own 93 w.params sent ps tl ta) (fun g => ∀ q ∈ rd, g.get? q.1 = some q.2)
      (fun v own' => ∃ t1 ta' tl', v = .str ⟨(tok x.ws.cps.toList (sent.cps.toList.drop ps)).1.toArray⟩ t1 ∧ own' = (x.pb, listOf #[] nb) :: x.own 93 w.params sent (sent.cps.size - (tok x.ws.cps.toList (sent.cps.toList.drop ps)).2.length) tl' ta') := by
  w_top off
  k_fill
  intro dp un gd cn cs a ccd cl outer A₀ base h₀ L m s rest R B F X N hsep T hk hpre hd hu hret
  k_dflt (refine' code_own (rest := rest) ?k1 ?k2 ?k3 ?k4 ?kS ?k5 ?kA ?kF ?kK ?k6 ?k7 ?k8 ?k9 ?kB ?_ ?c2 ?c3 ?c4 ?c5; (case kA => exact rfl); (case kF => exact rfl); (case kK => assumption); (case kS => assumption); (case k1 => k_asm); (case k2 => k_asm); (case k3 => k_asm); (case k4 => k_asm); (case k5 => k_asm); (case k6 => k_is); (case k7 => k_is); (case k8 => ktr_room); (case k9 => exact BindsTo.of_eq rfl); (case c5 => decide); (case kB => exact locs rfl); (case c2 => exact rfl); (case c3 => exact rfl); (case c4 => exact rfl); k_whole)
  intro g L' h₁ F' N' B' X' T' hst hrest hlt
  have hrd := hpre g hst hrest
  clear B F X T N
  (try dsimp only)
  walk_at "go"
  (rename Fr _ _ _ _ => Fq)
  (rename News _ _ _ _ => Nq)
  rename_i q0 hq0 lq
  refine iter_K Fq Nq (by k_mem) ?_
  intro ci h2 F2 N2 lci
  k_lt lci
  dsimp only
  clear Fq Nq
  walk_at "go"
  (try clear F2); (try clear N2)
  (rename Fr _ _ _ _ => Fq)
  (rename News _ _ _ _ => Nq)
  refine wpAny_For ?_
  walk1
  refine ci_iter (Nq _ (.head _)).1 rfl ?_
  generalize hTT : tok x.ws.cps.toList (sent.cps.toList.drop ps) = TT at hret
  have fin : ∀ (pp : Nat) (tl' ta' t : Tok) (h : Heap) (tk : Nat) (m' : Str → Option Value) (news' : List (Addr × Obj)) (y : Str), Fr g L' h m' → News g L' h news' → (∀ q ∈ (x.pb, listOf #[] nb) :: x.own 93 w.params sent pp tl' ta', q ∈ news') → pp = sent.cps.size - TT.2.length → y = ⟨TT.1.toArray⟩ →
      LeaveO h₀ L m g rest R (.str y t) { s with heap := h, toks := tk } := by
    intro pp tl' ta' t h tk m' news' y F4 N4 hin hpp hy
    subst hy
    subst hpp
    exact leaveO_ _ F4 N4 hin fun F5 N5 H5 => hret _ _ _ _ ⟨_, _, _, rfl, rfl⟩ H5 F5 N5
  refine for_inv (fun n s' => ∃ (pp : Nat) (tkn : List Nat) (t t0 tl ta : Tok) (u : Str → Option Value) (h : Heap) (tk : Nat), s' = { s with heap := h, toks := tk } ∧ Fr g L' h (gtM x.lex ci tkn t u) ∧
    ((News g L' h ((ci, ciO q0 (Str.ofString "") t0) :: (q0, methodObj (.ref 76) (.ref x.lex)) :: (x.pb, listOf #[] nb) :: x.own 93 w.params sent pp tl ta) ∧ tkn = [] ∧ pp ≤ sent.cps.size ∧ tok x.ws.cps.toList (sent.cps.toList.drop pp) = TT ∧ n = sent.cps.size - pp + 1) ∨
     (News g L' h ((ci, ciEnd) :: (q0, methodObj (.ref 76) (.ref x.lex)) :: (x.pb, listOf #[] nb) :: x.own 93 w.params sent pp tl ta) ∧ tkn = TT.1 ∧ pp = sent.cps.size ∧ TT.2 = [] ∧ n = 0))) ?turn (sent.cps.size - ps + 1)
    ⟨ps, [], _, _, tl, ta, _, _, _, rfl, gtM_of Fq rfl rfl rfl (by decide +kernel), .inl ⟨Nq, rfl, hps, hTT, rfl⟩⟩
  case turn =>
    clear Fq Nq
    rintro n s' ⟨pp, tkn, t, t0, tl1, ta1, u, h, tk, rfl, Fh, (⟨Nh, rfl, hpp, hT, rfl⟩ | ⟨Nh, rfl, rfl, hT2, rfl⟩)⟩
    · k_dflt (refine' nx02 hfn hR hnd (by assumption) ?B Fh X' Nh T' ?K lq lci.1 hrd ?d ?u ?_ ?_; (case B => exact B'); (case K => exact rfl); (case d => ktr_room); (case u => ktr_units))
      · intro hlt1 h' tk' tl' ta' ty F2 N2
        dsimp only
        rw [drop_here hlt1] at hT
        have h0 : ([] : List Nat).length ≤ 1000000 := by decide
        walk_at "go"
        -- a quote
        · (rename Fr _ _ _ _ => F3); (rename News _ _ _ _ => N3)
          (rename (Builtin.Str.occurrences _ _ _ _ _).isEmpty = _ => hw); (rename (_ == Str.ofString "\"") = _ => hq)
          have hw := not_in_ws hw
          have hq := one34 hq
          rw [hq] at hT hw
          rw [tok_q _ hw] at hT
          refine wpAny_For ?_
          walk1
          refine ci_iter (N3 _ (.head _)).1 rfl ?_
          refine for_inv (fun n s' => ∃ (pp : Nat) (tkn : List Nat) (t t0 tl ta : Tok) (u : Str → Option Value) (h : Heap) (tk : Nat), s' = { s with heap := h, toks := tk } ∧ Fr g L' h (gtM x.lex ci tkn t u) ∧ News g L' h ((ci, ciO q0 (Str.ofString "") t0) :: (q0, methodObj (.ref 76) (.ref x.lex)) :: (x.pb, listOf #[] nb) :: x.own 93 w.params sent pp tl ta) ∧ pp ≤ sent.cps.size ∧ tkn ++ (tokQ (sent.cps.toList.drop pp)).1 = TT.1 ∧ (tokQ (sent.cps.toList.drop pp)).2 = TT.2 ∧ n = sent.cps.size - pp + 1) ?_ _
            ⟨pp + 1, [], _, _, _, _, _, _, _, rfl, gtM_of F3 rfl rfl rfl rfl, N3, hlt1, by rw [hT]; rfl, by rw [hT], rfl⟩
          (try clear Fh); (try clear Nh); (try clear F2); (try clear N2); (try clear F3); (try clear N3)
          rintro n s' ⟨pp2, tkn, t, t0, tl1, ta1, u, h, tk, rfl, Fh, Nh, hpp2, hT1, hT2, rfl⟩
          k_dflt (refine' nx02 hfn hR hnd (by assumption) ?B Fh X' Nh T' ?K lq lci.1 hrd ?d ?u ?_ ?_; (case B => exact B'); (case K => exact rfl); (case d => ktr_room); (case u => ktr_units))
          · intro hlt2 h' tk' tl' ta' ty F2 N2
            dsimp only
            have hle : tkn.length ≤ 1000000 := by
              have := tok_len x.ws.cps.toList (sent.cps.toList.drop ps)
              rw [hTT, ← hT1] at this
              simp at this
              omega
            walk_at "go"
            -- the closing quote
            · (rename Fr _ _ _ _ => F3); (rename News _ _ _ _ => N3); (rename (_ == Str.ofString "\"") = _ => hq2)
              have hq2 := one34 hq2
              rw [drop_here hlt2, hq2, tokQ_q] at hT1 hT2
              refine fin _ _ _ _ _ _ _ _ _ F3 N3 (by kcj_all) ?_ ?_
              · rw [← hT2]; exact drop_len hlt2
              · rw [← hT1]; simp
            -- an escape
            · (rename Fr _ _ _ _ => F3); (rename News _ _ _ _ => N3); (rename (_ == Str.ofString "\\") = _ => hb2)
              have hb2 := one92 hb2
              obtain ⟨b1, b2⟩ := tokQ_at_b hlt2 hb2
              k_dflt (refine' (read02 w p loose mean mg mb sent x rd hfn hR (nd6 hnd).1 _ (by assumption) _ _).call [(ci, ciO q0 (Str.ofString "") t0), (q0, methodObj (.ref 76) (.ref x.lex)), (x.pb, listOf #[] nb)] ?k1 ?k2 ?k3 N3 ?hin ?hsep ?k5 ?kK ?hpre ?kd ?ku ?_; (case k1 => k_asm); (case k2 => k_asm); (case k3 => k_asm); (case k5 => k_asm); (case kK => exact rfl); (case kd => ktr_room); (case ku => ktr_units))
              case hin => kcj_all
              case hsep => exact sep3 hnd lq lci.1
              case hpre => exact fun g' hg' _ q hq => hg' _ _ (hrd q hq)
              rintro v own' h' tk' ⟨t1, t2, t3, rfl, rfl⟩ _ F4 N4
              (try clear F3); (try clear N3)
              simp only [List.cons_append, List.nil_append] at N4
              (try dsimp only)
              walk_at "go"
              (rename Fr _ _ _ _ => F5); (rename News _ _ _ _ => N5)
              refine ⟨sent.cps.size - (pp2 + 1 + (piece sent (pp2 + 1)).length) + 1, by omega, _, tkn ++ (piece sent (pp2 + 1)).cps.toList, _, _, _, _, _, _, _, rfl, gtM_of F5 rfl rfl rfl (app_lit _ _), cb_drop N5 (by kcj_all), piece_len hlt2, ?_, ?_, rfl⟩
              · rw [List.append_assoc, ← b1]; exact hT1
              · rw [← b2]; exact hT2
            -- any other sign
            · (rename Fr _ _ _ _ => F3); (rename News _ _ _ _ => N3); (rename (_ == Str.ofString "\\") = _ => hb2); (rename (_ == Str.ofString "\"") = _ => hq2)
              have hb2 := one92_no hb2
              have hq2 := one34_no hq2
              rw [drop_here hlt2, tokQ_o _ hq2 hb2] at hT1 hT2
              refine ⟨sent.cps.size - (pp2 + 1) + 1, by omega, pp2 + 1, tkn ++ [sent.cps[pp2]], _, _, _, _, _, _, _, rfl, gtM_of F3 rfl rfl rfl (app_lit _ _), N3, hlt2, ?_, hT2, rfl⟩
              rw [List.append_assoc]; exact hT1
          · intro hge h' tk' tl' ta' F2 N2
            dsimp only
            rw [drop_end hge] at hT1 hT2
            walk_at "go"
            refine ⟨0, by omega, pp2, tkn, _, 0, _, _, _, _, _, rfl, F2, .inr ⟨N2, ?_, by omega, hT2.symm, rfl⟩⟩
            rw [← hT1]; simp [tokQ]
        -- an escape ahead of a plain word
        · (rename Fr _ _ _ _ => F3); (rename News _ _ _ _ => N3)
          (rename (Builtin.Str.occurrences _ _ _ _ _).isEmpty = _ => hw); (rename (_ == Str.ofString "\\") = _ => hb)
          have hw := not_in_ws hw
          have hb := one92 hb
          rw [hb] at hw
          rw [← drop_here hlt1] at hT
          obtain ⟨b1, b2⟩ := tok_at_b (ws := x.ws.cps.toList) hlt1 hb hw
          rw [hT] at b1 b2
          k_dflt (refine' (read02 w p loose mean mg mb sent x rd hfn hR (nd6 hnd).1 _ (by assumption) _ _).call [(ci, ciO q0 (Str.ofString "") t0), (q0, methodObj (.ref 76) (.ref x.lex)), (x.pb, listOf #[] nb)] ?k1 ?k2 ?k3 N3 ?hin ?hsep ?k5 ?kK ?hpre ?kd ?ku ?_; (case k1 => k_asm); (case k2 => k_asm); (case k3 => k_asm); (case k5 => k_asm); (case kK => exact rfl); (case kd => ktr_room); (case ku => ktr_units))
          case hin => kcj_all
          case hsep => exact sep3 hnd lq lci.1
          case hpre => exact fun g' hg' _ q hq => hg' _ _ (hrd q hq)
          rintro v own' h' tk' ⟨t1, t2, t3, rfl, rfl⟩ _ F4 N4
          (try clear F3); (try clear N3)
          have N5 : News g L' h' ((ci, ciO q0 (Str.ofString "") t0) :: (q0, methodObj (.ref 76) (.ref x.lex)) :: (x.pb, listOf #[] nb) :: x.own 93 w.params sent (pp + 1 + (piece sent (pp + 1)).length) t3 t2) := cb_drop N4 (by kcj_all)
          clear N4
          (try dsimp only)
          walk_at "go"
          (rename Fr _ _ _ _ => F3); (rename News _ _ _ _ => N3)
          refine wpAny_For ?_
          walk1
          refine ci_iter (N3 _ (.head _)).1 rfl ?_
          refine for_inv (fun n s' => ∃ (pp : Nat) (tkn : List Nat) (t t0 tl ta : Tok) (u : Str → Option Value) (h : Heap) (tk : Nat), s' = { s with heap := h, toks := tk } ∧ Fr g L' h (gtM x.lex ci tkn t u) ∧ News g L' h ((ci, ciO q0 (Str.ofString "") t0) :: (q0, methodObj (.ref 76) (.ref x.lex)) :: (x.pb, listOf #[] nb) :: x.own 93 w.params sent pp tl ta) ∧ pp ≤ sent.cps.size ∧ tkn ++ (tokP x.ws.cps.toList (sent.cps.toList.drop pp)).1 = TT.1 ∧ (tokP x.ws.cps.toList (sent.cps.toList.drop pp)).2 = TT.2 ∧ n = sent.cps.size - pp + 1) ?_ _
            ⟨_, (piece sent (pp + 1)).cps.toList, _, _, _, _, _, _, _, rfl, gtM_of F3 rfl rfl rfl (app_lit [] _), N3, piece_len hlt1, b1.symm, b2.symm, rfl⟩
          (try clear Fh); (try clear Nh); (try clear F2); (try clear N2); (try clear F3); (try clear N3)
          rintro n s' ⟨pp2, tkn, t, t0, tl1, ta1, u, h, tk, rfl, Fh, Nh, hpp2, hT1, hT2, rfl⟩
          k_dflt (refine' nx02 hfn hR hnd (by assumption) ?B Fh X' Nh T' ?K lq lci.1 hrd ?d ?u ?_ ?_; (case B => exact B'); (case K => exact rfl); (case d => ktr_room); (case u => ktr_units))
          · intro hlt2 h' tk' tl' ta' ty F2 N2
            dsimp only
            have hle : tkn.length ≤ 1000000 := by
              have := tok_len x.ws.cps.toList (sent.cps.toList.drop ps)
              rw [hTT, ← hT1] at this
              simp at this
              omega
            walk_at "go"
            -- an escape
            · (rename Fr _ _ _ _ => F3); (rename News _ _ _ _ => N3); (rename (_ == Str.ofString "\\") = _ => hb2); (rename (Builtin.Str.occurrences _ _ _ _ _).isEmpty = _ => hw2)
              have hb2 := one92 hb2
              have hw2 := not_in_ws hw2
              rw [hb2] at hw2
              obtain ⟨b1, b2⟩ := tokP_at_b (ws := x.ws.cps.toList) hlt2 hb2 hw2
              k_dflt (refine' (read02 w p loose mean mg mb sent x rd hfn hR (nd6 hnd).1 _ (by assumption) _ _).call [(ci, ciO q0 (Str.ofString "") t0), (q0, methodObj (.ref 76) (.ref x.lex)), (x.pb, listOf #[] nb)] ?k1 ?k2 ?k3 N3 ?hin ?hsep ?k5 ?kK ?hpre ?kd ?ku ?_; (case k1 => k_asm); (case k2 => k_asm); (case k3 => k_asm); (case k5 => k_asm); (case kK => exact rfl); (case kd => ktr_room); (case ku => ktr_units))
              case hin => kcj_all
              case hsep => exact sep3 hnd lq lci.1
              case hpre => exact fun g' hg' _ q hq => hg' _ _ (hrd q hq)
              rintro v own' h' tk' ⟨t1, t2, t3, rfl, rfl⟩ _ F4 N4
              (try clear F3); (try clear N3)
              simp only [List.cons_append, List.nil_append] at N4
              (try dsimp only)
              walk_at "go"
              (rename Fr _ _ _ _ => F5); (rename News _ _ _ _ => N5)
              refine ⟨sent.cps.size - (pp2 + 1 + (piece sent (pp2 + 1)).length) + 1, by omega, _, tkn ++ (piece sent (pp2 + 1)).cps.toList, _, _, _, _, _, _, _, rfl, gtM_of F5 rfl rfl rfl (app_lit _ _), cb_drop N5 (by kcj_all), piece_len hlt2, ?_, ?_, rfl⟩
              · rw [List.append_assoc, ← b1]; exact hT1
              · rw [← b2]; exact hT2
            -- any other sign
            · (rename Fr _ _ _ _ => F3); (rename News _ _ _ _ => N3); (rename (_ == Str.ofString "\\") = _ => hb2); (rename (Builtin.Str.occurrences _ _ _ _ _).isEmpty = _ => hw2)
              have hb2 := one92_no hb2
              have hw2 := not_in_ws hw2
              rw [drop_here hlt2, tokP_o _ hw2 hb2] at hT1 hT2
              refine ⟨sent.cps.size - (pp2 + 1) + 1, by omega, pp2 + 1, tkn ++ [sent.cps[pp2]], _, _, _, _, _, _, _, rfl, gtM_of F3 rfl rfl rfl (app_lit _ _), N3, hlt2, ?_, hT2, rfl⟩
              rw [List.append_assoc]; exact hT1
            -- white space
            · (rename Fr _ _ _ _ => F3); (rename News _ _ _ _ => N3); (rename (Builtin.Str.occurrences _ _ _ _ _).isEmpty = _ => hw2)
              rw [drop_here hlt2, tokP_w _ (in_ws hw2)] at hT1 hT2
              refine fin _ _ _ _ _ _ _ _ _ F3 N3 (by kcj_all) ?_ ?_
              · rw [← hT2]; exact drop_len hlt2
              · rw [← hT1]; simp
          · intro hge h' tk' tl' ta' F2 N2
            dsimp only
            rw [drop_end hge] at hT1 hT2
            walk_at "go"
            refine ⟨0, by omega, pp2, tkn, _, 0, _, _, _, _, _, rfl, F2, .inr ⟨N2, ?_, by omega, hT2.symm, rfl⟩⟩
            rw [← hT1]; simp [tokP]
        -- a plain word
        · (rename Fr _ _ _ _ => F3); (rename News _ _ _ _ => N3)
          (rename (Builtin.Str.occurrences _ _ _ _ _).isEmpty = _ => hw); (rename (_ == Str.ofString "\\") = _ => hb); (rename (_ == Str.ofString "\"") = _ => hq)
          have hw := not_in_ws hw
          have hb := one92_no hb
          have hq := one34_no hq
          rw [tok_o _ hw hq hb] at hT
          refine wpAny_For ?_
          walk1
          refine ci_iter (N3 _ (.head _)).1 rfl ?_
          refine for_inv (fun n s' => ∃ (pp : Nat) (tkn : List Nat) (t t0 tl ta : Tok) (u : Str → Option Value) (h : Heap) (tk : Nat), s' = { s with heap := h, toks := tk } ∧ Fr g L' h (gtM x.lex ci tkn t u) ∧ News g L' h ((ci, ciO q0 (Str.ofString "") t0) :: (q0, methodObj (.ref 76) (.ref x.lex)) :: (x.pb, listOf #[] nb) :: x.own 93 w.params sent pp tl ta) ∧ pp ≤ sent.cps.size ∧ tkn ++ (tokP x.ws.cps.toList (sent.cps.toList.drop pp)).1 = TT.1 ∧ (tokP x.ws.cps.toList (sent.cps.toList.drop pp)).2 = TT.2 ∧ n = sent.cps.size - pp + 1) ?_ _
            ⟨pp + 1, [sent.cps[pp]], _, _, _, _, _, _, _, rfl, gtM_of F3 rfl rfl rfl (app_lit [] _), N3, hlt1, by rw [← hT]; rfl, by rw [← hT], rfl⟩
          (try clear Fh); (try clear Nh); (try clear F2); (try clear N2); (try clear F3); (try clear N3)
          rintro n s' ⟨pp2, tkn, t, t0, tl1, ta1, u, h, tk, rfl, Fh, Nh, hpp2, hT1, hT2, rfl⟩
          k_dflt (refine' nx02 hfn hR hnd (by assumption) ?B Fh X' Nh T' ?K lq lci.1 hrd ?d ?u ?_ ?_; (case B => exact B'); (case K => exact rfl); (case d => ktr_room); (case u => ktr_units))
          · intro hlt2 h' tk' tl' ta' ty F2 N2
            dsimp only
            have hle : tkn.length ≤ 1000000 := by
              have := tok_len x.ws.cps.toList (sent.cps.toList.drop ps)
              rw [hTT, ← hT1] at this
              simp at this
              omega
            walk_at "go"
            -- an escape
            · (rename Fr _ _ _ _ => F3); (rename News _ _ _ _ => N3); (rename (_ == Str.ofString "\\") = _ => hb2); (rename (Builtin.Str.occurrences _ _ _ _ _).isEmpty = _ => hw2)
              have hb2 := one92 hb2
              have hw2 := not_in_ws hw2
              rw [hb2] at hw2
              obtain ⟨b1, b2⟩ := tokP_at_b (ws := x.ws.cps.toList) hlt2 hb2 hw2
              k_dflt (refine' (read02 w p loose mean mg mb sent x rd hfn hR (nd6 hnd).1 _ (by assumption) _ _).call [(ci, ciO q0 (Str.ofString "") t0), (q0, methodObj (.ref 76) (.ref x.lex)), (x.pb, listOf #[] nb)] ?k1 ?k2 ?k3 N3 ?hin ?hsep ?k5 ?kK ?hpre ?kd ?ku ?_; (case k1 => k_asm); (case k2 => k_asm); (case k3 => k_asm); (case k5 => k_asm); (case kK => exact rfl); (case kd => ktr_room); (case ku => ktr_units))
              case hin => kcj_all
              case hsep => exact sep3 hnd lq lci.1
              case hpre => exact fun g' hg' _ q hq => hg' _ _ (hrd q hq)
              rintro v own' h' tk' ⟨t1, t2, t3, rfl, rfl⟩ _ F4 N4
              (try clear F3); (try clear N3)
              simp only [List.cons_append, List.nil_append] at N4
              (try dsimp only)
              walk_at "go"
              (rename Fr _ _ _ _ => F5); (rename News _ _ _ _ => N5)
              refine ⟨sent.cps.size - (pp2 + 1 + (piece sent (pp2 + 1)).length) + 1, by omega, _, tkn ++ (piece sent (pp2 + 1)).cps.toList, _, _, _, _, _, _, _, rfl, gtM_of F5 rfl rfl rfl (app_lit _ _), cb_drop N5 (by kcj_all), piece_len hlt2, ?_, ?_, rfl⟩
              · rw [List.append_assoc, ← b1]; exact hT1
              · rw [← b2]; exact hT2
            -- any other sign
            · (rename Fr _ _ _ _ => F3); (rename News _ _ _ _ => N3); (rename (_ == Str.ofString "\\") = _ => hb2); (rename (Builtin.Str.occurrences _ _ _ _ _).isEmpty = _ => hw2)
              have hb2 := one92_no hb2
              have hw2 := not_in_ws hw2
              rw [drop_here hlt2, tokP_o _ hw2 hb2] at hT1 hT2
              refine ⟨sent.cps.size - (pp2 + 1) + 1, by omega, pp2 + 1, tkn ++ [sent.cps[pp2]], _, _, _, _, _, _, _, rfl, gtM_of F3 rfl rfl rfl (app_lit _ _), N3, hlt2, ?_, hT2, rfl⟩
              rw [List.append_assoc]; exact hT1
            -- white space
            · (rename Fr _ _ _ _ => F3); (rename News _ _ _ _ => N3); (rename (Builtin.Str.occurrences _ _ _ _ _).isEmpty = _ => hw2)
              rw [drop_here hlt2, tokP_w _ (in_ws hw2)] at hT1 hT2
              refine fin _ _ _ _ _ _ _ _ _ F3 N3 (by kcj_all) ?_ ?_
              · rw [← hT2]; exact drop_len hlt2
              · rw [← hT1]; simp
          · intro hge h' tk' tl' ta' F2 N2
            dsimp only
            rw [drop_end hge] at hT1 hT2
            walk_at "go"
            refine ⟨0, by omega, pp2, tkn, _, 0, _, _, _, _, _, rfl, F2, .inr ⟨N2, ?_, by omega, hT2.symm, rfl⟩⟩
            rw [← hT1]; simp [tokP]
        -- white space
        · (rename Fr _ _ _ _ => F3); (rename News _ _ _ _ => N3); (rename (Builtin.Str.occurrences _ _ _ _ _).isEmpty = _ => hw)
          rw [tok_w _ (in_ws hw)] at hT
          exact ⟨sent.cps.size - (pp + 1) + 1, by omega, pp + 1, [], _, _, _, _, _, _, _, rfl, gtM_of F3 rfl rfl rfl rfl, .inl ⟨N3, rfl, hlt1, hT, rfl⟩⟩
      · intro hge h' tk' tl' ta' F2 N2
        dsimp only
        walk_at "go"
        rw [drop_end hge] at hT
        (rename Fr _ _ _ _ => F3); (rename News _ _ _ _ => N3)
        exact fin _ _ _ _ _ _ _ _ _ F3 N3 (by kcj_all) (by rw [← hT]; simp [tok]; omega) (by rw [← hT]; rfl)
    · refine ci_ended rfl (Nh _ (.head _)).1 fun h' hk' => ?_
      dsimp only
      have F3 : Fr g L' h' (gtM x.lex ci TT.1 t u) := by
        obtain ⟨oL, es, ep, hL, rL⟩ := Fh.ns
        exact ⟨⟨oL, es, ep, hk' _ _ hL, rL⟩, fun b o e => hk' _ _ (Fh.keep b o e), Fh.above⟩
      have N3 : News g L' h' _ := fun q hq => ⟨hk' _ _ (Nh q hq).1, (Nh q hq).2⟩
      clear Fh Nh
      walk_at "go"
      exact fin _ _ _ _ _ _ _ _ _ F3 N3 (by kcj_all) (by rw [hT2]; simp) rfl
end Mine
end
-- part V02
section
open PySem PySem.W PyProof.Rows PySem.Calls
set_option Elab.async false
set_option maxRecDepth 100000
set_option maxHeartbeats 8000000
set_option linter.unusedVariables false
namespace Mine
local macro_rules | `(tactic| walk_at "pad0") => `(tactic| skip)
local macro_rules | `(tactic| walk_at "pad1") => `(tactic| skip)
local macro_rules | `(tactic| walk_at "pad2") => `(tactic| skip)
local macro_rules | `(tactic| walk_at "pad3") => `(tactic| skip)
local macro_rules | `(tactic| walk_at "pad4") => `(tactic| skip)
local macro_rules | `(tactic| walk_at "pad5") => `(tactic| skip)
local macro_rules | `(tactic| walk_at "pad6") => `(tactic| skip)
local macro_rules | `(tactic| walk_at "pad7") => `(tactic| skip)
local macro_rules | `(tactic| walk_at "pad8") => `(tactic| skip)
local macro_rules | `(tactic| walk_at "pad9") => `(tactic| skip)
local macro_rules | `(tactic| walk_at "pad10") => `(tactic| skip)
local macro_rules | `(tactic| walk_at "pad11") => `(tactic| skip)
local macro_rules | `(tactic| walk_at "pad12") => `(tactic| skip)
local macro_rules | `(tactic| walk_at "pad13") => `(tactic| skip)
local macro_rules | `(tactic| walk_at "pad14") => `(tactic| skip)
local macro_rules | `(tactic| walk_at "pad15") => `(tactic| skip)
local macro_rules | `(tactic| walk_at "pad16") => `(tactic| skip)
local macro_rules | `(tactic| walk_at "pad17") => `(tactic| skip)
local macro_rules | `(tactic| walk_at "pad18") => `(tactic| skip)
local macro_rules | `(tactic| walk_at "pad19") => `(tactic| skip)
local macro_rules | `(tactic| walk_at "pad20") => `(tactic| skip)
local macro_rules | `(tactic| walk_at "pad21") => `(tactic| skip)
local macro_rules | `(tactic| walk_at "pad22") => `(tactic| skip)
local macro_rules | `(tactic| walk_at "pad23") => `(tactic| skip)
local macro_rules | `(tactic| walk_at "pad24") => `(tactic| skip)
local macro_rules | `(tactic| walk_at "pad25") => `(tactic| skip)
local macro_rules | `(tactic| walk_at "pad26") => `(tactic| skip)
local macro_rules | `(tactic| walk_at "pad27") => `(tactic| skip)
local macro_rules | `(tactic| k_room) => `(tactic| ktr_room)
local macro_rules | `(tactic| k_units) => `(tactic| ktr_units)
section
variable {M : Model} {A : Around} {E : Value → Shared → Prop} {s : Shared} {h₀ : Heap} {L a : Addr} {m : Str → Option Value} {cn : Str} {cs : Scope} {ccd : Value} {cl : List (Str × Addr)} {x : Str} {pos : Pos} {v : Value} {o : Obj} {Q : Value → Shared → Prop} {c : Addr}
theorem nameX_FG (F : Fr h₀ L s.heap m) (hc : cl.lookup x = some c) (hm : h₀.get? c = some o) (hd : o.data = .cell (some v)) (h : Q v s)
    (hk : cs.kind = .function := by rfl) (hx : (envX cn cs L a ccd cl).kindOf x = some .free := by rfl) (hb : (x == ("__debug__" : Str)) = false := by decide) (hn : (x == ("__classdict__" : Str)) = false := by decide) :
    wpAny M A (eval (.Name x pos) (envX cn cs L a ccd cl)) Q E s := wpAny_Name (wpAny_loadName_free hk hx hc ⟨o, F.keep _ _ hm, hd⟩ h hn) hb
end
local macro_rules | `(tactic| walk_at "eval Name") => `(tactic| (k_here; k_dflt (refine' nameX_FG ?F ?c ?m ?d ?_ ?a ?b; (case a => rfl); (case b => rfl); (case F => k_asm); (case c => assumption); (case m => assumption); (case d => assumption); k_whole)))
/-- the inner def of the stream's maker -/
abbrev giveD02 : Stmt := match PySem.Challenge.pw_ny0034_02.main.body with
  | _ :: _ :: _ :: _ :: _ :: _ :: _ :: _ :: _ :: _ :: _ :: _ :: _ :: _ :: _ :: .FunctionDef _ _ (_ :: d :: _) _ _ _ _ _ _ _ :: _ => d
  | _ => .Pass ⟨0, 0, 0, 0⟩
theorem give02 (w : World) (p : Program) (loose : List Str) (mean : ExcName → Option Value) (mg mb : Str → Option Value) (sent : Str) (tS : Tok) (f c' cT cA atA : Addr) (name qual : Str) (params : Arguments) (body : List Stmt) (scope : Scope) (cl : List (Str × Addr)) (doc pm ctv : Value) (oc oT oA : Obj) (vs : Array Value) (tq : Tok)
    (hast : ∃ n ds r tp ts b ps, giveD02 = .FunctionDef n params body ds r tp scope ts b ps) (hoc : oc.data = .fields vs) (hvs : vs[1]? = some (.str qual tq)) (hcT : cl.lookup (Str.ofString "text") = some cT) (hcA : cl.lookup (Str.ofString "at") = some cA)
    (hoT : oT.data = .cell (some (.str sent tS))) (hoA : oA.data = .cell (some (.ref atA))) (hsz : sent.cps.size ≤ 1000000) :
    ∀ (n : Nat) (t t1 : Tok), n ≤ sent.cps.size → SpecF PySem.Challenge.rw_ny0034_02.row.prog w (hd02.heap_39 w.params) p loose mean mg mb f 1 [.int 1 t1] [(atA, atO n t)] (fun g => ∀ q ∈ [(f, fnMade name qual params body scope cl doc pm c' ctv), (c', oc), (cT, oT), (cA, oA)], g.get? q.1 = some q.2) (fun v own' => ∃ t1 t2, v = .str (piece sent n) t1 ∧ own' = [(atA, atO (n + (piece sent n).length) t2)]) := by
  w_top off
  k_fill
  obtain ⟨n0, ds, r, tp, ts, b, ps0, e⟩ := hast
  dsimp only [giveD02, PySem.Challenge.pw_ny0034_02] at e
  cases e
  intro n t t1 hn dp un gd cn cs a ccd cl' outer A₀ base h₀ L m s rest R B F X N hsep T hk hpre hd hu hret
  have hs := hpre s.heap F.keep (fun q hq => (N q (List.mem_append_right _ hq)).1)
  have hcode : s.heap.CodeRec (.ref c') qual := ⟨c', oc, vs, tq, rfl, hs (c', oc) (by simp), hoc, hvs⟩
  k_dflt (refine' code_ownX (rest := rest) ?k1 ?k2 ?k3 ?k4 ?kS ?k5 ?kA ?kF ?kK (hs _ (.head _)) rfl hcode ?k8 ?k9 ?kB ?_ ?c2 ?c3 ?c4 ?c5; (case kA => exact rfl); (case kF => exact rfl); (case kK => assumption); (case kS => assumption); (case k1 => k_asm); (case k2 => k_asm); (case k3 => k_asm); (case k4 => k_asm); (case k5 => k_asm); (case k8 => ktr_room); (case k9 => exact BindsTo.of_eq rfl); (case c5 => decide); (case kB => exact locs rfl); (case c2 => exact rfl); (case c3 => exact rfl); (case c4 => exact rfl); k_whole)
  intro g L' h₁ F' N' B' X' T' hst hrest hlt
  have hrd := hpre g hst hrest
  have g1 : g.get? cT = some oT := hrd (cT, oT) (by simp)
  have g2 : g.get? cA = some oA := hrd (cA, oA) (by simp)
  clear B F X T N hs
  (try dsimp only)
  have hl0 : sent.length ≤ 1000000 := hsz
  k_steps
  have hg0 : ([(n : Int)].getD (Int.toNat 0) 0) = (n : Int) := rfl
  simp only [hg0, slice_piece] at *
  k_steps
  (rename Fr _ _ _ _ => F3); (rename News _ _ _ _ => N3)
  rw [← Int.natCast_add] at N3
  exact leaveO_ _ F3 N3 (fun q hq => hq) fun F5 N5 H5 => hret _ _ _ _ ⟨_, _, rfl, rfl⟩ H5 F5 N5
end Mine
end
-- part F02
section
open PySem PySem.W PyProof.Rows PySem.Calls
set_option Elab.async false
set_option maxRecDepth 100000
set_option maxHeartbeats 8000000
set_option linter.unusedVariables false
namespace Mine
local macro_rules | `(tactic| walk_at "pad0") => `(tactic| skip)
local macro_rules | `(tactic| walk_at "pad1") => `(tactic| skip)
local macro_rules | `(tactic| walk_at "pad2") => `(tactic| skip)
local macro_rules | `(tactic| walk_at "pad3") => `(tactic| skip)
local macro_rules | `(tactic| walk_at "pad4") => `(tactic| skip)
local macro_rules | `(tactic| walk_at "pad5") => `(tactic| skip)
local macro_rules | `(tactic| walk_at "pad6") => `(tactic| skip)
local macro_rules | `(tactic| walk_at "pad7") => `(tactic| skip)
local macro_rules | `(tactic| walk_at "pad8") => `(tactic| skip)
local macro_rules | `(tactic| walk_at "pad9") => `(tactic| skip)
local macro_rules | `(tactic| walk_at "pad10") => `(tactic| skip)
local macro_rules | `(tactic| walk_at "pad11") => `(tactic| skip)
local macro_rules | `(tactic| walk_at "pad12") => `(tactic| skip)
local macro_rules | `(tactic| walk_at "pad13") => `(tactic| skip)
local macro_rules | `(tactic| walk_at "pad14") => `(tactic| skip)
local macro_rules | `(tactic| walk_at "pad15") => `(tactic| skip)
local macro_rules | `(tactic| walk_at "pad16") => `(tactic| skip)
local macro_rules | `(tactic| walk_at "pad17") => `(tactic| skip)
local macro_rules | `(tactic| walk_at "pad18") => `(tactic| skip)
local macro_rules | `(tactic| walk_at "pad19") => `(tactic| skip)
local macro_rules | `(tactic| walk_at "pad20") => `(tactic| skip)
local macro_rules | `(tactic| walk_at "pad21") => `(tactic| skip)
local macro_rules | `(tactic| walk_at "pad22") => `(tactic| skip)
local macro_rules | `(tactic| walk_at "pad23") => `(tactic| skip)
local macro_rules | `(tactic| walk_at "pad24") => `(tactic| skip)
local macro_rules | `(tactic| walk_at "pad25") => `(tactic| skip)
local macro_rules | `(tactic| walk_at "pad26") => `(tactic| skip)
local macro_rules | `(tactic| walk_at "pad27") => `(tactic| skip)
local macro_rules | `(tactic| k_room) => `(tactic| ktr_room)
local macro_rules | `(tactic| k_units) => `(tactic| ktr_units)
local macro_rules | `(tactic| walk_at "go") => `(tactic| repeat' (first | (k_unfold; (try dsimp only)) | ((fail_if_success (with_reducible show wpAny _ _ (exec (Stmt.While _ _ _ _) _) _ _ _)); (fail_if_success (with_reducible show wpAny _ _ (exec (Stmt.For _ _ _ _ _) _) _ _ _)); (fail_if_success (with_reducible show wpAny _ _ (PySem.call (Value.ref _) _) _ _ _)); (fail_if_success (with_reducible show wpAny _ _ (compareOp _ (Value.ref _) (Value.ref _)) _ _ _)); first | walk1 | (dsimp only; walk1))))
local macro_rules | `(tactic| walk_at "call builtin:len") => `(tactic| (k_here; (with_reducible show wpAny _ _ (PySem.call (Value.builtin "len") [Value.ref _]) _ _ _); (refine nats_len (News.isList (by k_asm) (by k_mem)) (by omega) ?_); intro _ _))
theorem intsAre_some {vs : List Value} {ns : List Int} (h : IntsAre vs ns) {i : Nat} {v : Value} (hv : vs[i]? = some v) : ∃ z t, v = .int z t := by
  have hl := h.length
  have hi : i < ns.length := by
    rcases Nat.lt_or_ge i vs.length with q | q
    · omega
    · rw [List.getElem?_eq_none q] at hv; cases hv
  obtain ⟨t, e⟩ := h.get i ns[i] (by simp [hi])
  rw [hv] at e
  exact ⟨_, _, Option.some.inj e⟩
theorem nat_push {l : List (Nat × Tok)} {z : Int} {t : Tok} (h : 0 ≤ z) : (natValues l).toArray.push (.int z t) = (natValues (l ++ [(z.toNat, t)])).toArray := by
  rw [← push_nats, Int.toNat_of_nonneg h]
theorem fig_all {l : List (Nat × Tok)} {z : Int} {t : Tok} {B : Nat} (h : ∀ q ∈ l, q.1 < B) (h0 : 0 ≤ z) (h1 : z < (B : Int)) : ∀ q ∈ l ++ [(z.toNat, t)], q.1 < B := by
  intro q hq
  rcases List.mem_append.mp hq with hq | hq
  · exact h q hq
  · rw [List.mem_singleton.mp hq]
    show z.toNat < B
    omega
/-- the state between two numbers of the script -/
def FigI (g : Heap) (L : Addr) (s : Shared) (D it : Nat) (ws : List Value) (nn : Nat) (s' : Shared) : Prop :=
  ∃ (i P : Nat) (l : List (Nat × Tok)) (ep : Nat) (u : Str → Option Value) (h : Heap) (tk : Nat), s' = { s with heap := h, toks := tk } ∧ Fr g L h (fun z => if z = Str.ofString "figures" then some (.ref P) else u z) ∧
    News g L h [(it, liO D i), (D, listOf ws.toArray 0), (P, natsO l ep)] ∧ P < D ∧ P < it ∧ l.length ≤ 10 ∧ (∀ q ∈ l, q.1 < 16) ∧ nn = ws.length - i
/-- the state between two figures of a number -/
def FigW (g : Heap) (L : Addr) (s : Shared) (D it P : Nat) (ws : List Value) (i : Nat) (nn : Nat) (s' : Shared) : Prop :=
  ∃ (l : List (Nat × Tok)) (ep : Nat) (r : Int) (tr : Tok) (u : Str → Option Value) (h : Heap) (tk : Nat), s' = { s with heap := h, toks := tk } ∧ Fr g L h (fun z => if z = Str.ofString "figures" then some (.ref P) else if z = Str.ofString "rest" then some (.int r tr) else u z) ∧
    News g L h [(it, liO D i), (D, listOf ws.toArray 0), (P, natsO l ep)] ∧ l.length ≤ 10 ∧ (∀ q ∈ l, q.1 < 16) ∧ 0 ≤ r ∧ nn = 10 - l.length
theorem figures02 (w : World) (p : Program) (loose : List Str) (mean : ExcName → Option Value) (mg mb : Str → Option Value) (scr : Addr) (vs : List Value) (ns : List Int) (hI : IntsAre vs ns) (hn : ns.length ≤ 63) :
    SpecF PySem.Challenge.rw_ny0034_02.row.prog w (hd02.heap_39 w.params) p loose mean mg mb 104 1 [.ref scr] [] (fun g => g.IsList scr vs.toArray) (fun v own' => ∃ D l n, v = .ref D ∧ own' = [(D, natsO l n)] ∧ l.length ≤ 10 ∧ ∀ q ∈ l, q.1 < 16) := by
  w_top off
  k_fill
  intro dp un gd cn cs a ccd cl outer A₀ base h₀ L m s rest R B F X N hsep T hk hpre hd hu hret
  k_dflt (refine' code_own (own := []) (rest := rest) ?k1 ?k2 ?k3 ?k4 ?kS ?k5 ?kA ?kF ?kK ?k6 ?k7 ?k8 ?k9 ?kB ?_ ?c2 ?c3 ?c4 ?c5; (case kA => exact rfl); (case kF => exact rfl); (case kK => assumption); (case kS => assumption); (case k1 => k_asm); (case k2 => k_asm); (case k3 => k_asm); (case k4 => k_asm); (case k5 => k_asm); (case k6 => k_is); (case k7 => k_is); (case k8 => ktr_room); (case k9 => exact BindsTo.of_eq rfl); (case c5 => decide); (case kB => exact locs rfl); (case c2 => exact rfl); (case c3 => exact rfl); (case c4 => exact rfl); k_whole)
  intro g L' h₁ F' N' B' X' T' hst hrest hlt
  have hsc := hpre g hst hrest
  clear B F X T N
  (try dsimp only at hsc)
  (try dsimp only)
  walk_at "go"
  refine wpAny_For ?_
  walk_at "go"
  (rename Fr _ _ _ _ => F2); (rename News _ _ _ _ => N2)
  (rename IntsAre _ (List.take _ _) => hI2)
  refine liter_K F2 N2 (News.isList N2 (.head _)) ?_
  intro it h3 F3 N3 l3
  k_lt l3
  clear F2 N2
  rename_i D ws _ _ _ l1D
  dsimp only
  refine for_inv (FigI g L' s _ it _) ?turn _ ⟨0, _, [], _, _, _, _, rfl, canon1 F3 _ rfl, N3, l1D, l3.2, Nat.zero_le _, (fun _ h => nomatch h), rfl⟩
  case turn =>
    (try clear F3); (try clear N3)
    rintro n s' ⟨i, P, l, ep, u, h, tk, rfl, Fh, Nh, lD, l4, hl, h16, rfl⟩
    refine lnext_K rfl Fh Nh (News.isList Nh (.tail _ (.head _))) ?ne ?_ ?_
    case ne => intro p hp; simp at hp; rcases hp with rfl | rfl; · exact Nat.ne_of_lt l3.1
               · exact Nat.ne_of_lt l4
    · intro v hv h4 F4 N4
      obtain ⟨z, tz, rfl⟩ : ∃ z tz, v = .int z tz := intsAre_some hI2 (by simpa using hv)
      have hi : i < ws.length := by
        rcases Nat.lt_or_ge i ws.length with q | q
        · exact q
        · simp [q] at hv
      dsimp only
      walk_at "go"
      (rename Fr _ _ _ _ => F5); (rename News _ _ _ _ => N5)
      refine while_inv (FigW g L' s _ it P _ (i + 1)) ?_ _ ⟨_, _, _, _, _, _, _, rfl, canon2 F5 _ _ rfl rfl, N5, hl, h16, ?r0, rfl⟩
      case r0 => rw [Int.fmod_eq_emod_of_nonneg _ (by decide)]; exact Int.emod_nonneg _ (by decide)
      (try clear F4); (try clear N4); (try clear F5); (try clear N5)
      rintro n s' ⟨l, ep, r, tr, u, h, tk, rfl, Fh, Nh, hl, h16, hr, rfl⟩
      walk_at "go"
      refine whl_if (fun hb => ?_) (fun hb => ?_)
      · have hb := of_decide_eq_true hb
        have hq := Int.emod_nonneg r (show (16 : Int) ≠ 0 by decide)
        have hq2 := Int.emod_lt_of_pos r (show (0 : Int) < 16 by decide)
        have hsz : (natValues l).toArray.size ≤ 10 := by simp [natValues]; omega
        have hf0 : 0 ≤ r.fmod 16 := by rw [Int.fmod_eq_emod_of_nonneg _ (by decide)]; exact hq
        have hf1 : r.fmod 16 < 16 := by rw [Int.fmod_eq_emod_of_nonneg _ (by decide)]; exact hq2
        walk_at "go"
        · dsimp only [RoundEnd]
          walk_at "go"
          (rename Fr _ _ _ _ => F5); (rename News _ _ _ _ => N5)
          rw [nat_push hf0] at N5
          exact ⟨ws.length - (i + 1), by omega, i + 1, P, _, _, _, _, _, rfl, canon1 F5 _ rfl, N5, lD, l4, (by simp; omega), fig_all h16 hf0 hf1, rfl⟩
        · (rename Fr _ _ _ _ => F5); (rename News _ _ _ _ => N5)
          rw [nat_push hf0] at N5
          refine ⟨_, ?_, _, _, _, _, _, _, _, rfl, canon2 F5 _ _ rfl rfl, N5, (by simp; omega), fig_all h16 hf0 hf1, ?_, rfl⟩
          · simp; omega
          · rw [Int.fdiv_eq_ediv_of_nonneg _ (by decide)]; exact Int.ediv_nonneg hr (by decide)
      · walk_at "go"
        exact ⟨ws.length - (i + 1), by omega, i + 1, P, _, _, _, _, _, rfl, canon1 Fh _ rfl, Nh, lD, l4, hl, h16, rfl⟩
    · intro hv h4 F4 N4
      dsimp only
      walk_at "go"
      (rename Fr _ _ _ _ => F5); (rename News _ _ _ _ => N5)
      refine ne_nil (News.isList N5 (.tail _ (.tail _ (.head _)))) (News.isList N5 (.head _)) (by ktr_units) (fun _ => ?_) (fun _ => ?_)
      · walk_at "go"
        (rename Fr _ _ _ _ => F6); (rename News _ _ _ _ => N6)
        exact leaveO_ [(_, natsO [(0, _), (11, _), (0, _), (1, _), (7, _), (10, _), (5, _)] 0)] F6 N6 (by intro q hq; rw [List.mem_singleton.mp hq]; exact .head _) fun F7 N7 H7 => hret _ _ _ _ ⟨_, _, _, rfl, rfl, Nat.le_of_ble_eq_true rfl, by simp⟩ H7 F7 N7
      · walk_at "go"
        (rename Fr _ _ _ _ => F6); (rename News _ _ _ _ => N6)
        exact leaveO_ [(P, natsO l ep)] F6 N6 (by kcj_all) fun F7 N7 H7 => hret _ _ _ _ ⟨_, _, _, rfl, rfl, hl, h16⟩ H7 F7 N7
end Mine
end
-- part W02
section
open PySem PySem.W PyProof.Rows PySem.Calls
set_option Elab.async false
set_option maxRecDepth 100000
set_option maxHeartbeats 8000000
set_option linter.unusedVariables false
namespace Mine
local macro_rules | `(tactic| walk_at "pad0") => `(tactic| skip)
local macro_rules | `(tactic| walk_at "pad1") => `(tactic| skip)
local macro_rules | `(tactic| walk_at "pad2") => `(tactic| skip)
local macro_rules | `(tactic| walk_at "pad3") => `(tactic| skip)
local macro_rules | `(tactic| walk_at "pad4") => `(tactic| skip)
local macro_rules | `(tactic| walk_at "pad5") => `(tactic| skip)
local macro_rules | `(tactic| walk_at "pad6") => `(tactic| skip)
local macro_rules | `(tactic| walk_at "pad7") => `(tactic| skip)
local macro_rules | `(tactic| walk_at "pad8") => `(tactic| skip)
local macro_rules | `(tactic| walk_at "pad9") => `(tactic| skip)
local macro_rules | `(tactic| walk_at "pad10") => `(tactic| skip)
local macro_rules | `(tactic| walk_at "pad11") => `(tactic| skip)
local macro_rules | `(tactic| walk_at "pad12") => `(tactic| skip)
local macro_rules | `(tactic| walk_at "pad13") => `(tactic| skip)
local macro_rules | `(tactic| walk_at "pad14") => `(tactic| skip)
local macro_rules | `(tactic| walk_at "pad15") => `(tactic| skip)
local macro_rules | `(tactic| walk_at "pad16") => `(tactic| skip)
local macro_rules | `(tactic| walk_at "pad17") => `(tactic| skip)
local macro_rules | `(tactic| walk_at "pad18") => `(tactic| skip)
local macro_rules | `(tactic| walk_at "pad19") => `(tactic| skip)
local macro_rules | `(tactic| walk_at "pad20") => `(tactic| skip)
local macro_rules | `(tactic| walk_at "pad21") => `(tactic| skip)
local macro_rules | `(tactic| walk_at "pad22") => `(tactic| skip)
local macro_rules | `(tactic| walk_at "pad23") => `(tactic| skip)
local macro_rules | `(tactic| walk_at "pad24") => `(tactic| skip)
local macro_rules | `(tactic| walk_at "pad25") => `(tactic| skip)
local macro_rules | `(tactic| walk_at "pad26") => `(tactic| skip)
local macro_rules | `(tactic| walk_at "pad27") => `(tactic| skip)
local macro_rules | `(tactic| walk_at "pad28") => `(tactic| skip)
local macro_rules | `(tactic| walk_at "pad29") => `(tactic| skip)
local macro_rules | `(tactic| k_room) => `(tactic| ktr_room)
local macro_rules | `(tactic| k_units) => `(tactic| ktr_units)
local macro_rules | `(tactic| walk_at "go") => `(tactic| repeat' (first | (k_unfold; (try dsimp only)) | ((fail_if_success (with_reducible show wpAny _ _ (exec (Stmt.While _ _ _ _) _) _ _ _)); (fail_if_success (with_reducible show wpAny _ _ (exec (Stmt.For _ _ _ _ _) _) _ _ _)); (fail_if_success (with_reducible show wpAny _ _ (PySem.call (Value.ref _) _) _ _ _)); (fail_if_success (with_reducible show wpAny _ _ (pyIter (Value.ref _)) _ _ _)); (fail_if_success (with_reducible show wpAny _ _ (compareOp _ (Value.ref _) (Value.ref _)) _ _ _)); (fail_if_success (with_reducible show wpAny _ _ (getItem (Value.ref _) _) _ _ _)); (fail_if_success (with_reducible show wpAny _ _ (setItem (Value.ref _) _ _) _ _ _)); first | walk1 | (dsimp only; walk1))))
/-- the state between two figures -/
def WordI (g : Heap) (L : Addr) (s : Shared) (D it M W : Nat) (l : List (Nat × Tok)) (nn : Nat) (s' : Shared) : Prop :=
  ∃ (i : Nat) (lm : List (Nat × Tok)) (lw : List (Str × Tok)) (nm nw : Nat) (ts : Tok) (u : Str → Option Value) (h : Heap) (tk : Nat), s' = { s with heap := h, toks := tk } ∧
    Fr g L h (fun z => if z = Str.ofString "words" then some (.ref W) else if z = Str.ofString "manners" then some (.ref M) else if z = Str.ofString "signs" then some (.str (Str.ofString ".\n\r\\\" n.\t\x0c") ts) else u z) ∧
    News g L h [(it, liO D i), (W, strsO lw nw), (M, natsO lm nm)] ∧ i ≤ l.length ∧ lm.length = lw.length ∧ lw ≠ [] ∧ lm.length ≤ i + 1 ∧ (∀ q ∈ lm, q.1 < 3) ∧ (lists lw).flatten.length ≤ i ∧ nn = l.length - i
theorem words02 (w : World) (p : Program) (loose : List Str) (mean : ExcName → Option Value) (mg mb : Str → Option Value) (D : Addr) (l : List (Nat × Tok)) (hl : l.length ≤ 10) (h16 : ∀ q ∈ l, q.1 < 16) :
    SpecF PySem.Challenge.rw_ny0034_02.row.prog w (hd02.heap_39 w.params) p loose mean mg mb 111 1 [.ref D] [] (fun g => g.IsList D (natValues l).toArray)
      (fun v own' => ∃ T M W lm lw nm nw, v = .ref T ∧ own' = [(T, tupO #[.ref M, .ref W]), (M, natsO lm nm), (W, strsO lw nw)] ∧ lm.length = lw.length ∧ lw ≠ [] ∧ lm.length ≤ 11 ∧ (∀ q ∈ lm, q.1 < 3) ∧ (lists lw).flatten.length ≤ 10) := by
  w_top off
  k_fill
  intro dp un gd cn cs a ccd cl outer A₀ base h₀ L m s rest R B F X N hsep T hk hpre hd hu hret
  k_dflt (refine' code_own (own := []) (rest := rest) ?k1 ?k2 ?k3 ?k4 ?kS ?k5 ?kA ?kF ?kK ?k6 ?k7 ?k8 ?k9 ?kB ?_ ?c2 ?c3 ?c4 ?c5; (case kA => exact rfl); (case kF => exact rfl); (case kK => assumption); (case kS => assumption); (case k1 => k_asm); (case k2 => k_asm); (case k3 => k_asm); (case k4 => k_asm); (case k5 => k_asm); (case k6 => k_is); (case k7 => k_is); (case k8 => ktr_room); (case k9 => exact BindsTo.of_eq rfl); (case c5 => decide); (case kB => exact locs rfl); (case c2 => exact rfl); (case c3 => exact rfl); (case c4 => exact rfl); k_whole)
  intro g L' h₁ F' N' B' X' T' hst hrest hlt
  have hsc : g.IsList D (natValues l).toArray := hpre g hst hrest
  clear B F X T N
  (try dsimp only)
  walk_at "go"
  refine wpAny_For ?_
  walk_at "go"
  (rename Fr _ _ _ _ => F2); (rename News _ _ _ _ => N2)
  refine liter_K F2 N2 (Fr.lst F2 hsc) ?_
  intro it h3 F3 N3 l3
  k_lt l3
  clear F2 N2
  rename (_ : Nat) < _ => lMW
  dsimp only
  refine for_inv (WordI g L' s D it _ _ l) ?turn _ ⟨0, [(2, _)], [(Str.ofString "", _)], _, _, _, _, _, _, rfl, canon3 F3 _ _ _ rfl rfl rfl, N3, Nat.zero_le _, rfl, by simp, by simp, by simp, by rw [ofNil]; exact Nat.zero_le _, rfl⟩
  case turn =>
    (try clear F3); (try clear N3)
    rintro n s' ⟨i, lm, lw, nm, nw, ts, u, h, tk, rfl, Fh, Nh, hi, hlw, hne, hlm, h3m, hfl, rfl⟩
    refine lnext_K rfl Fh Nh (Fr.lst Fh hsc) ?ne ?_ ?_
    case ne => intro p hp; simp at hp; rcases hp with rfl | rfl; · exact Nat.ne_of_lt l3.1
               · exact Nat.ne_of_lt l3.2
    · intro v hv h4 F4 N4
      have hi2 : i < l.length := by
        rcases Nat.lt_or_ge i l.length with q | q
        · exact q
        · simp [natValues, q] at hv
      have hv' : v = .int (l[i].1 : Int) l[i].2 := by
        have := natVals_at hi2
        rw [List.getElem?_toArray, this] at hv
        exact (Option.some.inj hv).symm
      subst hv'
      have hf := h16 _ (List.getElem_mem hi2)
      generalize l[i] = fg at hf hv ⊢
      have hsz : (natValues lm).toArray.size ≤ 11 := by simp [natValues]; omega
      have hsz2 : (strValues lw).toArray.size ≤ 11 := by simp [strValues]; omega
      obtain ⟨l0, ⟨x, tx⟩, rfl⟩ : ∃ l0 q, lw = l0 ++ [q] := ⟨lw.dropLast, lw.getLast hne, (List.dropLast_concat_getLast hne).symm⟩
      have hx : x.length ≤ 10 := by
        have : (lists (l0 ++ [(x, tx)])).flatten.length = (lists l0).flatten.length + x.cps.toList.length := by simp [lists]
        rw [len_list]; omega
      have hsl : (Str.ofString ".\n\r\\\" n.\t\x0c").length = 10 := by decide +kernel
      dsimp only
      walk_at "go"
      · (rename Fr _ _ _ _ => F5); (rename News _ _ _ _ => N5)
        refine strs_last_get (News.isList N5 (.tail _ (.head _))) ?_
        dsimp only
        walk_at "go"
        (rename Fr _ _ _ _ => F6); (rename News _ _ _ _ => N6)
        refine strs_last_set (l0 := l0) (x := x) (t := tx) (n := nw) F6 N6 (.tail ?ua (.head ?ub)) ?_
        case ua => exact Ne.symm (Nat.ne_of_lt l3.1)
        case ub => intro p hp; rw [List.mem_singleton.mp hp]; exact Nat.ne_of_lt lMW
        intro h7 F7 N7
        dsimp only
        walk_at "go"
        refine ⟨l.length - (i + 1), by omega, i + 1, lm, _, nm, nw, _, _, _, _, rfl, canon3 F7 _ _ _ rfl rfl rfl, N7, hi2, ?_, by simp, by omega, h3m, ?_, rfl⟩
        · simpa using hlw
        · have e : ∀ (y : Str) (t : Tok), (lists (l0 ++ [(y, t)])).flatten.length = (lists l0).flatten.length + y.length := by intro y t; rw [len_list]; simp [lists]
          rw [e] at hfl
          rw [e]
          omega
      · (rename Fr _ _ _ _ => F5); (rename News _ _ _ _ => N5)
        have hf0 : 0 ≤ (fg.1 : Int).fmod 3 := by rw [Int.fmod_eq_emod_of_nonneg _ (by decide)]; exact Int.emod_nonneg _ (by decide)
        have hf1 : (fg.1 : Int).fmod 3 < ((3 : Nat) : Int) := by rw [Int.fmod_eq_emod_of_nonneg _ (by decide)]; exact Int.emod_lt_of_pos _ (by decide)
        rw [nat_push hf0, push_strs] at N5
        refine ⟨l.length - (i + 1), by omega, i + 1, _, _, _, _, _, _, _, _, rfl, canon3 F5 _ _ _ rfl rfl rfl, N5, hi2, ?_, by simp, by simp; omega, fig_all h3m hf0 hf1, ?_, rfl⟩
        · simp at hlw ⊢; exact hlw
        · rw [ofNil]; simp [lists] at hfl ⊢; omega
    · intro hv h4 F4 N4
      dsimp only
      have hil : l.length ≤ i := by
        rcases Nat.lt_or_ge i l.length with q | q
        · simp [natValues, q] at hv
        · exact q
      walk_at "go"
      (rename Fr _ _ _ _ => F5); (rename News _ _ _ _ => N5)
      exact leaveO_ _ F5 N5 (by intro q hq; simp at hq ⊢; exact hq.elim (fun h => .inl h) (fun h => h.elim (fun h => .inr (.inr h)) (fun h => .inr (.inl h)))) fun F7 N7 H7 => hret _ _ _ _ ⟨_, _, _, lm, lw, nm, nw, rfl, rfl, hlw, hne, by omega, h3m, by omega⟩ H7 F7 N7
end Mine
end
-- part B02
section
open PySem PySem.W PyProof.Rows PySem.Calls
set_option Elab.async false
set_option maxRecDepth 100000
set_option maxHeartbeats 8000000
set_option linter.unusedVariables false
namespace Mine
local macro_rules | `(tactic| walk_at "pad0") => `(tactic| skip)
local macro_rules | `(tactic| walk_at "pad1") => `(tactic| skip)
local macro_rules | `(tactic| walk_at "pad2") => `(tactic| skip)
local macro_rules | `(tactic| walk_at "pad3") => `(tactic| skip)
local macro_rules | `(tactic| walk_at "pad4") => `(tactic| skip)
local macro_rules | `(tactic| walk_at "pad5") => `(tactic| skip)
local macro_rules | `(tactic| walk_at "pad6") => `(tactic| skip)
local macro_rules | `(tactic| walk_at "pad7") => `(tactic| skip)
local macro_rules | `(tactic| walk_at "pad8") => `(tactic| skip)
local macro_rules | `(tactic| walk_at "pad9") => `(tactic| skip)
local macro_rules | `(tactic| walk_at "pad10") => `(tactic| skip)
local macro_rules | `(tactic| walk_at "pad11") => `(tactic| skip)
local macro_rules | `(tactic| walk_at "pad12") => `(tactic| skip)
local macro_rules | `(tactic| walk_at "pad13") => `(tactic| skip)
local macro_rules | `(tactic| walk_at "pad14") => `(tactic| skip)
local macro_rules | `(tactic| walk_at "pad15") => `(tactic| skip)
local macro_rules | `(tactic| walk_at "pad16") => `(tactic| skip)
local macro_rules | `(tactic| walk_at "pad17") => `(tactic| skip)
local macro_rules | `(tactic| walk_at "pad18") => `(tactic| skip)
local macro_rules | `(tactic| walk_at "pad19") => `(tactic| skip)
local macro_rules | `(tactic| walk_at "pad20") => `(tactic| skip)
local macro_rules | `(tactic| walk_at "pad21") => `(tactic| skip)
local macro_rules | `(tactic| walk_at "pad22") => `(tactic| skip)
local macro_rules | `(tactic| walk_at "pad23") => `(tactic| skip)
local macro_rules | `(tactic| walk_at "pad24") => `(tactic| skip)
local macro_rules | `(tactic| walk_at "pad25") => `(tactic| skip)
local macro_rules | `(tactic| walk_at "pad26") => `(tactic| skip)
local macro_rules | `(tactic| walk_at "pad27") => `(tactic| skip)
local macro_rules | `(tactic| walk_at "pad28") => `(tactic| skip)
local macro_rules | `(tactic| walk_at "pad29") => `(tactic| skip)
local macro_rules | `(tactic| walk_at "pad30") => `(tactic| skip)
local macro_rules | `(tactic| k_room) => `(tactic| ktr_room)
local macro_rules | `(tactic| k_units) => `(tactic| ktr_units)
local macro_rules | `(tactic| walk_at "go") => `(tactic| repeat' (first | (k_unfold; (try dsimp only)) | ((fail_if_success (with_reducible show wpAny _ _ (exec (Stmt.While _ _ _ _) _) _ _ _)); (fail_if_success (with_reducible show wpAny _ _ (exec (Stmt.For _ _ _ _ _) _) _ _ _)); (fail_if_success (with_reducible show wpAny _ _ (PySem.call (Value.ref _) _) _ _ _)); (fail_if_success (with_reducible show wpAny _ _ (PySem.call (Value.builtin "str.replace") _) _ _ _)); (fail_if_success (with_reducible show wpAny _ _ (PySem.call (Value.builtin "str.split") _) _ _ _)); first | walk1 | (dsimp only; walk1))))
/-- the rows of a text -/
theorem rows02 (w : World) (p : Program) (loose : List Str) (mean : ExcName → Option Value) (mg mb : Str → Option Value) (y : Str) (ty : Tok) (hy : y.length ≤ 10000) :
    SpecF PySem.Challenge.rw_ny0034_02.row.prog w (hd02.heap_39 w.params) p loose mean mg mb 118 1 [.str y ty] [] (fun _ => True)
      (fun v own' => ∃ D l, v = .ref D ∧ own' = [(D, strsO l 0)] ∧ lists l = rowsOf y.cps.toList) := by
  w_top off
  k_fill
  intro dp un gd cn cs a ccd cl outer A₀ base h₀ L m s rest R B F X N hsep T hk hpre hd hu hret
  k_dflt (refine' code_own (own := []) (rest := rest) ?k1 ?k2 ?k3 ?k4 ?kS ?k5 ?kA ?kF ?kK ?k6 ?k7 ?k8 ?k9 ?kB ?_ ?c2 ?c3 ?c4 ?c5; (case kA => exact rfl); (case kF => exact rfl); (case kK => assumption); (case kS => assumption); (case k1 => k_asm); (case k2 => k_asm); (case k3 => k_asm); (case k4 => k_asm); (case k5 => k_asm); (case k6 => k_is); (case k7 => k_is); (case k8 => ktr_room); (case k9 => exact BindsTo.of_eq rfl); (case c5 => decide); (case kB => exact locs rfl); (case c2 => exact rfl); (case c3 => exact rfl); (case c4 => exact rfl); k_whole)
  intro g L' h₁ F' N' B' X' T' hst hrest hlt
  clear B F X T N
  (try dsimp only)
  refine wpAny_execs_cons ?_
  have htk : 1 ≤ s.toks + 1 := Nat.le_add_left 1 _
  walk_at "go"
  refine replU (by (show @Ne Nat _ _); simp) (by (show @Ne Nat _ _); simp) (by (show @Ne Nat _ _); simp) (by decide +kernel) (by omega) (by decide +kernel) (by decide +kernel) ?_
  intro r1 t1 k1 hk1 hr1
  have hk1 : 1 ≤ k1 := Nat.le_trans (by simp) hk1
  dsimp only
  have hl1 : r1.length ≤ 20000 := by
    have := rep_len (Str.ofString "\r\n").cps.toList (Str.ofString "\n").cps.toList y.cps.toList 0
    rw [← hr1, ← len_list, ← len_list, show (Str.ofString "\n").cps.toList.length = 1 by decide +kernel] at this
    omega
  walk_at "go"
  refine replU (by (show @Ne Nat _ _); omega) (by (show @Ne Nat _ _); omega) (by (show @Ne Nat _ _); omega) (by decide +kernel) (by omega) (by decide +kernel) (by decide +kernel) ?_
  intro r2 t2 k2 hk2 hr2
  dsimp only at hk2 ⊢
  have hl2 : r2.length ≤ 40000 := by
    have := rep_len (Str.ofString "\r").cps.toList (Str.ofString "\n").cps.toList r1.cps.toList 0
    rw [← hr2, ← len_list, ← len_list, show (Str.ofString "\n").cps.toList.length = 1 by decide +kernel] at this
    omega
  walk_at "go"
  (rename Fr _ _ _ _ => F3); (rename News _ _ _ _ => N3)
  refine splitN1 F3 N3 (by decide +kernel) ?_ (by rw [PySem.sizeLine_eq]; omega)
  intro lr h4 tk4 hlr F4 N4
  have hR := rows_split hr1 hr2 hlr
  dsimp only
  walk_at "go"
  exact leaveO_ [(_, strsO lr 0)] F4 N4 (by intro q hq; rw [List.mem_singleton.mp hq]; exact .head _) fun F7 N7 H7 => hret _ _ _ _ ⟨_, lr, rfl, rfl, hR⟩ H7 F7 N7
end Mine
end
-- part C02
section
open PySem PySem.W PyProof.Rows PySem.Calls
set_option Elab.async false
set_option maxRecDepth 100000
set_option maxHeartbeats 8000000
set_option linter.unusedVariables false
namespace Mine
local macro_rules | `(tactic| walk_at "pad0") => `(tactic| skip)
local macro_rules | `(tactic| walk_at "pad1") => `(tactic| skip)
local macro_rules | `(tactic| walk_at "pad2") => `(tactic| skip)
local macro_rules | `(tactic| walk_at "pad3") => `(tactic| skip)
local macro_rules | `(tactic| walk_at "pad4") => `(tactic| skip)
local macro_rules | `(tactic| walk_at "pad5") => `(tactic| skip)
local macro_rules | `(tactic| walk_at "pad6") => `(tactic| skip)
local macro_rules | `(tactic| walk_at "pad7") => `(tactic| skip)
local macro_rules | `(tactic| walk_at "pad8") => `(tactic| skip)
local macro_rules | `(tactic| walk_at "pad9") => `(tactic| skip)
local macro_rules | `(tactic| walk_at "pad10") => `(tactic| skip)
local macro_rules | `(tactic| walk_at "pad11") => `(tactic| skip)
local macro_rules | `(tactic| walk_at "pad12") => `(tactic| skip)
local macro_rules | `(tactic| walk_at "pad13") => `(tactic| skip)
local macro_rules | `(tactic| walk_at "pad14") => `(tactic| skip)
local macro_rules | `(tactic| walk_at "pad15") => `(tactic| skip)
local macro_rules | `(tactic| walk_at "pad16") => `(tactic| skip)
local macro_rules | `(tactic| walk_at "pad17") => `(tactic| skip)
local macro_rules | `(tactic| walk_at "pad18") => `(tactic| skip)
local macro_rules | `(tactic| walk_at "pad19") => `(tactic| skip)
local macro_rules | `(tactic| walk_at "pad20") => `(tactic| skip)
local macro_rules | `(tactic| walk_at "pad21") => `(tactic| skip)
local macro_rules | `(tactic| walk_at "pad22") => `(tactic| skip)
local macro_rules | `(tactic| walk_at "pad23") => `(tactic| skip)
local macro_rules | `(tactic| walk_at "pad24") => `(tactic| skip)
local macro_rules | `(tactic| walk_at "pad25") => `(tactic| skip)
local macro_rules | `(tactic| walk_at "pad26") => `(tactic| skip)
local macro_rules | `(tactic| walk_at "pad27") => `(tactic| skip)
local macro_rules | `(tactic| walk_at "pad28") => `(tactic| skip)
local macro_rules | `(tactic| walk_at "pad29") => `(tactic| skip)
local macro_rules | `(tactic| walk_at "pad30") => `(tactic| skip)
local macro_rules | `(tactic| k_room) => `(tactic| ktr_room)
local macro_rules | `(tactic| k_units) => `(tactic| ktr_units)
local macro_rules | `(tactic| walk_at "go") => `(tactic| repeat' (first | (k_unfold; (try dsimp only)) | ((fail_if_success (with_reducible show wpAny _ _ (exec (Stmt.While _ _ _ _) _) _ _ _)); (fail_if_success (with_reducible show wpAny _ _ (exec (Stmt.For _ _ _ _ _) _) _ _ _)); (fail_if_success (with_reducible show wpAny _ _ (PySem.call (Value.ref _) _) _ _ _)); first | walk1 | (dsimp only; walk1))))
local macro_rules | `(tactic| walk_at "call builtin:len") => `(tactic| (k_here; (with_reducible show wpAny _ _ (PySem.call (Value.builtin "len") [Value.ref _]) _ _ _); (refine strs_len (News.isList (by k_asm) (by k_mem)) (by assumption) ?_); intro _ _))
/-- is a word written plain -/
def plainB (m : Nat) (y : List Nat) : Bool := decide (m ≠ 1 ∧ y ≠ [] ∧ (rowsOf y).length = 1)
theorem plain02 (w : World) (p : Program) (loose : List Str) (mean : ExcName → Option Value) (mg mb : Str → Option Value) (mn : Nat) (tm : Tok) (y : Str) (ty : Tok) (hy : y.length ≤ 10000) :
    SpecF PySem.Challenge.rw_ny0034_02.row.prog w (hd02.heap_39 w.params) p loose mean mg mb 125 2 [.int (mn : Int) tm, .str y ty] [] (fun _ => True)
      (fun v own' => v = .bool (plainB mn y.cps.toList) ∧ own' = []) := by
  w_top off
  k_fill
  intro dp un gd cn cs a ccd cl outer A₀ base h₀ L m s rest R B F X N hsep T hk hpre hd hu hret
  k_dflt (refine' code_own (own := []) (rest := rest) ?k1 ?k2 ?k3 ?k4 ?kS ?k5 ?kA ?kF ?kK ?k6 ?k7 ?k8 ?k9 ?kB ?_ ?c2 ?c3 ?c4 ?c5; (case kA => exact rfl); (case kF => exact rfl); (case kK => assumption); (case kS => assumption); (case k1 => k_asm); (case k2 => k_asm); (case k3 => k_asm); (case k4 => k_asm); (case k5 => k_asm); (case k6 => k_is); (case k7 => k_is); (case k8 => ktr_room); (case k9 => exact BindsTo.of_eq rfl); (case c5 => decide); (case kB => exact locs rfl); (case c2 => exact rfl); (case c3 => exact rfl); (case c4 => exact rfl); k_whole)
  intro g L' h₁ F' N' B' X' T' hst hrest hlt
  clear B F X T N
  (try dsimp only)
  walk_at "go"
  · (rename (_ != _) = _ => hx); (rename (_ : Int) ≠ _ => hm); (rename Fr _ _ _ _ => F2); (rename News _ _ _ _ => N2)
    refine (rows02 w p loose mean mg mb y ty hy).call0 B' F2 X' N2 T' rfl (fun _ _ _ => trivial) (by ktr_room) (by ktr_units) ?_
    rintro v own' h4 tk4 ⟨D, l, rfl, rfl, hl⟩ H4 F4 N4
    clear F2 N2
    (try simp only [List.cons_append, List.nil_append] at N4)
    have hll : l.length = (rowsOf y.cps.toList).length := by rw [← hl]; simp
    have hl6 : l.length ≤ 1000000 := by
      have := rows_cnt y.cps.toList
      rw [← len_list] at this
      omega
    dsimp only
    walk_at "go"
    (rename Fr _ _ _ _ => F5); (rename News _ _ _ _ => N5)
    have hx := neNil hx
    dsimp only
    exact leaveO_ [] F5 N5 (fun _ h => nomatch h) fun F7 N7 H7 => hret _ [] _ _ ⟨by congr 1; unfold plainB; rw [Bool.eq_iff_iff]; simp [hx, ← hll]; omega, rfl⟩ H7 F7 N7
  · (rename (_ != _) = _ => hx)
    dsimp only
    have hy0 := isNil hx
    exact leaveO_ [] F' N' (fun _ h => nomatch h) fun F7 N7 H7 => hret _ [] _ _ ⟨by rw [hx]; congr 1; unfold plainB; rw [hy0]; simp, rfl⟩ H7 F7 N7
  · (rename (_ : Int) = _ => hm)
    dsimp only
    have hm1 : mn = 1 := by omega
    exact leaveO_ [] F' N' (fun _ h => nomatch h) fun F7 N7 H7 => hret _ [] _ _ ⟨by congr 1; unfold plainB; rw [hm1]; simp, rfl⟩ H7 F7 N7
end Mine
end
-- part E02
section
open PySem PySem.W PyProof.Rows PySem.Calls
set_option Elab.async false
set_option maxRecDepth 100000
set_option maxHeartbeats 8000000
set_option linter.unusedVariables false
namespace Mine
local macro_rules | `(tactic| walk_at "pad0") => `(tactic| skip)
local macro_rules | `(tactic| walk_at "pad1") => `(tactic| skip)
local macro_rules | `(tactic| walk_at "pad2") => `(tactic| skip)
local macro_rules | `(tactic| walk_at "pad3") => `(tactic| skip)
local macro_rules | `(tactic| walk_at "pad4") => `(tactic| skip)
local macro_rules | `(tactic| walk_at "pad5") => `(tactic| skip)
local macro_rules | `(tactic| walk_at "pad6") => `(tactic| skip)
local macro_rules | `(tactic| walk_at "pad7") => `(tactic| skip)
local macro_rules | `(tactic| walk_at "pad8") => `(tactic| skip)
local macro_rules | `(tactic| walk_at "pad9") => `(tactic| skip)
local macro_rules | `(tactic| walk_at "pad10") => `(tactic| skip)
local macro_rules | `(tactic| walk_at "pad11") => `(tactic| skip)
local macro_rules | `(tactic| walk_at "pad12") => `(tactic| skip)
local macro_rules | `(tactic| walk_at "pad13") => `(tactic| skip)
local macro_rules | `(tactic| walk_at "pad14") => `(tactic| skip)
local macro_rules | `(tactic| walk_at "pad15") => `(tactic| skip)
local macro_rules | `(tactic| walk_at "pad16") => `(tactic| skip)
local macro_rules | `(tactic| walk_at "pad17") => `(tactic| skip)
local macro_rules | `(tactic| walk_at "pad18") => `(tactic| skip)
local macro_rules | `(tactic| walk_at "pad19") => `(tactic| skip)
local macro_rules | `(tactic| walk_at "pad20") => `(tactic| skip)
local macro_rules | `(tactic| walk_at "pad21") => `(tactic| skip)
local macro_rules | `(tactic| walk_at "pad22") => `(tactic| skip)
local macro_rules | `(tactic| walk_at "pad23") => `(tactic| skip)
local macro_rules | `(tactic| walk_at "pad24") => `(tactic| skip)
local macro_rules | `(tactic| walk_at "pad25") => `(tactic| skip)
local macro_rules | `(tactic| walk_at "pad26") => `(tactic| skip)
local macro_rules | `(tactic| walk_at "pad27") => `(tactic| skip)
local macro_rules | `(tactic| walk_at "pad28") => `(tactic| skip)
local macro_rules | `(tactic| walk_at "pad29") => `(tactic| skip)
local macro_rules | `(tactic| walk_at "pad30") => `(tactic| skip)
local macro_rules | `(tactic| walk_at "pad31") => `(tactic| skip)
local macro_rules | `(tactic| walk_at "pad32") => `(tactic| skip)
local macro_rules | `(tactic| k_room) => `(tactic| ktr_room)
local macro_rules | `(tactic| k_units) => `(tactic| ktr_units)
local macro_rules | `(tactic| walk_at "go") => `(tactic| repeat' (first | (k_unfold; (try dsimp only)) | ((fail_if_success (with_reducible show wpAny _ _ (exec (Stmt.While _ _ _ _) _) _ _ _)); (fail_if_success (with_reducible show wpAny _ _ (exec (Stmt.For _ _ _ _ _) _) _ _ _)); (fail_if_success (with_reducible show wpAny _ _ (PySem.call (Value.ref _) _) _ _ _)); (fail_if_success (with_reducible show wpAny _ _ (PySem.call (Value.type "zip") _) _ _ _)); (fail_if_success (with_reducible show wpAny _ _ (pyIter _) _ _ _)); (fail_if_success (with_reducible show wpAny _ _ (execs (Stmt.AugAssign _ _ _ _ :: _) _) _ _ _)); (fail_if_success (with_reducible show wpAny _ _ (execs (Stmt.If _ _ _ _ :: _) _) _ _ _)); (fail_if_success (with_reducible show wpAny _ _ (PySem.call (Value.builtin "str.replace") _) _ _ _)); first | walk1 | (dsimp only; walk1))))
/-- a sign of a plain word as it is written -/
def escPF (c : Nat) : List Nat := if c = 34 ∨ c = 92 ∨ c = 32 ∨ c = 9 then [92, c] else [c]
def sepL (m : Nat) : List Nat := if m = 0 then [32] else if m = 1 then [] else [10]
def wrBody (m : Nat) (y : List Nat) : List Nat := if plainB m y = true then y.flatMap escPF else [34] ++ esc y ++ [34]
def writtenL : List Nat → List (List Nat) → List Nat
  | m :: ms, y :: ys => wrBody m y ++ sepL m ++ writtenL ms ys
  | _, _ => []
/-- the state between two words -/
def WrI (g : Heap) (L : Addr) (s : Shared) (z TI TO i1 i2 M W : Nat) (lm : List (Nat × Tok)) (lw : List (Str × Tok)) (nn : Nat) (s' : Shared) : Prop :=
  ∃ (k : Nat) (tx : Str) (tt : Tok) (a b : Value) (o1 o2 : Obj) (u : Str → Option Value) (h : Heap) (tk : Nat), s' = { s with heap := h, toks := tk } ∧
    Fr g L h (fun q => if q = Str.ofString "text" then some (.str tx tt) else u q) ∧ News g L h (zipL z TI TO i1 i2 a b o1 o2) ∧ ItO o1 M k ∧ ItO o2 W k ∧ k ≤ lm.length ∧
    tx.cps.toList ++ writtenL (nats (lm.drop k)) (lists (lw.drop k)) = writtenL (nats lm) (lists lw) ∧ tx.length ≤ k * 203 ∧ nn = lm.length - k
def WrMid (g : Heap) (L : Addr) (s : Shared) (z TI TO i1 i2 : Nat) (a b : Value) (o1 o2 : Obj) (tx : Str) (mq : Nat × Tok) (wq : Str × Tok) (f : Flow) (s' : Shared) : Prop :=
  f = .next ∧ ∃ (ty : Str) (tt : Tok) (u : Str → Option Value) (h : Heap) (tks : Nat), s' = { s with heap := h, toks := tks } ∧ Fr g L h (fun q => if q = Str.ofString "text" then some (.str ty tt) else if q = Str.ofString "manner" then some (.int (mq.1 : Int) mq.2) else u q) ∧
    News g L h (zipL z TI TO i1 i2 a b o1 o2) ∧ ty.cps.toList = tx.cps.toList ++ wrBody mq.1 wq.1.cps.toList
def SgI (g : Heap) (L : Addr) (s : Shared) (it : Nat) (base : List (Addr × Obj)) (tx : Str) (mq : Nat × Tok) (wq : Str × Tok) (nn : Nat) (s' : Shared) : Prop :=
  ∃ (i : Nat) (ty : Str) (tt : Tok) (o : Obj) (u : Str → Option Value) (h : Heap) (tks : Nat), s' = { s with heap := h, toks := tks } ∧ Fr g L h (fun q => if q = Str.ofString "text" then some (.str ty tt) else if q = Str.ofString "manner" then some (.int (mq.1 : Int) mq.2) else u q) ∧
    News g L h ((it, o) :: base) ∧ SItO o wq.1 wq.2 i ∧ i ≤ wq.1.cps.size ∧ ty.cps.toList ++ (wq.1.cps.toList.drop i).flatMap escPF = tx.cps.toList ++ wq.1.cps.toList.flatMap escPF ∧ ty.length ≤ tx.length + 2 * i ∧ nn = wq.1.cps.size - i
theorem flat_len (f : Nat → List Nat) (h : ∀ c, (f c).length ≤ 2) : ∀ l : List Nat, (l.flatMap f).length ≤ 2 * l.length
  | [] => by simp
  | c :: r => by
    have a1 := flat_len f h r
    have a2 := h c
    rw [List.flatMap_cons, List.length_append, List.length_cons]
    omega
theorem wr_len (m : Nat) (y : List Nat) : (wrBody m y).length ≤ 2 * y.length + 2 := by
  have h1 := flat_len escPF (fun c => by unfold escPF; split <;> simp) y
  have h2 := flat_len escF (fun c => by unfold escF; split; · simp
                                        · split <;> simp) y
  unfold wrBody
  split
  · exact Nat.le_trans h1 (by omega)
  · simp only [List.length_append, List.length_cons, List.length_nil]
    have h3 : (esc y).length ≤ 2 * y.length := h2
    omega
theorem e4w : (Str.ofString "\"\\ \t").cps.toList = [34, 92, 32, 9] := by decide +kernel
theorem written02 (w : World) (p : Program) (loose : List Str) (mean : ExcName → Option Value) (mg mb : Str → Option Value) (M W : Addr) (lm : List (Nat × Tok)) (lw : List (Str × Tok)) (hlen : lm.length = lw.length) (h20 : lm.length ≤ 20) (h3 : ∀ q ∈ lm, q.1 < 3) (hB : ∀ q ∈ lw, q.1.length ≤ 100) :
    SpecF PySem.Challenge.rw_ny0034_02.row.prog w (hd02.heap_39 w.params) p loose mean mg mb 132 4 [.ref M, .ref W] [] (fun g => g.IsList M (natValues lm).toArray ∧ g.IsList W (strValues lw).toArray)
      (fun v own' => own' = [] ∧ ∃ t tt, v = .str t tt ∧ t.cps.toList = writtenL (nats lm) (lists lw)) := by
  w_top off
  k_fill
  intro dp un gd cn cs a ccd cl outer A₀ base h₀ L m s rest R B F X N hsep T hk hpre hd hu hret
  k_dflt (refine' code_own (own := []) (rest := rest) ?k1 ?k2 ?k3 ?k4 ?kS ?k5 ?kA ?kF ?kK ?k6 ?k7 ?k8 ?k9 ?kB ?_ ?c2 ?c3 ?c4 ?c5; (case kA => exact rfl); (case kF => exact rfl); (case kK => assumption); (case kS => assumption); (case k1 => k_asm); (case k2 => k_asm); (case k3 => k_asm); (case k4 => k_asm); (case k5 => k_asm); (case k6 => k_is); (case k7 => k_is); (case k8 => ktr_room); (case k9 => exact BindsTo.of_eq rfl); (case c5 => decide); (case kB => exact locs rfl); (case c2 => exact rfl); (case c3 => exact rfl); (case c4 => exact rfl); k_whole)
  intro g L' h₁ F' N' B' X' T' hst hrest hlt
  obtain ⟨hM, hW⟩ := hpre g hst hrest
  clear B F X T N
  (try dsimp only)
  refine wpAny_execs_cons ?_
  refine wpAny_upO 1 (Nat.le_add_left 1 _) ?_
  walk_at "go"
  unfold TokGe
  intro htk
  (try dsimp only at htk)
  (try dsimp only)
  refine wpAny_execs_cons ?_
  refine wpAny_For ?_
  walk_at "go"
  (rename Fr _ _ _ _ => F2); (rename News _ _ _ _ => N2)
  refine zip_K F2 N2 (Fr.lst F2 hM) (Fr.lst F2 hW) ?_
  intro z TI TO i1 i2 h3z F3 N3 Z3 l3 l3b
  (try dsimp only)
  walk_at "go"
  refine wpAny_pyIter_zip Z3.hz ?_
  (try dsimp only)
  obtain ⟨a0, b0, o1, o2, NZ, r1, r2⟩ := zip_entries Z3
  have ap := Z3.ap
  refine for_invT 1 (WrI g L' s z TI TO i1 i2 M W lm lw) ?turn _ ⟨0, Str.ofString "", _, a0, b0, o1, o2, _, _, _, rfl, canon1 F3 _ rfl, NZ, r1, r2, Nat.zero_le _, by rw [ofNil]; rfl, by decide +kernel, rfl⟩ htk
  case turn =>
    clear F2 N2 F3 N3 Z3 NZ r1 r2
    rintro n s' ⟨k, tx, tt, a1, b1, o1, o2, u, h, tk, rfl, Fh, Nh, r1, r2, hk, htx, hlx, rfl⟩ hge
    have Z := zip_of Nh (fun q hq => hq) r1 r2 ap
    refine znext_K rfl Fh (news := []) (fun _ h => nomatch h) Z (Fr.lst Fh hM) (Fr.lst Fh hW) (fun _ h => nomatch h) ?_ ?_
    · intro v1 v2 hv1 hv2 T5 h5 F5 N5 Z5 hz5 _ lT
      dsimp only
      refine wpAny_letOwnedTupleGo_zip Z5 ?_
      intro h6 Z6 hs6
      obtain ⟨Z7, F7, N7⟩ := hz5 h6 Z6 hs6
      obtain ⟨a2, b2, p1, p2, NZ, q1, q2⟩ := zip_entries Z7
      have N8 := news_app N7 NZ
      simp only [List.cons_append, List.nil_append] at N8
      have hk2 : k < lm.length := by
        rcases Nat.lt_or_ge k lm.length with q | q
        · exact q
        · simp [natValues, q] at hv1
      have hk3 : k < lw.length := by omega
      have e1 : v1 = .int (lm[k].1 : Int) lm[k].2 := by
        have := natVals_at hk2
        rw [List.getElem?_toArray, this] at hv1
        exact (Option.some.inj hv1).symm
      have e2 : v2 = .str lw[k].1 lw[k].2 := by
        have := strVals_at hk3
        rw [List.getElem?_toArray, this] at hv2
        exact (Option.some.inj hv2).symm
      have hm3 := h3 _ (List.getElem_mem hk2)
      have hw1 := hB _ (List.getElem_mem hk3)
      rw [List.drop_eq_getElem_cons hk2, List.drop_eq_getElem_cons hk3] at htx
      subst e1 e2
      clear hv1 hv2
      generalize lm[k] = mq at hm3 htx N8 N7 ⊢
      generalize lw[k] = wq at hw1 htx N8 N7 ⊢
      have htx : tx.cps.toList ++ (wrBody mq.1 wq.1.cps.toList ++ sepL mq.1 ++ writtenL (nats (lm.drop (k + 1))) (lists (lw.drop (k + 1)))) = writtenL (nats lm) (lists lw) := htx
      clear F5 N5 N7 NZ Z5 hz5 Z6 hs6 Z7 Nh Fh Z
      dsimp only at hge ⊢
      walk_at "go"
      (rename Fr _ _ _ _ => F9); (rename News _ _ _ _ => N9)
      dsimp only
      refine wpAny_execs_cons ?_
      refine wpAny_mono (Q := WrMid g L' s z TI TO i1 i2 a2 b2 p1 p2 tx mq wq) ?st ?rest (fun _ _ h => h)
      case st =>
        walk_at "go"
        (rename Fr _ _ _ _ => F10); (rename News _ _ _ _ => N10)
        refine wpAny_up 1 (Nat.le_succ_of_le (Nat.le_succ_of_le hge)) ?_
        refine (plain02 w p loose mean mg mb mq.1 mq.2 wq.1 wq.2 (by omega)).call0 B' F10 X' N10 T' rfl (fun _ _ _ => trivial) (by ktr_room) (by ktr_units) ?_
        rintro v own' h11 tk11 ⟨rfl, rfl⟩ H11 F11 N11 htk11
        clear F10 N10
        rw [List.nil_append] at N11
        dsimp only at htk11 ⊢
        walk_at "go"
        · rename plainB _ _ = _ => hpl
          refine wpAny_For ?_
          walk_at "go"
          (rename Fr _ _ _ _ => F12); (rename News _ _ _ _ => N12)
          refine siter_K F12 (cb_drop N12 (fun q hq => .tail _ hq)) ?_
          intro it o h13 ho F13 N13 l13
          dsimp only
          refine for_inv (SgI g L' s it (zipL z TI TO i1 i2 a2 b2 p1 p2) tx mq wq) ?_ _ ⟨0, tx, _, o, _, _, _, rfl, canon2 F13 _ _ rfl rfl, N13, ho, Nat.zero_le _, rfl, Nat.le_refl _, rfl⟩
          clear F12 N12 F13 N13
          rintro n s' ⟨i, ty, tt, o, u, h, tks, rfl, Fh, Nh, ho, hi, hty, hly, rfl⟩
          have hwc : wq.1.cps.size ≤ 100 := hw1
          have hyl : ty.length ≤ 5000 := by omega
          refine snext_K rfl Fh Nh ho (fun p hp => Nat.ne_of_lt (l13 p hp)) ?_ ?_
          · intro hi2 o' h' u' tk' ho' F15 N15
            have hi3 : i < wq.1.cps.toList.length := by simpa using hi2
            rw [List.drop_eq_getElem_cons hi3, List.flatMap_cons] at hty
            have hc : wq.1.cps.toList[i] = wq.1.cps[i] := by simp
            rw [hc] at hty
            dsimp only
            walk_at "go"
            refine wpAny_execs_cons ?_
            walk_at "go"
            · (rename Fr _ _ _ _ => F16); (rename News _ _ _ _ => N16); (rename (Builtin.Str.occurrences _ _ _ _ _).isEmpty = _ => hw2)
              have hw2 := not_in_ws hw2
              rw [e4w] at hw2
              rw [escPF, if_neg (by simpa using hw2)] at hty
              refine ⟨wq.1.cps.size - (i + 1), by omega, i + 1, _, _, o', _, _, _, rfl, canon2 F16 _ _ rfl rfl, N16, ho', hi2, ?_, ?_, rfl⟩
              · rw [app_str, ← hty]; simp
              · rw [len_app]
                have : Str.length ⟨#[wq.1.cps[i]]⟩ = 1 := rfl
                omega
            · (rename Fr _ _ _ _ => F16); (rename News _ _ _ _ => N16); (rename (Builtin.Str.occurrences _ _ _ _ _).isEmpty = _ => hw2)
              have hw2 := in_ws hw2
              rw [e4w] at hw2
              rw [escPF, if_pos (by simpa using hw2)] at hty
              refine ⟨wq.1.cps.size - (i + 1), by omega, i + 1, _, _, o', _, _, _, rfl, canon2 F16 _ _ rfl rfl, N16, ho', hi2, ?_, ?_, rfl⟩
              · rw [app_str, app_str, ofB, ← hty]; simp
              · rw [len_app, len_app]
                have : Str.length ⟨#[wq.1.cps[i]]⟩ = 1 := rfl
                have : (Str.ofString "\\").length = 1 := by decide +kernel
                omega
          · intro hge2 h' F15 N15
            dsimp only
            walk_at "go"
            rw [List.drop_of_length_le (by simpa using hge2), List.flatMap_nil, List.append_nil] at hty
            exact ⟨rfl, ty, tt, _, _, _, rfl, F15, N15, by rw [hty, wrBody, if_pos hpl]⟩
        · rename plainB _ _ = _ => hpl
          refine wpAny_execs_cons ?_
          walk_at "go"
          refine replU (by (show @Ne Nat _ _); omega) (by (show @Ne Nat _ _); omega) (by (show @Ne Nat _ _); omega) (by decide +kernel) (by omega) (by decide +kernel) (by decide +kernel) ?_
          intro r3 t3 k3 hk3 hr3
          dsimp only at hk3 ⊢
          have hl3 : r3.length ≤ 300 := by
            have := rep_len (Str.ofString "\\").cps.toList (Str.ofString "\\\\").cps.toList wq.1.cps.toList 0
            rw [← hr3, ← len_list, ← len_list, show (Str.ofString "\\\\").cps.toList.length = 2 by decide +kernel] at this
            omega
          walk_at "go"
          refine replU (by (show @Ne Nat _ _); omega) (by (show @Ne Nat _ _); omega) (by (show @Ne Nat _ _); omega) (by decide +kernel) (by omega) (by decide +kernel) (by decide +kernel) ?_
          intro r4 t4 k4 hk4 hr4
          dsimp only at hk4 ⊢
          have hl4 : r4.length ≤ 900 := by
            have := rep_len (Str.ofString "\"").cps.toList (Str.ofString "\\\"").cps.toList r3.cps.toList 0
            rw [← hr4, ← len_list, ← len_list, show (Str.ofString "\\\"").cps.toList.length = 2 by decide +kernel] at this
            omega
          have hE := esc_repl hr3 hr4
          have hxl : tx.length ≤ 5000 := by omega
          have hq1 : (Str.ofString "\"").length = 1 := by decide +kernel
          walk_at "go"
          (rename Fr _ _ _ _ => F12); (rename News _ _ _ _ => N12)
          refine ⟨rfl, _, _, _, _, _, rfl, canon2 F12 _ _ rfl rfl, cb_drop N12 (fun q hq => .tail _ hq), ?_⟩
          rw [app_str, app_str, app_str, ofQ, hE, wrBody, if_neg (by rw [hpl]; simp)]
      case rest =>
        rintro f s' ⟨rfl, ty, tt', u', h14, tks, rfl, F14, N14, hty⟩
        dsimp only
        have hlb : ty.length ≤ k * 203 + 202 := by
          rw [len_list, hty, List.length_append, ← len_list]
          have := wr_len mq.1 wq.1.cps.toList
          rw [← len_list] at this
          omega
        refine wpAny_execs_cons ?_
        walk_at "go"
        · (rename Fr _ _ _ _ => F15); (rename News _ _ _ _ => N15); (rename (mq.1 : Int) = _ => hm)
          have hm : mq.1 = 0 := by omega
          refine ⟨lm.length - (k + 1), by omega, k + 1, _, _, a2, b2, p1, p2, _, _, _, rfl, canon1 F15 _ rfl, cb_drop N15 (fun q hq => .tail _ hq), q1, q2, hk2, ?_, ?_, rfl⟩
          · rw [app_str, hty, ← htx, hm, show (Str.ofString " ").cps.toList = [32] by decide +kernel]; simp [sepL]
          · rw [len_app, show (Str.ofString " ").length = 1 by decide +kernel]; omega
        · (rename Fr _ _ _ _ => F15); (rename News _ _ _ _ => N15); (rename (mq.1 : Int) = _ => hm)
          have hm : mq.1 = 1 := by omega
          refine ⟨lm.length - (k + 1), by omega, k + 1, _, _, a2, b2, p1, p2, _, _, _, rfl, canon1 F15 _ rfl, cb_drop N15 (fun q hq => .tail _ hq), q1, q2, hk2, ?_, ?_, rfl⟩
          · rw [app_str, hty, ← htx, hm, show (Str.ofString "").cps.toList = [] by decide +kernel]; simp [sepL]
          · rw [len_app, show (Str.ofString "").length = 0 by decide +kernel]; omega
        · (rename Fr _ _ _ _ => F15); (rename News _ _ _ _ => N15); (rename (mq.1 : Int) = _ => hm)
          have hm : mq.1 = 2 := by omega
          refine ⟨lm.length - (k + 1), by omega, k + 1, _, _, a2, b2, p1, p2, _, _, _, rfl, canon1 F15 _ rfl, cb_drop N15 (fun q hq => .tail _ hq), q1, q2, hk2, ?_, ?_, rfl⟩
          · rw [app_str, hty, ← htx, hm, show (Str.ofString "\n").cps.toList = [10] by decide +kernel]; simp [sepL]
          · rw [len_app, show (Str.ofString "\n").length = 1 by decide +kernel]; omega
    · intro hv h4 F4 N4
      have hk4 : lm.length ≤ k := by
        rcases Nat.lt_or_ge k lm.length with q | q
        · rcases hv with hv | hv
          · simp [natValues, q] at hv
          · simp [strValues, show k < lw.length by omega] at hv
        · exact q
      rw [List.drop_of_length_le hk4] at htx
      have htx : tx.cps.toList ++ [] = writtenL (nats lm) (lists lw) := htx
      rw [List.append_nil] at htx
      dsimp only
      walk_at "go"
      dsimp only
      exact leaveO_ [] F4 N4 (fun _ h => nomatch h) fun F7 N7 H7 => hret _ [] _ _ ⟨rfl, tx, tt, rfl, htx⟩ H7 F7 N7
end Mine
end
-- part D02p
section
open PySem PySem.W PyProof.Rows PySem.Calls
set_option Elab.async false
set_option maxRecDepth 100000
set_option maxHeartbeats 8000000
set_option linter.unusedVariables false
namespace Mine
local macro_rules | `(tactic| walk_at "pad0") => `(tactic| skip)
local macro_rules | `(tactic| walk_at "pad1") => `(tactic| skip)
local macro_rules | `(tactic| walk_at "pad2") => `(tactic| skip)
local macro_rules | `(tactic| walk_at "pad3") => `(tactic| skip)
local macro_rules | `(tactic| walk_at "pad4") => `(tactic| skip)
local macro_rules | `(tactic| walk_at "pad5") => `(tactic| skip)
local macro_rules | `(tactic| walk_at "pad6") => `(tactic| skip)
local macro_rules | `(tactic| walk_at "pad7") => `(tactic| skip)
local macro_rules | `(tactic| walk_at "pad8") => `(tactic| skip)
local macro_rules | `(tactic| walk_at "pad9") => `(tactic| skip)
local macro_rules | `(tactic| walk_at "pad10") => `(tactic| skip)
local macro_rules | `(tactic| walk_at "pad11") => `(tactic| skip)
local macro_rules | `(tactic| walk_at "pad12") => `(tactic| skip)
local macro_rules | `(tactic| walk_at "pad13") => `(tactic| skip)
local macro_rules | `(tactic| walk_at "pad14") => `(tactic| skip)
local macro_rules | `(tactic| walk_at "pad15") => `(tactic| skip)
local macro_rules | `(tactic| walk_at "pad16") => `(tactic| skip)
local macro_rules | `(tactic| walk_at "pad17") => `(tactic| skip)
local macro_rules | `(tactic| walk_at "pad18") => `(tactic| skip)
local macro_rules | `(tactic| walk_at "pad19") => `(tactic| skip)
local macro_rules | `(tactic| walk_at "pad20") => `(tactic| skip)
local macro_rules | `(tactic| walk_at "pad21") => `(tactic| skip)
local macro_rules | `(tactic| walk_at "pad22") => `(tactic| skip)
local macro_rules | `(tactic| walk_at "pad23") => `(tactic| skip)
local macro_rules | `(tactic| walk_at "pad24") => `(tactic| skip)
local macro_rules | `(tactic| walk_at "pad25") => `(tactic| skip)
local macro_rules | `(tactic| walk_at "pad26") => `(tactic| skip)
local macro_rules | `(tactic| walk_at "pad27") => `(tactic| skip)
local macro_rules | `(tactic| walk_at "pad28") => `(tactic| skip)
local macro_rules | `(tactic| walk_at "pad29") => `(tactic| skip)
local macro_rules | `(tactic| walk_at "pad30") => `(tactic| skip)
local macro_rules | `(tactic| walk_at "pad31") => `(tactic| skip)
local macro_rules | `(tactic| walk_at "pad32") => `(tactic| skip)
local macro_rules | `(tactic| k_room) => `(tactic| ktr_room)
local macro_rules | `(tactic| k_units) => `(tactic| ktr_units)
local macro_rules | `(tactic| walk_at "go") => `(tactic| repeat' (first | (k_unfold; (try dsimp only)) | ((fail_if_success (with_reducible show wpAny _ _ (exec (Stmt.While _ _ _ _) _) _ _ _)); (fail_if_success (with_reducible show wpAny _ _ (exec (Stmt.For _ _ _ _ _) _) _ _ _)); (fail_if_success (with_reducible show wpAny _ _ (PySem.call (Value.ref _) _) _ _ _)); (fail_if_success (with_reducible show wpAny _ _ (pyIter _) _ _ _)); (fail_if_success (with_reducible show wpAny _ _ (subscriptTail _ _ (Value.ref _) _) _ _ _)); (fail_if_success (with_reducible show wpAny _ _ (subscriptTail _ (PySem.Expr.Slice _ _ _ _) _ _) _ _ _)); (fail_if_success (with_reducible show wpAny _ _ (execs (Stmt.Assign _ (PySem.Expr.BoolOp _ _ _) _ :: _) _) _ _ _)); first | walk1 | (dsimp only; walk1))))
local macro_rules | `(tactic| walk_at "call builtin:len") => `(tactic| (k_here; (with_reducible show wpAny _ _ (PySem.call (Value.builtin "len") [Value.ref _]) _ _ _); (refine strs_len (by first | exact News.isList (by k_asm) (by k_mem) | exact Fr.lst (by k_asm) (by assumption)) (by assumption) ?_); intro _ _))
def growR (hop : Nat) (ok : Bool) (r : List Nat) : List Nat := if r.head? = some 46 ∧ ok = true then List.replicate hop 46 ++ r else r
def growRows (hop : Nat) (bare : Bool) : List (List Nat) → List (List Nat)
  | [] => []
  | r :: rs => growR hop bare r :: rs.map (growR hop true)
def dueOne (hop : Nat) (bare : Bool) (y : List Nat) : List Nat := joinL [13, 10] (growRows hop bare (rowsOf y))
def dueL (hop : Nat) : Option Nat → List Nat → List (List Nat) → List (List Nat)
  | pv, m :: ms, y :: ys => dueOne hop (plainB m y && decide (pv = none ∨ pv = some 2)) y :: dueL hop (some m) ms ys
  | _, _, _ => []
def pvAt (lm : List (Nat × Tok)) (i : Nat) : Option Nat := if i = 0 then none else (nats lm)[i - 1]?
/-- the state between two words -/
def DuI (g : Heap) (L : Addr) (s : Shared) (M W it : Nat) (hop : Nat) (th : Tok) (lm : List (Nat × Tok)) (lw : List (Str × Tok)) (nn : Nat) (s' : Shared) : Prop :=
  ∃ (D i : Nat) (ld : List (Str × Tok)) (nd : Nat) (u : Str → Option Value) (h : Heap) (tk : Nat), s' = { s with heap := h, toks := tk } ∧
    Fr g L h (fun z => if z = Str.ofString "due" then some (.ref D) else if z = Str.ofString "manners" then some (.ref M) else if z = Str.ofString "words" then some (.ref W) else if z = Str.ofString "hop" then some (.int (hop : Int) th) else u z) ∧
    News g L h [(it, riO i ((lw.length : Int) - i) 1), (D, strsO ld nd)] ∧ D < it ∧ i ≤ lw.length ∧ ld.length ≤ i ∧ lists ld ++ dueL hop (pvAt lm i) (nats (lm.drop i)) (lists (lw.drop i)) = dueL hop none (nats lm) (lists lw) ∧ nn = lw.length - i
def BareMid (g : Heap) (L : Addr) (s : Shared) (M W it D R1 : Nat) (hop : Nat) (th : Tok) (ld : List (Str × Tok)) (nd : Nat) (lr : List (Str × Tok)) (lw : List (Str × Tok)) (i : Nat) (bb : Bool) (f : Flow) (s' : Shared) : Prop :=
  f = .next ∧ ∃ (u : Str → Option Value) (h : Heap) (tk : Nat), s' = { s with heap := h, toks := tk } ∧
    Fr g L h (fun z => if z = Str.ofString "bare" then some (.bool bb) else if z = Str.ofString "rows" then some (.ref R1) else if z = Str.ofString "due" then some (.ref D) else if z = Str.ofString "manners" then some (.ref M) else if z = Str.ofString "words" then some (.ref W) else if z = Str.ofString "hop" then some (.int (hop : Int) th) else u z) ∧
    News g L h [(R1, strsO lr 0), (it, riO ((i : Int) + 1) ((lw.length : Int) - i - 1) 1), (D, strsO ld nd)]
def GrI (g : Heap) (L : Addr) (s : Shared) (M W it D R1 it2 : Nat) (hop : Nat) (th : Tok) (ld : List (Str × Tok)) (nd : Nat) (lr : List (Str × Tok)) (lw : List (Str × Tok)) (i : Nat) (bb : Bool) (nn : Nat) (s' : Shared) : Prop :=
  ∃ (G k : Nat) (lg : List (Str × Tok)) (ng : Nat) (u : Str → Option Value) (h : Heap) (tk : Nat), s' = { s with heap := h, toks := tk } ∧
    Fr g L h (fun z => if z = Str.ofString "grown" then some (.ref G) else if z = Str.ofString "bare" then some (.bool bb) else if z = Str.ofString "rows" then some (.ref R1) else if z = Str.ofString "due" then some (.ref D) else if z = Str.ofString "manners" then some (.ref M) else if z = Str.ofString "words" then some (.ref W) else if z = Str.ofString "hop" then some (.int (hop : Int) th) else u z) ∧
    News g L h [(it2, riO k ((lr.length : Int) - k) 1), (G, strsO lg ng), (R1, strsO lr 0), (it, riO ((i : Int) + 1) ((lw.length : Int) - i - 1) 1), (D, strsO ld nd)] ∧ G < it2 ∧ (R1 < G ∧ it < G ∧ D < G) ∧ k ≤ lr.length ∧ lg.length = k ∧ lists lg = (growRows hop bb (lists lr)).take k ∧ nn = lr.length - k
theorem grow_at {hop : Nat} {bb : Bool} : ∀ {l : List (List Nat)} {k : Nat} (hk : k < l.length), (growRows hop bb l)[k]? = some (growR hop (decide (0 < k) || bb) l[k])
  | r :: rs, 0, _ => by simp [growRows]
  | r :: rs, k + 1, hk => by
    have : k < rs.length := by simpa using hk
    simp [growRows, this]
theorem grow_end {hop : Nat} {bb : Bool} {lr lg : List (Str × Tok)} {k : Nat} {y : Str} {t : Tok} (hk : k < lr.length) (hgr : lists lg = (growRows hop bb (lists lr)).take k) (hy : y.cps.toList = growR hop (decide (0 < k) || bb) lr[k].1.cps.toList) : lists (lg ++ [(y, t)]) = (growRows hop bb (lists lr)).take (k + 1) := by
  have hk' : k < (lists lr).length := by simpa using hk
  rw [List.take_add_one, grow_at hk', ← hgr]
  simp [lists, hy]
theorem mulDots (hop : Nat) : (Txt.mul (Str.ofString ".") (hop : Int)).cps.toList = List.replicate hop 46 := by
  rw [ofDot, mul_one_list]
  simp
theorem dot_head {q : Str} (h : (Txt.slice q none (some 1) == Str.ofString ".") = true) : q.cps.toList.head? = some 46 := by
  have e : Txt.slice q none (some 1) = ⟨(q.cps.toList.take 1).toArray⟩ := slice_to q 1
  rw [e, ofDot, beq_iff_eq, Str.mk.injEq] at h
  have h' := congrArg Array.toList h
  simp only at h'
  cases hq : q.cps.toList with
  | nil => rw [hq] at h'; simp at h'
  | cons c r => rw [hq] at h'; simpa using h'
theorem dot_nohead {q : Str} (h : (Txt.slice q none (some 1) == Str.ofString ".") = false) : q.cps.toList.head? ≠ some 46 := by
  have e : Txt.slice q none (some 1) = ⟨(q.cps.toList.take 1).toArray⟩ := slice_to q 1
  rw [e, ofDot] at h
  intro hq
  apply absurd h
  cases hc : q.cps.toList with
  | nil => rw [hc] at hq; simp at hq
  | cons c r =>
    rw [hc] at hq
    have : c = 46 := by simpa using hq
    subst this
    simp
theorem growRows_len {hop : Nat} {bb : Bool} (l : List (List Nat)) : (growRows hop bb l).length = l.length := by cases l <;> simp [growRows]
theorem sum_le (B : Nat) : ∀ l : List Nat, (∀ x ∈ l, x ≤ B) → l.sum ≤ l.length * B
  | [], _ => by simp
  | x :: r, h => by
    have h1 := sum_le B r fun y hy => h y (List.mem_cons_of_mem _ hy)
    have h2 := h x (List.mem_cons_self ..)
    rw [List.sum_cons, List.length_cons, Nat.add_mul]
    omega
theorem growR_len (hop : Nat) (ok : Bool) (r : List Nat) : (growR hop ok r).length ≤ hop + r.length := by
  unfold growR
  split
  · simp
  · omega
theorem growRows_mem {hop : Nat} {bb : Bool} {l : List (List Nat)} {p : List Nat} (h : p ∈ growRows hop bb l) : ∃ ok r, r ∈ l ∧ p = growR hop ok r := by
  cases l with
  | nil => simp [growRows] at h
  | cons r rs =>
    rcases List.mem_cons.mp h with rfl | h
    · exact ⟨bb, r, List.mem_cons_self .., rfl⟩
    · obtain ⟨q, hq, rfl⟩ := List.mem_map.mp h
      exact ⟨true, q, List.mem_cons_of_mem _ hq, rfl⟩
theorem grow_join {hop : Nat} {bb : Bool} {y : List Nat} {lr lg : List (Str × Tok)} (hh : hop ≤ 10) (hy : y.length ≤ 100) (hlr : lists lr = rowsOf y) (hg : lists lg = growRows hop bb (lists lr)) : JoinOk (Str.ofString "\r\n") (lg.map (·.1)) = true := by
  have e2 : (Str.ofString "\r\n").length = 2 := by decide +kernel
  refine joinOk_of ?_
  rw [e2]
  have a1 := rows_cnt y
  have a2 : lg.length = (rowsOf y).length := by
    have := congrArg List.length hg
    rw [growRows_len, hlr] at this
    simpa using this
  have a3 : ∀ x ∈ (lg.map (·.1)).map (·.length), x ≤ 110 := by
    intro x hx
    obtain ⟨q, hq, rfl⟩ := List.mem_map.mp hx
    have hq2 : q.cps.toList ∈ lists lg := by
      obtain ⟨z, hz, rfl⟩ := List.mem_map.mp hq
      exact List.mem_map.mpr ⟨z, hz, rfl⟩
    rw [hg] at hq2
    obtain ⟨ok, r, hr, e⟩ := growRows_mem hq2
    rw [hlr] at hr
    have b1 := rows_each y r hr
    have b2 := growR_len hop ok r
    rw [← e, ← len_list] at b2
    omega
  have a4 := sum_le 110 _ a3
  simp only [List.length_map] at a4 ⊢
  omega
theorem join_due {hop : Nat} {bb : Bool} {y : List Nat} {lr lg : List (Str × Tok)} (hlr : lists lr = rowsOf y) (hg : lists lg = growRows hop bb (lists lr)) : (Txt.join (Str.ofString "\r\n") (lg.map (·.1))).cps.toList = dueOne hop bb y := by
  rw [Txt.join, StrLaws.glued_eq_join, join_toList, ofCRLF, dueOne, ← hlr, ← hg, List.map_map]
  rfl
theorem due_next {hop : Nat} {bb : Bool} {lm : List (Nat × Tok)} {lw ld : List (Str × Tok)} {i : Nat} {q : Str} {t : Tok} (h1 : i < lm.length) (h2 : i < lw.length) (hbb : (plainB lm[i].1 lw[i].1.cps.toList && decide (pvAt lm i = none ∨ pvAt lm i = some 2)) = bb)
    (hq : q.cps.toList = dueOne hop bb lw[i].1.cps.toList) (hp : lists ld ++ dueL hop (pvAt lm i) (nats (lm.drop i)) (lists (lw.drop i)) = dueL hop none (nats lm) (lists lw)) :
    lists (ld ++ [(q, t)]) ++ dueL hop (pvAt lm (i + 1)) (nats (lm.drop (i + 1))) (lists (lw.drop (i + 1))) = dueL hop none (nats lm) (lists lw) := by
  have e : pvAt lm (i + 1) = some lm[i].1 := by
    rw [pvAt, if_neg (by omega)]
    simp [h1]
  rw [← hp, e, List.drop_eq_getElem_cons h1, List.drop_eq_getElem_cons h2]
  show _ = lists ld ++ dueL hop (pvAt lm i) (lm[i].1 :: nats (lm.drop (i + 1))) (lw[i].1.cps.toList :: lists (lw.drop (i + 1)))
  rw [dueL, hbb, ← hq]
  simp [lists]
/-- a fact that the walk is not to see -/
structure Hold (P : Prop) : Prop where
  fact : P
theorem bare_eq {a b : Bool} (h : a = b) : some (Value.bool a) = some (Value.bool b) := by rw [h]
end Mine
end
-- part D02
section
open PySem PySem.W PyProof.Rows PySem.Calls
set_option Elab.async false
set_option maxRecDepth 100000
set_option maxHeartbeats 8000000
set_option linter.unusedVariables false
namespace Mine
local macro_rules | `(tactic| walk_at "pad0") => `(tactic| skip)
local macro_rules | `(tactic| walk_at "pad1") => `(tactic| skip)
local macro_rules | `(tactic| walk_at "pad2") => `(tactic| skip)
local macro_rules | `(tactic| walk_at "pad3") => `(tactic| skip)
local macro_rules | `(tactic| walk_at "pad4") => `(tactic| skip)
local macro_rules | `(tactic| walk_at "pad5") => `(tactic| skip)
local macro_rules | `(tactic| walk_at "pad6") => `(tactic| skip)
local macro_rules | `(tactic| walk_at "pad7") => `(tactic| skip)
local macro_rules | `(tactic| walk_at "pad8") => `(tactic| skip)
local macro_rules | `(tactic| walk_at "pad9") => `(tactic| skip)
local macro_rules | `(tactic| walk_at "pad10") => `(tactic| skip)
local macro_rules | `(tactic| walk_at "pad11") => `(tactic| skip)
local macro_rules | `(tactic| walk_at "pad12") => `(tactic| skip)
local macro_rules | `(tactic| walk_at "pad13") => `(tactic| skip)
local macro_rules | `(tactic| walk_at "pad14") => `(tactic| skip)
local macro_rules | `(tactic| walk_at "pad15") => `(tactic| skip)
local macro_rules | `(tactic| walk_at "pad16") => `(tactic| skip)
local macro_rules | `(tactic| walk_at "pad17") => `(tactic| skip)
local macro_rules | `(tactic| walk_at "pad18") => `(tactic| skip)
local macro_rules | `(tactic| walk_at "pad19") => `(tactic| skip)
local macro_rules | `(tactic| walk_at "pad20") => `(tactic| skip)
local macro_rules | `(tactic| walk_at "pad21") => `(tactic| skip)
local macro_rules | `(tactic| walk_at "pad22") => `(tactic| skip)
local macro_rules | `(tactic| walk_at "pad23") => `(tactic| skip)
local macro_rules | `(tactic| walk_at "pad24") => `(tactic| skip)
local macro_rules | `(tactic| walk_at "pad25") => `(tactic| skip)
local macro_rules | `(tactic| walk_at "pad26") => `(tactic| skip)
local macro_rules | `(tactic| walk_at "pad27") => `(tactic| skip)
local macro_rules | `(tactic| walk_at "pad28") => `(tactic| skip)
local macro_rules | `(tactic| walk_at "pad29") => `(tactic| skip)
local macro_rules | `(tactic| walk_at "pad30") => `(tactic| skip)
local macro_rules | `(tactic| walk_at "pad31") => `(tactic| skip)
local macro_rules | `(tactic| walk_at "pad32") => `(tactic| skip)
local macro_rules | `(tactic| walk_at "pad33") => `(tactic| skip)
local macro_rules | `(tactic| k_room) => `(tactic| ktr_room)
local macro_rules | `(tactic| k_units) => `(tactic| ktr_units)
local macro_rules | `(tactic| walk_at "go") => `(tactic| repeat' (first | (k_unfold; (try dsimp only)) | ((fail_if_success (with_reducible show wpAny _ _ (exec (Stmt.While _ _ _ _) _) _ _ _)); (fail_if_success (with_reducible show wpAny _ _ (exec (Stmt.For _ _ _ _ _) _) _ _ _)); (fail_if_success (with_reducible show wpAny _ _ (PySem.call (Value.ref _) _) _ _ _)); (fail_if_success (with_reducible show wpAny _ _ (pyIter _) _ _ _)); (fail_if_success (with_reducible show wpAny _ _ (subscriptTail _ _ (Value.ref _) _) _ _ _)); (fail_if_success (with_reducible show wpAny _ _ (subscriptTail _ (PySem.Expr.Slice _ _ _ _) _ _) _ _ _)); (fail_if_success (with_reducible show wpAny _ _ (execs (Stmt.Assign _ (PySem.Expr.BoolOp _ _ _) _ :: _) _) _ _ _)); first | walk1 | (dsimp only; walk1))))
local macro_rules | `(tactic| walk_at "call builtin:len") => `(tactic| (k_here; (with_reducible show wpAny _ _ (PySem.call (Value.builtin "len") [Value.ref _]) _ _ _); (refine strs_len (by first | exact News.isList (by k_asm) (by k_mem) | exact Fr.lst (by k_asm) (by assumption)) (by assumption) ?_); intro _ _))
theorem due02 (w : World) (p : Program) (loose : List Str) (mean : ExcName → Option Value) (mg mb : Str → Option Value) (M W : Addr) (lm : List (Nat × Tok)) (lw : List (Str × Tok)) (hlen : lm.length = lw.length) (h20 : lw.length ≤ 20) (hB : ∀ q ∈ lw, q.1.length ≤ 100) (hop : Nat) (hh : hop ≤ 10) (th : Tok) :
    SpecF PySem.Challenge.rw_ny0034_02.row.prog w (hd02.heap_39 w.params) p loose mean mg mb 146 4 [.ref M, .ref W, .int (hop : Int) th] [] (fun g => g.IsList M (natValues lm).toArray ∧ g.IsList W (strValues lw).toArray)
      (fun v own' => ∃ D ld n, v = .ref D ∧ own' = [(D, strsO ld n)] ∧ lists ld = dueL hop none (nats lm) (lists lw)) := by
  w_top off
  k_fill
  intro dp un gd cn cs a ccd cl outer A₀ base h₀ L m s rest R B F X N hsep T hk hpre hd hu hret
  k_dflt (refine' code_own (own := []) (rest := rest) ?k1 ?k2 ?k3 ?k4 ?kS ?k5 ?kA ?kF ?kK ?k6 ?k7 ?k8 ?k9 ?kB ?_ ?c2 ?c3 ?c4 ?c5; (case kA => exact rfl); (case kF => exact rfl); (case kK => assumption); (case kS => assumption); (case k1 => k_asm); (case k2 => k_asm); (case k3 => k_asm); (case k4 => k_asm); (case k5 => k_asm); (case k6 => k_is); (case k7 => k_is); (case k8 => ktr_room); (case k9 => exact BindsTo.of_eq rfl); (case c5 => decide); (case kB => exact locs rfl); (case c2 => exact rfl); (case c3 => exact rfl); (case c4 => exact rfl); k_whole)
  intro g L' h₁ F' N' B' X' T' hst hrest hlt
  obtain ⟨hM, hW⟩ := hpre g hst hrest
  have hl6 : lw.length ≤ 1000000 := by omega
  have hm6 : lm.length ≤ 1000000 := by omega
  clear B F X T N
  (try dsimp only)
  walk_at "go"
  refine wpAny_For ?_
  walk_at "go"
  rename IsRange _ _ _ _ _ _ _ _ => hRg
  (rename Fr _ _ _ _ => F2); (rename News _ _ _ _ => N2)
  refine riter_K F2 N2 hRg (by omega) ?_
  intro it h3 F3 N3 l3
  k_lt l3
  clear F2 N2
  dsimp only
  refine for_inv (DuI g L' s M W it hop th lm lw) ?turn _ ⟨_, 0, [], _, _, _, _, rfl, canon4 F3 _ _ _ _ rfl rfl rfl rfl, N3, l3, Nat.zero_le _, Nat.le_refl _, rfl, rfl⟩
  case turn =>
    (try clear F3); (try clear N3); clear l3
    rintro n s' ⟨D, i, ld, nd, u, h, tk, rfl, Fh, Nh, l3, hi, hll, hp, rfl⟩
    refine rnext_K rfl Fh Nh ?ne ?_ ?_
    case ne => intro p hp; simp at hp; subst hp; exact Nat.ne_of_lt l3
    · intro hlt2 h4 t4 tk4 F4 N4
      have hi2 : i < lw.length := by omega
      have hi3 : i < lm.length := by omega
      dsimp only
      walk_at "go"
      (rename Fr _ _ _ _ => F5); (rename News _ _ _ _ => N5)
      refine strs_item (Fr.lst F5 hW) hl6 hi2 ?_
      dsimp only
      walk_at "go"
      (rename Fr _ _ _ _ => F6); (rename News _ _ _ _ => N6)
      refine (rows02 w p loose mean mg mb _ _ (by have := hB _ (List.getElem_mem hi2); omega)).call0 B' F6 X' N6 T' rfl (fun _ _ _ => trivial) (by ktr_room) (by ktr_units) ?_
      rintro v own' h7 tk7 ⟨R1, lr, rfl, rfl, hlr⟩ H7 F7 N7
      (try simp only [List.cons_append, List.nil_append] at N7)
      clear F6 N6
      dsimp only
      walk_at "go"
      (rename Fr _ _ _ _ => F8); (rename News _ _ _ _ => N8)
      have hll6 : lr.length ≤ 1000000 := by
        have a1 := congrArg List.length hlr
        have a2 := rows_cnt lw[i].1.cps.toList
        have a3 := hB _ (List.getElem_mem hi2)
        rw [← len_list] at a2
        simp only [List.length_map] at a1
        omega
      refine wpAny_execs_cons ?_
      refine wpAny_mono (Q := BareMid g L' s M W it D R1 hop th ld nd lr lw i (plainB lm[i].1 lw[i].1.cps.toList && decide (pvAt lm i = none ∨ pvAt lm i = some 2))) ?st ?rest (fun _ _ h => h)
      case st =>
        walk_at "go"
        (rename Fr _ _ _ _ => F9); (rename News _ _ _ _ => N9)
        refine nats_item (Fr.lst F9 hM) hm6 hi3 ?_
        (try dsimp only)
        walk_at "go"
        (rename Fr _ _ _ _ => F9); (rename News _ _ _ _ => N9)
        refine strs_item (Fr.lst F9 hW) hl6 hi2 ?_
        (try dsimp only)
        walk_at "go"
        (rename Fr _ _ _ _ => F9); (rename News _ _ _ _ => N9)
        refine (plain02 w p loose mean mg mb _ _ _ _ (by have := hB _ (List.getElem_mem hi2); omega)).call0 B' F9 X' N9 T' rfl (fun _ _ _ => trivial) (by ktr_room) (by ktr_units) ?_
        rintro v own' h10 tk10 ⟨rfl, rfl⟩ H10 F10 N10
        rw [List.nil_append] at N10
        dsimp only
        walk_at "go"
        · (rename Fr _ _ _ _ => F11); (rename News _ _ _ _ => N11); (rename plainB _ _ = _ => hpl); (rename (i : Int) = _ => hi0)
          have hi0 : i = 0 := by omega
          refine ⟨rfl, _, _, _, rfl, canon6 F11 _ _ _ _ _ _ (bare_eq ?_) rfl rfl rfl rfl rfl, N11⟩
          rw [hpl, pvAt, if_pos hi0, hi0]; rfl
        · (rename plainB _ _ = _ => hpl); (rename (i : Int) ≠ _ => hi0)
          have hi0 : i ≠ 0 := by omega
          have e : (i : Int) - 1 = ((i - 1 : Nat) : Int) := by omega
          rw [e]
          refine nats_item (Fr.lst F10 hM) hm6 (show i - 1 < lm.length by omega) ?_
          (try dsimp only)
          walk_at "go"
          (rename Fr _ _ _ _ => F11); (rename News _ _ _ _ => N11)
          refine ⟨rfl, _, _, _, rfl, canon6 F11 _ _ _ _ _ _ (bare_eq ?_) rfl rfl rfl rfl rfl, N11⟩
          rw [hpl, pvAt, if_neg hi0, List.getElem?_map, List.getElem?_eq_getElem (show i - 1 < lm.length by omega), Bool.eq_iff_iff]
          simp
          omega
        · (rename Fr _ _ _ _ => F11); (rename News _ _ _ _ => N11); (rename plainB _ _ = _ => hpl)
          refine ⟨rfl, _, _, _, rfl, canon6 F11 _ _ _ _ _ _ (bare_eq ?_) rfl rfl rfl rfl rfl, N11⟩
          rw [hpl]; rfl
      case rest =>
        rintro f s' ⟨rfl, u9, h9, tk9, rfl, F9, N9⟩
        dsimp only
        walk_at "go"
        refine wpAny_For ?_
        walk_at "go"
        rename IsRange _ _ _ _ _ _ _ _ => hRg2
        (rename Fr _ _ _ _ => F10); (rename News _ _ _ _ => N10)
        refine riter_K F10 N10 hRg2 (by omega) ?_
        intro it2 h11 F11 N11 l11
        k_lt l11
        clear F10 N10
        dsimp only
        generalize hbbE0 : (plainB lm[i].1 lw[i].1.cps.toList && decide (pvAt lm i = none ∨ pvAt lm i = some 2)) = bb at F11
        have hbbE := Hold.mk hbbE0
        clear hbbE0
        refine for_inv (GrI g L' s M W it D R1 it2 hop th ld nd lr lw i bb) ?turn2 _ ⟨_, 0, [], _, _, _, _, rfl, canon7 F11 _ _ _ _ _ _ _ rfl rfl rfl rfl rfl rfl rfl, N11, l11.1, (by assumption), Nat.zero_le _, rfl, rfl, rfl⟩
        case turn2 =>
          clear F11 N11
          rintro n s' ⟨G, k, lg, ng, u, h, tk, rfl, Fh, Nh, lG, lGo, hk, hlg, hgr, rfl⟩
          refine rnext_K rfl Fh Nh ?ne2 ?_ ?_
          case ne2 =>
            intro p hp
            simp at hp
            rcases hp with rfl | rfl | rfl | rfl
            · exact Nat.ne_of_lt lG
            · exact Nat.ne_of_lt l11.2.1
            · exact Nat.ne_of_lt l11.2.2.1
            · exact Nat.ne_of_lt l11.2.2.2
          · intro hlt3 h12 t12 tk12 F12 N12
            have hk2 : k < lr.length := by omega
            have hrk : lr[k].1.length ≤ 100 := by
              have a3 := hB _ (List.getElem_mem hi2)
              have := rows_each lw[i].1.cps.toList lr[k].1.cps.toList (by rw [← hlr]; exact List.mem_map_of_mem (List.getElem_mem hk2))
              rw [← len_list, ← len_list] at this
              omega
            have hsg : (strValues lg).toArray.size ≤ 1000 := by
              have a1 := congrArg List.length hlr
              have a2 := rows_cnt lw[i].1.cps.toList
              have a3 := hB _ (List.getElem_mem hi2)
              rw [← len_list] at a2
              simp only [List.length_map] at a1
              simp [strValues]
              omega
            dsimp only
            walk_at "go"
            (rename Fr _ _ _ _ => F13); (rename News _ _ _ _ => N13)
            refine strs_item (News.isList N13 (.tail _ (.tail _ (.head _)))) hll6 hk2 ?_
            (try dsimp only)
            walk_at "go"
            (rename Fr _ _ _ _ => F14); (rename News _ _ _ _ => N14)
            refine slice_strN_ns_len (hsz := by rw [PySem.sizeLine_eq]; omega) F14 N14 ?_
            intro h15 t15 k15 F15 N15 _
            (try dsimp only)
            walk_at "go"
            all_goals
              (rename Fr _ _ _ _ => F16); (rename News _ _ _ _ => N16)
              refine strs_item (News.isList N16 (.tail _ (.tail _ (.head _)))) hll6 hk2 ?_
              (try dsimp only)
              walk_at "go"
            all_goals
              (rename Fr _ _ _ _ => F17); (rename News _ _ _ _ => N17); (rename (Txt.slice _ _ _ == _) = _ => hdt)
              rw [push_strs, show (lr.length : Int) - k - 1 = (lr.length : Int) - ((k + 1 : Nat) : Int) by omega, show ((k : Int) + 1) = ((k + 1 : Nat) : Int) by omega] at N17
            · refine ⟨lr.length - (k + 1), by omega, G, k + 1, lg ++ [(_, _)], _, _, _, _, rfl, canon7 F17 _ _ _ _ _ _ _ rfl rfl rfl rfl rfl rfl rfl, N17, lG, lGo, hk2, by simp; omega, ?_, rfl⟩
              exact grow_end hk2 hgr (by rw [app_str, mulDots, growR, if_pos ⟨dot_head hdt, by simp; omega⟩])
            · refine ⟨lr.length - (k + 1), by omega, G, k + 1, lg ++ [(_, _)], _, _, _, _, rfl, canon7 F17 _ _ _ _ _ _ _ rfl rfl rfl rfl rfl rfl rfl, N17, lG, lGo, hk2, by simp; omega, ?_, rfl⟩
              (rename bb = _ => hbb)
              exact grow_end hk2 hgr (by rw [app_str, mulDots, growR, if_pos ⟨dot_head hdt, by rw [hbb]; simp⟩])
            · refine ⟨lr.length - (k + 1), by omega, G, k + 1, lg ++ [(_, _)], _, _, _, _, rfl, canon7 F17 _ _ _ _ _ _ _ rfl rfl rfl rfl rfl rfl rfl, N17, lG, lGo, hk2, by simp; omega, ?_, rfl⟩
              (rename bb = _ => hbb)
              exact grow_end hk2 hgr (by rw [app_str, ofNil, growR, if_neg (fun q => by rw [hbb] at q; simp at q; omega)]; rfl)
            · refine ⟨lr.length - (k + 1), by omega, G, k + 1, lg ++ [(_, _)], _, _, _, _, rfl, canon7 F17 _ _ _ _ _ _ _ rfl rfl rfl rfl rfl rfl rfl, N17, lG, lGo, hk2, by simp; omega, ?_, rfl⟩
              exact grow_end hk2 hgr (by rw [app_str, ofNil, growR, if_neg (fun q => dot_nohead hdt q.1)]; rfl)
          · intro hge3 h12 F12 N12
            have hkl : k = lr.length := by omega
            have hfull : lists lg = growRows hop bb (lists lr) := by
              rw [hgr, List.take_of_length_le (by rw [growRows_len]; simp; omega)]
            have hsd : (strValues ld).toArray.size ≤ 1000 := by simp [strValues]; omega
            dsimp only
            walk_at "go"
            (rename Fr _ _ _ _ => F13); (rename News _ _ _ _ => N13)
            refine SC.join (News.isList N13 (.head _)) rfl (grow_join hh (by have := hB _ (List.getElem_mem hi2); rw [← len_list]; exact this) hlr hfull) ?_
            intro t14 k14
            dsimp only
            have hRD : (@Ne Nat R1 D) := H7 _ (.head _) _ (.tail _ (.head _))
            have hGD := Ne.symm (Nat.ne_of_lt lGo.2.2)
            have hID := Ne.symm (Nat.ne_of_lt l3)
            walk_at "go"
            (rename Fr _ _ _ _ => F16); (rename News _ _ _ _ => N16)
            rw [push_strs, show (lw.length : Int) - i - 1 = (lw.length : Int) - ((i + 1 : Nat) : Int) by omega, show ((i : Int) + 1) = ((i + 1 : Nat) : Int) by omega] at N16
            refine ⟨lw.length - (i + 1), by omega, D, i + 1, ld ++ [(_, _)], _, _, _, _, rfl, canon4 F16 _ _ _ _ rfl rfl rfl rfl, cb_drop N16 (fun q hq => .tail _ (.tail _ hq)), l3, hi2, by simp; omega, ?_, rfl⟩
            exact due_next hi3 hi2 hbbE.fact (join_due hlr hfull) hp
    · intro hge h4 F4 N4
      dsimp only
      walk_at "go"
      have hi3 : i = lw.length := by omega
      rw [List.drop_of_length_le (by omega), List.drop_of_length_le (by omega)] at hp
      have hp : lists ld ++ [] = _ := hp
      rw [List.append_nil] at hp
      exact leaveO_ [(_, strsO ld nd)] F4 N4 (by kcj_all) fun F5 N5 H5 => hret _ _ _ _ ⟨_, ld, nd, rfl, rfl, hp⟩ H5 F5 N5
end Mine
end
-- part Pure3
section
open PySem PySem.W PyProof.Rows PySem.Calls
set_option Elab.async false
set_option maxRecDepth 100000
set_option maxHeartbeats 400000
set_option linter.unusedVariables false
namespace Mine
local macro_rules | `(tactic| walk_at "pad0") => `(tactic| skip)
local macro_rules | `(tactic| walk_at "pad1") => `(tactic| skip)
local macro_rules | `(tactic| walk_at "pad2") => `(tactic| skip)
local macro_rules | `(tactic| walk_at "pad3") => `(tactic| skip)
local macro_rules | `(tactic| walk_at "pad4") => `(tactic| skip)
local macro_rules | `(tactic| walk_at "pad5") => `(tactic| skip)
local macro_rules | `(tactic| walk_at "pad6") => `(tactic| skip)
local macro_rules | `(tactic| walk_at "pad7") => `(tactic| skip)
local macro_rules | `(tactic| walk_at "pad8") => `(tactic| skip)
local macro_rules | `(tactic| walk_at "pad9") => `(tactic| skip)
local macro_rules | `(tactic| walk_at "pad10") => `(tactic| skip)
local macro_rules | `(tactic| walk_at "pad11") => `(tactic| skip)
local macro_rules | `(tactic| walk_at "pad12") => `(tactic| skip)
local macro_rules | `(tactic| walk_at "pad13") => `(tactic| skip)
local macro_rules | `(tactic| walk_at "pad14") => `(tactic| skip)
local macro_rules | `(tactic| walk_at "pad15") => `(tactic| skip)
local macro_rules | `(tactic| walk_at "pad16") => `(tactic| skip)
local macro_rules | `(tactic| walk_at "pad17") => `(tactic| skip)
local macro_rules | `(tactic| walk_at "pad18") => `(tactic| skip)
local macro_rules | `(tactic| walk_at "pad19") => `(tactic| skip)
local macro_rules | `(tactic| walk_at "pad20") => `(tactic| skip)
local macro_rules | `(tactic| walk_at "pad21") => `(tactic| skip)
local macro_rules | `(tactic| walk_at "pad22") => `(tactic| skip)
local macro_rules | `(tactic| walk_at "pad23") => `(tactic| skip)
local macro_rules | `(tactic| walk_at "pad24") => `(tactic| skip)
local macro_rules | `(tactic| walk_at "pad25") => `(tactic| skip)
local macro_rules | `(tactic| walk_at "pad26") => `(tactic| skip)
local macro_rules | `(tactic| walk_at "pad27") => `(tactic| skip)
local macro_rules | `(tactic| walk_at "pad28") => `(tactic| skip)
local macro_rules | `(tactic| walk_at "pad29") => `(tactic| skip)
local macro_rules | `(tactic| walk_at "pad30") => `(tactic| skip)
local macro_rules | `(tactic| walk_at "pad31") => `(tactic| skip)
local macro_rules | `(tactic| walk_at "pad32") => `(tactic| skip)
local macro_rules | `(tactic| walk_at "pad33") => `(tactic| skip)
local macro_rules | `(tactic| walk_at "pad34") => `(tactic| skip)
local macro_rules | `(tactic| walk_at "pad35") => `(tactic| skip)
local macro_rules | `(tactic| walk_at "pad36") => `(tactic| skip)
/-- the tokens and row numbers that come off a text; N: the rows of the whole -/
def Reads (ws : List Nat) (N : Nat) : List Nat → List (List Nat × Nat) → Prop
  | _, [] => True
  | l, d :: ds => (tok ws l).1 = d.1 ∧ d.2 + (tok ws l).2.count 10 = N ∧ Reads ws N (tok ws l).2 ds
/-- what is due from the row i on -/
def dueF (f : Nat → List Nat → List Nat × Nat) : Nat → List (List Nat) → List (List Nat × Nat)
  | _, [] => []
  | i, p :: ps => (if (f i p).1 ≠ [] then [f i p] else []) ++ dueF f (i + 1) ps
abbrev txt (rows : List (List Nat)) : List Nat := joinL [13, 10] (rows.map esc)
theorem esc_free {p : List Nat} (h : 10 ∉ p) : 10 ∉ esc p := by
  intro m
  obtain ⟨c, hc, hm⟩ := List.mem_flatMap.mp m
  have h1 : c ≠ 10 := fun e => h (e ▸ hc)
  by_cases h2 : c = 13
  · subst h2; rw [escOk.cr] at hm; simp at hm
  · exact (escOk.free c h1 h2).1 hm
theorem txt_cons (p : List Nat) {rows : List (List Nat)} (h : rows ≠ []) : txt (p :: rows) = esc p ++ 13 :: 10 :: txt rows := by
  show joinL [13, 10] (esc p :: rows.map esc) = _
  rw [joinL_cons _ _ (by simpa using h)]
  simp
def RowsOk (rows : List (List Nat)) : Prop := ∀ p ∈ rows, 10 ∉ p ∧ 13 ∉ p
theorem esc_join : ∀ rows : List (List Nat), txt rows = esc (joinL [13, 10] rows)
  | [] => rfl
  | [p] => rfl
  | p :: q :: r => by
    have ih := esc_join (q :: r)
    have e : joinL [13, 10] (p :: q :: r) = p ++ ([13, 10] ++ joinL [13, 10] (q :: r)) := by rw [joinL_cons [13, 10] p (ps := q :: r) (by simp), List.append_assoc]
    have e2 : esc (p ++ ([13, 10] ++ joinL [13, 10] (q :: r))) = esc p ++ (esc [13, 10] ++ esc (joinL [13, 10] (q :: r))) := by simp [esc]
    rw [txt_cons p (by simp), ih, e, e2]
    rfl
theorem tokQ_suf : ∀ (n : Nat) (l : List Nat), l.length ≤ n → ∃ c, l = c ++ (tokQ l).2 := by
  intro n
  induction n with
  | zero => intro l h; have : l = [] := List.length_eq_zero_iff.mp (by omega); subst this; exact ⟨[], rfl⟩
  | succ n ih =>
    intro l h
    cases l with
    | nil => exact ⟨[], rfl⟩
    | cons c r =>
      have hr := ih r (by simp at h; omega)
      by_cases h1 : c = 34
      · subst h1; rw [tokQ_q]; exact ⟨[34], rfl⟩
      · by_cases h2 : c = 92
        · subst h2
          cases r with
          | nil => rw [tokQ_b0]; exact ⟨[92], rfl⟩
          | cons d r' =>
            obtain ⟨k, e⟩ := ih r' (by simp at h; omega)
            rw [tokQ_b]
            exact ⟨92 :: d :: k, by show _ = 92 :: d :: (k ++ _); rw [← e]⟩
        · obtain ⟨k, e⟩ := hr
          rw [tokQ_o _ h1 h2]
          exact ⟨c :: k, by show _ = c :: (k ++ _); rw [← e]⟩
theorem tokP_suf (ws : List Nat) : ∀ (n : Nat) (l : List Nat), l.length ≤ n → ∃ c, l = c ++ (tokP ws l).2 := by
  intro n
  induction n with
  | zero => intro l h; have : l = [] := List.length_eq_zero_iff.mp (by omega); subst this; exact ⟨[], rfl⟩
  | succ n ih =>
    intro l h
    cases l with
    | nil => exact ⟨[], rfl⟩
    | cons c r =>
      have hr := ih r (by simp at h; omega)
      by_cases h1 : c ∈ ws
      · rw [tokP_w _ h1]; exact ⟨[c], rfl⟩
      · by_cases h2 : c = 92
        · subst h2
          cases r with
          | nil => rw [tokP_b0]; exact ⟨[92], rfl⟩
          | cons d r' =>
            obtain ⟨k, e⟩ := ih r' (by simp at h; omega)
            rw [tokP_b _ _ h1]
            exact ⟨92 :: d :: k, by show _ = 92 :: d :: (k ++ _); rw [← e]⟩
        · obtain ⟨k, e⟩ := hr
          rw [tokP_o _ h1 h2]
          exact ⟨c :: k, by show _ = c :: (k ++ _); rw [← e]⟩
theorem tok_suf (ws : List Nat) : ∀ l : List Nat, ∃ c, l = c ++ (tok ws l).2
  | [] => ⟨[], rfl⟩
  | c :: r => by
    by_cases h1 : c ∈ ws
    · obtain ⟨k, e⟩ := tok_suf ws r
      rw [tok_w _ h1]
      exact ⟨c :: k, by show _ = c :: (k ++ _); rw [← e]⟩
    · by_cases h3 : c = 34
      · subst h3
        obtain ⟨k, e⟩ := tokQ_suf _ r (Nat.le_refl _)
        rw [tok_q _ h1]
        exact ⟨34 :: k, by show _ = 34 :: (k ++ _); rw [← e]⟩
      · by_cases h2 : c = 92
        · subst h2
          cases r with
          | nil => rw [tok_b0 h1]; exact ⟨[92], rfl⟩
          | cons d r' =>
            obtain ⟨k, e⟩ := tokP_suf ws _ r' (Nat.le_refl _)
            rw [tok_b _ _ h1]
            exact ⟨92 :: d :: k, by show _ = 92 :: d :: (k ++ _); rw [← e]⟩
        · obtain ⟨k, e⟩ := tokP_suf ws _ r (Nat.le_refl _)
          rw [tok_o _ h1 h3 h2]
          exact ⟨c :: k, by show _ = c :: (k ++ _); rw [← e]⟩
/-- the place behind a token -/
theorem tok_place {sent : Str} {ws : List Nat} {p p' : Nat} (hp : p ≤ sent.cps.size) (hp' : p' = sent.cps.size - (tok ws (sent.cps.toList.drop p)).2.length) :
    p' ≤ sent.cps.size ∧ p ≤ p' ∧ sent.cps.toList.drop p' = (tok ws (sent.cps.toList.drop p)).2 ∧ lnAt sent p' = ((1 + sent.cps.toList.count 10 : Nat) : Int) - ((tok ws (sent.cps.toList.drop p)).2.count 10 : Nat) := by
  obtain ⟨c, e⟩ := tok_suf ws (sent.cps.toList.drop p)
  generalize hr : (tok ws (sent.cps.toList.drop p)).2 = r at *
  have hl := congrArg List.length e
  simp only [List.length_drop, List.length_append, Array.length_toList] at hl
  have hd : sent.cps.toList.drop p' = r := by
    have : sent.cps.toList.drop p' = (sent.cps.toList.drop p).drop c.length := by rw [List.drop_drop]; congr 1; omega
    rw [this, e, List.drop_left]
  refine ⟨by omega, by omega, hd, ?_⟩
  have h2 := congrArg (List.count 10) (List.take_append_drop p' sent.cps.toList)
  rw [List.count_append, hd] at h2
  unfold lnAt
  omega
end Mine
end
-- part Pure2
section
open PySem PySem.W PyProof.Rows PySem.Calls
set_option Elab.async false
set_option maxRecDepth 100000
set_option maxHeartbeats 400000
set_option linter.unusedVariables false
namespace Mine
local macro_rules | `(tactic| walk_at "pad0") => `(tactic| skip)
local macro_rules | `(tactic| walk_at "pad1") => `(tactic| skip)
local macro_rules | `(tactic| walk_at "pad2") => `(tactic| skip)
local macro_rules | `(tactic| walk_at "pad3") => `(tactic| skip)
local macro_rules | `(tactic| walk_at "pad4") => `(tactic| skip)
local macro_rules | `(tactic| walk_at "pad5") => `(tactic| skip)
local macro_rules | `(tactic| walk_at "pad6") => `(tactic| skip)
local macro_rules | `(tactic| walk_at "pad7") => `(tactic| skip)
local macro_rules | `(tactic| walk_at "pad8") => `(tactic| skip)
local macro_rules | `(tactic| walk_at "pad9") => `(tactic| skip)
local macro_rules | `(tactic| walk_at "pad10") => `(tactic| skip)
local macro_rules | `(tactic| walk_at "pad11") => `(tactic| skip)
local macro_rules | `(tactic| walk_at "pad12") => `(tactic| skip)
local macro_rules | `(tactic| walk_at "pad13") => `(tactic| skip)
local macro_rules | `(tactic| walk_at "pad14") => `(tactic| skip)
local macro_rules | `(tactic| walk_at "pad15") => `(tactic| skip)
local macro_rules | `(tactic| walk_at "pad16") => `(tactic| skip)
local macro_rules | `(tactic| walk_at "pad17") => `(tactic| skip)
local macro_rules | `(tactic| walk_at "pad18") => `(tactic| skip)
local macro_rules | `(tactic| walk_at "pad19") => `(tactic| skip)
local macro_rules | `(tactic| walk_at "pad20") => `(tactic| skip)
local macro_rules | `(tactic| walk_at "pad21") => `(tactic| skip)
local macro_rules | `(tactic| walk_at "pad22") => `(tactic| skip)
local macro_rules | `(tactic| walk_at "pad23") => `(tactic| skip)
local macro_rules | `(tactic| walk_at "pad24") => `(tactic| skip)
local macro_rules | `(tactic| walk_at "pad25") => `(tactic| skip)
local macro_rules | `(tactic| walk_at "pad26") => `(tactic| skip)
local macro_rules | `(tactic| walk_at "pad27") => `(tactic| skip)
local macro_rules | `(tactic| walk_at "pad28") => `(tactic| skip)
local macro_rules | `(tactic| walk_at "pad29") => `(tactic| skip)
local macro_rules | `(tactic| walk_at "pad30") => `(tactic| skip)
local macro_rules | `(tactic| walk_at "pad31") => `(tactic| skip)
local macro_rules | `(tactic| walk_at "pad32") => `(tactic| skip)
local macro_rules | `(tactic| walk_at "pad33") => `(tactic| skip)
local macro_rules | `(tactic| walk_at "pad34") => `(tactic| skip)
local macro_rules | `(tactic| walk_at "pad35") => `(tactic| skip)
local macro_rules | `(tactic| walk_at "pad36") => `(tactic| skip)
local macro_rules | `(tactic| walk_at "pad37") => `(tactic| skip)
/-! the plain law of 02 -/
def ws4 : List Nat := [10, 9, 13, 32]
def sBody (pl : Bool) (d : List Nat) : List Nat := if pl = true then d.flatMap escPF else [34] ++ esc d ++ [34]
def sepS (m : Nat) : List Nat := if m = 0 then [32] else if m = 1 then [] else [13, 10]
abbrev Itm := Bool × Nat × List Nat
def sentL : List Itm → List Nat
  | [] => []
  | q :: r => sBody q.1 q.2.2 ++ sepS q.2.1 ++ sentL r
def bareB (m : Nat) (y : List Nat) (pv : Option Nat) : Bool := plainB m y && decide (pv = none ∨ pv = some 2)
def itemsL : Option Nat → List Nat → List (List Nat) → List Itm
  | pv, m :: ms, y :: ys => (plainB m y, m, dueOne 1 (bareB m y pv) y) :: itemsL (some m) ms ys
  | _, _, _ => []
theorem crlf_mid {c : Nat} (h10 : c ≠ 10) (h13 : c ≠ 13) (r a : List Nat) : crlf (a ++ c :: r) = crlf a ++ c :: crlf r := by
  have hc : crlf (c :: r) = c :: crlf r := crlf_other _ (by unfold is2; omega)
  induction a using rows_ind with
  | h0 => exact hc
  | h1 a ih => show crlf (13 :: 10 :: (a ++ c :: r)) = _; rw [crlf_crlf, crlf_crlf, ih]; rfl
  | h2 a ha ih =>
    show crlf (13 :: (a ++ c :: r)) = _
    rw [crlf_cr _ ha, crlf_cr, ih]
    · rfl
    · cases a with
      | nil => simpa using h10
      | cons d a => simpa using ha
  | h3 a ih => show crlf (10 :: (a ++ c :: r)) = _; rw [crlf_lf, crlf_lf, ih]; rfl
  | h4 d a h1 h2 ih => show crlf (d :: (a ++ c :: r)) = _; rw [crlf_other _ (by unfold is2; omega), crlf_other _ (by unfold is2; omega), ih]; rfl
theorem crlf_free : ∀ (a r : List Nat), 10 ∉ a → 13 ∉ a → crlf (a ++ r) = a ++ crlf r
  | [], _, _, _ => rfl
  | c :: a, r, h1, h2 => by
    have c10 : c ≠ 10 := fun e => h1 (e ▸ List.mem_cons_self ..)
    have c13 : c ≠ 13 := fun e => h2 (e ▸ List.mem_cons_self ..)
    show crlf (c :: (a ++ r)) = _
    rw [crlf_other _ (by unfold is2; omega), crlf_free a r (fun m => h1 (List.mem_cons_of_mem _ m)) (fun m => h2 (List.mem_cons_of_mem _ m))]
    rfl
theorem dots_rows_q (r : List Nat) : ∀ ps : List (List Nat), (∀ p ∈ ps, 10 ∉ p) → dots true (joinL [13, 10] ps ++ 34 :: r) = joinL [13, 10] (ps.map dotRow) ++ 34 :: dots false r
  | [], _ => by show dots true (34 :: r) = _; rw [dots, if_neg (by simp)]; rfl
  | [p], h => by
    have hp := h p (List.mem_singleton.mpr rfl)
    show dots true (p ++ 34 :: r) = dotRow p ++ 34 :: dots false r
    cases p with
    | nil => show dots true (34 :: r) = _; rw [dots, if_neg (by simp)]; rfl
    | cons c p => rw [dots_head _ _ hp (by simp), dots, if_neg (by simp)]; rfl
  | p :: q :: s, h => by
    have ih := dots_rows_q r (q :: s) fun a ha => h a (List.mem_cons_of_mem _ ha)
    show dots true (p ++ [13, 10] ++ joinL [13, 10] (q :: s) ++ 34 :: r) = dotRow p ++ [13, 10] ++ joinL [13, 10] ((q :: s).map dotRow) ++ 34 :: dots false r
    rw [List.append_assoc, dots_row _ _ (h p (List.mem_cons_self ..)), ih]
    simp only [List.append_assoc]
theorem growR1 (r : List Nat) : growR 1 true r = dotRow r := by
  unfold growR dotRow
  by_cases h : r.head? = some 46
  · rw [if_pos ⟨h, rfl⟩, if_pos h]; rfl
  · rw [if_neg (fun q => h q.1), if_neg h]
theorem growRF (k : Nat) (r : List Nat) : growR k false r = r := by
  unfold growR
  rw [if_neg (by simp)]
theorem dots_quot (r : List Nat) : ∀ ps : List (List Nat), ps ≠ [] → (∀ p ∈ ps, 10 ∉ p) → dots false (joinL [13, 10] ps ++ 34 :: r) = joinL [13, 10] (growRows 1 false ps) ++ 34 :: dots false r
  | [], h, _ => absurd rfl h
  | [p], _, h => by
    show dots false (p ++ 34 :: r) = growR 1 false p ++ 34 :: dots false r
    rw [growRF, dots_mid _ _ (h p (List.mem_singleton.mpr rfl)), dots, if_neg (by simp)]
    rfl
  | p :: q :: s, _, h => by
    have ih := dots_rows_q r (q :: s) fun a ha => h a (List.mem_cons_of_mem _ ha)
    have key : ∀ l, dots false ([13, 10] ++ l) = [13, 10] ++ dots true l := by
      intro l
      show dots false (13 :: 10 :: l) = _
      rw [dots, if_neg (by simp), dots, if_neg (by simp)]
      rfl
    have e : (q :: s).map (growR 1 true) = (q :: s).map dotRow := List.map_congr_left fun a _ => growR1 a
    show dots false (p ++ [13, 10] ++ joinL [13, 10] (q :: s) ++ 34 :: r) = growR 1 false p ++ [13, 10] ++ joinL [13, 10] ((q :: s).map (growR 1 true)) ++ 34 :: dots false r
    rw [e, growRF, List.append_assoc, List.append_assoc, dots_mid _ _ (h p (List.mem_cons_self ..)), key, ih]
    simp
theorem esc_grow (p : List Nat) (k : Nat) (b : Bool) : growR k b (esc p) = esc (growR k b p) := by
  have hh : (esc p).head? = some 46 ↔ p.head? = some 46 := by
    cases p with
    | nil => simp [esc]
    | cons c p =>
      rw [esc, List.flatMap_cons]
      unfold escF
      by_cases h : c = 92
      · subst h; simp
      · by_cases h2 : c = 34
        · subst h2; simp
        · simp [h, h2]
  unfold growR
  by_cases h : p.head? = some 46 ∧ b = true
  · rw [if_pos h, if_pos ⟨hh.mpr h.1, h.2⟩]
    have : esc (List.replicate k 46) = List.replicate k 46 := by
      induction k with
      | zero => rfl
      | succ k ih => rw [List.replicate_succ, esc, List.flatMap_cons]; show [46] ++ esc (List.replicate k 46) = _; rw [ih]; rfl
    have e : esc (List.replicate k 46 ++ p) = esc (List.replicate k 46) ++ esc p := by simp [esc]
    rw [e, this]
  · rw [if_neg h, if_neg (fun q => h ⟨hh.mp q.1, q.2⟩)]
theorem growRows_esc (k : Nat) (b : Bool) (ps : List (List Nat)) : growRows k b (ps.map esc) = (growRows k b ps).map esc := by
  cases ps with
  | nil => rfl
  | cons p ps =>
    show growR k b (esc p) :: (ps.map esc).map (growR k true) = esc (growR k b p) :: (ps.map (growR k true)).map esc
    rw [esc_grow, List.map_map, List.map_map]
    congr 1
    exact List.map_congr_left fun a _ => esc_grow a k true
theorem rows_one (y : List Nat) (h : (rowsOf y).length = 1) : rowsOf y = [y] ∧ 10 ∉ y ∧ 13 ∉ y := by
  have key : rowsOf y = [y] := by
    induction y using rows_ind with
    | h0 => rfl
    | h1 r ih => rw [rows_crlf] at h; exact absurd (List.length_eq_zero_iff.mp (by simpa using h)) (rows_ne r)
    | h2 r hr ih => rw [rows_cr _ hr] at h; exact absurd (List.length_eq_zero_iff.mp (by simpa using h)) (rows_ne r)
    | h3 r ih => rw [rows_lf] at h; exact absurd (List.length_eq_zero_iff.mp (by simpa using h)) (rows_ne r)
    | h4 c r h1 h2 ih =>
      rw [rows_o _ h1 h2, prep_len] at h
      rw [rows_o _ h1 h2, ih h]
      rfl
  exact ⟨key, rows_free y y (by rw [key]; exact List.mem_singleton.mpr rfl)⟩
theorem plain_of {m : Nat} {y : List Nat} (h : plainB m y = true) : m ≠ 1 ∧ y ≠ [] ∧ rowsOf y = [y] ∧ 10 ∉ y ∧ 13 ∉ y := by
  unfold plainB at h
  obtain ⟨h1, h2, h3⟩ := of_decide_eq_true h
  exact ⟨h1, h2, rows_one y h3⟩
theorem escPF_free {y : List Nat} {k : Nat} (hk : k = 10 ∨ k = 13) (h : k ∉ y) : k ∉ y.flatMap escPF := by
  intro m
  obtain ⟨c, hc, hm⟩ := List.mem_flatMap.mp m
  have h1 : c ≠ k := fun e => h (e ▸ hc)
  unfold escPF at hm
  split at hm
  · simp at hm; omega
  · simp at hm; omega
theorem escPF_ne {y : List Nat} (h : y ≠ []) : y.flatMap escPF ≠ [] := by
  cases y with
  | nil => exact absurd rfl h
  | cons c r =>
    rw [List.flatMap_cons]
    unfold escPF
    split <;> simp
theorem dotRow_escPF (p : List Nat) : dotRow (p.flatMap escPF) = (dotRow p).flatMap escPF := by
  cases p with
  | nil => rfl
  | cons c p =>
    unfold dotRow
    rw [List.flatMap_cons]
    by_cases h : c = 46
    · subst h; rfl
    · have : (escPF c ++ p.flatMap escPF).head? ≠ some 46 := by
        unfold escPF
        split
        · simp
        · simpa using h
      rw [if_neg this, if_neg (by simpa using h)]
      rfl
/-- the separator -/
theorem sep_sent (m : Nat) (hm : m < 3) (r : List Nat) (h1 : m = 1 → True) : dots false (crlf (sepL m ++ r)) = sepS m ++ dots (decide (m = 2)) (crlf r) := by
  unfold sepL sepS
  by_cases h0 : m = 0
  · subst h0
    show dots false (crlf (32 :: r)) = 32 :: dots false (crlf r)
    rw [crlf_other _ (by unfold is2; omega), dots, if_neg (by simp)]
    rfl
  · by_cases h1 : m = 1
    · subst h1; rfl
    · have : m = 2 := by omega
      subst this
      show dots false (crlf (10 :: r)) = 13 :: 10 :: dots true (crlf r)
      rw [crlf_lf, dots, if_neg (by simp), dots, if_neg (by simp)]
      rfl
theorem body_sent (m : Nat) (y r : List Nat) (b : Bool) (hc : plainB m y = true → (r ++ [0]).head? ≠ none) : dots b (crlf (wrBody m y ++ r)) = sBody (plainB m y) (dueOne 1 (plainB m y && b) y) ++ dots false (crlf r) := by
  unfold wrBody sBody
  by_cases h : plainB m y = true
  · obtain ⟨h1, h2, h3, h4, h5⟩ := plain_of h
    rw [if_pos h, if_pos h, h, Bool.true_and, crlf_free _ _ (escPF_free (.inl rfl) h4) (escPF_free (.inr rfl) h5)]
    rw [dueOne, h3]
    show _ = (growR 1 b y).flatMap escPF ++ _
    cases b with
    | false => rw [growRF, dots_mid _ _ (escPF_free (.inl rfl) h4)]
    | true => rw [growR1, dots_head _ _ (escPF_free (.inl rfl) h4) (escPF_ne h2), dotRow_escPF]
  · have h : plainB m y = false := by simpa using h
    rw [h, if_neg (by simp), if_neg (by simp), Bool.false_and]
    have e1 : ([34] ++ esc y ++ [34] ++ r : List Nat) = 34 :: (esc y ++ 34 :: r) := by simp
    rw [e1, crlf_other _ (by unfold is2; omega), crlf_mid (by omega) (by omega), crlf_rows, rows_esc escOk]
    have e2 : List.map (List.flatMap escF) (rowsOf y) = (rowsOf y).map esc := rfl
    rw [e2, dots, if_neg (by simp), show ((34 : Nat) == 10) = false from rfl, dots_quot _ _ (by simpa using rows_ne y) (fun p hp => by
      obtain ⟨q, hq, rfl⟩ := List.mem_map.mp hp
      exact esc_free (rows_free y q hq).1), growRows_esc]
    show 34 :: (txt (growRows 1 false (rowsOf y)) ++ 34 :: dots false (crlf r)) = _
    rw [esc_join, dueOne]
    simp
theorem sent_items : ∀ (ms : List Nat) (ys : List (List Nat)) (pv : Option Nat), ms.length = ys.length → (∀ m ∈ ms, m < 3) → dots (decide (pv = none ∨ pv = some 2)) (crlf (writtenL ms ys)) = sentL (itemsL pv ms ys)
  | [], [], pv, _, _ => by simp [writtenL, crlf, dots, itemsL, sentL]
  | [], _ :: _, _, h, _ => by simp at h
  | _ :: _, [], _, h, _ => by simp at h
  | m :: ms, y :: ys, pv, hl, hm => by
    have ih := sent_items ms ys (some m) (by simpa using hl) fun a ha => hm a (List.mem_cons_of_mem _ ha)
    have hm0 := hm m (List.mem_cons_self ..)
    rw [writtenL, List.append_assoc, body_sent _ _ _ _ (by simp), sep_sent m hm0 _ (fun _ => trivial)]
    have e : decide ((some m : Option Nat) = none ∨ some m = some 2) = decide (m = 2) := by simp
    rw [e] at ih
    rw [ih, itemsL, sentL, bareB, List.append_assoc]
theorem items_due : ∀ (ms : List Nat) (ys : List (List Nat)) (pv : Option Nat), (itemsL pv ms ys).map (·.2.2) = dueL 1 pv ms ys
  | [], _, _ => by simp [itemsL, dueL]
  | _ :: _, [], _ => by simp [itemsL, dueL]
  | m :: ms, y :: ys, pv => by rw [itemsL, dueL, List.map_cons, items_due ms ys (some m)]; rfl
theorem items_len : ∀ (ms : List Nat) (ys : List (List Nat)) (pv : Option Nat), ms.length = ys.length → (itemsL pv ms ys).length = ys.length
  | [], [], _, _ => rfl
  | [], _ :: _, _, h => by simp at h
  | _ :: _, [], _, h => by simp at h
  | m :: ms, y :: ys, pv, h => by rw [itemsL, List.length_cons, items_len ms ys (some m) (by simpa using h), List.length_cons]
def ItmOk (q : Itm) : Prop := q.2.1 < 3 ∧ (q.1 = true → q.2.1 ≠ 1 ∧ q.2.2 ≠ [] ∧ 10 ∉ q.2.2 ∧ 13 ∉ q.2.2)
theorem growR_ok {k : Nat} {b : Bool} {r : List Nat} (h : 10 ∉ r ∧ 13 ∉ r) : 10 ∉ growR k b r ∧ 13 ∉ growR k b r := by
  unfold growR
  split
  · simp only [List.mem_append, List.mem_replicate, not_or]
    exact ⟨⟨by omega, h.1⟩, ⟨by omega, h.2⟩⟩
  · exact h
theorem growR_ne {k : Nat} {b : Bool} {r : List Nat} (h : r ≠ []) : growR k b r ≠ [] := by
  unfold growR
  split
  · simp [h]
  · exact h
theorem items_ok : ∀ (ms : List Nat) (ys : List (List Nat)) (pv : Option Nat), (∀ m ∈ ms, m < 3) → ∀ q ∈ itemsL pv ms ys, ItmOk q
  | [], _, _, _ => by simp [itemsL]
  | _ :: _, [], _, _ => by simp [itemsL]
  | m :: ms, y :: ys, pv, hm => by
    intro q hq
    rw [itemsL] at hq
    rcases List.mem_cons.mp hq with rfl | hq
    · refine ⟨hm m (List.mem_cons_self ..), fun h => ?_⟩
      obtain ⟨h1, h2, h3, h4, h5⟩ := plain_of h
      refine ⟨h1, ?_⟩
      show dueOne 1 _ y ≠ [] ∧ 10 ∉ dueOne 1 _ y ∧ 13 ∉ dueOne 1 _ y
      rw [dueOne, h3]
      exact ⟨growR_ne h2, growR_ok ⟨h4, h5⟩⟩
    · exact items_ok ms ys (some m) (fun a ha => hm a (List.mem_cons_of_mem _ ha)) q hq
theorem tok_ws {ws : List Nat} : ∀ (j r : List Nat), (∀ c ∈ j, c ∈ ws) → tok ws (j ++ r) = tok ws r
  | [], _, _ => rfl
  | c :: j, r, h => by
    show tok ws (c :: (j ++ r)) = _
    rw [tok_w _ (h c (List.mem_cons_self ..)), tok_ws j r fun k hk => h k (List.mem_cons_of_mem _ hk)]
theorem tokQ_esc : ∀ (d r : List Nat), tokQ (esc d ++ 34 :: r) = (d, r)
  | [], r => tokQ_q r
  | c :: d, r => by
    have ih := tokQ_esc d r
    show tokQ (escF c ++ esc d ++ 34 :: r) = _
    unfold escF
    by_cases h1 : c = 92
    · subst h1; rw [if_pos rfl]; show tokQ (92 :: 92 :: (esc d ++ 34 :: r)) = _; rw [tokQ_b, ih]
    · rw [if_neg h1]
      by_cases h2 : c = 34
      · subst h2; rw [if_pos rfl]; show tokQ (92 :: 34 :: (esc d ++ 34 :: r)) = _; rw [tokQ_b, ih]
      · rw [if_neg h2]; show tokQ (c :: (esc d ++ 34 :: r)) = _; rw [tokQ_o _ h2 h1, ih]
theorem tokP_escP {w : Nat} (hw : w ∈ ws4) : ∀ (d r : List Nat), 10 ∉ d → 13 ∉ d → tokP ws4 (d.flatMap escPF ++ w :: r) = (d, r)
  | [], r, _, _ => tokP_w _ hw
  | c :: d, r, h1, h2 => by
    have ih := tokP_escP hw d r (fun m => h1 (List.mem_cons_of_mem _ m)) (fun m => h2 (List.mem_cons_of_mem _ m))
    have c10 : c ≠ 10 := fun e => h1 (e ▸ List.mem_cons_self ..)
    have c13 : c ≠ 13 := fun e => h2 (e ▸ List.mem_cons_self ..)
    rw [List.flatMap_cons]
    unfold escPF
    by_cases h : c = 34 ∨ c = 92 ∨ c = 32 ∨ c = 9
    · rw [if_pos h]
      show tokP ws4 (92 :: c :: (d.flatMap escPF ++ w :: r)) = _
      rw [tokP_b _ _ (by decide), ih]
    · rw [if_neg h]
      show tokP ws4 (c :: (d.flatMap escPF ++ w :: r)) = _
      rw [tokP_o _ (by simp [ws4]; omega) (by omega), ih]
theorem tok_escP {w : Nat} (hw : w ∈ ws4) (d r : List Nat) (hd : d ≠ []) (h1 : 10 ∉ d) (h2 : 13 ∉ d) : tok ws4 (d.flatMap escPF ++ w :: r) = (d, r) := by
  cases d with
  | nil => exact absurd rfl hd
  | cons c d =>
    have ih := tokP_escP hw d r (fun m => h1 (List.mem_cons_of_mem _ m)) (fun m => h2 (List.mem_cons_of_mem _ m))
    have c10 : c ≠ 10 := fun e => h1 (e ▸ List.mem_cons_self ..)
    have c13 : c ≠ 13 := fun e => h2 (e ▸ List.mem_cons_self ..)
    rw [List.flatMap_cons]
    unfold escPF
    by_cases h : c = 34 ∨ c = 92 ∨ c = 32 ∨ c = 9
    · rw [if_pos h]
      show tok ws4 (92 :: c :: (d.flatMap escPF ++ w :: r)) = _
      rw [tok_b _ _ (by decide), ih]
    · rw [if_neg h]
      show tok ws4 (c :: (d.flatMap escPF ++ w :: r)) = _
      rw [tok_o _ (by simp [ws4]; omega) (by omega) (by omega), ih]
/-- k words read: what lies ahead -/
def Ahead (items : List Itm) (k : Nat) (l : List Nat) : Prop := ∃ j, (∀ c ∈ j, c ∈ ws4) ∧ l = j ++ sentL (items.drop k)
theorem sepS_ws (m : Nat) : ∀ c ∈ sepS m, c ∈ ws4 := by
  unfold sepS
  split
  · decide
  · split <;> decide
theorem ahead_step {items : List Itm} {k : Nat} {l : List Nat} (hok : ∀ q ∈ items, ItmOk q) (hk : k < items.length) (h : Ahead items k l) : (tok ws4 l).1 = items[k].2.2 ∧ Ahead items (k + 1) (tok ws4 l).2 := by
  obtain ⟨j, hj, rfl⟩ := h
  have ok := hok _ (List.getElem_mem hk)
  rw [tok_ws _ _ hj, List.drop_eq_getElem_cons hk, sentL]
  generalize items[k] = q at ok ⊢
  obtain ⟨pl, m, d⟩ := q
  obtain ⟨hm, hp⟩ := ok
  simp only at hm hp ⊢
  unfold sBody
  by_cases h : pl = true
  · obtain ⟨p1, p2, p3, p4⟩ := hp h
    rw [if_pos h]
    by_cases h0 : m = 0
    · subst h0
      have e : d.flatMap escPF ++ sepS 0 ++ sentL (items.drop (k + 1)) = d.flatMap escPF ++ 32 :: sentL (items.drop (k + 1)) := by simp [sepS]
      rw [e, tok_escP (by decide) _ _ p2 p3 p4]
      exact ⟨rfl, [], by simp, rfl⟩
    · have h2 : m = 2 := by omega
      subst h2
      have e : d.flatMap escPF ++ sepS 2 ++ sentL (items.drop (k + 1)) = d.flatMap escPF ++ 13 :: (10 :: sentL (items.drop (k + 1))) := by simp [sepS]
      rw [e, tok_escP (by decide) _ _ p2 p3 p4]
      exact ⟨rfl, [10], by decide, rfl⟩
  · rw [if_neg h]
    have e : [34] ++ esc d ++ [34] ++ sepS m ++ sentL (items.drop (k + 1)) = 34 :: (esc d ++ 34 :: (sepS m ++ sentL (items.drop (k + 1)))) := by simp
    rw [e, tok_q _ (by decide), tokQ_esc]
    exact ⟨rfl, sepS m, sepS_ws m, rfl⟩
theorem ahead_end {items : List Itm} {l : List Nat} (h : Ahead items items.length l) : tok ws4 l = ([], []) := by
  obtain ⟨j, hj, rfl⟩ := h
  rw [tok_ws _ _ hj, List.drop_length, sentL]
  rfl
/-! from hop to hop -/
def Told (h : Nat) : Option Nat → List Nat → List (List Nat) → List (List Nat) → Prop
  | pv, m :: ms, y :: ys, d :: ds => rowsOf d = growRows h (bareB m y pv) (rowsOf y) ∧ Told h (some m) ms ys ds
  | _, [], [], [] => True
  | _, _, _, _ => False
theorem grow0 (b : Bool) (ps : List (List Nat)) : growRows 0 b ps = ps := by
  have e : ∀ (b : Bool) (r : List Nat), growR 0 b r = r := by intro b r; unfold growR; split <;> rfl
  cases ps with
  | nil => rfl
  | cons p ps =>
    show growR 0 b p :: ps.map (growR 0 true) = _
    rw [e, show growR 0 true = id from funext (e true), List.map_id]
theorem told0 : ∀ (ms : List Nat) (ys : List (List Nat)) (pv : Option Nat), ms.length = ys.length → Told 0 pv ms ys ys
  | [], [], _, _ => trivial
  | [], _ :: _, _, h => by simp at h
  | _ :: _, [], _, h => by simp at h
  | m :: ms, y :: ys, pv, h => ⟨(grow0 _ _).symm, told0 ms ys (some m) (by simpa using h)⟩
theorem growR_head {k : Nat} {b : Bool} {r : List Nat} : (growR k b r).head? = some 46 ↔ r.head? = some 46 := by
  unfold growR
  by_cases h : r.head? = some 46 ∧ b = true
  · rw [if_pos h]
    cases k with
    | zero => exact Iff.rfl
    | succ k => simp [List.replicate_succ, h.1]
  · rw [if_neg h]
theorem growR_add (k : Nat) (b : Bool) (r : List Nat) : growR 1 b (growR k b r) = growR (k + 1) b r := by
  by_cases h : r.head? = some 46 ∧ b = true
  · have h2 : (growR k b r).head? = some 46 ∧ b = true := ⟨growR_head.mpr h.1, h.2⟩
    have e : ∀ (j : Nat) (q : List Nat), q.head? = some 46 ∧ b = true → growR j b q = List.replicate j 46 ++ q := fun j q hq => if_pos hq
    rw [e 1 _ h2, e k _ h, e (k + 1) _ h, List.replicate_succ]
    rfl
  · have h2 : ¬ ((growR k b r).head? = some 46 ∧ b = true) := fun q => h ⟨growR_head.mp q.1, q.2⟩
    have e : ∀ (j : Nat) (q : List Nat), ¬ (q.head? = some 46 ∧ b = true) → growR j b q = q := fun j q hq => if_neg hq
    rw [e 1 _ h2, e k _ h, e (k + 1) _ h]
theorem growRows_add (k : Nat) (b : Bool) (ps : List (List Nat)) : growRows 1 b (growRows k b ps) = growRows (k + 1) b ps := by
  cases ps with
  | nil => rfl
  | cons p ps =>
    show growR 1 b (growR k b p) :: (ps.map (growR k true)).map (growR 1 true) = _
    rw [growR_add, List.map_map]
    show _ = growR (k + 1) b p :: ps.map (growR (k + 1) true)
    congr 1
    exact List.map_congr_left fun a _ => growR_add k true a
theorem rows_joinL : ∀ ps : List (List Nat), ps ≠ [] → (∀ p ∈ ps, 10 ∉ p ∧ 13 ∉ p) → rowsOf (joinL [13, 10] ps) = ps
  | [], h, _ => absurd rfl h
  | [p], _, h => by
    have hp := h p (List.mem_singleton.mpr rfl)
    have := rows_app p [] hp.1 hp.2
    rw [List.append_nil] at this
    show rowsOf p = _
    rw [this, rows_nil]
    simp [prep]
  | p :: q :: r, _, h => by
    have ih := rows_joinL (q :: r) (by simp) fun a ha => h a (List.mem_cons_of_mem _ ha)
    have hp := h p (List.mem_cons_self ..)
    show rowsOf (p ++ [13, 10] ++ joinL [13, 10] (q :: r)) = _
    rw [List.append_assoc, rows_app _ _ hp.1 hp.2]
    show prep p (rowsOf (13 :: 10 :: joinL [13, 10] (q :: r))) = _
    rw [rows_crlf, ih]
    simp [prep]
theorem growRows_ok {k : Nat} {b : Bool} {ps : List (List Nat)} (h : ∀ p ∈ ps, 10 ∉ p ∧ 13 ∉ p) : ∀ p ∈ growRows k b ps, 10 ∉ p ∧ 13 ∉ p := by
  intro p hp
  obtain ⟨ok, r, hr, rfl⟩ := growRows_mem hp
  exact growR_ok (h r hr)
theorem growRows_ne {k : Nat} {b : Bool} {ps : List (List Nat)} (h : ps ≠ []) : growRows k b ps ≠ [] := by
  cases ps with
  | nil => exact absurd rfl h
  | cons p r => simp [growRows]
theorem rows_due (k : Nat) (b : Bool) (y : List Nat) : rowsOf (dueOne k b y) = growRows k b (rowsOf y) :=
  rows_joinL _ (growRows_ne (rows_ne y)) (growRows_ok (rows_free y))
theorem rows_nil_iff {y : List Nat} : rowsOf y = [[]] ↔ y = [] := by
  constructor
  · intro h
    have := (rows_one y (by rw [h]; rfl)).1
    rw [h] at this
    simpa using this.symm
  · rintro rfl; rfl
theorem plain_same {m k : Nat} {b : Bool} {y d : List Nat} (h : rowsOf d = growRows k b (rowsOf y)) : plainB m d = plainB m y := by
  have h1 : (rowsOf d).length = (rowsOf y).length := by rw [h, growRows_len]
  have h2 : d = [] ↔ y = [] := by
    rw [← rows_nil_iff, ← rows_nil_iff, h]
    constructor
    · intro q
      have hl := growRows_len (hop := k) (bb := b) (rowsOf y)
      rw [q] at hl
      have := (rows_one y hl.symm).1
      rw [this] at q ⊢
      have q : [growR k b y] = [[]] := q
      have q : growR k b y = [] := by simpa using q
      by_cases e : y = []
      · rw [e]
      · exact absurd q (growR_ne e)
    · intro q
      rw [q]
      show [growR k b []] = _
      unfold growR
      rw [if_neg (by simp)]
  unfold plainB
  rw [h1]
  by_cases e : y = []
  · simp [e, h2.mpr e]
  · have e2 : d ≠ [] := fun q => e (h2.mp q)
    simp [e, e2]
theorem told_due (k : Nat) : ∀ (ms : List Nat) (ys ds : List (List Nat)) (pv : Option Nat), Told k pv ms ys ds → dueL 1 pv ms ds = dueL (k + 1) pv ms ys ∧ Told (k + 1) pv ms ys (dueL (k + 1) pv ms ys)
  | [], [], [], _, _ => ⟨rfl, trivial⟩
  | m :: ms, y :: ys, d :: ds, pv, h => by
    obtain ⟨h1, h2⟩ := h
    obtain ⟨e1, e2⟩ := told_due k ms ys ds (some m) h2
    have hp := plain_same (m := m) h1
    constructor
    · rw [dueL, dueL, e1, hp]
      congr 1
      show joinL _ (growRows 1 (bareB m y pv) (rowsOf d)) = joinL _ (growRows (k + 1) (bareB m y pv) (rowsOf y))
      rw [h1, growRows_add]
    · rw [dueL]
      exact ⟨rows_due _ _ _, e2⟩
  | [], [], _ :: _, _, h => h.elim
  | [], _ :: _, [], _, h => h.elim
  | [], _ :: _, _ :: _, _, h => h.elim
  | _ :: _, [], [], _, h => h.elim
  | _ :: _, [], _ :: _, _, h => h.elim
  | _ :: _, _ :: _, [], _, h => h.elim
theorem told_len (k : Nat) : ∀ (ms : List Nat) (ys ds : List (List Nat)) (pv : Option Nat), Told k pv ms ys ds → ds.length = ys.length
  | [], [], [], _, _ => rfl
  | m :: ms, y :: ys, d :: ds, pv, h => by rw [List.length_cons, List.length_cons, told_len k ms ys ds (some m) h.2]
  | [], [], _ :: _, _, h => h.elim
  | [], _ :: _, [], _, h => h.elim
  | [], _ :: _, _ :: _, _, h => h.elim
  | _ :: _, [], [], _, h => h.elim
  | _ :: _, [], _ :: _, _, h => h.elim
  | _ :: _, _ :: _, [], _, h => h.elim
/-! bounds -/
theorem rows_flat (l : List Nat) : (rowsOf l).flatten.length ≤ l.length := by
  induction l using rows_ind with
  | h0 => exact Nat.le_refl _
  | h1 r ih => rw [rows_crlf, List.flatten_cons, List.nil_append]; simp only [List.length_cons]; omega
  | h2 r hr ih => rw [rows_cr _ hr, List.flatten_cons, List.nil_append]; simp only [List.length_cons]; omega
  | h3 r ih => rw [rows_lf, List.flatten_cons, List.nil_append]; simp only [List.length_cons]; omega
  | h4 c r h1 h2 ih =>
    rw [rows_o _ h1 h2]
    cases hr : rowsOf r with
    | nil => exact absurd hr (rows_ne r)
    | cons p ps => rw [hr] at ih; simp [prep] at ih ⊢; omega
theorem joinL_len (z : List Nat) : ∀ ps : List (List Nat), (joinL z ps).length ≤ ps.flatten.length + ps.length * z.length
  | [] => by simp [joinL]
  | [p] => by simp [joinL]
  | p :: q :: r => by
    have ih := joinL_len z (q :: r)
    show (p ++ z ++ joinL z (q :: r)).length ≤ _
    rw [List.length_append, List.length_append, List.flatten_cons, List.length_append]
    simp only [List.length_cons, Nat.add_mul, Nat.one_mul] at ih ⊢
    omega
theorem grow_flat (k : Nat) : ∀ (ps : List (List Nat)) (b : Bool), (growRows k b ps).flatten.length ≤ ps.flatten.length + ps.length * k
  | [], _ => by simp [growRows]
  | p :: ps, b => by
    have h1 := growR_len k b p
    have h2 : ∀ l : List (List Nat), (l.map (growR k true)).flatten.length ≤ l.flatten.length + l.length * k := by
      intro l
      induction l with
      | nil => simp
      | cons q l ih =>
        have := growR_len k true q
        rw [List.map_cons, List.flatten_cons, List.flatten_cons, List.length_append, List.length_append, List.length_cons, Nat.add_mul]
        omega
    have h3 := h2 ps
    show (growR k b p :: ps.map (growR k true)).flatten.length ≤ _
    rw [List.flatten_cons, List.flatten_cons, List.length_append, List.length_append, List.length_cons, Nat.add_mul]
    omega
theorem dueOne_len {k : Nat} {b : Bool} {y : List Nat} (hk : k ≤ 3) (hy : y.length ≤ 10) : (dueOne k b y).length ≤ 100 := by
  have h1 := rows_flat y
  have h2 := rows_cnt y
  have h3 := grow_flat k (rowsOf y) b
  have h4 := joinL_len [13, 10] (growRows k b (rowsOf y))
  rw [growRows_len] at h4
  have h5 : (rowsOf y).length * k ≤ 11 * 3 := Nat.mul_le_mul (by omega) hk
  unfold dueOne
  simp only [List.length_cons, List.length_nil] at h4
  omega
theorem dueL_len {k : Nat} (hk : k ≤ 3) : ∀ (ms : List Nat) (ys : List (List Nat)) (pv : Option Nat), (∀ y ∈ ys, y.length ≤ 10) → ∀ d ∈ dueL k pv ms ys, d.length ≤ 100
  | [], _, _, _ => by simp [dueL]
  | _ :: _, [], _, _ => by simp [dueL]
  | m :: ms, y :: ys, pv, h => by
    intro d hd
    rw [dueL] at hd
    rcases List.mem_cons.mp hd with rfl | hd
    · exact dueOne_len hk (h y (List.mem_cons_self ..))
    · exact dueL_len hk ms ys (some m) (fun a ha => h a (List.mem_cons_of_mem _ ha)) d hd
/-- what was sent: its length and its rows -/
theorem joinL_size : ∀ ps : List (List Nat), ps ≠ [] → (joinL [13, 10] ps).length + 2 = (ps.map fun p => p.length + 2).sum
  | [], h => absurd rfl h
  | [p], _ => by simp [joinL]
  | p :: q :: r, _ => by
    have ih := joinL_size (q :: r) (by simp)
    show (p ++ [13, 10] ++ joinL [13, 10] (q :: r)).length + 2 = _
    rw [List.map_cons, List.sum_cons, ← ih, List.length_append, List.length_append]
    simp
    omega
theorem joinL_count : ∀ ps : List (List Nat), ps ≠ [] → (∀ p ∈ ps, 10 ∉ p) → 1 + (joinL [13, 10] ps).count 10 = ps.length
  | [], h, _ => absurd rfl h
  | [p], _, h => by
    show 1 + p.count 10 = 1
    rw [List.count_eq_zero.mpr (h p (List.mem_singleton.mpr rfl))]
  | p :: q :: r, _, h => by
    have ih := joinL_count (q :: r) (by simp) fun a ha => h a (List.mem_cons_of_mem _ ha)
    show 1 + (p ++ [13, 10] ++ joinL [13, 10] (q :: r)).count 10 = _
    rw [List.count_append, List.count_append, List.count_eq_zero.mpr (h p (List.mem_cons_self ..)), List.length_cons, ← ih]
    simp
    omega
theorem sent_size (x : Str) : (quoted x).cps.size + 2 = (((rowsOf x.cps.toList).map fun p => (dotRow p).length + 2)).sum := by
  have := joinL_size ((rowsOf x.cps.toList).map dotRow) (by simpa using rows_ne _)
  rw [← quoted_rows, List.map_map] at this
  have e : (quoted x).cps.size = (quoted x).cps.toList.length := by simp
  rw [e]
  exact this
theorem dotRow_free {p : List Nat} (h : 10 ∉ p) : 10 ∉ dotRow p := by
  unfold dotRow
  split
  · simp; exact h
  · exact h
theorem sent_count (x : Str) : 1 + (quoted x).cps.toList.count 10 = (rowsOf x.cps.toList).length := by
  have := joinL_count ((rowsOf x.cps.toList).map dotRow) (by simpa using rows_ne _) (fun p hp => by
    obtain ⟨q, hq, rfl⟩ := List.mem_map.mp hp
    exact dotRow_free (rows_free _ q hq).1)
  rw [quoted_rows, this, List.length_map]
theorem quoted_sent (x : Str) (ms : List Nat) (ys : List (List Nat)) (hl : ms.length = ys.length) (hm : ∀ m ∈ ms, m < 3) (hx : x.cps.toList = writtenL ms ys) : (quoted x).cps.toList = sentL (itemsL none ms ys) := by
  rw [← sent_items ms ys none hl hm, ← hx]
  rfl
end Mine
end
-- part L02
section
open PySem PySem.W PyProof.Rows PySem.Calls
set_option Elab.async false
set_option maxRecDepth 100000
set_option maxHeartbeats 8000000
set_option linter.unusedVariables false
namespace Mine
local macro_rules | `(tactic| walk_at "pad0") => `(tactic| skip)
local macro_rules | `(tactic| walk_at "pad1") => `(tactic| skip)
local macro_rules | `(tactic| walk_at "pad2") => `(tactic| skip)
local macro_rules | `(tactic| walk_at "pad3") => `(tactic| skip)
local macro_rules | `(tactic| walk_at "pad4") => `(tactic| skip)
local macro_rules | `(tactic| walk_at "pad5") => `(tactic| skip)
local macro_rules | `(tactic| walk_at "pad6") => `(tactic| skip)
local macro_rules | `(tactic| walk_at "pad7") => `(tactic| skip)
local macro_rules | `(tactic| walk_at "pad8") => `(tactic| skip)
local macro_rules | `(tactic| walk_at "pad9") => `(tactic| skip)
local macro_rules | `(tactic| walk_at "pad10") => `(tactic| skip)
local macro_rules | `(tactic| walk_at "pad11") => `(tactic| skip)
local macro_rules | `(tactic| walk_at "pad12") => `(tactic| skip)
local macro_rules | `(tactic| walk_at "pad13") => `(tactic| skip)
local macro_rules | `(tactic| walk_at "pad14") => `(tactic| skip)
local macro_rules | `(tactic| walk_at "pad15") => `(tactic| skip)
local macro_rules | `(tactic| walk_at "pad16") => `(tactic| skip)
local macro_rules | `(tactic| walk_at "pad17") => `(tactic| skip)
local macro_rules | `(tactic| walk_at "pad18") => `(tactic| skip)
local macro_rules | `(tactic| walk_at "pad19") => `(tactic| skip)
local macro_rules | `(tactic| walk_at "pad20") => `(tactic| skip)
local macro_rules | `(tactic| walk_at "pad21") => `(tactic| skip)
local macro_rules | `(tactic| walk_at "pad22") => `(tactic| skip)
local macro_rules | `(tactic| walk_at "pad23") => `(tactic| skip)
local macro_rules | `(tactic| walk_at "pad24") => `(tactic| skip)
local macro_rules | `(tactic| walk_at "pad25") => `(tactic| skip)
local macro_rules | `(tactic| walk_at "pad26") => `(tactic| skip)
local macro_rules | `(tactic| walk_at "pad27") => `(tactic| skip)
local macro_rules | `(tactic| walk_at "pad28") => `(tactic| skip)
local macro_rules | `(tactic| walk_at "pad29") => `(tactic| skip)
local macro_rules | `(tactic| walk_at "pad30") => `(tactic| skip)
local macro_rules | `(tactic| walk_at "pad31") => `(tactic| skip)
local macro_rules | `(tactic| walk_at "pad32") => `(tactic| skip)
local macro_rules | `(tactic| walk_at "pad33") => `(tactic| skip)
local macro_rules | `(tactic| walk_at "pad34") => `(tactic| skip)
local macro_rules | `(tactic| walk_at "go") => `(tactic| repeat' (first | (k_unfold; (try dsimp only)) | ((fail_if_success (with_reducible show wpAny _ _ (exec (Stmt.While _ _ _ _) _) _ _ _)); (fail_if_success (with_reducible show wpAny _ _ (exec (Stmt.For _ _ _ _ _) _) _ _ _)); (fail_if_success (with_reducible show wpAny _ _ (PySem.call (Value.ref _) _) _ _ _)); (fail_if_success (with_reducible show wpAny _ _ (PySem.call (Value.builtin "sum") _) _ _ _)); (fail_if_success (with_reducible show wpAny _ _ (pyIter (Value.ref _)) _ _ _)); (fail_if_success (with_reducible show wpAny _ _ (compareOp _ (Value.ref _) (Value.ref _)) _ _ _)); (fail_if_success (with_reducible show wpAny _ _ (eval (PySem.Expr.ListComp _ _ _ _) _) _ _ _)); (fail_if_success (with_reducible show wpAny _ _ (exec (Stmt.Assign _ (PySem.Expr.ListComp _ _ _ _) _) _) _ _ _)); (fail_if_success (with_reducible show wpAny _ _ (subscriptTail _ (PySem.Expr.Slice _ _ _ _) (Value.ref _) _) _ _ _)); first | walk1 | (dsimp only; walk1))))
local macro_rules | `(tactic| walk_at "go2") => `(tactic| repeat' (first | (k_unfold; (try dsimp only)) | ((fail_if_success (with_reducible show wpAny _ _ (exec (Stmt.While _ _ _ _) _) _ _ _)); (fail_if_success (with_reducible show wpAny _ _ (exec (Stmt.For _ _ _ _ _) _) _ _ _)); first | walk1 | (dsimp only; walk1))))
local macro_rules | `(tactic| walk_at "gol") => `(tactic| repeat' (first | (k_unfold; (try dsimp only)) | ((fail_if_success (with_reducible show wpAny _ _ (exec (Stmt.While _ _ _ _) _) _ _ _)); (fail_if_success (with_reducible show wpAny _ _ (exec (Stmt.For _ _ _ _ _) _) _ _ _)); (fail_if_success (with_reducible show wpAny _ _ (PySem.call (Value.ref _) _) _ _ _)); (fail_if_success (with_reducible show wpAny _ _ (PySem.call (Value.builtin "sum") _) _ _ _)); (fail_if_success (with_reducible show wpAny _ _ (pyIter (Value.ref _)) _ _ _)); (fail_if_success (with_reducible show wpAny _ _ (compareOp _ (Value.ref _) (Value.ref _)) _ _ _)); (fail_if_success (with_reducible show wpAny _ _ (eval (PySem.Expr.ListComp _ _ _ _) _) _ _ _)); (fail_if_success (with_reducible show wpAny _ _ (exec (Stmt.Assign _ (PySem.Expr.ListComp _ _ _ _) _) _) _ _ _)); (fail_if_success (with_reducible show wpAny _ _ (subscriptTail _ (PySem.Expr.Slice _ _ _ _) (Value.ref _) _) _ _ _)); (fail_if_success (with_reducible show wpAny _ _ (PySem.call (Value.builtin "len") [Value.str _ _]) _ _ _)); first | walk1 | (dsimp only; walk1))))
local macro_rules | `(tactic| k_ne) => `(tactic| (refine neN ?_; (try dsimp only); first | assumption | exact Ne.symm (by assumption) | exact Nat.ne_of_lt (by assumption) | exact Nat.ne_of_gt (by assumption) | omega))
local macro_rules | `(tactic| k_lt $h:ident) => `(tactic| (replace $h := allLt_of $h; simp only [AllLt, and_true] at $h:ident; (repeat (have lf' := And.left $h; replace $h := And.right $h))))
theorem isL {g h : Heap} {L P : Addr} {l : List (Str × Tok)} {n : Nat} {news : List (Addr × Obj)} (N : News g L h news) (hm : (P, strsO l n) ∈ news) : h.IsList P (strValues l).toArray := ⟨_, (N _ hm).1, rfl, _, rfl⟩
local macro_rules | `(tactic| walk_at "call builtin:len") => `(tactic| (k_here; (with_reducible show wpAny _ _ (PySem.call (Value.builtin "len") [Value.ref _]) _ _ _); (refine strs_len (isL (by k_asm) (by k_mem)) (by assumption) ?_); intro _ _))
theorem at_item {prog : Program} {w : World} {A : Around} {E : Value → Shared → Prop} {s : Shared} {D : Addr} {v : Value} {value slice : Expr} {u : Tok} {Q : Value → Shared → Prop} (hD : s.heap.IsList D #[v]) (h : Q v s)
    (hs : subscripted slice false (.ref D) (.int ((0 : Nat) : Int) u) = operate [.ref D, .int ((0 : Nat) : Int) u] (getItem (.ref D) (.int ((0 : Nat) : Int) u)) := by with_unfolding_all rfl) :
    wpAny (model prog w) A (subscriptTail value slice (.ref D) (.int ((0 : Nat) : Int) u)) Q E s :=
  tail_any hD.typeIs slot_list_getitem.lookup (wpAny_getItem_list hD (by omega) (by omega) (by simp) h) hs
theorem isList_stays {h g : Heap} {D : Addr} {vs : Array Value} (H : h.IsList D vs) (hs : h.StaysIn g) : g.IsList D vs := by
  obtain ⟨o, ho, r⟩ := H
  exact ⟨o, hs _ _ ho, r⟩
/-- the table of the code made within the stream's maker -/
def TabIs2 (tb : Array Value) (cd : List (Addr × Obj)) : Prop := (tb = #[] ∧ cd = []) ∨ ∃ c' oc vs tq, tb = #[rawInt 94, rawInt 4, .ref c'] ∧ cd = [(c', oc)] ∧ oc.data = .fields vs ∧ vs[1]? = some (.str (Str.ofString "_law_stream.<locals>._law_give") tq)
/-- the law's state between two hops -/
def LawI2 (G : Heap) (L : Addr) (s : Shared) (it M W : Nat) (H : Nat) (lm : List (Nat × Tok)) (nm : Nat) (lw : List (Str × Tok)) (nw : Nat) (nn : Nat) (s' : Shared) : Prop :=
  ∃ (i TD : Nat) (ld : List (Str × Tok)) (nd : Nat) (tdl : List (Addr × Obj)) (u : Str → Option Value) (h : Heap) (tks : Nat) (tb : Array Value) (cd : List (Addr × Obj)) (oL : Obj) (vL : Option Value), s' = { s with heap := h, toks := tks } ∧
    Fr G L h (fun z => if z = Str.ofString "told" then some (.ref TD) else if z = Str.ofString "words" then some (.ref W) else if z = Str.ofString "manners" then some (.ref M) else u z) ∧
    News G L h ((it, riO ((i + 1 : Nat) : Int) ((H : Int) - i) 1) :: (M, natsO lm nm) :: (W, strsO lw nw) :: (L + 1, oL) :: (134, tabObj tb) :: (cd ++ tdl)) ∧ (TD, strsO ld nd) ∈ (W, strsO lw nw) :: tdl ∧ i ≤ H ∧ TabIs2 tb cd ∧ oL.data = .cell vL ∧ (∀ q ∈ cd ++ tdl, (@Ne Nat q.1 it)) ∧ (∀ q ∈ cd, (@Ne Nat q.1 (L + 1))) ∧
    Told i none (nats lm) (lists lw) (lists ld) ∧ (∀ q ∈ ld, q.1.length ≤ 100) ∧ nn = H - i
theorem word_le {lw : List (Str × Tok)} {B : Nat} (h : (lists lw).flatten.length ≤ B) : ∀ q ∈ lw, q.1.length ≤ B := by
  induction lw with
  | nil => intro q hq; cases hq
  | cons p r ih =>
    have h : (p.1.cps.toList ++ (lists r).flatten).length ≤ B := h
    rw [List.length_append] at h
    intro q hq
    rcases List.mem_cons.mp hq with rfl | hq
    · rw [len_list]; omega
    · exact ih (by omega) q hq
theorem mem_told {x it M W CA tb : Addr × Obj} {cd tdl : List (Addr × Obj)} (h : x ∈ W :: tdl) : x ∈ it :: M :: W :: CA :: tb :: (cd ++ tdl) := by
  rcases List.mem_cons.mp h with rfl | h
  · exact .tail _ (.tail _ (.head _))
  · exact .tail _ (.tail _ (.tail _ (.tail _ (.tail _ (List.mem_append_right _ h)))))
theorem mem_drop {it M W CA tb : Addr × Obj} {cd tdl : List (Addr × Obj)} : ∀ q ∈ it :: M :: W :: CA :: tb :: cd, q ∈ it :: M :: W :: CA :: tb :: (cd ++ tdl) := by
  intro q hq
  simp only [List.mem_cons, List.mem_append] at hq ⊢
  rcases hq with h | h | h | h | h | h <;> simp [h]
/-- what the maker of the lexer leaves -/
def Mid2 (G : Heap) (L : Addr) (s : Shared) (w : World) (p : Program) (loose : List Str) (mean : ExcName → Option Value) (mg mb : Str → Option Value) (it M W : Nat) (H i : Nat) (lm : List (Nat × Tok)) (nm : Nat) (lw : List (Str × Tok)) (nw : Nat) (tx : Str) (ttx th : Tok) (f : Flow) (s' : Shared) : Prop :=
  f = .next ∧ ∃ (x : Lx) (rd : List (Addr × Obj)) (tl ta : Tok) (u : Str → Option Value) (h : Heap) (tks : Nat) (c' : Addr) (oc : Obj) (vs : Array Value) (tv : Tok) (oL : Obj), s' = { s with heap := h, toks := tks } ∧
    Fr G L h (fun z => if z = Str.ofString "at" then some (.ref x.atA) else if z = Str.ofString "text" then some (.str tx ttx) else if z = Str.ofString "words" then some (.ref W) else if z = Str.ofString "manners" then some (.ref M) else if z = Str.ofString "hop" then some (.int ((i + 1 : Nat) : Int) th) else u z) ∧
    News G L h (((x.pb, listOf #[] 0) :: x.own 93 w.params (quoted tx) 0 tl ta) ++ ((it, riO ((i + 1 + 1 : Nat) : Int) ((H : Int) - ((i + 1 : Nat) : Int)) 1) :: (M, natsO lm nm) :: (W, strsO lw nw) :: (L + 1, oL) :: (134, tabObj #[rawInt 94, rawInt 4, .ref c']) :: (c', oc) :: rd)) ∧
    oL.data = .cell (some (.ref x.lex)) ∧ x.ws = Str.ofString "\n\t\r " ∧ oc.data = .fields vs ∧ vs[1]? = some (.str (Str.ofString "_law_stream.<locals>._law_give") tv) ∧ (∃ fo, (x.f, fo) ∈ rd ∧ ∃ oc od fd sl, fo = ⟨oc, od, .func fd, sl⟩) ∧ ReadOk02 w p loose mean mg mb (quoted tx) x.f x.atA rd ∧ List.Nodup [x.lex, x.lexd, x.st, x.std, x.atA, x.pb] ∧
    (∀ q ∈ rd, q.1 ∉ [x.lex, x.lexd, x.st, x.std, x.atA, x.pb]) ∧ (∀ q ∈ [it, M, W, L + 1, 134, c'], q ∉ [x.lex, x.lexd, x.st, x.std, x.atA, x.pb]) ∧ (@Ne Nat c' it) ∧ (@Ne Nat c' (L + 1))
theorem mid2_use {prog : Program} {w : World} {A : Around} {t : Sem Flow} {Q : Flow → Shared → Prop} {E : Value → Shared → Prop} {s1 : Shared} {G h : Heap} {L : Addr} {p : Program} {loose : List Str} {mean : ExcName → Option Value} {mg mb : Str → Option Value} {it M W : Nat} {H i : Nat} {lm : List (Nat × Tok)} {nm : Nat} {lw : List (Str × Tok)} {nw : Nat} {q : Addr × Obj} {r : List (Addr × Obj)}
    (N : News G L h (q :: (it, riO ((i + 1 + 1 : Nat) : Int) ((H : Int) - ((i + 1 : Nat) : Int)) 1) :: (M, natsO lm nm) :: (W, strsO lw nw) :: r)) (T : Top p loose mean mg mb G) (tx : Str) (ttx th : Tok)
    (h1 : wpAny (model prog w) A t (Mid2 G L s1 w p loose mean mg mb it M W H i lm nm lw nw tx ttx th) E s1) (h2 : ∀ f s', Mid2 G L s1 w p loose mean mg mb it M W H i lm nm lw nw tx ttx th f s' → Q f s') : wpAny (model prog w) A t Q E s1 :=
  wpAny_mono h1 h2 (fun _ _ h => h)
theorem notIn {q a b c d e f : Nat} (h : q ≠ a ∧ q ≠ b ∧ q ≠ c ∧ q ≠ d ∧ q ≠ e ∧ q ≠ f) : q ∉ [a, b, c, d, e, f] := by
  simp only [List.mem_cons, List.not_mem_nil, or_false, not_or]
  exact h
theorem ord2 {pb lex lexd f c' st std cA cT atA it M W CA : Nat} (hO : atA < cT ∧ cT < cA ∧ cA < std ∧ std < st ∧ st < f ∧ f < lexd ∧ lexd < lex ∧ lex < pb ∧ it < atA ∧ M < atA ∧ W < atA ∧ CA < atA ∧ 134 < atA) (hc : c' < atA ∨ (st < c' ∧ c' < f)) :
    List.Nodup [lex, lexd, st, std, atA, pb] ∧ (∀ q ∈ [f, c', cT, cA], q ∉ [lex, lexd, st, std, atA, pb]) ∧ (∀ q ∈ [it, M, W, CA, 134, c'], q ∉ [lex, lexd, st, std, atA, pb]) := by
  obtain ⟨h1, h2, h3, h4, h5, h6, h7, h8, h9, h10, h11, h12, h13⟩ := hO
  have s1 := Nat.lt_trans h2 h3
  have s2 := Nat.lt_trans h1 s1
  have s3 := Nat.lt_trans s2 h4
  have s4 := Nat.lt_trans h5 h6
  have s5 := Nat.lt_trans s4 h7
  have s6 := Nat.lt_trans s5 h8
  have s7 := Nat.lt_trans h4 s4
  have s8 := Nat.lt_trans h4 s5
  have s9 := Nat.lt_trans h4 s6
  have t1 := Nat.lt_trans s2 s7
  have t2 := Nat.lt_trans s2 s8
  have t3 := Nat.lt_trans s2 s9
  have low : ∀ q, q < atA → q ∉ [lex, lexd, st, std, atA, pb] := fun q hq => notIn ⟨Nat.ne_of_lt (Nat.lt_trans hq t2), Nat.ne_of_lt (Nat.lt_trans hq t1), Nat.ne_of_lt (Nat.lt_trans hq s3), Nat.ne_of_lt (Nat.lt_trans hq s2), Nat.ne_of_lt hq, Nat.ne_of_lt (Nat.lt_trans hq t3)⟩
  have mid : ∀ q, st < q → q ≤ f → q ∉ [lex, lexd, st, std, atA, pb] := fun q h1 h2 => notIn ⟨Nat.ne_of_lt (Nat.lt_trans (Nat.lt_of_le_of_lt h2 h6) h7), Nat.ne_of_lt (Nat.lt_of_le_of_lt h2 h6), Nat.ne_of_gt h1, Nat.ne_of_gt (Nat.lt_trans h4 h1), Nat.ne_of_gt (Nat.lt_trans s3 h1), Nat.ne_of_lt (Nat.lt_trans (Nat.lt_trans (Nat.lt_of_le_of_lt h2 h6) h7) h8)⟩
  have low2 : ∀ q, atA < q → q < std → q ∉ [lex, lexd, st, std, atA, pb] := fun q g1 g2 => notIn ⟨Nat.ne_of_lt (Nat.lt_trans g2 s8), Nat.ne_of_lt (Nat.lt_trans g2 s7), Nat.ne_of_lt (Nat.lt_trans g2 h4), Nat.ne_of_lt g2, Nat.ne_of_gt g1, Nat.ne_of_lt (Nat.lt_trans g2 s9)⟩
  have cq : c' ∉ [lex, lexd, st, std, atA, pb] := hc.elim (low c') (fun h => mid c' h.1 (Nat.le_of_lt h.2))
  refine ⟨?_, ?_, ?_⟩
  · simp only [List.nodup_cons, List.mem_cons, List.not_mem_nil, or_false, not_or, not_false_eq_true, true_and]
    exact ⟨⟨Nat.ne_of_gt h7, Nat.ne_of_gt s5, Nat.ne_of_gt s8, Nat.ne_of_gt t2, Nat.ne_of_lt h8⟩, ⟨Nat.ne_of_gt s4, Nat.ne_of_gt s7, Nat.ne_of_gt t1, Nat.ne_of_lt (Nat.lt_trans h7 h8)⟩, ⟨Nat.ne_of_gt h4, Nat.ne_of_gt s3, Nat.ne_of_lt s6⟩, ⟨Nat.ne_of_gt s2, Nat.ne_of_lt s9⟩, Nat.ne_of_lt t3, List.nodup_nil⟩
  · intro q hq
    simp only [List.mem_cons, List.not_mem_nil, or_false] at hq
    rcases hq with rfl | rfl | rfl | rfl
    · exact mid _ h5 (Nat.le_refl _)
    · exact cq
    · exact low2 _ h1 s1
    · exact low2 _ (Nat.lt_trans h1 h2) h3
  · intro q hq
    simp only [List.mem_cons, List.not_mem_nil, or_false] at hq
    rcases hq with rfl | rfl | rfl | rfl | rfl | rfl
    · exact low _ h9
    · exact low _ h10
    · exact low _ h11
    · exact low _ h12
    · exact low _ h13
    · exact cq
theorem pack02 (w : World) (p : Program) (loose : List Str) (mean : ExcName → Option Value) (mg mb : Str → Option Value) {g h : Heap} {L : Addr} {news : List (Addr × Obj)} {s : Shared} {m : Str → Option Value}
    {pb lex lexd f c' st std cA cT atA it M W : Nat} {k1 k2 k3 k4 j1 j2 j3 j4 j5 : Tok} {tl tw : Tok} {v1 v2 v3 v4 : Value} {name : Str} {params : Arguments} {body : List Stmt} {scope : Scope} {cl : List (Str × Addr)} {doc pm ctv : Value} {oc oT oA oL : Obj} {vs : Array Value} {tv : Tok} {tx : Str} {tS ta ttx th : Tok} {H i : Nat} {lm : List (Nat × Tok)} {nm : Nat} {lw : List (Str × Tok)} {nw : Nat} {tks : Nat}
    (F : Fr g L h m) (N : News g L h news) (e1 : m (Str.ofString "at") = some (.ref atA)) (e2 : m (Str.ofString "text") = some (.str tx ttx)) (e3 : m (Str.ofString "words") = some (.ref W)) (e4 : m (Str.ofString "manners") = some (.ref M)) (e5 : m (Str.ofString "hop") = some (.int ((i + 1 : Nat) : Int) th))
    (m1 : (pb, listOf #[] 0) ∈ news) (m2 : (lex, instObj 93 lexd) ∈ news) (m3 : (lexd, lexD w.params k1 k2 k3 k4 1 tl (.ref st) (Str.ofString "\n\t\r ") tw pb) ∈ news) (m4 : (f, fnMade name (Str.ofString "_law_stream.<locals>._law_give") params body scope cl doc pm c' ctv) ∈ news) (m5 : (c', oc) ∈ news) (hcT : cl.lookup (Str.ofString "text") = some cT) (hcA : cl.lookup (Str.ofString "at") = some cA)
    (m6 : (st, instObj 93 std) ∈ news) (m7 : (std, stD w.params j1 j2 j3 j4 j5 v1 v2 v3 v4 f) ∈ news) (m8 : (cA, oA) ∈ news) (m9 : (cT, oT) ∈ news) (m10 : (atA, listOf #[.int 0 ta] 0) ∈ news)
    (n1 : (it, riO ((i + 1 + 1 : Nat) : Int) ((H : Int) - ((i + 1 : Nat) : Int)) 1) ∈ news) (n2 : (M, natsO lm nm) ∈ news) (n3 : (W, strsO lw nw) ∈ news) (n4 : (L + 1, oL) ∈ news) (n5 : (134, tabObj #[rawInt 94, rawInt 4, .ref c']) ∈ news)
    (hast : ∃ n ds r tp ts b ps, giveD02 = .FunctionDef n params body ds r tp scope ts b ps) (hoc : oc.data = .fields vs) (hvs : vs[1]? = some (.str (Str.ofString "_law_stream.<locals>._law_give") tv))
    (hoT : oT.data = .cell (some (.str (quoted tx) tS))) (hoA : oA.data = .cell (some (.ref atA))) (hoL : oL.data = .cell (some (.ref lex))) (hsz : (quoted tx).cps.size ≤ 1000000)
    (hO : atA < cT ∧ cT < cA ∧ cA < std ∧ std < st ∧ st < f ∧ f < lexd ∧ lexd < lex ∧ lex < pb ∧ it < atA ∧ M < atA ∧ W < atA ∧ (L : Nat) + 1 < atA ∧ 134 < atA) (hc : c' < atA ∨ (st < c' ∧ c' < f)) (hci : c' ≠ it) (hcl : (@Ne Nat c' (L + 1))) :
    Mid2 g L s w p loose mean mg mb it M W H i lm nm lw nw tx ttx th .next { s with heap := h, toks := tks } := by
  obtain ⟨o1, o2, o3⟩ := ord2 (CA := L + 1) hO hc
  refine ⟨rfl, ⟨lex, lexd, st, std, f, atA, pb, k1, k2, k3, k4, j1, j2, j3, j4, j5, v1, v2, v3, v4, Str.ofString "\n\t\r ", tw⟩, [(f, fnMade name (Str.ofString "_law_stream.<locals>._law_give") params body scope cl doc pm c' ctv), (c', oc), (cT, oT), (cA, oA)], tl, ta, m, h, tks, c', oc, vs, tv, oL, rfl, canon5 F _ _ _ _ _ e1 e2 e3 e4 e5, ?_, hoL, rfl, hoc, hvs, ⟨_, .head _, _, _, _, _, rfl⟩, ?_, o1, ?_, o3, hci, hcl⟩
  · have e : lnAt (quoted tx) 0 = 1 := by simp [lnAt]
    intro q hq
    simp only [Lx.own, e, List.cons_append, List.nil_append, List.mem_cons, List.not_mem_nil, or_false] at hq
    rcases hq with rfl | rfl | rfl | rfl | rfl | rfl | rfl | rfl | rfl | rfl | rfl | rfl | rfl | rfl | rfl | rfl <;> exact N _ (by assumption)
  · exact give02 w p loose mean mg mb (quoted tx) tS f c' cT cA atA name _ params body scope cl doc pm ctv oc oT oA vs tv hast hoc hvs hcT hcA hoT hoA hsz
  · intro q hq
    refine o2 q.1 ?_
    simp at hq ⊢
    rcases hq with rfl | rfl | rfl | rfl <;> simp
theorem written_len : ∀ (ms : List Nat) (ys : List (List Nat)), (∀ y ∈ ys, y.length ≤ 100) → (writtenL ms ys).length ≤ ys.length * 203
  | [], _, _ => by simp [writtenL]
  | _ :: _, [], _ => by simp [writtenL]
  | m :: ms, y :: ys, h => by
    have ih := written_len ms ys fun a ha => h a (List.mem_cons_of_mem _ ha)
    have h1 := h y (List.mem_cons_self ..)
    have h2 := wr_len m y
    have h3 : (sepL m).length ≤ 1 := by unfold sepL; split; · simp
                                        · split <;> simp
    rw [writtenL, List.length_append, List.length_append, List.length_cons, Nat.add_mul]
    omega
abbrev led2 (x : Lx) (pr : Params) (sent : Str) (p : Nat) (tl ta : Tok) (base : List (Addr × Obj)) : List (Addr × Obj) := ((x.pb, listOf #[] 0) :: x.own 93 pr sent p tl ta) ++ base
abbrev base2 (L it M W c' : Nat) (H i : Nat) (lm : List (Nat × Tok)) (nm : Nat) (lw : List (Str × Tok)) (nw : Nat) (oL oc : Obj) (rd : List (Addr × Obj)) : List (Addr × Obj) :=
  (it, riO ((i + 1 + 1 : Nat) : Int) ((H : Int) - ((i + 1 : Nat) : Int)) 1) :: (M, natsO lm nm) :: (W, strsO lw nw) :: (L + 1, oL) :: (134, tabObj #[rawInt 94, rawInt 4, .ref c']) :: (c', oc) :: rd
/-- the words read so far -/
def JJ (x : Lx) (pr : Params) (sent : Str) (base : List (Addr × Obj)) (items : List Itm) (i : Nat) (ys : List Value) (news : List (Addr × Obj)) : Prop :=
  ∃ (p : Nat) (tl ta : Tok) (l2 : List (Str × Tok)), news = led2 x pr sent p tl ta base ∧ ys = strValues l2 ∧ lists l2 = (items.map (·.2.2)).take i ∧ p ≤ sent.cps.size ∧ Ahead items i (sent.cps.toList.drop p)
theorem led2_off {x : Lx} {pr : Params} {sent : Str} {p p' : Nat} {tl ta tl' ta' : Tok} {base : List (Addr × Obj)} {I C D : Addr} (h : LCg.Off3 I C D (led2 x pr sent p tl ta base)) : LCg.Off3 I C D (led2 x pr sent p' tl' ta' base) := by
  refine off3_keep h fun q hq => ?_
  rcases List.mem_append.mp hq with hq | hq
  · simp only [Lx.own, List.mem_cons, List.not_mem_nil, or_false] at hq
    rcases hq with rfl | rfl | rfl | rfl | rfl | rfl
    · exact ⟨_, .head _⟩
    · exact ⟨_, .tail _ (.head _)⟩
    · exact ⟨_, .tail _ (.tail _ (.head _))⟩
    · exact ⟨_, .tail _ (.tail _ (.tail _ (.head _)))⟩
    · exact ⟨_, .tail _ (.tail _ (.tail _ (.tail _ (.head _))))⟩
    · exact ⟨_, .tail _ (.tail _ (.tail _ (.tail _ (.tail _ (.head _)))))⟩
  · exact ⟨q.2, List.mem_append_right _ hq⟩
theorem off3_own {x : Lx} {pr : Params} {sent : Str} {p : Nat} {tl ta : Tok} {base : List (Addr × Obj)} {I C D : Addr} (h : LCg.Off3 I C D (led2 x pr sent p tl ta base)) : I ∉ [x.lex, x.lexd, x.st, x.std, x.atA, x.pb] ∧ C ∉ [x.lex, x.lexd, x.st, x.std, x.atA, x.pb] ∧ D ∉ [x.lex, x.lexd, x.st, x.std, x.atA, x.pb] := by
  have k : ∀ q ∈ (x.pb, listOf #[] 0) :: x.own 93 pr sent p tl ta, q.1 ≠ I ∧ q.1 ≠ C ∧ q.1 ≠ D := fun q hq => h.mem q (List.mem_append_left _ hq)
  have a1 := k (x.pb, _) (.head _)
  have a2 := k (x.lex, _) (.tail _ (.head _))
  have a3 := k (x.lexd, _) (.tail _ (.tail _ (.head _)))
  have a4 := k (x.st, _) (.tail _ (.tail _ (.tail _ (.head _))))
  have a5 := k (x.std, _) (.tail _ (.tail _ (.tail _ (.tail _ (.head _)))))
  have a6 := k (x.atA, _) (.tail _ (.tail _ (.tail _ (.tail _ (.tail _ (.head _))))))
  simp only [List.mem_cons, List.not_mem_nil, or_false, not_or]
  exact ⟨⟨Ne.symm a2.1, Ne.symm a3.1, Ne.symm a4.1, Ne.symm a5.1, Ne.symm a6.1, Ne.symm a1.1⟩, ⟨Ne.symm a2.2.1, Ne.symm a3.2.1, Ne.symm a4.2.1, Ne.symm a5.2.1, Ne.symm a6.2.1, Ne.symm a1.2.1⟩, ⟨Ne.symm a2.2.2, Ne.symm a3.2.2, Ne.symm a4.2.2, Ne.symm a5.2.2, Ne.symm a6.2.2, Ne.symm a1.2.2⟩⟩
theorem sep2b {x : Lx} {pr : Params} {sent : Str} {p : Nat} {tl ta : Tok} {o : Obj} {base : List (Addr × Obj)} (hb : ∀ q ∈ base, q.1 ∉ [x.lex, x.lexd, x.st, x.std, x.atA, x.pb]) : ∀ q ∈ base, q.1 ∉ ((x.pb, o) :: x.own 93 pr sent p tl ta).map (·.1) := by
  intro q hq hm
  apply hb q hq
  simp [Lx.own] at hm ⊢
  rcases hm with z | z | z | z | z | z <;> simp [z]
theorem base2_sep {x : Lx} {L it M W c' : Nat} {H i : Nat} {lm : List (Nat × Tok)} {nm : Nat} {lw : List (Str × Tok)} {nw : Nat} {oL oc : Obj} {rd : List (Addr × Obj)} (h1 : ∀ q ∈ rd, q.1 ∉ [x.lex, x.lexd, x.st, x.std, x.atA, x.pb]) (h2 : ∀ q ∈ [it, M, W, L + 1, 134, c'], q ∉ [x.lex, x.lexd, x.st, x.std, x.atA, x.pb]) :
    ∀ q ∈ base2 L it M W c' H i lm nm lw nw oL oc rd, q.1 ∉ [x.lex, x.lexd, x.st, x.std, x.atA, x.pb] := by
  intro q hq
  simp only [List.mem_cons] at hq
  rcases hq with rfl | rfl | rfl | rfl | rfl | rfl | hq
  · exact h2 _ (.head _)
  · exact h2 _ (.tail _ (.head _))
  · exact h2 _ (.tail _ (.tail _ (.head _)))
  · exact h2 _ (.tail _ (.tail _ (.tail _ (.head _))))
  · exact h2 _ (.tail _ (.tail _ (.tail _ (.tail _ (.head _)))))
  · exact h2 _ (.tail _ (.tail _ (.tail _ (.tail _ (.tail _ (.head _))))))
  · exact h1 _ hq
theorem sep_three {x : Lx} {a b c : Addr × Obj} {base : List (Addr × Obj)} (hS : ∀ q ∈ base, q.1 ∉ [x.lex, x.lexd, x.st, x.std, x.atA, x.pb]) (ha : a.1 ∉ [x.lex, x.lexd, x.st, x.std, x.atA, x.pb]) (hb : b.1 ∉ [x.lex, x.lexd, x.st, x.std, x.atA, x.pb]) (hc : c.1 ∉ [x.lex, x.lexd, x.st, x.std, x.atA, x.pb]) :
    ∀ q ∈ a :: b :: c :: base, q.1 ∉ [x.lex, x.lexd, x.st, x.std, x.atA, x.pb] := by
  intro q hq
  simp only [List.mem_cons] at hq
  rcases hq with rfl | rfl | rfl | hq
  · exact ha
  · exact hb
  · exact hc
  · exact hS _ hq
theorem led2_in {a b c : Addr × Obj} {A B : List (Addr × Obj)} : ∀ q ∈ A ++ (a :: b :: c :: B), q ∈ a :: b :: c :: (A ++ B) := by
  intro q hq
  simp only [List.mem_append, List.mem_cons] at hq ⊢
  rcases hq with h | h | h | h | h <;> simp [h]
theorem led2_out {a b c : Addr × Obj} {A B : List (Addr × Obj)} : ∀ q ∈ a :: b :: c :: (A ++ B), q ∈ A ++ (a :: b :: c :: B) := by
  intro q hq
  simp only [List.mem_append, List.mem_cons] at hq ⊢
  rcases hq with h | h | h | h | h <;> simp [h]
theorem take_one_more {items : List Itm} {i : Nat} (hi : i < items.length) : (items.map (·.2.2)).take (i + 1) = (items.map (·.2.2)).take i ++ [items[i].2.2] := by
  rw [List.take_add_one]
  congr 1
  simp [hi]
theorem off1_all {D : Addr} : ∀ {news : List (Addr × Obj)}, LCg.Off1 D news → ∀ q ∈ news, q.1 ≠ D
  | [], _, _, hq => nomatch hq
  | p :: r, h, q, hq => by
    rcases List.mem_cons.mp hq with rfl | hq
    · exact h.1
    · exact off1_all h.2 q hq
theorem own_free {x : Lx} {pr : Params} {sent : Str} {p : Nat} {tl ta : Tok} {base : List (Addr × Obj)} {D : Addr} (h : ∀ q ∈ led2 x pr sent p tl ta base, q.1 ≠ D) : D ∉ [x.lex, x.lexd, x.st, x.std, x.atA, x.pb] := by
  have k : ∀ q ∈ (x.pb, listOf #[] 0) :: x.own 93 pr sent p tl ta, q.1 ≠ D := fun q hq => h q (List.mem_append_left _ hq)
  have a1 := k (x.pb, _) (.head _)
  have a2 := k (x.lex, _) (.tail _ (.head _))
  have a3 := k (x.lexd, _) (.tail _ (.tail _ (.head _)))
  have a4 := k (x.st, _) (.tail _ (.tail _ (.tail _ (.head _))))
  have a5 := k (x.std, _) (.tail _ (.tail _ (.tail _ (.tail _ (.head _)))))
  have a6 := k (x.atA, _) (.tail _ (.tail _ (.tail _ (.tail _ (.tail _ (.head _))))))
  simp only [List.mem_cons, List.not_mem_nil, or_false, not_or]
  exact ⟨Ne.symm a2, Ne.symm a3, Ne.symm a4, Ne.symm a5, Ne.symm a6, Ne.symm a1⟩
theorem sep_two {x : Lx} {a b : Addr × Obj} {base : List (Addr × Obj)} (hS : ∀ q ∈ base, q.1 ∉ [x.lex, x.lexd, x.st, x.std, x.atA, x.pb]) (ha : a.1 ∉ [x.lex, x.lexd, x.st, x.std, x.atA, x.pb]) (hb : b.1 ∉ [x.lex, x.lexd, x.st, x.std, x.atA, x.pb]) :
    ∀ q ∈ a :: b :: base, q.1 ∉ [x.lex, x.lexd, x.st, x.std, x.atA, x.pb] := by
  intro q hq
  simp only [List.mem_cons] at hq
  rcases hq with rfl | rfl | hq
  · exact ha
  · exact hb
  · exact hS _ hq
theorem sum_size {lr : List (Str × Tok)} {tx : Str} (h : lists lr = rowsOf tx.cps.toList) : (lr.map fun q => ((dotRow q.1.cps.toList).length : Int) + 2).sum = ((quoted tx).cps.size : Int) + 2 := by
  have e := sent_size tx
  rw [← h] at e
  have k : ∀ l : List (Str × Tok), (l.map fun q => ((dotRow q.1.cps.toList).length : Int) + 2).sum = ((((lists l).map fun p => (dotRow p).length + 2).sum : Nat) : Int) := by
    intro l
    induction l with
    | nil => rfl
    | cons q l ih =>
      show (((dotRow q.1.cps.toList).length : Int) + 2) + (l.map fun q => ((dotRow q.1.cps.toList).length : Int) + 2).sum = ((((dotRow q.1.cps.toList).length + 2) + ((lists l).map fun p => (dotRow p).length + 2).sum : Nat) : Int)
      rw [ih]
      omega
  rw [k]
  omega
theorem nodot_len {q : Str} (h : (Txt.slice q none (some 1) == Str.ofString ".") = false) : ((dotRow q.cps.toList).length : Int) + 2 = ((q.length : Nat) : Int) + 2 := by
  have e := congrArg Str.length (dot_no h)
  rw [e, len_list, dotS_list]
theorem end_line {tx : Str} {lr : List (Str × Tok)} (h : lr.length = (rowsOf tx.cps.toList).length) : lnAt (quoted tx) (quoted tx).cps.size = (lr.length : Int) := by
  have e := sent_count tx
  unfold lnAt
  rw [List.take_of_length_le (by simp)]
  omega
theorem led2_last {d a b : Addr × Obj} {A B : List (Addr × Obj)} : ∀ q ∈ A ++ (a :: b :: B), q ∈ d :: a :: b :: (A ++ B) := by
  intro q hq
  simp only [List.mem_append, List.mem_cons] at hq ⊢
  rcases hq with h | h | h | h <;> simp [h]
theorem dot_len2 {q : Str} (h : (Txt.slice q none (some 1) == Str.ofString ".") = true) : ((dotRow q.cps.toList).length : Int) + 2 = (((Str.ofString "." ++ q).length : Nat) : Int) + 2 := by
  have e := congrArg Str.length (dot_yes h)
  rw [e, len_list, dotS_list]
theorem big_no {n : Nat} (h : n ≤ 3001) : ¬ (n : Int) ≥ 2 ^ 63 := by omega
theorem law02 : PySem.Challenge.rw_ny0034_02.Holds := hd02 (by
  w_top off
  k_go0
  rename World => w0; rename Shared => sA
  walk_at "go"
  rename Fr _ _ _ _ => F1; rename News _ _ _ _ => N1; rename Below _ _ _ _ => B1; rename Frag.In _ _ => X1; rename Top topProg _ _ _ _ _ => T1; rename IntsAre _ _ => hI1; rename ¬ _ < _ => hn1; rename 134 < _ => l0
  refine (figures02 _ _ _ _ _ _ _ _ _ hI1 (by omega)).call0 B1 F1 X1 N1 T1 rfl (fun g hst _ => isList_stays lifted hst) (by ktr_room) (by ktr_units) ?_
  rintro v own' h2 tk2 ⟨FD, lf, nf, rfl, rfl, hlf, hf16⟩ H2 F2 N2
  clear F1 N1
  (try simp only [List.cons_append, List.nil_append] at N2)
  dsimp only
  walk_at "go"
  rename Fr _ _ _ _ => F1; rename News _ _ _ _ => N1
  refine (words02 _ _ _ _ _ _ FD lf hlf hf16).call0 B1 F1 X1 N1 T1 rfl (fun g _ hr => ⟨_, hr (FD, natsO lf nf) (by k_mem), rfl, _, rfl⟩) (by ktr_room) (by ktr_units) ?_
  rintro v own' h3 tk3 ⟨T, M, W, lm, lw, nm, nw, rfl, rfl, hlen, hne, hl11, hm3, hfl⟩ H3 F3 N3
  clear F1 N1
  (try simp only [List.cons_append, List.nil_append] at N3)
  have hM1 := H3 _ (.tail _ (.head _)) _ (.tail _ (.head _))
  have hM2 := H3 _ (.tail _ (.head _)) _ (.tail _ (.tail _ (.head _)))
  have hW1 := H3 _ (.tail _ (.tail _ (.head _))) _ (.tail _ (.head _))
  have hW2 := H3 _ (.tail _ (.tail _ (.head _))) _ (.tail _ (.tail _ (.head _)))
  have hL2 := Nat.lt_succ_of_lt l0
  dsimp only at hM1 hM2 hW1 hW2
  dsimp only
  walk_at "go"
  refine wpAny_mono (?_ : wpAny _ _ _ _ (fun _ _ => False) _) (fun _ _ h => h) (fun _ _ h => h.elim)
  refine wpAny_For ?_
  walk_at "go"
  rename Fr _ _ _ _ => F4; rename News _ _ _ _ => N4
  refine LSm.sum_ints F4 N4 rfl ⟨_, (N4 (FD, natsO lf nf) (by k_mem)).1, rfl, _, rfl⟩ (nats_ints lf) ?_
  intro h5 tk5 t5 F5 N5
  clear F4 N4
  generalize hsum : (lf.map fun q => (q.1 : Int)).sum = sm
  walk_at "go"
  rename Fr _ _ _ _ => F6; rename News _ _ _ _ => N6
  rename IsRange _ _ _ _ _ _ _ _ => hRg
  have hr0 : 0 ≤ sm.fmod 3 := by rw [Int.fmod_eq_emod_of_nonneg _ (by decide)]; exact Int.emod_nonneg _ (by decide)
  have hr1 : sm.fmod 3 < 3 := by rw [Int.fmod_eq_emod_of_nonneg _ (by decide)]; exact Int.emod_lt_of_pos _ (by decide)
  refine riter1_K F6 N6 hRg (by omega) (by omega) ?_
  intro it h7 F7 N7 l7
  have lM := l7 (M, natsO lm nm) (by k_mem)
  have lW := l7 (W, strsO lw nw) (by k_mem)
  have lL : (_ + 1 : Nat) < it := l7 (_ + 1, _) (by k_mem)
  have l134 := l7 (134, tabObj #[]) (by k_mem)
  dsimp only at lM lW l134
  (try clear F6); (try clear N6); (try clear F5); (try clear N5)
  dsimp only
  have hw10 := word_le hfl
  obtain ⟨H, hH⟩ : ∃ H : Nat, 2 + sm.fmod 3 - 1 = (H : Int) := ⟨(2 + sm.fmod 3 - 1).toNat, by omega⟩
  have hH3 : H ≤ 3 := by omega
  rw [hH, show (H : Int) = (H : Int) - ((0 : Nat) : Int) by omega] at N7
  have hMn : lw.length ≤ 11 := by omega
  have hml : (nats lm).length = (lists lw).length := by simpa using hlen
  refine for_inv (LawI2 _ _ _ it M W H lm nm lw nw) ?_ _ ⟨0, W, lw, nw, [], _, _, _, #[], [], _, _, rfl, canon3 F7 _ _ _ rfl rfl rfl, cb_drop N7 (by kcj_all), .head _, Nat.zero_le _, .inl ⟨rfl, rfl⟩, (by assumption), (fun _ h => nomatch h), (fun _ h => nomatch h), told0 _ _ _ hml, (fun q hq => by have := hw10 q hq; omega), rfl⟩
  clear F7 N7
  rintro n s' ⟨i, TD, ld, nd, tdl, u, h, tks, tb, cd, oL, vL, rfl, Fh, Nh, hTD, hi, htb, hoL, hcd, hcL, hT, hB, rfl⟩
  refine rnext_K rfl Fh Nh ?ne ?_ ?_
  case ne =>
    intro p hp
    simp only [List.mem_cons] at hp
    rcases hp with rfl | rfl | rfl | rfl | hp
    · exact Nat.ne_of_lt lM
    · exact Nat.ne_of_lt lW
    · exact Nat.ne_of_lt lL
    · exact Nat.ne_of_lt l134
    · exact hcd _ hp
  · intro hlt h8 t8 tk8 F8 N8
    have hlt2 : i < H := by omega
    rw [show ((i + 1 : Nat) : Int) + 1 = ((i + 1 + 1 : Nat) : Int) by omega, show (H : Int) - i - 1 = (H : Int) - ((i + 1 : Nat) : Int) by omega] at N8
    dsimp only
    walk1
    (try dsimp only)
    refine wpAny_execs_cons ?_
    refine wpAny_upO 0 (Nat.zero_le _) ?_
    walk_at "go"
    rename Fr _ _ _ _ => F9; rename News _ _ _ _ => N9
    have hll : lm.length = ld.length := by
      have := told_len _ _ _ _ _ hT
      simp at this
      omega
    refine (written02 _ _ _ _ _ _ M TD lm ld hll (by omega) hm3 hB).call0 B1 F9 X1 N9 T1 rfl (fun g _ hr => ⟨⟨_, hr (M, natsO lm nm) (by k_mem), rfl, _, rfl⟩, ⟨_, hr (TD, strsO ld nd) (mem_told hTD), rfl, _, rfl⟩⟩) (by ktr_room) (by ktr_units) ?_
    rintro v own' h10 tk10 ⟨rfl, tx, ttx, rfl, htx⟩ H10 F10 N10
    clear F9 N9
    rw [List.nil_append] at N10
    have N11 : News _ _ _ _ := cb_drop N10 (mem_drop (cd := cd) (tdl := tdl))
    clear N10 H10
    have hlx : tx.length ≤ 11 * 203 := by
      have := written_len (nats lm) (lists ld) (by
        intro y hy
        obtain ⟨q, hq, rfl⟩ := List.mem_map.mp hy
        have := hB q hq
        rw [len_list] at this
        exact this)
      rw [← htx, ← len_list] at this
      simp only [List.length_map] at this
      have h2 : ld.length * 203 ≤ 11 * 203 := Nat.mul_le_mul_right _ (by omega)
      omega
    have hqs : (quoted tx).cps.size ≤ 1000000 := by
      have a1 := dotsS_size (crlfS tx)
      have a2 := crlfS_size tx
      have a3 : tx.cps.size ≤ 11 * 203 := hlx
      show (dotsS (crlfS tx)).cps.size ≤ 1000000
      omega
    dsimp only
    walk_at "go"
    unfold TokGe
    intro _
    dsimp only
    refine wpAny_execs_cons ?_
    refine wpAny_upO 0 (Nat.zero_le _) ?_
    walk_at "go"
    unfold TokGe
    intro _
    dsimp only
    refine wpAny_execs_cons ?_
    (rename Fr _ _ _ _ => F14); (rename News _ _ _ _ => N14)
    rename sA.heap.objs.size + 1 < _ => hCAt; rename AllLt _ _ => lcd
    refine mid2_use N14 T1 tx ttx t8 ?st ?rest
    case st =>
      walk_at "go"
      rename Fr _ _ _ _ => F9; rename News _ _ _ _ => N9
      refine (quotedata02 _ _ _ _ _ _ tx ttx (by show tx.length ≤ 20000; omega)).call0 B1 F9 X1 N9 T1 rfl (fun _ _ _ => trivial) (by ktr_room) (by ktr_units) ?_
      rintro v own' h10 tk10 ⟨rfl, tq, rfl⟩ H10 F10 N10
      clear F9 N9
      rw [List.nil_append] at N10
      dsimp only
      rcases htb with ⟨rfl, rfl⟩ | ⟨c', oc, vs, tv, rfl, rfl, hoc, hvs⟩
      · walk_at "go"
        walk_at "go2"
        (rename Fr _ _ _ _ => F15); (rename News _ _ _ _ => N15)
        exact pack02 _ _ _ _ _ _ F15 N15 rfl rfl rfl rfl rfl (by k_mem) (by k_mem) (by k_mem) (by k_mem) (by k_mem) (by rfl) (by rfl) (by k_mem) (by k_mem) (by k_mem) (by k_mem) (by k_mem) (by k_mem) (by k_mem) (by k_mem) (by k_mem) (by k_mem) (by exact ⟨_, _, _, _, _, _, _, rfl⟩) (by assumption) (by assumption) (by assumption) (by assumption) (by assumption) hqs ⟨by omega, by omega, by omega, by omega, by omega, by omega, by omega, by omega, by omega, by omega, by omega, hCAt, by omega⟩ (by omega) (by omega) (by omega)
      · have hci : (@Ne Nat c' it) := hcd _ (.head _)
        have hcl : _ := hcL (c', oc) (.head _)
        have hca := lcd.1
        walk_at "go"
        walk_at "go2"
        (rename Fr _ _ _ _ => F15); (rename News _ _ _ _ => N15)
        exact pack02 _ _ _ _ _ _ F15 N15 rfl rfl rfl rfl rfl (by k_mem) (by k_mem) (by k_mem) (by k_mem) (by k_mem) (by rfl) (by rfl) (by k_mem) (by k_mem) (by k_mem) (by k_mem) (by k_mem) (by k_mem) (by k_mem) (by k_mem) (by k_mem) (by k_mem) (by exact ⟨_, _, _, _, _, _, _, rfl⟩) hoc hvs (by assumption) (by assumption) (by assumption) hqs ⟨by omega, by omega, by omega, by omega, by omega, by omega, by omega, by omega, by omega, by omega, by omega, hCAt, by omega⟩ (.inl hca) hci hcl
    case rest =>
      clear F14 N14 hCAt
      (try clear Fh); (try clear Nh); (try clear F8); (try clear N8); (try clear F10); (try clear N11)
      rintro f s' ⟨rfl, x, rd, tl, ta, u, h, tks, c', oc, vs, tv, oL, rfl, Fh, Nh, hoL2, hws, hoc, hvs, hfn, hR2, hnd, hsep, hsP, hci, hcl⟩
      have hS2 := base2_sep (H := H) (i := i) (lm := lm) (nm := nm) (lw := lw) (nw := nw) (oL := oL) (oc := oc) hsep hsP
      have hitl : (itemsL none (nats lm) (lists ld)).length = lw.length := by
        rw [items_len _ _ _ (by simpa using hll)]
        have := told_len _ _ _ _ _ hT
        simpa using this
      have hsent := quoted_sent tx (nats lm) (lists ld) (by simpa using hll) (by simpa using hm3) htx
      have hok := items_ok (nats lm) (lists ld) none (by simpa using hm3)
      have hTn := told_due _ _ _ _ _ hT
      have hdl := items_due (nats lm) (lists ld) none
      rw [hTn.1] at hdl
      have hwsL : x.ws.cps.toList = ws4 := by rw [hws]; decide +kernel
      generalize itemsL none (nats lm) (lists ld) = items at hitl hsent hok hdl
      dsimp only
      refine wpAny_execs_cons ?_
      refine LCg.Assign_ListComp_U (F₀ := Fh) (by rfl) (by with_unfolding_all rfl) (by with_unfolding_all rfl) (by decide) (by rfl) (by decide) (by rfl) (by rfl) (by rfl) ?_
      walk_at "go"
      refine LCg.CompSrc.ledger (by rfl) Fh Nh (List.mem_append_right _ (.tail _ (.tail _ (.head _)))) (by rw [PySem.sizeLine_eq]; simp [strValues]; omega) ?_
      intro g6
      refine strs_restJ (JJ x w0.params (quoted tx) (base2 sA.heap.objs.size it M W c' H i lm nm lw nw oL oc rd) items) ?turn ?hS ?fin
      case hS => exact ⟨0, tl, ta, [], rfl, rfl, rfl, Nat.zero_le _, [], (fun _ h => nomatch h), by rw [List.drop_zero, List.drop_zero, hsent]; rfl⟩
      case turn =>
        intro k hk q t I oI C oC D m₂ ys news h tk E' hJ hC hx F N off ne
        obtain ⟨p, tl, ta, l2, rfl, rfl, hl2, hp, hA⟩ := hJ
        clear Fh Nh
        obtain ⟨oI1, oC1, oD1⟩ := off3_own off
        have hS3 := sep_three (a := (I, oI)) (b := (C, oC)) (c := (D, LCg.lst (strValues l2))) hS2 oI1 oC1 oD1
        simp only [Lx.own, List.cons_append, List.nil_append] at N
        walk_at "go"
        dsimp only
        have N2 := cb_drop N (led2_in (A := (x.pb, listOf #[] 0) :: x.own 93 w0.params (quoted tx) p tl ta) (B := base2 sA.heap.objs.size it M W c' H i lm nm lw nw oL oc rd))
        refine (token02 _ _ _ _ _ _ (quoted tx) x rd hfn hR2 hnd p hp (by omega) ta tl 0).call _ B1 F X1 N2 (fun q hq => hq) (sep2b hS3) T1 rfl (fun g _ hr z hz => hr z (.tail _ (.tail _ (.tail _ (.tail _ (.tail _ (.tail _ (.tail _ (.tail _ (.tail _ hz)))))))))) (by ktr_room) (by ktr_units) ?_
        rintro v own' h22 tk22 ⟨t1, ta', tl', rfl, rfl⟩ H22 F22 N22
        obtain ⟨p', hp'⟩ : ∃ p', p' = (quoted tx).cps.size - (tok x.ws.cps.toList ((quoted tx).cps.toList.drop p)).2.length := ⟨_, rfl⟩
        obtain ⟨f1, _, f3, _⟩ := tok_place hp hp'
        rw [← hp'] at N22
        rw [hwsL] at f3
        have hk' : k < items.length := by omega
        obtain ⟨g1, g2⟩ := ahead_step hok hk' hA
        rw [← f3] at g2
        (try k_unfold)
        (try dsimp only)
        (show CompTurnJ _ _ _ _ _ _ _ _ _ _ _ _ _ _ _)
        refine ⟨h22, tk22, led2 x w0.params (quoted tx) p' tl' ta' _, rfl, F22, cb_drop N22 led2_out, led2_off off, .inr ⟨_, List.mem_append_right _ (.tail _ (.tail _ (.head _))), rfl, _, rfl⟩, p', tl', ta', l2 ++ [((⟨(tok x.ws.cps.toList ((quoted tx).cps.toList.drop p)).1.toArray⟩ : Str), t1)], rfl, ?_, ?_, f1, g2⟩
        · simp [strValues]
        · rw [hwsL, g1, take_one_more hk', ← hl2]; simp [lists]
      case fin =>
        rintro ys news ⟨p, tl, ta, l2, rfl, rfl, hl2, hp, hA⟩
        unfold LCg.FinA
        intro TD2 h8 tk8 F8 N8 off8
        clear Fh Nh
        rw [← hitl, List.take_of_length_le (by simp), hdl] at hl2
        rw [← hitl] at hA
        dsimp only
        simp only [Lx.own, List.cons_append, List.nil_append] at N8
        walk_at "go"
        refine (due02 _ _ _ _ _ _ M W lm lw hlen (by omega) (fun q hq => by have := hw10 q hq; omega) (i + 1) (by omega) t8).call0 B1 F8 X1 N8 T1 rfl (fun g _ hr => ⟨⟨_, hr (M, natsO lm nm) (by k_mem), rfl, _, rfl⟩, ⟨_, hr (W, strsO lw nw) (by k_mem), rfl, _, rfl⟩⟩) (by ktr_room) (by ktr_units) ?_
        rintro v own' h23 tk23 ⟨DD, l3, n3, rfl, rfl, hl3⟩ H23 F23 N23
        clear F8
        (try simp only [List.cons_append, List.nil_append] at N23)
        dsimp only
        have F24 := canon6 F23 (Str.ofString "told") (Str.ofString "at") (Str.ofString "text") (Str.ofString "words") (Str.ofString "manners") (Str.ofString "hop") rfl rfl rfl rfl rfl rfl
        have hTDo := off1_all off8
        clear F23 H23 off8
        walk_at "go"
        refine strs_ne ⟨_, (N23 (TD2, LCg.lst (strValues l2)) (.tail _ (.head _))).1, rfl, _, rfl⟩ ⟨_, (N23 _ (.head _)).1, rfl, _, rfl⟩ (by ktr_units) ?_
        have e23 : l2.map (·.1) = l3.map (·.1) := lists_inj (by rw [hl2, hl3])
        rw [decide_eq_true e23]
        simp only [Bool.not_true]
        walk_at "go"
        refine (rows02 _ _ _ _ _ _ tx ttx (by omega)).call0 B1 F24 X1 (cb_drop N23 (fun q hq => .tail _ hq)) T1 rfl (fun _ _ _ => trivial) (by ktr_room) (by ktr_units) ?_
        rintro v own' h25 tk25 ⟨RD, lr, rfl, rfl, hlr⟩ H25 F25 N25
        (try simp only [List.cons_append, List.nil_append] at N25)
        have hRDo : ∀ q ∈ led2 x w0.params (quoted tx) p tl ta (base2 sA.heap.objs.size it M W c' H i lm nm lw nw oL oc rd), q.1 ≠ RD := fun q hq => Ne.symm (H25 _ (.head _) q (.tail _ hq))
        clear F24 N23 N8 H25
        have hlrl : lr.length = (rowsOf tx.cps.toList).length := by rw [← hlr]; simp
        have hlr6 : lr.length ≤ 3000 := by
          have := rows_cnt tx.cps.toList
          rw [← len_list] at this
          omega
        have hlr1 : lr.length ≤ 1000000 := by omega
        have hlrq : ∀ q ∈ lr, q.1.length ≤ 3000 := fun q hq => by
          have := rows_each tx.cps.toList q.1.cps.toList (by rw [← hlr]; exact List.mem_map_of_mem hq)
          rw [← len_list, ← len_list] at this
          omega
        dsimp only
        walk_at "go"
        rename Fr _ _ _ _ => F26; rename News _ _ _ _ => N26
        refine LCg.ListComp_U (F₀ := F26) (by with_unfolding_all rfl) (by decide) (by rfl) (by decide) (by rfl) ?_
        walk_at "go"
        refine LCg.CompSrc.ledger (by rfl) F26 N26 (.head _) (by rw [PySem.sizeLine_eq]; simp [strValues]; omega) ?_
        intro g27
        refine strs_restH (fun q => .int (((dotRow q.cps.toList).length : Int) + 2)) ?turn3 (.inr ⟨_, .head _, rfl, _, rfl⟩) ?fin3
        case turn3 =>
          intro q t I oI C oC D m₂ ys h tk E' hm hC hx F N off ne
          have hq2 : q.length ≤ 3000 := hlrq _ hm
          clear F26 N26
          walk_at "gol"
          · (rename Fr _ _ _ _ => F28); (rename News _ _ _ _ => N28); (rename (_ == _) = _ => hd1)
            have hdl := dot_len2 hd1
            refine PySem.P.len_str (big_no (show (Str.ofString "." ++ q).length ≤ 3001 from by rw [len_app, show (Str.ofString ".").length = 1 by decide +kernel]; exact Nat.add_comm 1 _ ▸ Nat.succ_le_succ hq2)) ?_
            walk_at "gol"
            exact ⟨by rw [hdl]; exact .int _ _, _, _, rfl, F28, N28⟩
          · (rename Fr _ _ _ _ => F28); (rename News _ _ _ _ => N28); (rename (_ == _) = _ => hd1)
            refine PySem.P.len_str (big_no (Nat.le_succ_of_le hq2)) ?_
            walk_at "gol"
            exact ⟨by rw [nodot_len hd1]; exact .int _ _, _, _, rfl, F28, N28⟩
        case fin3 =>
          intro ys hys D2 h27 tk27 F27 N27 off27
          clear F26 N26
          dsimp only
          iterate 1 walk1
          refine LSm.sum_ints F27 N27 rfl ⟨_, (N27 _ (.head _)).1, rfl, _, rfl⟩ (ints_of_carried (f := fun q => ((dotRow q.1.cps.toList).length : Int) + 2) hys) ?_
          intro h28 tk28 t28 F28 N28
          rw [sum_size hlr]
          walk_at "go"
          rename Fr _ _ _ _ => F29; rename News _ _ _ _ => N29
          dsimp only
          have F30 := canon6 F29 (Str.ofString "told") (Str.ofString "at") (Str.ofString "words") (Str.ofString "manners") (Str.ofString "size") (Str.ofString "rows") rfl rfl rfl rfl rfl rfl
          have N30 : News _ _ _ (led2 x w0.params (quoted tx) p tl ta ((RD, strsO lr 0) :: (TD2, LCg.lst (strValues l2)) :: base2 sA.heap.objs.size it M W c' H i lm nm lw nw oL oc rd)) := cb_drop N29 led2_last
          have hS4 := sep_two (a := (RD, strsO lr 0)) (b := (TD2, LCg.lst (strValues l2))) hS2 (own_free hRDo) (own_free hTDo)
          clear F29 N29
          refine (token02 _ _ _ _ _ _ (quoted tx) x rd hfn hR2 hnd p hp (by omega) ta tl 0).call _ B1 F30 X1 N30 (fun q hq => hq) (sep2b hS4) T1 rfl (fun g _ hr z hz => hr z (.tail _ (.tail _ (.tail _ (.tail _ (.tail _ (.tail _ (.tail _ (.tail _ hz))))))))) (by ktr_room) (by ktr_units) ?_
          rintro v own' h31 tk31 ⟨t1, ta', tl', rfl, rfl⟩ H31 F31 N31
          clear F30 N30 H31
          have he := ahead_end hA
          rw [hwsL, he] at N31
          rw [hwsL, he, show (⟨(([] : List Nat), ([] : List Nat)).1.toArray⟩ : Str) = Str.ofString "" from ofNil.symm]
          rw [show (quoted tx).cps.size - (([] : List Nat), ([] : List Nat)).2.length = (quoted tx).cps.size from rfl] at N31
          simp only [Lx.own, List.cons_append, List.nil_append] at N31
          rw [end_line hlrl] at N31
          dsimp only
          iterate 4 (first | walk1 | (dsimp only; walk1))
          refine at_item ⟨_, (N31 (x.atA, atO (quoted tx).cps.size ta') (by simp)).1, rfl, _, rfl⟩ ?_
          walk_at "go"
          (rename Fr _ _ _ _ => F32); (rename News _ _ _ _ => N32)
          refine trip_ne ⟨_, (N32 _ (.tail _ (.head _))).1, rfl, _, rfl⟩ ⟨_, (N32 _ (.head _)).1, rfl, _, rfl⟩ (by ktr_units) ?_
          rw [Int.add_sub_cancel]
          simp only [beq_self_eq_true, Bool.and_self, Bool.not_true]
          walk_at "go"
          (rename Fr _ _ _ _ => F33); (rename News _ _ _ _ => N33)
          have hb2 : ∀ q ∈ l2, q.1.length ≤ 100 := fun q hq => by
            rw [len_list]
            refine dueL_len (k := i + 1) (by omega) (nats lm) (lists lw) none (fun y hy => ?_) _ (by rw [← hl2]; exact List.mem_map_of_mem hq)
            obtain ⟨z, hz, rfl⟩ := List.mem_map.mp hy
            have := hw10 z hz
            rw [len_list] at this
            exact this
          have hTitr : (@Ne Nat TD2 it) := Ne.symm (hTDo (it, _) (List.mem_append_right _ (.head _)))
          refine ⟨H - (i + 1), by omega, i + 1, TD2, l2, (strValues l2).length, [(TD2, LCg.lst (strValues l2))], _, _, _, #[rawInt 94, rawInt 4, .ref c'], [(c', oc)], oL, _, rfl, canon3 F33 _ _ _ rfl rfl rfl, cb_drop N33 (by kcj_all), .tail _ (.head _), hlt2, .inr ⟨c', oc, vs, tv, rfl, rfl, hoc, hvs⟩, hoL2, ?_, ?_, by rw [hl2]; exact hTn.2, hb2, rfl⟩
          · intro q hq
            simp only [List.cons_append, List.nil_append, List.mem_cons, List.not_mem_nil, or_false] at hq
            rcases hq with rfl | rfl
            · exact hci
            · exact hTitr
          · intro q hq
            rw [List.mem_singleton.mp hq]
            exact hcl
  · intro hge h8 F8 N8
    dsimp only
    walk_at "go"
    (show GoodW _ _ _ _ _ (.ok (.ret (.bool _))) _)
    refine goodW_bool F8 (by assumption) (raisesW_false ?_) ?_
    · wrow_none_raised
    · wrow_post)
end Mine
end
open PySem PySem.W PyProof.Rows
set_option maxRecDepth 100000 in
set_option maxHeartbeats 8000000 in
theorem PySem.Challenge.cw_ny0034_02_holds : PySem.Challenge.rw_ny0034_02.Holds :=
  Mine.law02
