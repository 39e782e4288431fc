import PyProof.Rows.All
import Wide.All
import OpenK.AllK
import Wide.FinOn
import Lean
import PySem.Challenge.RW_ny0034_01
set_option Elab.async false
-- part Re1
section
open PySem PySem.W PyProof.Rows
set_option Elab.async false
set_option maxRecDepth 100000
set_option maxHeartbeats 400000
set_option linter.unusedVariables false
namespace Mine
local macro_rules | `(tactic| walk_at "pad0") => `(tactic| skip)
open PySem.Sre

theorem runFor_done {m : M} (h : m.outcome.isSome = true) : ∀ n, M.runFor n m = m
  | 0 => rfl
  | n + 1 => by simp [M.runFor, h]
theorem runFor_add (a b : Nat) (m : M) : M.runFor (a + b) m = M.runFor b (M.runFor a m) := by
  induction a generalizing m with
  | zero => simp [M.runFor]
  | succ a ih =>
    rw [show a + 1 + b = (a + b) + 1 by omega]
    by_cases h : m.outcome.isSome = true
    · rw [runFor_done h, runFor_done h, runFor_done h]
    · simp only [M.runFor, h]; exact ih _
theorem runFor_step {m : M} (h : m.outcome = none) (n : Nat) : M.runFor (n + 1) m = M.runFor n m.step := by
  simp [M.runFor, h]

/-- m goes to m' in at most k steps -/
def Goes (k : Nat) (m m' : M) : Prop := ∃ n, n ≤ k ∧ M.runFor n m = m'
theorem Goes.refl (m : M) : Goes 0 m m := ⟨0, Nat.le_refl _, rfl⟩
theorem Goes.step {k : Nat} {m m' m'' : M} (ho : m.outcome = none) (h : m.step = m') (g : Goes k m' m'') : Goes (k + 1) m m'' := by
  obtain ⟨n, hn, e⟩ := g
  exact ⟨n + 1, Nat.succ_le_succ hn, by rw [runFor_step ho, h]; exact e⟩
theorem Goes.trans {k l : Nat} {m m' m'' : M} (h : Goes k m m') (g : Goes l m' m'') : Goes (k + l) m m'' := by
  obtain ⟨n, hn, e⟩ := h
  obtain ⟨n', hn', e'⟩ := g
  exact ⟨n + n', Nat.add_le_add hn hn', by rw [runFor_add, e]; exact e'⟩
theorem Goes.mono {k l : Nat} {m m' : M} (h : Goes k m m') (hl : k ≤ l) : Goes l m m' := by
  obtain ⟨n, hn, e⟩ := h
  exact ⟨n, Nat.le_trans hn hl, e⟩

section
variable {m : M}
theorem step_run (ho : m.outcome = none) (ha : m.answer = none) (hp : m.pc < m.code.size) : m.step = m.exec := by
  unfold M.step
  rw [ho, ha]
  simp [hp]
theorem step_lit (ho : m.outcome = none) (ha : m.answer = none) (hp : m.pc < m.code.size) (hw : m.code.getD m.pc 0 = 16)
    (hl : m.pos < m.lim) (hc : m.text.getD m.pos 0 = m.code.getD (m.pc + 1) 0) :
    m.step = { m with seen := m.seen.add 16, pc := m.pc + 2, pos := m.pos + 1 } := by
  rw [step_run ho ha hp]
  unfold M.exec
  have e : m.word 0 = 16 := hw
  rw [e]
  show (if m.pos ≥ m.lim then _ else _) = _
  rw [if_neg (by omega)]
  unfold accepts itemWidth
  simp only [hw, hc]
  simp [ops]
theorem step_lit_no (ho : m.outcome = none) (ha : m.answer = none) (hp : m.pc < m.code.size) (hw : m.code.getD m.pc 0 = 16)
    (hl : m.lim ≤ m.pos ∨ m.text.getD m.pos 0 ≠ m.code.getD (m.pc + 1) 0) :
    m.step = { m with seen := m.seen.add 16, answer := some false } := by
  rw [step_run ho ha hp]
  unfold M.exec
  have e : m.word 0 = 16 := hw
  rw [e]
  show (if m.pos ≥ m.lim then _ else _) = _
  by_cases h : m.pos ≥ m.lim
  · rw [if_pos h]; rfl
  · rw [if_neg h]
    have hc := hl.resolve_left h
    have hb : (m.text.getD m.pos 0 == m.code.getD (m.pc + 1) 0) = false := by simpa using hc
    unfold accepts
    simp only [hw, hb]
    rfl
theorem step_at (ho : m.outcome = none) (ha : m.answer = none) (hp : m.pc < m.code.size) (hw : m.code.getD m.pc 0 = 6) (hk : m.code.getD (m.pc + 1) 0 = 1)
    (hc : m.pos = 0 ∨ m.text.getD (m.pos - 1) 0 = 10) : m.step = { m with seen := (m.seen.add 6).add 44, pc := m.pc + 2 } := by
  rw [step_run ho ha hp]
  unfold M.exec
  have e : m.word 0 = 6 := hw
  have e1 : m.word 1 = 1 := hk
  rw [e]
  have hb : (m.pos == 0 || m.text.getD (m.pos - 1) 0 == 10) = true := by
    rcases hc with h | h
    · rw [h]; rfl
    · rw [h]; simp
  have hi : M.isAt { m with seen := m.seen.add 6 } (M.word { m with seen := m.seen.add 6 } 1) = .ok true := by
    have : M.word { m with seen := m.seen.add 6 } 1 = 1 := hk
    rw [this]
    show Except.ok (m.pos == 0 || m.text.getD (m.pos - 1) 0 == 10) = _
    rw [hb]
  show (match M.isAt { m with seen := m.seen.add 6 } (M.word { m with seen := m.seen.add 6 } 1) with | .error why => _ | .ok yes => _) = _
  rw [hi]
  show ({ m with seen := (m.seen.add 6).add (43 + m.word 1), pc := m.pc + 2 } : M) = _
  rw [e1]
theorem step_at_no (ho : m.outcome = none) (ha : m.answer = none) (hp : m.pc < m.code.size) (hw : m.code.getD m.pc 0 = 6) (hk : m.code.getD (m.pc + 1) 0 = 1)
    (hc : ¬ (m.pos = 0 ∨ m.text.getD (m.pos - 1) 0 = 10)) : m.step = { m with seen := (m.seen.add 6).add 44, answer := some false } := by
  rw [step_run ho ha hp]
  unfold M.exec
  have e : m.word 0 = 6 := hw
  have e1 : m.word 1 = 1 := hk
  rw [e]
  have hb : (m.pos == 0 || m.text.getD (m.pos - 1) 0 == 10) = false := by
    simpa using hc
  have hi : M.isAt { m with seen := m.seen.add 6 } (M.word { m with seen := m.seen.add 6 } 1) = .ok false := by
    have : M.word { m with seen := m.seen.add 6 } 1 = 1 := hk
    rw [this]
    show Except.ok (m.pos == 0 || m.text.getD (m.pos - 1) 0 == 10) = _
    rw [hb]
  show (match M.isAt { m with seen := m.seen.add 6 } (M.word { m with seen := m.seen.add 6 } 1) with | .error why => _ | .ok yes => _) = _
  rw [hi]
  show ({ m with seen := (m.seen.add 6).add (43 + m.word 1), answer := some false } : M) = _
  rw [e1]
theorem step_jump (ho : m.outcome = none) (ha : m.answer = none) (hp : m.pc < m.code.size) (hw : m.code.getD m.pc 0 = 15) :
    m.step = { m with seen := m.seen.add 15, pc := m.pc + 1 + m.code.getD (m.pc + 1) 0 } := by
  rw [step_run ho ha hp]
  unfold M.exec
  have e : m.word 0 = 15 := hw
  rw [e]
  rfl
theorem step_success (ho : m.outcome = none) (ha : m.answer = none) (hp : m.pc < m.code.size) (hw : m.code.getD m.pc 0 = 1)
    (h1 : m.wholeText = false) (h2 : m.mustAdvance = false) : m.step = { m with seen := m.seen.add 1, handed := m.pos, answer := some true } := by
  rw [step_run ho ha hp]
  unfold M.exec
  have e : m.word 0 = 1 := hw
  rw [e]
  show (if (m.outermost && ((m.wholeText && m.pos != m.lim) || (m.mustAdvance && m.pos == m.start))) = true then _ else _) = _
  rw [h1, h2]
  simp [M.say]
def keptOf (m : M) : Sre.Kept := { lastmark := m.lastmark, lastindex := m.lastindex, whole := false, marks := #[] }
theorem step_branch (ho : m.outcome = none) (ha : m.answer = none) (hp : m.pc < m.code.size) (hw : m.code.getD m.pc 0 = 7) (hi : m.inner = none)
    (hz : (m.code.getD (m.pc + 1) 0 == 0) = false) (hg : m.weight < 1000) :
    m.step = { m with seen := m.seen.add 7, frames := { wait := .nextBranch, pc := m.pc + 1, pos := m.pos, outermost := m.outermost, kept := keptOf m } :: m.frames, weight := m.weight + 1, pc := m.pc + 2, handed := m.pos } := by
  rw [step_run ho ha hp]
  unfold M.exec
  have e : m.word 0 = 7 := hw
  rw [e]
  show M.alternative { m with seen := m.seen.add 7 } (m.pc + 1) (M.keep { m with seen := m.seen.add 7 } m.inner.isSome) = _
  rw [hi]
  unfold M.alternative
  show (if (m.code.getD (m.pc + 1) 0 == 0) = true then _ else _) = _
  rw [hz]
  simp only [Bool.false_eq_true, if_false]
  unfold M.attempt
  show (if m.weight + 1 + 0 > 16777216 then _ else _) = _
  rw [if_neg (by omega)]
  rfl
theorem step_assertNot (ho : m.outcome = none) (ha : m.answer = none) (hp : m.pc < m.code.size) (hw : m.code.getD m.pc 0 = 5) (hi : m.inner = none)
    (hz : m.code.getD (m.pc + 2) 0 = 0) (hg : m.weight < 1000) :
    m.step = { m with seen := m.seen.add 5, frames := { wait := .lookNot, pc := m.pc, pos := m.pos, outermost := m.outermost, kept := keptOf m } :: m.frames, weight := m.weight + 1, pc := m.pc + 3, handed := m.pos, outermost := false } := by
  rw [step_run ho ha hp]
  unfold M.exec
  have e : m.word 0 = 5 := hw
  rw [e]
  have e2 : M.word { m with seen := m.seen.add 5 } 2 = 0 := hz
  show (if m.pos < M.word { m with seen := m.seen.add 5 } 2 then _ else _) = _
  rw [if_neg (by rw [e2]; omega)]
  show M.attempt { m with seen := m.seen.add 5 } { M.frame { m with seen := m.seen.add 5 } .lookNot with kept := M.keep { m with seen := m.seen.add 5 } (true && m.inner.isSome) } (m.pc + 3) (m.pos - M.word { m with seen := m.seen.add 5 } 2) false = _
  rw [e2, hi]
  unfold M.attempt
  show (if m.weight + 1 + 0 > 16777216 then _ else _) = _
  rw [if_neg (by omega)]
  rfl
theorem step_back {yes : Bool} {f : Sre.Frame} {rest : List Sre.Frame} (ho : m.outcome = none) (ha : m.answer = some yes) (hf : m.frames = f :: rest) :
    m.step = M.resume { m with answer := none, frames := rest, weight := m.weight - (1 + f.kept.marks.size), pc := f.pc, pos := f.pos, outermost := f.outermost } f yes := by
  unfold M.step
  rw [ho, ha, hf]
  rfl
theorem step_end {yes : Bool} (ho : m.outcome = none) (ha : m.answer = some yes) (hf : m.frames = []) :
    m.step = { m with outcome := some (if yes then .matched else .failed) } := by
  unfold M.step
  rw [ho, ha, hf]
  rfl
end

abbrev code2 : Array Nat := #[14, 9, 4, 1, 2, 16, 10, 16, 13, 0, 7, 7, 16, 13, 16, 10, 15, 18, 5, 16, 10, 15, 13, 11, 16, 13, 5, 5, 0, 16, 10, 1, 15, 2, 0, 1]
abbrev code1 : Array Nat := #[14, 4, 0, 1, 1, 6, 1, 16, 46, 1]

/-- a state of the search: no group, no loop, nothing that must advance -/
def S (code text : Array Nat) (lim st ls pc pos handed : Nat) (out : Bool) (frames : List Sre.Frame) (weight : Nat) (ans : Option Bool) (seen : Sre.Seen) : M :=
  { code, text, lim, start := st, lastStart := ls, pc, pos, handed, outermost := out, marks := #[], frames, weight, answer := ans, seen }
def K0 : Sre.Kept := { lastmark := -1, lastindex := -1, whole := false, marks := #[] }
abbrev fStart (pc pos : Nat) (out : Bool) : Sre.Frame := { wait := .nextStart, pc, pos, outermost := out }
abbrev fBranch (pc pos : Nat) (out : Bool) : Sre.Frame := { wait := .nextBranch, pc, pos, outermost := out, kept := K0 }
abbrev fNot (pc pos : Nat) (out : Bool) : Sre.Frame := { wait := .lookNot, pc, pos, outermost := out, kept := K0 }
section
variable {code text : Array Nat} {lim st ls pc pos handed weight : Nat} {out : Bool} {frames : List Sre.Frame} {seen : Sre.Seen}
theorem S_lit (hp : pc < code.size) (hw : code.getD pc 0 = 16) (hl : pos < lim) (hc : text.getD pos 0 = code.getD (pc + 1) 0) :
    (S code text lim st ls pc pos handed out frames weight none seen).step = S code text lim st ls (pc + 2) (pos + 1) handed out frames weight none (seen.add 16) :=
  step_lit rfl rfl hp hw hl hc
theorem S_lit_no (hp : pc < code.size) (hw : code.getD pc 0 = 16) (hl : lim ≤ pos ∨ text.getD pos 0 ≠ code.getD (pc + 1) 0) :
    (S code text lim st ls pc pos handed out frames weight none seen).step = S code text lim st ls pc pos handed out frames weight (some false) (seen.add 16) :=
  step_lit_no rfl rfl hp hw hl
theorem S_at (hp : pc < code.size) (hw : code.getD pc 0 = 6) (hk : code.getD (pc + 1) 0 = 1) (hc : pos = 0 ∨ text.getD (pos - 1) 0 = 10) :
    (S code text lim st ls pc pos handed out frames weight none seen).step = S code text lim st ls (pc + 2) pos handed out frames weight none ((seen.add 6).add 44) :=
  step_at rfl rfl hp hw hk hc
theorem S_at_no (hp : pc < code.size) (hw : code.getD pc 0 = 6) (hk : code.getD (pc + 1) 0 = 1) (hc : ¬ (pos = 0 ∨ text.getD (pos - 1) 0 = 10)) :
    (S code text lim st ls pc pos handed out frames weight none seen).step = S code text lim st ls pc pos handed out frames weight (some false) ((seen.add 6).add 44) :=
  step_at_no rfl rfl hp hw hk hc
theorem S_jump (hp : pc < code.size) (hw : code.getD pc 0 = 15) :
    (S code text lim st ls pc pos handed out frames weight none seen).step = S code text lim st ls (pc + 1 + code.getD (pc + 1) 0) pos handed out frames weight none (seen.add 15) :=
  step_jump rfl rfl hp hw
theorem S_success (hp : pc < code.size) (hw : code.getD pc 0 = 1) :
    (S code text lim st ls pc pos handed out frames weight none seen).step = S code text lim st ls pc pos pos out frames weight (some true) (seen.add 1) :=
  step_success rfl rfl hp hw rfl rfl
theorem S_branch (hp : pc < code.size) (hw : code.getD pc 0 = 7) (hz : (code.getD (pc + 1) 0 == 0) = false) (hg : weight < 1000) :
    (S code text lim st ls pc pos handed out frames weight none seen).step = S code text lim st ls (pc + 2) pos pos out (fBranch (pc + 1) pos out :: frames) (weight + 1) none (seen.add 7) :=
  step_branch rfl rfl hp hw rfl hz hg
theorem S_assertNot (hp : pc < code.size) (hw : code.getD pc 0 = 5) (hz : code.getD (pc + 2) 0 = 0) (hg : weight < 1000) :
    (S code text lim st ls pc pos handed out frames weight none seen).step = S code text lim st ls (pc + 3) pos pos false (fNot pc pos out :: frames) (weight + 1) none (seen.add 5) :=
  step_assertNot rfl rfl hp hw rfl hz hg
theorem S_end {yes : Bool} : (S code text lim st ls pc pos handed out [] weight (some yes) seen).step = { S code text lim st ls pc pos handed out [] weight (some yes) seen with outcome := some (if yes then .matched else .failed) } :=
  step_end rfl rfl rfl
theorem S_start_yes {q p0 : Nat} {o : Bool} : (S code text lim st ls pc pos handed out (fStart q p0 o :: frames) (weight + 1) (some true) seen).step = S code text lim st ls q p0 handed o frames weight (some true) seen := by
  rw [step_back rfl rfl rfl]
  show S code text lim st ls q p0 handed o frames (weight + 1 - (1 + 0)) (some true) seen = _
  rw [show weight + 1 - (1 + 0) = weight by omega]
theorem S_branch_yes {q p0 : Nat} {o : Bool} : (S code text lim st ls pc pos handed out (fBranch q p0 o :: frames) (weight + 1) (some true) seen).step = S code text lim st ls q p0 handed o frames weight (some true) seen := by
  rw [step_back rfl rfl rfl]
  show S code text lim st ls q p0 handed o frames (weight + 1 - (1 + 0)) (some true) seen = _
  rw [show weight + 1 - (1 + 0) = weight by omega]
theorem S_branch_no {q p0 : Nat} {o : Bool} (hz : (code.getD (q + code.getD q 0) 0 == 0) = false) (hg : weight < 1000) :
    (S code text lim st ls pc pos handed out (fBranch q p0 o :: frames) (weight + 1) (some false) seen).step =
      S code text lim st ls (q + code.getD q 0 + 1) p0 p0 o (fBranch (q + code.getD q 0) p0 o :: frames) (weight + 1) none seen := by
  rw [step_back rfl rfl rfl]
  show M.alternative (S code text lim st ls q p0 handed o frames (weight + 1 - (1 + 0)) none seen) (q + code.getD q 0) K0 = _
  rw [show weight + 1 - (1 + 0) = weight by omega]
  unfold M.alternative
  show (if (code.getD (q + code.getD q 0) 0 == 0) = true then _ else _) = _
  rw [hz]
  simp only [Bool.false_eq_true, if_false]
  unfold M.attempt
  show (if weight + 1 + 0 > 16777216 then _ else _) = _
  rw [if_neg (by omega)]
  rfl
theorem S_not_no {q p0 : Nat} {o : Bool} : (S code text lim st ls pc pos handed out (fNot q p0 o :: frames) (weight + 1) (some false) seen).step = S code text lim st ls (q + 1 + code.getD (q + 1) 0) p0 handed o frames weight none seen := by
  rw [step_back rfl rfl rfl]
  show S code text lim st ls (q + 1 + code.getD (q + 1) 0) p0 handed o frames (weight + 1 - (1 + 0)) none seen = _
  rw [show weight + 1 - (1 + 0) = weight by omega]
end

section
variable {text : Array Nat} {lim s ls h : Nat} {out : Bool} {seen : Sre.Seen} {st : Nat}
/-- ahead of an attempt of the second pattern at s -/
def m2 (text : Array Nat) (lim s ls : Nat) (out : Bool) (h : Nat) (seen : Sre.Seen) : M := S code2 text lim s ls 10 s h out [fStart 10 s out] 1 none seen

theorem m2_lf (hs : s < lim) (hc : text.getD s 0 = 10) :
    ∃ m, Goes 20 (m2 text lim s ls out h seen) m ∧ m.outcome = some .matched ∧ m.start = s ∧ m.handed = s + 1 := by
  refine ⟨?m, Goes.mono (k := 9) ?g (by omega), ?h⟩
  case g =>
    refine Goes.step rfl (S_branch (by decide) rfl rfl (by omega)) ?_
    refine Goes.step rfl (S_lit_no (by decide) rfl (.inr (by show text.getD s 0 ≠ 13; omega))) ?_
    refine Goes.step rfl (S_branch_no rfl (by omega)) ?_
    refine Goes.step rfl (S_lit (by decide) rfl hs hc) ?_
    refine Goes.step rfl (S_jump (by decide) rfl) ?_
    refine Goes.step rfl (S_success (by decide) rfl) ?_
    refine Goes.step rfl S_branch_yes ?_
    refine Goes.step rfl S_start_yes ?_
    refine Goes.step rfl S_end ?_
    exact Goes.refl _
  case h => exact ⟨rfl, rfl, rfl⟩
theorem m2_crlf (hs : s < lim) (hc : text.getD s 0 = 13) (hs1 : s + 1 < lim) (hc1 : text.getD (s + 1) 0 = 10) :
    ∃ m, Goes 20 (m2 text lim s ls out h seen) m ∧ m.outcome = some .matched ∧ m.start = s ∧ m.handed = s + 2 := by
  refine ⟨?m, Goes.mono (k := 8) ?g (by omega), ?h⟩
  case g =>
    refine Goes.step rfl (S_branch (by decide) rfl rfl (by omega)) ?_
    refine Goes.step rfl (S_lit (by decide) rfl hs hc) ?_
    refine Goes.step rfl (S_lit (by decide) rfl hs1 hc1) ?_
    refine Goes.step rfl (S_jump (by decide) rfl) ?_
    refine Goes.step rfl (S_success (by decide) rfl) ?_
    refine Goes.step rfl S_branch_yes ?_
    refine Goes.step rfl S_start_yes ?_
    refine Goes.step rfl S_end ?_
    exact Goes.refl _
  case h => exact ⟨rfl, rfl, rfl⟩
theorem m2_cr (hs : s < lim) (hc : text.getD s 0 = 13) (hn : lim ≤ s + 1 ∨ text.getD (s + 1) 0 ≠ 10) :
    ∃ m, Goes 20 (m2 text lim s ls out h seen) m ∧ m.outcome = some .matched ∧ m.start = s ∧ m.handed = s + 1 := by
  refine ⟨?m, Goes.mono (k := 15) ?g (by omega), ?h⟩
  case g =>
    refine Goes.step rfl (S_branch (by decide) rfl rfl (by omega)) ?_
    refine Goes.step rfl (S_lit (by decide) rfl hs hc) ?_
    refine Goes.step rfl (S_lit_no (by decide) rfl hn) ?_
    refine Goes.step rfl (S_branch_no rfl (by omega)) ?_
    refine Goes.step rfl (S_lit_no (by decide) rfl (.inr (by show text.getD s 0 ≠ 10; omega))) ?_
    refine Goes.step rfl (S_branch_no rfl (by omega)) ?_
    refine Goes.step rfl (S_lit (by decide) rfl hs hc) ?_
    refine Goes.step rfl (S_assertNot (by decide) rfl rfl (by omega)) ?_
    refine Goes.step rfl (S_lit_no (by decide) rfl hn) ?_
    refine Goes.step rfl S_not_no ?_
    refine Goes.step rfl (S_jump (by decide) rfl) ?_
    refine Goes.step rfl (S_success (by decide) rfl) ?_
    refine Goes.step rfl S_branch_yes ?_
    refine Goes.step rfl S_start_yes ?_
    refine Goes.step rfl S_end ?_
    exact Goes.refl _
  case h => exact ⟨rfl, rfl, rfl⟩

abbrev is2 (c : Nat) : Prop := c = 10 ∨ c = 13

theorem inSet2_yes {c : Nat} {seen : Sre.Seen} (h : is2 c) : ∃ seen', inSet code2 c 36 5 true seen = .ok (true, seen') := by
  rcases h with rfl | rfl
  · exact ⟨_, rfl⟩
  · exact ⟨_, rfl⟩
theorem inSet2_no {c : Nat} {seen : Sre.Seen} (h : ¬ is2 c) : ∃ seen', inSet code2 c 36 5 true seen = .ok (false, seen') := by
  unfold is2 at h
  have h1 : (c == 10) = false := by simp; omega
  have h2 : (c == 13) = false := by simp; omega
  refine ⟨((seen.add 16).add 16).add 0, ?_⟩
  show (if (c == 10) = true then _ else (if (c == 13) = true then _ else _)) = _
  rw [h1, h2]
  rfl
theorem admitted_some (m : M) (hm : m.code = code2) (k : Nat) : ∀ (fuel p : Nat) (seen : Sre.Seen), p + k < m.lim → k < fuel → (∀ i, p ≤ i → i < p + k → ¬ is2 (m.text.getD i 0)) → is2 (m.text.getD (p + k) 0) →
    ∃ seen', m.admitted fuel p seen = .ok (some (p + k), seen') := by
  induction k with
  | zero =>
    intro fuel p seen hl hf _ hy
    obtain ⟨fuel, rfl⟩ : ∃ f, fuel = f + 1 := ⟨fuel - 1, by omega⟩
    obtain ⟨seen', e⟩ := inSet2_yes (seen := seen) hy
    refine ⟨seen', ?_⟩
    unfold M.admitted
    rw [if_neg (by omega), hm]
    have e' : inSet code2 (m.text.getD p 0) code2.size 5 true seen = .ok (true, seen') := e
    rw [e']
    rfl
  | succ k ih =>
    intro fuel p seen hl hf hn hy
    obtain ⟨fuel, rfl⟩ : ∃ f, fuel = f + 1 := ⟨fuel - 1, by omega⟩
    obtain ⟨seen', e⟩ := inSet2_no (seen := seen) (hn p (Nat.le_refl _) (by omega))
    have e' : inSet code2 (m.text.getD p 0) code2.size 5 true seen = .ok (false, seen') := e
    obtain ⟨s2, r⟩ := ih fuel (p + 1) seen' (by omega) (by omega) (fun i h1 h2 => hn i (by omega) (by omega)) (by rw [show p + 1 + k = p + (k + 1) by omega]; exact hy)
    refine ⟨s2, ?_⟩
    unfold M.admitted
    rw [if_neg (by omega), hm, e']
    show m.admitted fuel (p + 1) seen' = _
    rw [r]
    rw [show p + 1 + k = p + (k + 1) by omega]
theorem admitted_none (m : M) (hm : m.code = code2) : ∀ (fuel p : Nat) (seen : Sre.Seen), (∀ i, p ≤ i → i < m.lim → ¬ is2 (m.text.getD i 0)) →
    ∃ seen', m.admitted fuel p seen = .ok (none, seen') := by
  intro fuel
  induction fuel with
  | zero => intro p seen _; exact ⟨_, rfl⟩
  | succ fuel ih =>
    intro p seen hn
    by_cases hp : p ≥ m.lim
    · refine ⟨seen, ?_⟩
      unfold M.admitted
      rw [if_pos hp]
    · obtain ⟨seen', e⟩ := inSet2_no (seen := seen) (hn p (Nat.le_refl _) (by omega))
      have e' : inSet code2 (m.text.getD p 0) code2.size 5 true seen = .ok (false, seen') := e
      obtain ⟨s2, r⟩ := ih (p + 1) seen' (fun i h1 h2 => hn i (by omega) h2)
      refine ⟨s2, ?_⟩
      unfold M.admitted
      rw [if_neg hp, hm, e']
      exact r
/-- how long the second pattern's match at s is -/
def len2 (text : Array Nat) (lim s : Nat) : Nat := if text.getD s 0 = 13 ∧ s + 1 < lim ∧ text.getD (s + 1) 0 = 10 then 2 else 1

abbrev seen0 : Sre.Seen := ({} : Sre.Seen).add 14
abbrev b2 (text : Array Nat) (lim p : Nat) : M := S code2 text lim p lim 10 p p true [] 0 none seen0
theorem fs2 {p lim : Nat} : forSearch code2 text 0 p lim false =
    if (decide (p > lim) || decide (lim - p < 1)) = true then S code2 text lim p 0 10 p p true [] 0 (some false) seen0 else M.attemptFrom (b2 text lim p) p true := rfl
theorem af2 {p lim : Nat} : M.attemptFrom (b2 text lim p) p true = match M.admitted (b2 text lim p) (lim + 1 - p) p seen0 with
    | .ok (some s, seen) => ({ (b2 text lim p) with mustAdvance := false, seen := seen } : M).attemptAt s true
    | .ok (none, seen) => ({ (b2 text lim p) with seen := seen } : M).say false
    | .error why => (b2 text lim p).stick why := by
  unfold M.attemptFrom
  have e : (b2 text lim p).hasFirstSet = true := rfl
  rw [e]
  rfl
theorem search2_some {p s lim : Nat} (hp : p ≤ s) (hs : s < lim) (hn : ∀ i, p ≤ i → i < s → ¬ is2 (text.getD i 0)) (hy : is2 (text.getD s 0)) :
    ∃ m, Goes 20 (forSearch code2 text 0 p lim false) m ∧ m.outcome = some .matched ∧ m.start = s ∧ m.handed = s + len2 text lim s := by
  obtain ⟨k, rfl⟩ : ∃ k, s = p + k := ⟨s - p, by omega⟩
  have h0 : ∃ seen', forSearch code2 text 0 p lim false = m2 text lim (p + k) lim true (p + k) seen' := by
    rw [fs2, if_neg (by simp; omega), af2]
    obtain ⟨s1, e⟩ := admitted_some (b2 text lim p) rfl k (lim + 1 - p) p seen0 hs (by omega) hn hy
    rw [e]
    exact ⟨s1, rfl⟩
  obtain ⟨seen', e⟩ := h0
  rw [e]
  by_cases h13 : text.getD (p + k) 0 = 13
  · by_cases h2 : p + k + 1 < lim ∧ text.getD (p + k + 1) 0 = 10
    · have := m2_crlf (text := text) (ls := lim) (out := true) (h := p + k) (seen := seen') hs h13 h2.1 h2.2
      rw [show len2 text lim (p + k) = 2 from if_pos ⟨h13, h2⟩]
      exact this
    · have := m2_cr (text := text) (ls := lim) (out := true) (h := p + k) (seen := seen') hs h13 (by omega)
      rw [show len2 text lim (p + k) = 1 from if_neg (fun q => h2 q.2)]
      exact this
  · have h10 : text.getD (p + k) 0 = 10 := hy.resolve_right h13
    have := m2_lf (text := text) (ls := lim) (out := true) (h := p + k) (seen := seen') hs h10
    rw [show len2 text lim (p + k) = 1 from if_neg (fun q => h13 q.1)]
    exact this
theorem search2_none {p lim : Nat} (hn : ∀ i, p ≤ i → i < lim → ¬ is2 (text.getD i 0)) :
    ∃ m, Goes 20 (forSearch code2 text 0 p lim false) m ∧ m.outcome = some .failed := by
  have h0 : ∃ m0 : M, forSearch code2 text 0 p lim false = m0 ∧ m0.outcome = none ∧ m0.answer = some false ∧ m0.frames = [] := by
    rw [fs2]
    by_cases hc : (decide (p > lim) || decide (lim - p < 1)) = true
    · rw [if_pos hc]; exact ⟨_, rfl, rfl, rfl, rfl⟩
    · rw [if_neg hc, af2]
      obtain ⟨s1, e⟩ := admitted_none (b2 text lim p) rfl (lim + 1 - p) p seen0 hn
      rw [e]
      exact ⟨_, rfl, rfl, rfl, rfl⟩
  obtain ⟨m0, e, h1, h2, h3⟩ := h0
  rw [e]
  exact ⟨_, Goes.mono (Goes.step h1 (step_end h1 h2 h3) (Goes.refl _)) (by omega), rfl⟩

/-! the first pattern: a dot at a row's head -/
abbrev is1 (text : Array Nat) (i : Nat) : Prop := (i = 0 ∨ text.getD (i - 1) 0 = 10) ∧ text.getD i 0 = 46
def m1 (text : Array Nat) (lim s : Nat) (out : Bool) (h : Nat) (seen : Sre.Seen) : M := S code1 text lim s lim 5 s h out [fStart 5 s out] 1 none seen
theorem m1_yes (hs : s < lim) (hc : is1 text s) :
    ∃ m, Goes 5 (m1 text lim s out h seen) m ∧ m.outcome = some .matched ∧ m.start = s ∧ m.handed = s + 1 := by
  refine ⟨?m, Goes.mono (k := 5) ?g (by omega), ?h⟩
  case g =>
    refine Goes.step rfl (S_at (by decide) rfl rfl hc.1) ?_
    refine Goes.step rfl (S_lit (by decide) rfl hs hc.2) ?_
    refine Goes.step rfl (S_success (by decide) rfl) ?_
    refine Goes.step rfl S_start_yes ?_
    refine Goes.step rfl S_end ?_
    exact Goes.refl _
  case h => exact ⟨rfl, rfl, rfl⟩
theorem m1_fails (hc : lim ≤ s ∨ ¬ is1 text s) : ∃ pc pos seen', Goes 2 (m1 text lim s out h seen) (S code1 text lim s lim pc pos h out [fStart 5 s out] 1 (some false) seen') := by
  by_cases ha : s = 0 ∨ text.getD (s - 1) 0 = 10
  · exact ⟨_, _, _, Goes.step rfl (S_at (by decide) rfl rfl ha) (Goes.step rfl (S_lit_no (by decide) rfl (hc.imp id fun q e => q ⟨ha, e⟩)) (Goes.refl _))⟩
  · exact ⟨_, _, _, Goes.mono (Goes.step rfl (S_at_no (by decide) rfl rfl ha) (Goes.refl _)) (by omega)⟩
theorem m1_next {pc pos : Nat} (hs : s < lim) : (S code1 text lim s lim pc pos h out [fStart 5 s out] 1 (some false) seen).step = m1 text lim (s + 1) false (s + 1) seen := by
  rw [step_back rfl rfl rfl]
  show (if s < lim then _ else _) = _
  rw [if_pos hs]
  rfl
theorem m1_last {pc pos : Nat} (hs : lim ≤ s) : (S code1 text lim s lim pc pos h out [fStart 5 s out] 1 (some false) seen).step = S code1 text lim s lim 5 s h out [] 0 (some false) seen := by
  rw [step_back rfl rfl rfl]
  show (if s < lim then _ else _) = _
  rw [if_neg (by omega)]
  rfl
theorem m1_some (k : Nat) : ∀ {p h : Nat} {out : Bool} {seen : Sre.Seen}, p + k < lim → (∀ i, p ≤ i → i < p + k → ¬ is1 text i) → is1 text (p + k) →
    ∃ m, Goes (3 * k + 5) (m1 text lim p out h seen) m ∧ m.outcome = some .matched ∧ m.start = p + k ∧ m.handed = p + k + 1 := by
  induction k with
  | zero => intro p h out seen hl _ hy; exact m1_yes hl hy
  | succ k ih =>
    intro p h out seen hl hn hy
    obtain ⟨pc, pos, s1, g1⟩ := m1_fails (h := h) (out := out) (seen := seen) (lim := lim) (.inr (hn p (Nat.le_refl _) (by omega)))
    obtain ⟨m, g2, r⟩ := ih (p := p + 1) (h := p + 1) (out := false) (seen := s1) (by omega) (fun i h1 h2 => hn i (by omega) (by omega)) (by rw [show p + 1 + k = p + (k + 1) by omega]; exact hy)
    rw [show p + (k + 1) = p + 1 + k by omega]
    exact ⟨m, Goes.mono (Goes.trans g1 (Goes.step rfl (m1_next (by omega)) g2)) (by omega), r⟩
theorem m1_none (k : Nat) : ∀ {p h : Nat} {out : Bool} {seen : Sre.Seen}, p + k = lim → (∀ i, p ≤ i → i < lim → ¬ is1 text i) →
    ∃ m, Goes (3 * k + 5) (m1 text lim p out h seen) m ∧ m.outcome = some .failed := by
  induction k with
  | zero =>
    intro p h out seen hl _
    obtain ⟨pc, pos, s1, g1⟩ := m1_fails (text := text) (s := p) (h := h) (out := out) (seen := seen) (lim := lim) (.inl (by omega))
    exact ⟨_, Goes.mono (Goes.trans g1 (Goes.step rfl (m1_last (by omega)) (Goes.step rfl S_end (Goes.refl _)))) (by omega), rfl⟩
  | succ k ih =>
    intro p h out seen hl hn
    obtain ⟨pc, pos, s1, g1⟩ := m1_fails (h := h) (out := out) (seen := seen) (lim := lim) (.inr (hn p (Nat.le_refl _) (by omega)))
    obtain ⟨m, g2, r⟩ := ih (p := p + 1) (h := p + 1) (out := false) (seen := s1) (by omega) (fun i h1 h2 => hn i (by omega) h2)
    exact ⟨m, Goes.mono (Goes.trans g1 (Goes.step rfl (m1_next (by omega)) g2)) (by omega), r⟩
theorem fs1 {p lim : Nat} : forSearch code1 text 0 p lim false =
    if (decide (p > lim) || decide (lim - p < 1)) = true then S code1 text lim p 0 5 p p true [] 0 (some false) seen0 else m1 text lim p true p seen0 := rfl
theorem search1_some {p s lim : Nat} (hp : p ≤ s) (hs : s < lim) (hn : ∀ i, p ≤ i → i < s → ¬ is1 text i) (hy : is1 text s) :
    ∃ m, Goes (3 * lim + 5) (forSearch code1 text 0 p lim false) m ∧ m.outcome = some .matched ∧ m.start = s ∧ m.handed = s + 1 := by
  obtain ⟨k, rfl⟩ : ∃ k, s = p + k := ⟨s - p, by omega⟩
  rw [fs1, if_neg (by simp; omega)]
  obtain ⟨m, g, r⟩ := m1_some k (h := p) (out := true) (seen := seen0) hs hn hy
  exact ⟨m, g.mono (by omega), r⟩
theorem search1_none {p lim : Nat} (hn : ∀ i, p ≤ i → i < lim → ¬ is1 text i) :
    ∃ m, Goes (3 * lim + 5) (forSearch code1 text 0 p lim false) m ∧ m.outcome = some .failed := by
  rw [fs1]
  by_cases hc : (decide (p > lim) || decide (lim - p < 1)) = true
  · rw [if_pos hc]
    exact ⟨_, Goes.mono (Goes.step rfl S_end (Goes.refl _)) (by omega), rfl⟩
  · rw [if_neg hc]
    have hc' : p ≤ lim := by simp at hc; omega
    obtain ⟨m, g, r⟩ := m1_none (lim - p) (text := text) (p := p) (h := p) (out := true) (seen := seen0) (by omega) hn
    exact ⟨m, g.mono (by omega), r⟩
end
end Mine
end
-- part Re2
section
open PySem PySem.W PyProof.Rows
set_option Elab.async false
set_option maxRecDepth 100000
set_option maxHeartbeats 400000
set_option linter.unusedVariables false
namespace Mine
local macro_rules | `(tactic| walk_at "pad0") => `(tactic| skip)
local macro_rules | `(tactic| walk_at "pad1") => `(tactic| skip)
open PySem.Builtin PySem.Builtin.Re

section
variable {M : Model} {A : Around} {E : Value → Shared → Prop} {s : Shared}
theorem drive_any {Q : Sre.M → Shared → Prop} : ∀ (turns n : Nat) (m m' : Sre.M), n ≤ 4 * turns → 0 < turns → Sre.M.runFor n m = m' → m'.outcome.isSome = true → Q m' s → wpAny M A (reDrive turns m) Q E s := by
  intro turns
  induction turns with
  | zero => intro n m m' _ h; exact absurd h (Nat.lt_irrefl _)
  | succ turns ih =>
    intro n m m' hn _ he ho hq
    have hst : ∀ k, n ≤ k → Sre.M.runFor k m = m' := fun k hk => by
      obtain ⟨j, rfl⟩ : ∃ j, k = n + j := ⟨k - n, by omega⟩
      rw [runFor_add, he, runFor_done ho]
    show wpAny M A (if (Sre.M.runFor 4 m).outcome.isSome = true then pure (Sre.M.runFor 4 m) else do rule "sre.turn"; reDrive turns (Sre.M.runFor 4 m)) Q E s
    by_cases h4 : n ≤ 4
    · rw [hst 4 h4, if_pos ho]
      exact wpAny_pure hq
    · by_cases hb : (Sre.M.runFor 4 m).outcome.isSome = true
      · rw [if_pos hb]
        have : Sre.M.runFor 4 m = m' := by
          rw [← he, show n = 4 + (n - 4) by omega, runFor_add, runFor_done hb]
        rw [this]; exact wpAny_pure hq
      · rw [if_neg hb]
        refine wpAny_bind (wpAny_rule ?_)
        exact ih (n - 4) _ m' (by omega) (by omega) (by rw [← he, ← runFor_add]; congr 1; omega) ho hq
theorem rules_any (has : Nat → Bool) {Q : PUnit → Shared → Prop} (h : Q ⟨⟩ s) : ∀ l : List Nat,
    wpAny M A (forIn l PUnit.unit fun i _ => if has i = true then (do rule (Sre.names.getD i ""); pure (ForInStep.yield PUnit.unit)) else pure (ForInStep.yield PUnit.unit)) Q E s
  | [] => by rw [List.forIn_nil]; exact wpAny_pure h
  | i :: l => by
    rw [List.forIn_cons]
    refine wpAny_bind ?_
    by_cases hb : has i = true
    · rw [if_pos hb]
      exact wpAny_bind (wpAny_rule (wpAny_pure (rules_any has h l)))
    · rw [if_neg hb]
      exact wpAny_pure (rules_any has h l)
theorem runToEnd_some {k : Nat} {m m' : Sre.M} {Q : Option Sre.M → Shared → Prop} (hk : k ≤ 2 ^ 60) (g : Goes k m m') (ho : m'.outcome = some .matched) (hq : Q (some m') s) : wpAny M A (reRunToEnd m) Q E s := by
  obtain ⟨n, hn, e⟩ := g
  unfold reRunToEnd
  refine wpAny_bind (drive_any (2 ^ 64) n m m' (by omega) (by omega) e (by rw [ho]; rfl) ?_)
  refine wpAny_bind (rules_any _ ?_ _)
  rw [ho]
  exact wpAny_pure hq
theorem runToEnd_none {k : Nat} {m m' : Sre.M} {Q : Option Sre.M → Shared → Prop} (hk : k ≤ 2 ^ 60) (g : Goes k m m') (ho : m'.outcome = some .failed) (hq : Q none s) : wpAny M A (reRunToEnd m) Q E s := by
  obtain ⟨n, hn, e⟩ := g
  unfold reRunToEnd
  refine wpAny_bind (drive_any (2 ^ 64) n m m' (by omega) (by omega) e (by rw [ho]; rfl) ?_)
  refine wpAny_bind (rules_any _ ?_ _)
  rw [ho]
  exact wpAny_pure hq
end

/-- what a substitution by a literal gives from p on -/
inductive Sub (code text : Array Nat) (repl : List Nat) : Nat → List Nat → Prop
  | stop {p : Nat} : p ≤ text.size → (∃ m, Goes (3 * text.size + 20) (Sre.forSearch code text 0 p text.size false) m ∧ m.outcome = some .failed) → Sub code text repl p (text.toList.drop p)
  | next {p a b : Nat} {out : List Nat} : p ≤ a → a < b → b ≤ text.size → (∃ m, Goes (3 * text.size + 20) (Sre.forSearch code text 0 p text.size false) m ∧ m.outcome = some .matched ∧ m.start = a ∧ m.handed = b) →
      Sub code text repl b out → Sub code text repl p ((text.toList.drop p).take (a - p) ++ repl ++ out)

theorem entry_sub : entryFor table "re.Pattern.sub" = some Builtin.«re.Pattern.sub» := entryFor_of_tree (by kernel_rfl)
theorem entry_loop : entryFor table "re.Pattern.sub.loop" = some Builtin.«re.Pattern.sub.loop» := entryFor_of_tree (by kernel_rfl)
theorem slot_sub : Slot "re.Pattern" "sub" "re.Pattern.sub" :=
  .of (owner := "re.Pattern") (n := "sub") (by rw [typeLookup_type, builtinLookup_eq_fast]; kernel_rfl) (by decide +kernel) (by decide +kernel) (by decide +kernel)
    (by first | exact .inl (by decide +kernel) | exact .inr (by decide +kernel)) (by rw [isSubtype_type]; kernel_rfl)
theorem type_sub : typeOf (.builtin "re.Pattern.sub") = pure (.type "method_descriptor") := by show builtinType _ = _; rw [builtinType_eq_fast]; kernel_rfl
theorem args_sub (a b c : Value) : argsOk "re.Pattern.sub" ⟨[a, b, c], []⟩ := by unfold argsOk; kernel_rfl
theorem plain_sub : plainId "re.Pattern.sub" = true := by decide +kernel
theorem plain_loop : plainId "re.Pattern.sub.loop" = true := by decide +kernel
theorem pattern_attrs : PlainAttrs "re.Pattern" :=
  ⟨⟨"object.__getattribute__", by rw [typeLookup_type, builtinLookup_eq_fast]; kernel_rfl, by decide +kernel⟩, by rw [typeLookup_type, builtinLookup_eq_fast]; kernel_rfl⟩
theorem str_no_call : typeLookup (.type "str") "__call__" = pure none := by rw [typeLookup_type, builtinLookup_eq_fast]; kernel_rfl

structure PatAt (h : Heap) (P : Addr) (code : Array Nat) : Prop where
  it : ∃ oP fs C oC items ep, h.get? P = some oP ∧ oP.cls = .type "re.Pattern" ∧ oP.dict = none ∧ oP.data = .fields fs ∧ reRawNat (fs.getD 6 .none) = 0 ∧ fs.getD 5 .none = .ref C ∧ reRawNat (fs.getD 2 .none) = 0 ∧
    h.get? C = some oC ∧ oC.data = .seq items ep ∧ (items.map reRawOf).map (·.toNat) = code
theorem PatAt.keeps {h h' : Heap} {P : Addr} {code : Array Nat} (X : PatAt h P code) (k : ∀ b o, h.get? b = some o → h'.get? b = some o) : PatAt h' P code := by
  obtain ⟨oP, fs, C, oC, items, ep, hP, a, b, hf, h6, h5, h2, hC, r⟩ := X.it
  exact ⟨oP, fs, C, oC, items, ep, k _ _ hP, a, b, hf, h6, h5, h2, k _ _ hC, r⟩
section
variable {M : Model} {A : Around} {E : Value → Shared → Prop} {s : Shared}
theorem whole_any {P : Addr} {code : Array Nat} {x : Str} {t : Tok} {Q : ReTarget → Shared → Prop} (X : PatAt s.heap P code)
    (h : Q { pattern := .ref P, string := .str x t, code, text := x.cps, kind := 0, groups := 0, pos := 0, lim := x.cps.size } s) :
    wpAny M A (reWholeTarget (.ref P) (.str x t)) Q E s := by
  obtain ⟨oP, fs, C, oC, items, ep, hP, _, _, hf, h6, h5, h2, hC, hd, hc⟩ := X.it
  unfold reWholeTarget
  refine wpAny_bind ?_
  unfold fieldsOf
  refine wpAny_bind (wpAny_load hP ?_)
  rw [hf]
  refine wpAny_pure ?_
  refine wpAny_bind (wpAny_pure ?_)
  show wpAny M A (if (reRawNat (fs.getD 6 .none) == 0 && (0 : Nat) == 1) = true then _ else _) Q E s
  rw [h6]
  show wpAny M A (reNoCollectionInside (.str x t) 0 >>= _) Q E s
  refine wpAny_bind (wpAny_pure ?_)
  refine wpAny_bind ?_
  rw [h5]
  unfold reRawItems
  refine wpAny_bind ?_
  refine wpAny_seqItems hC hd ?_
  refine wpAny_pure ?_
  show wpAny M A (pure _) Q E s
  refine wpAny_pure ?_
  rw [h2]
  show Q { pattern := .ref P, string := .str x t, code := (items.map reRawOf).map (·.toNat), text := x.cps, kind := 0, groups := 0, pos := 0, lim := x.cps.size } s
  rw [hc]
  exact h
end

/-- the signs of all pieces, one behind the other -/
def cat (acc : List (Str × Tok)) : List Nat := acc.flatMap fun p => p.1.cps.toList
theorem cat_append (a b : List (Str × Tok)) : cat (a ++ b) = cat a ++ cat b := by simp [cat]
theorem join_empty : ∀ (l : List (Str × Tok)) , Str.join ⟨#[]⟩ (l.map (·.1)) = ⟨(cat l).toArray⟩
  | [] => rfl
  | [x] => by
    show x.1 = _
    cases x with | mk x t => cases x; simp [cat]
  | x :: y :: r => by
    have ih := join_empty (y :: r)
    show x.1 ++ ⟨#[]⟩ ++ Str.join ⟨#[]⟩ ((y :: r).map (·.1)) = _
    rw [ih]
    show Str.append (Str.append x.1 ⟨#[]⟩) _ = _
    unfold Str.append
    simp only [Str.mk.injEq]
    apply Array.ext'
    simp [cat]
theorem cat_length (l : List (Str × Tok)) : (cat l).length = ((l.map (·.1)).map (·.length)).sum := by
  induction l with
  | nil => rfl
  | cons x r ih =>
    show ((x.1.cps.toList ++ cat r)).length = _
    rw [List.length_append, ih]
    simp [Str.length]
theorem quiet_loop (args : Args) : (Code.builtin "re.Pattern.sub.loop" args).quiet = true := plainId_quiet plain_loop args
theorem extract_list (text : Array Nat) (a b : Nat) : (text.extract a b).toList = (text.toList.drop a).take (b - a) := by simp

section
variable {prog : Program} {w : World} {A : Around} {R : Result → Shared → Prop} {g : Heap} {P l : Addr} {code : Array Nat} {x r : Str} {t tr : Tok}
abbrev subArgs (P : Addr) (x : Str) (t : Tok) (r : Str) (tr : Tok) (n : Int) (p : Nat) (l : Addr) : Args :=
  ⟨[.ref P, .str x t, .str r tr, rawInt 0, rawInt 0, rawInt n, rawInt p, rawInt p, .bool false, .ref l, .bool false], []⟩
abbrev lst (acc : List (Str × Tok)) (ep : Nat) : Obj := { cls := .type "list", data := .seq (strValues acc).toArray ep }

/-- a piece onto the list -/
theorem push_any {M : Model} {A : Around} {E : Value → Shared → Prop} {s : Shared} {acc : List (Str × Tok)} {ep : Nat} {y : Str} {ty : Tok} {Q : Unit → Shared → Prop} (hl : s.heap.get? l = some (lst acc ep)) (hz : acc.length ≤ 4194304)
    (h : ∀ h' ep', h'.get? l = some (lst (acc ++ [(y, ty)]) ep') → (∀ b o, b ≠ l → s.heap.get? b = some o → h'.get? b = some o) → Q () { s with heap := h' }) :
    wpAny M A (updateSeq l fun xs => xs.push (.str y ty)) Q E s := by
  have e24 : sizeLine = 16777216 := by decide
  have hs : (strValues acc).toArray.size = acc.length := by simp [strValues]
  refine wpAny_updateSeq hl rfl (h _ (if (strValues acc).toArray.size + 1 == (strValues acc).toArray.size then ep else ep + 1) ?_ ?_) (by rw [hs]; omega) (by rw [Array.size_push, hs]; omega)
  · refine (Heap.get?_update_self _ hl rfl).trans ?_
    congr 1
    show Obj.mk _ _ (Data.seq ((strValues acc).toArray.push (.str y ty)) (if ((strValues acc).toArray.push (.str y ty)).size == (strValues acc).toArray.size then ep else ep + 1)) _ = _
    have e1 : (strValues acc).toArray.push (.str y ty) = (strValues (acc ++ [(y, ty)])).toArray := by simp [strValues]
    rw [Array.size_push, e1]
  · intro b o hb ho
    exact (Heap.get?_update_other _ _ (fun q : l = b => hb q.symm)).trans ho

theorem slice_any {M : Model} {A : Around} {E : Value → Shared → Prop} {s : Shared} {text : Array Nat} {a b : Nat} {Q : Value → Shared → Prop} (hz : text.size ≤ 4194304) (h : Q (.str ⟨text.extract a b⟩ s.toks) { s with toks := s.toks + 1 }) : wpAny M A (reSlice text 0 a b) Q E s := by
  have e24 : sizeLine = 16777216 := by decide
  show wpAny M A (mkStr ⟨text.extract a b⟩) Q E s
  refine wpAny_mkStr h ?_
  show (text.extract a b).size ≤ _
  simp
  omega

theorem sub_loop (X : PatAt g P code) (hgl : g.get? l = none) (hx : x.cps.size ≤ 100000) {p : Nat} {out : List Nat} (S : Sub code x.cps r.cps.toList p out) :
    ∀ (s : Shared) (n : Int) (acc : List (Str × Tok)) (ep : Nat), (∀ b o, g.get? b = some o → s.heap.get? b = some o) → s.heap.get? l = some (lst acc ep) →
    acc.length + 2 * (x.cps.size - p) ≤ 300000 → (cat acc).length + out.length ≤ 300000 →
    (∀ h' u tk, (∀ b o, b ≠ l → s.heap.get? b = some o → h'.get? b = some o) → R (.ok (.ret (.str ⟨(cat acc ++ out).toArray⟩ u))) { s with heap := h', toks := tk }) →
    codeAny (model prog w) A (.builtin "re.Pattern.sub.loop" (subArgs P x t r tr n p l)) R s := by
  induction S with
  | @stop p hp hm =>
    intro s n acc ep hk hl hz1 hz2 hR
    obtain ⟨m, g1, ho⟩ := hm
    refine codeAny_builtin entry_loop ?_
    show wpAny _ _ («re.Pattern.sub.loop» _) _ _ s
    unfold «re.Pattern.sub.loop»
    dsimp only [rawInt]
    refine wpAny_bind (whole_any (X.keeps hk) ?_)
    rw [if_pos (by rfl)]
    refine wpAny_bind (wpAny_pure ?_)
    refine wpAny_bind ?_
    rw [if_neg (by simp)]
    unfold reNextFound
    have e0 : ((p : Int)).toNat = p := by simp
    rw [e0]
    refine runToEnd_none (by omega) g1 ho ?_
    dsimp only
    -- the rest of the text
    have rest : ∀ (s₁ : Shared) (acc₁ : List (Str × Tok)) (ep₁ : Nat), s₁.heap.get? l = some (lst acc₁ ep₁) → cat acc₁ = cat acc ++ List.drop p x.cps.toList → acc₁.length ≤ 300001 →
        (∀ u tk, R (.ok (.ret (.str ⟨(cat acc ++ List.drop p x.cps.toList).toArray⟩ u))) { s₁ with toks := tk }) →
        wpAny (model prog w) (A.under (.builtin "re.Pattern.sub.loop" (subArgs P x t r tr n p l))) (do
          let joiner ← reSlice x.cps 0 0 0
          let __do_lift ← seqItems? (.ref l)
          if (__do_lift.getD #[]).isEmpty = true then do
              let text ← pure joiner
              if false = true then do
                  let __do_lift ← holding [text] do
                      let __do_lift ← mkInt n
                      newTuple [text, __do_lift]
                  ret __do_lift
                else ret text
            else do
              let text ← call (Value.builtin (if ((0 : Nat) == 0) = true then "str.join" else "bytes.join")) [joiner, .ref l]
              if false = true then do
                  let __do_lift ← holding [text] do
                      let __do_lift ← mkInt n
                      newTuple [text, __do_lift]
                  ret __do_lift
                else ret text)
          (fun fin s' => match fin with | .done f => R (.ok f) s' | .again c' => c'.quiet = true ∧ codeAny (model prog w) A c' R s') (fun e s' => R (.error e) s') s₁ := by
      intro s₁ acc₁ ep₁ hl₁ hc₁ hz₁ hR₁
      refine wpAny_bind (slice_any (by omega) ?_)
      refine wpAny_bind (wpAny_seqItems hl₁ rfl ?_)
      by_cases he : ((some (strValues acc₁).toArray).getD #[]).isEmpty = true
      · rw [if_pos he]
        refine wpAny_bind (wpAny_pure ?_)
        rw [if_neg (by simp)]
        have hn : acc₁ = [] := by
          have h2 : (strValues acc₁).toArray = #[] := by simpa using he
          simpa [strValues] using h2
        rw [hn] at hc₁
        refine wpAny_pure ?_
        have hh := hR₁ s₁.toks (s₁.toks + 1)
        rw [← hc₁] at hh
        have e1 : (x.cps.extract 0 0) = #[] := by simp
        rw [e1]
        exact hh
      · rw [if_neg he]
        refine wpAny_bind ?_
        rw [if_pos (by rfl)]
        have e1 : (x.cps.extract 0 0) = #[] := by simp
        rw [e1]
        refine SC.join (l := acc₁) ⟨_, hl₁, rfl, _, rfl⟩ rfl ?_ ?_
        · have hl2 := cat_length acc₁
          refine joinOk_of_weight ?_ (by show (0 : Nat) ≤ 16; omega)
          rw [← hl2, hc₁, List.length_map, List.length_append]
          omega
        · intro t' k
          rw [if_neg (by simp)]
          refine wpAny_pure ?_
          have hj : Txt.join ⟨#[]⟩ (acc₁.map (·.1)) = ⟨(cat acc ++ List.drop p x.cps.toList).toArray⟩ := by
            show PySem.Builtin.Str.glued _ _ = _
            rw [StrLaws.glued_eq_join, join_empty, hc₁]
          rw [hj]
          exact hR₁ t' k
    by_cases hlt : p < x.cps.size
    · rw [if_pos hlt]
      refine wpAny_bind (slice_any (by omega) ?_)
      refine wpAny_bind (push_any (acc := acc) (ep := ep) hl (by omega) fun h' ep' hl' hk' => ?_)
      refine rest _ (acc ++ [(⟨x.cps.extract p x.cps.size⟩, s.toks)]) ep' hl' ?_ (by simp; omega) fun u tk => ?_
      · rw [cat_append]
        congr 1
        simp only [cat, List.flatMap_cons, List.flatMap_nil, List.append_nil]
        rw [extract_list]
        exact List.take_of_length_le (by simp)
      · exact hR h' u tk hk'
    · rw [if_neg hlt]
      refine rest _ acc ep hl ?_ (by omega) fun u tk => ?_
      · have : List.drop p x.cps.toList = [] := by simp; omega
        rw [this, List.append_nil]
      · exact hR s.heap u tk (fun _ _ _ h => h)
  | @next p a b out hpa hab hb hm _ ih =>
    intro s n acc ep hk hl hz1 hz2 hR
    obtain ⟨m, g1, ho, hst, hhd⟩ := hm
    subst hst
    subst hhd
    have hlen : ((List.take (m.start - p) (List.drop p x.cps.toList) ++ r.cps.toList ++ out)).length = (m.start - p) + r.cps.size + out.length := by
      simp; omega
    rw [hlen] at hz2
    refine codeAny_builtin entry_loop ?_
    show wpAny _ _ («re.Pattern.sub.loop» _) _ _ s
    unfold «re.Pattern.sub.loop»
    dsimp only [rawInt]
    refine wpAny_bind (whole_any (X.keeps hk) ?_)
    rw [if_pos (by rfl)]
    refine wpAny_bind (wpAny_pure ?_)
    refine wpAny_bind ?_
    rw [if_neg (by simp)]
    unfold reNextFound
    have e0 : ((p : Int)).toNat = p := by simp
    rw [e0]
    refine runToEnd_some (by omega) g1 ho ?_
    dsimp only
    have hbe : (m.handed == m.start) = false := by simp; omega
    have fin : ∀ (s₁ : Shared) (acc₁ : List (Str × Tok)) (ep₁ : Nat), s₁.heap.get? l = some (lst acc₁ ep₁) → (∀ b o, g.get? b = some o → s₁.heap.get? b = some o) → cat acc₁ = cat acc ++ List.take (m.start - p) (List.drop p x.cps.toList) → acc₁.length ≤ acc.length + 1 →
        (∀ h' u tk, (∀ b o, b ≠ l → s₁.heap.get? b = some o → h'.get? b = some o) → R (.ok (.ret (.str ⟨(cat acc ++ (List.take (m.start - p) (List.drop p x.cps.toList) ++ r.cps.toList ++ out)).toArray⟩ u))) { s₁ with heap := h', toks := tk }) →
        wpAny (model prog w) (A.under (.builtin "re.Pattern.sub.loop" (subArgs P x t r tr n p l))) (do
          let item ← pure (Value.str r tr)
          if (item != Value.none) = true then do
              let __r ← updateSeq l fun (x : Array Value) => x.push item
              again (Code.builtin "re.Pattern.sub.loop" { pos := [.ref P, .str x t, .str r tr, rawInt 0, rawInt 0, rawInt (n + 1), rawInt ↑m.handed, rawInt ↑m.handed, Value.bool (m.handed == m.start), .ref l, Value.bool false] })
            else again (Code.builtin "re.Pattern.sub.loop" { pos := [.ref P, .str x t, .str r tr, rawInt 0, rawInt 0, rawInt (n + 1), rawInt ↑m.handed, rawInt ↑m.handed, Value.bool (m.handed == m.start), .ref l, Value.bool false] }))
          (fun fin s' => match fin with | .done f => R (.ok f) s' | .again c' => c'.quiet = true ∧ codeAny (model prog w) A c' R s') (fun e s' => R (.error e) s') s₁ := by
      intro s₁ acc₁ ep₁ hl₁ hk₁ hc₁ hz₁ hR₁
      refine wpAny_bind (wpAny_pure ?_)
      rw [if_pos (by simp)]
      refine wpAny_bind (push_any (acc := acc₁) (ep := ep₁) hl₁ (by omega) fun h' ep' hl' hk' => ?_)
      refine wpAny_pure ⟨quiet_loop _, ?_⟩
      rw [hbe]
      refine ih { s₁ with heap := h' } (n + 1) (acc₁ ++ [(r, tr)]) ep' ?_ hl' (by simp; omega) ?_ ?_
      · intro b o hb'
        exact hk' b o (fun q => by rw [q, hgl] at hb'; cases hb') (hk₁ b o hb')
      · rw [cat_append, List.length_append, hc₁, List.length_append]
        simp [cat] at hz2 ⊢
        omega
      · intro h'' u tk hk''
        have hh := hR₁ h'' u tk (fun b o hb' ho' => hk'' b o hb' (hk' b o hb' ho'))
        have e : cat (acc₁ ++ [(r, tr)]) ++ out = cat acc ++ (List.take (m.start - p) (List.drop p x.cps.toList) ++ r.cps.toList ++ out) := by
          rw [cat_append, hc₁]
          simp [cat]
        rw [e]
        exact hh
    by_cases hlt : p < m.start
    · rw [if_pos hlt]
      refine wpAny_bind (slice_any (by omega) ?_)
      refine wpAny_bind (push_any (acc := acc) (ep := ep) hl (by omega) fun h' ep' hl' hk' => ?_)
      rw [if_pos (by rfl)]
      refine fin { s with heap := h', toks := s.toks + 1 } (acc ++ [(⟨x.cps.extract p m.start⟩, s.toks)]) ep' hl' ?_ ?_ (by simp) fun h'' u tk hk'' => ?_
      · intro b o hb'
        exact hk' b o (fun q => by rw [q, hgl] at hb'; cases hb') (hk b o hb')
      · rw [cat_append]
        congr 1
        simp [cat]
      · exact hR h'' u tk (fun b o hb' ho' => hk'' b o hb' (hk' b o hb' ho'))
    · rw [if_neg hlt, if_pos (by rfl)]
      refine fin _ acc ep hl hk ?_ (by omega) hR
      have : m.start - p = 0 := by omega
      rw [this]; simp
end
end Mine
end
-- part Re3
section
open PySem PySem.W PyProof.Rows
set_option Elab.async false
set_option maxRecDepth 100000
set_option maxHeartbeats 400000
set_option linter.unusedVariables false
namespace Mine
local macro_rules | `(tactic| walk_at "pad0") => `(tactic| skip)
local macro_rules | `(tactic| walk_at "pad1") => `(tactic| skip)
local macro_rules | `(tactic| walk_at "pad2") => `(tactic| skip)

/-- line ends of the three kinds become CRLF -/
def crlf : List Nat → List Nat
  | [] => []
  | [c] => if c = 10 ∨ c = 13 then [13, 10] else [c]
  | c :: d :: r => if c = 13 ∧ d = 10 then 13 :: 10 :: crlf r else if c = 10 ∨ c = 13 then 13 :: 10 :: crlf (d :: r) else c :: crlf (d :: r)
/-- a dot at a row's head is doubled -/
def dots : Bool → List Nat → List Nat
  | _, [] => []
  | b, c :: r => if b = true ∧ c = 46 then 46 :: 46 :: dots false r else c :: dots (c == 10) r

theorem crlf_other {c : Nat} (r : List Nat) (h : ¬ is2 c) : crlf (c :: r) = c :: crlf r := by
  unfold is2 at h
  cases r with
  | nil => simp [crlf, h]
  | cons d r => rw [crlf, if_neg (by omega), if_neg h]
theorem crlf_lf (r : List Nat) : crlf (10 :: r) = 13 :: 10 :: crlf r := by
  cases r with
  | nil => simp [crlf]
  | cons d r => rw [crlf, if_neg (by omega), if_pos (by simp)]
theorem crlf_crlf (r : List Nat) : crlf (13 :: 10 :: r) = 13 :: 10 :: crlf r := by rw [crlf, if_pos (by simp)]
theorem crlf_cr (r : List Nat) (h : r.head? ≠ some 10) : crlf (13 :: r) = 13 :: 10 :: crlf r := by
  cases r with
  | nil => simp [crlf]
  | cons d r => rw [crlf, if_neg (by simp at h; simp [h]), if_pos (by simp)]

theorem first_or (P : Nat → Prop) [DecidablePred P] (n : Nat) : ∀ k p, p + k = n → (∀ i, p ≤ i → i < n → ¬ P i) ∨ ∃ s, p ≤ s ∧ s < n ∧ P s ∧ ∀ i, p ≤ i → i < s → ¬ P i := by
  intro k
  induction k with
  | zero => intro p h; exact .inl fun i h1 h2 => absurd h2 (by omega)
  | succ k ih =>
    intro p h
    by_cases hp : P p
    · exact .inr ⟨p, Nat.le_refl _, by omega, hp, fun i h1 h2 => absurd h2 (by omega)⟩
    · rcases ih (p + 1) (by omega) with h0 | ⟨s, h1, h2, h3, h4⟩
      · refine .inl fun i hi1 hi2 => ?_
        by_cases he : i = p
        · rw [he]; exact hp
        · exact h0 i (by omega) hi2
      · refine .inr ⟨s, by omega, h2, h3, fun i hi1 hi2 => ?_⟩
        by_cases he : i = p
        · rw [he]; exact hp
        · exact h4 i (by omega) hi2

theorem drop_cons {text : Array Nat} {p : Nat} (h : p < text.size) : text.toList.drop p = text.getD p 0 :: text.toList.drop (p + 1) := by
  have e : text.toList[p]? = some (text.getD p 0) := by simp [Array.getD, h]
  have h' : p < text.toList.length := by simpa using h
  rw [List.drop_eq_getElem_cons h']
  congr 1
  simp [Array.getD, h]

theorem crlf_clean {text : Array Nat} (k : Nat) : ∀ p, p + k ≤ text.size → (∀ i, p ≤ i → i < p + k → ¬ is2 (text.getD i 0)) →
    crlf (text.toList.drop p) = (text.toList.drop p).take k ++ crlf (text.toList.drop (p + k)) := by
  induction k with
  | zero => intro p _ _; simp
  | succ k ih =>
    intro p hp hn
    rw [drop_cons (by omega), crlf_other _ (hn p (Nat.le_refl _) (by omega)), ih (p + 1) (by omega) (fun i h1 h2 => hn i (by omega) (by omega)), List.take_succ_cons,
      show p + 1 + k = p + (k + 1) by omega]
    rfl
theorem len2_cases (text : Array Nat) (lim s : Nat) : (len2 text lim s = 2 ∧ s + 1 < lim) ∨ len2 text lim s = 1 := by
  unfold len2
  by_cases h : text.getD s 0 = 13 ∧ s + 1 < lim ∧ text.getD (s + 1) 0 = 10
  · rw [if_pos h]; exact .inl ⟨rfl, h.2.1⟩
  · rw [if_neg h]; exact .inr rfl
theorem sub2 (text : Array Nat) : ∀ k p, text.size - p = k → p ≤ text.size → Sub code2 text [13, 10] p (crlf (text.toList.drop p)) := by
  intro k
  induction k using Nat.strongRecOn with
  | ind k ih =>
    intro p hk hp
    rcases first_or (fun i => is2 (text.getD i 0)) text.size (text.size - p) p (by omega) with h | ⟨s, h1, h2, h3, h4⟩
    · have e := crlf_clean (text.size - p) p (by omega) (fun i a b => h i a (by omega))
      rw [e, show p + (text.size - p) = text.size by omega]
      have e2 : text.toList.drop text.size = [] := by simp
      have e3 : (text.toList.drop p).take (text.size - p) = text.toList.drop p := List.take_of_length_le (by simp)
      rw [e2, e3, crlf, List.append_nil]
      obtain ⟨m, g, ho⟩ := search2_none (text := text) (p := p) h
      exact .stop hp ⟨m, g.mono (by omega), ho⟩
    · have e := crlf_clean (s - p) p (by omega) (fun i a b => h4 i a (by omega))
      obtain ⟨m, g, ho, hs, hh⟩ := search2_some h1 h2 h4 h3
      have hb : s + len2 text text.size s ≤ text.size := by rcases len2_cases text text.size s with q | q <;> omega
      have hl : 1 ≤ len2 text text.size s := by rcases len2_cases text text.size s with q | q <;> omega
      have e1 : crlf (text.toList.drop s) = [13, 10] ++ crlf (text.toList.drop (s + len2 text text.size s)) := by
        rw [drop_cons h2]
        by_cases h13 : text.getD s 0 = 13
        · rw [h13]
          by_cases h10 : s + 1 < text.size ∧ text.getD (s + 1) 0 = 10
          · rw [show len2 text text.size s = 2 from if_pos ⟨h13, h10⟩, drop_cons h10.1, h10.2, crlf_crlf]
            rfl
          · rw [show len2 text text.size s = 1 from if_neg (fun q => h10 q.2), crlf_cr]
            · rfl
            · by_cases hlt : s + 1 < text.size
              · rw [drop_cons hlt]
                simp
                intro q
                exact h10 ⟨hlt, by simpa [Array.getD, hlt] using q⟩
              · have : text.toList.drop (s + 1) = [] := by simp; omega
                rw [this]; simp
        · have h10 : text.getD s 0 = 10 := h3.resolve_right h13
          rw [h10, show len2 text text.size s = 1 from if_neg (fun q => h13 q.1), crlf_lf]
          rfl
      rw [e, show p + (s - p) = s by omega, e1, ← List.append_assoc]
      exact .next h1 (by omega) hb ⟨m, g.mono (by omega), ho, hs, hh⟩ (ih (text.size - (s + len2 text text.size s)) (by omega) _ rfl hb)

/-- is place i a row's head -/
def bol (text : Array Nat) (i : Nat) : Bool := i == 0 || text.getD (i - 1) 0 == 10
theorem dots_clean {text : Array Nat} (k : Nat) : ∀ p, p + k ≤ text.size → (∀ i, p ≤ i → i < p + k → ¬ is1 text i) →
    dots (bol text p) (text.toList.drop p) = (text.toList.drop p).take k ++ dots (bol text (p + k)) (text.toList.drop (p + k)) := by
  induction k with
  | zero => intro p _ _; simp
  | succ k ih =>
    intro p hp hn
    have hd := drop_cons (text := text) (p := p) (by omega)
    have hno := hn p (Nat.le_refl _) (by omega)
    have hb : bol text (p + 1) = (text.getD p 0 == 10) := by simp [bol]
    rw [hd, dots, if_neg (by intro q; apply hno; unfold is1; refine ⟨?_, q.2⟩; have := q.1; simpa [bol] using this), ← hb,
      ih (p + 1) (by omega) (fun i h1 h2 => hn i (by omega) (by omega)), List.take_succ_cons, show p + 1 + k = p + (k + 1) by omega]
    rfl
theorem sub1 (text : Array Nat) : ∀ k p, text.size - p = k → p ≤ text.size → Sub code1 text [46, 46] p (dots (bol text p) (text.toList.drop p)) := by
  intro k
  induction k using Nat.strongRecOn with
  | ind k ih =>
    intro p hk hp
    rcases first_or (fun i => is1 text i) text.size (text.size - p) p (by omega) with h | ⟨s, h1, h2, h3, h4⟩
    · have e := dots_clean (text.size - p) p (by omega) (fun i a b => h i a (by omega))
      rw [e, show p + (text.size - p) = text.size by omega]
      have e2 : text.toList.drop text.size = [] := by simp
      have e3 : (text.toList.drop p).take (text.size - p) = text.toList.drop p := List.take_of_length_le (by simp)
      rw [e2, e3, dots, List.append_nil]
      obtain ⟨m, g, ho⟩ := search1_none (text := text) (p := p) h
      exact .stop hp ⟨m, g.mono (by omega), ho⟩
    · have e := dots_clean (s - p) p (by omega) (fun i a b => h4 i a (by omega))
      obtain ⟨m, g, ho, hs, hh⟩ := search1_some h1 h2 h4 h3
      have hb1 : bol text s = true := by
        have := h3.1
        unfold bol
        simpa using this
      have hb2 : bol text (s + 1) = false := by
        have := h3.2
        unfold bol
        rw [show s + 1 - 1 = s by omega, this]
        rfl
      have e1 : dots (bol text s) (text.toList.drop s) = [46, 46] ++ dots (bol text (s + 1)) (text.toList.drop (s + 1)) := by
        rw [drop_cons h2, h3.2, dots, if_pos ⟨hb1, rfl⟩, hb2]
        rfl
      rw [e, show p + (s - p) = s by omega, e1, ← List.append_assoc]
      exact .next h1 (by omega) h2 ⟨m, g.mono (by omega), ho, hs, hh⟩ (ih (text.size - (s + 1)) (by omega) _ rfl h2)
theorem sub2_all (x : Str) : Sub code2 x.cps [13, 10] 0 (crlf x.cps.toList) := by
  have := sub2 x.cps x.cps.size 0 (by omega) (Nat.zero_le _)
  simpa using this
theorem sub1_all (x : Str) : Sub code1 x.cps [46, 46] 0 (dots true x.cps.toList) := by
  have := sub1 x.cps x.cps.size 0 (by omega) (Nat.zero_le _)
  simpa [bol] using this
theorem crlf_len : ∀ l : List Nat, (crlf l).length ≤ 2 * l.length
  | [] => by simp [crlf]
  | [c] => by unfold crlf; split <;> simp
  | c :: d :: r => by
    unfold crlf
    split
    · have := crlf_len r; simp; omega
    · split
      · have := crlf_len (d :: r); simp at this ⊢; omega
      · have := crlf_len (d :: r); simp at this ⊢; omega
theorem dots_len : ∀ (l : List Nat) (b : Bool), (dots b l).length ≤ 2 * l.length
  | [], _ => by simp [dots]
  | c :: r, b => by
    unfold dots
    split
    · have := dots_len r false; simp; omega
    · have := dots_len r (c == 10); simp; omega
end Mine
end
-- part Re4
section
open PySem PySem.W PyProof.Rows
set_option Elab.async false
set_option maxRecDepth 100000
set_option maxHeartbeats 400000
set_option linter.unusedVariables false
namespace Mine
local macro_rules | `(tactic| walk_at "pad0") => `(tactic| skip)
local macro_rules | `(tactic| walk_at "pad1") => `(tactic| skip)
local macro_rules | `(tactic| walk_at "pad2") => `(tactic| skip)
local macro_rules | `(tactic| walk_at "pad3") => `(tactic| skip)
open PySem.Builtin PySem.Builtin.Re
section
variable {prog : Program} {w : World} {A : Around} {E : Value → Shared → Prop} {s : Shared} {h₀ : Heap} {L : Addr} {m : Str → Option Value} {news : List (Addr × Obj)} {P : Addr} {code : Array Nat} {x r : Str} {t tr : Tok} {out : List Nat}

theorem named_sub (a b : Value) : reNamed "re.Pattern.sub" "sub" ["repl", "string", "count"] 2 [a, b] [] = pure [some a, some b, none] := by
  kernel_rfl

theorem call_sub {Q : Value → Shared → Prop} (X : PatAt h₀ P code) (F : Fr h₀ L s.heap m) (N : News h₀ L s.heap news) (hr : r.cps.contains 92 = false) (S : Sub code x.cps r.cps.toList 0 out)
    (hx : x.cps.size ≤ 100000) (ho : out.length ≤ 300000)
    (h : ∀ h' u tk, Fr h₀ L h' m → News h₀ L h' news → Q (.str ⟨out.toArray⟩ u) { s with heap := h', toks := tk }) :
    wpAny (model prog w) A (call (.builtin "re.Pattern.sub") [.ref P, .str r tr, .str x t]) Q E s := by
  have X' := X.keeps F.keep
  obtain ⟨oP, _, _, _, _, _, hP, hcls, _⟩ := X'.it
  refine wpAny_call (codeAny_call_builtin slot_sub.plain entry_sub (slot_sub.check _ _ _ _ _ _ _ _ ⟨oP, hP, hcls⟩ (args_sub _ _ _) ?_))
  show wpAny _ _ (reSubstitute "re.Pattern.sub" "sub" false ⟨[.ref P, .str r tr, .str x t], []⟩) _ _ s
  unfold reSubstitute
  dsimp only
  rw [named_sub]
  refine wpAny_bind (wpAny_pure ?_)
  dsimp only
  refine wpAny_bind (wpAny_pure ?_)
  refine wpAny_bind (wpAny_specialOf (typeIs_str _ _ _) str_no_call ?_)
  rw [if_neg (by simp)]
  refine wpAny_bind (wpAny_pure ?_)
  dsimp only
  refine wpAny_bind (wpAny_pure ?_)
  rw [if_neg (by simp), if_pos (by rw [hr]; rfl)]
  refine wpAny_bind (wpAny_pure ?_)
  dsimp only
  refine wpAny_bind (wpAny_holding (whole_any X' ?_))
  rw [if_neg (by simp)]
  refine wpAny_bind ?_
  refine wpAny_newObj_type ?_ (by show (0 : Nat) ≤ sizeLine; omega)
  refine wpAny_pure ⟨quiet_loop _, ?_⟩
  have hno : h₀.get? s.heap.objs.size = none := by
    cases q : h₀.get? s.heap.objs.size with
    | none => rfl
    | some o => exact absurd (Heap.lt_size (F.keep _ _ q)) (Nat.lt_irrefl _)
  refine sub_loop X hno hx S _ 0 [] 0 (fun b o hb => Heap.get?_push_of_some _ (F.keep b o hb)) (Heap.get?_push_size _ rfl) (by simp; omega) (by simp [cat]; omega) fun h' u tk hk => ?_
  show Q (.str ⟨([] ++ out).toArray⟩ u) _
  rw [List.nil_append]
  have hk' : ∀ b o, b ≠ s.heap.objs.size → s.heap.get? b = some o → h'.get? b = some o := fun b o hb ho' => hk b o hb (Heap.get?_push_of_some _ ho')
  obtain ⟨oL, es, ep, hL, rL⟩ := F.ns
  refine h h' u tk ⟨⟨oL, es, ep, hk' _ _ (Nat.ne_of_lt (Heap.lt_size hL)) hL, rL⟩, fun b o hb => hk' b o (fun q => by rw [q, hno] at hb; cases hb) (F.keep b o hb), F.above⟩ fun p hp => ⟨hk' _ _ (Nat.ne_of_lt (Heap.lt_size (N p hp).1)) (N p hp).1, (N p hp).2⟩
theorem sub_method {M : Model} {pl : Sem Bool} {Q : Value × List Value → Shared → Prop} (X : PatAt s.heap P code) (h : Q (.builtin "re.Pattern.sub", [.ref P]) s) : wpAny M A (getMethod (.ref P) "sub" pl) Q E s := by
  obtain ⟨oP, _, _, _, _, _, hP, hcls, hd, _⟩ := X.it
  exact getMethod_builtin ⟨oP, hP, hcls⟩ pattern_attrs slot_sub type_sub (fun a e => by cases e; exact ⟨oP, hP, hd⟩) h
def crlfS (x : Str) : Str := ⟨(crlf x.cps.toList).toArray⟩
def dotsS (x : Str) : Str := ⟨(dots true x.cps.toList).toArray⟩
def quoted (x : Str) : Str := dotsS (crlfS x)
theorem crlfS_size (x : Str) : (crlfS x).cps.size ≤ 2 * x.cps.size := by
  have := crlf_len x.cps.toList
  simpa [crlfS] using this
theorem dotsS_size (x : Str) : (dotsS x).cps.size ≤ 2 * x.cps.size := by
  have := dots_len x.cps.toList true
  simpa [dotsS] using this
theorem call_sub2 {Q : Value → Shared → Prop} (X : PatAt h₀ P code2) (F : Fr h₀ L s.heap m) (N : News h₀ L s.heap news) (hx : x.cps.size ≤ 20000)
    (h : ∀ h' u tk, Fr h₀ L h' m → News h₀ L h' news → Q (.str (crlfS x) u) { s with heap := h', toks := tk }) :
    wpAny (model prog w) A (call (.builtin "re.Pattern.sub") [.ref P, .str (Str.ofString "\r\n") tr, .str x t]) Q E s := by
  have hr : (Str.ofString "\r\n") = ⟨#[13, 10]⟩ := by decide +kernel
  rw [hr]
  refine call_sub X F N (by decide +kernel) (sub2_all x) (by omega) ?_ h
  have := crlf_len x.cps.toList
  simp at this
  omega
theorem call_sub1 {Q : Value → Shared → Prop} (X : PatAt h₀ P code1) (F : Fr h₀ L s.heap m) (N : News h₀ L s.heap news) (hx : x.cps.size ≤ 40000)
    (h : ∀ h' u tk, Fr h₀ L h' m → News h₀ L h' news → Q (.str (dotsS x) u) { s with heap := h', toks := tk }) :
    wpAny (model prog w) A (call (.builtin "re.Pattern.sub") [.ref P, .str (Str.ofString "..") tr, .str x t]) Q E s := by
  have hr : (Str.ofString "..") = ⟨#[46, 46]⟩ := by decide +kernel
  rw [hr]
  refine call_sub X F N (by decide +kernel) (sub1_all x) (by omega) ?_ h
  have := dots_len x.cps.toList true
  simp at this
  omega
end
end Mine
end
-- part Kit1
section
open PySem PySem.W PyProof.Rows PySem.Calls
set_option Elab.async false
set_option maxRecDepth 100000
set_option maxHeartbeats 400000
set_option linter.unusedVariables false
namespace Mine
local macro_rules | `(tactic| walk_at "pad0") => `(tactic| skip)
local macro_rules | `(tactic| walk_at "pad1") => `(tactic| skip)
local macro_rules | `(tactic| walk_at "pad2") => `(tactic| skip)
local macro_rules | `(tactic| walk_at "pad3") => `(tactic| skip)
local macro_rules | `(tactic| walk_at "pad4") => `(tactic| skip)

/-- what must be shown where a called function leaves: its frame, its own part of the ledger, and what the caller wants of both and the untouched rest -/
def LeaveO (h₀ : Heap) (L : Addr) (m : Str → Option Value) (g : Heap) (rest : List (Addr × Obj)) (R : Result → Shared → Prop) (v : Value) (s' : Shared) : Prop :=
  ∃ L' m' own', Fr g L' s'.heap m' ∧ News g L' s'.heap own' ∧ (Fr h₀ L s'.heap m → News h₀ L s'.heap (own' ++ rest) → (∀ q ∈ own', ∀ r ∈ rest, q.1 ≠ r.1) → R (.ok (.ret v)) s')

section
variable {prog : Program} {w : World} {A A₀ : Around} {s : Shared} {K : Frag} {L : Addr} {h₀ base : Heap} {m mg mb : Str → Option Value} {own rest : List (Addr × Obj)} {p : Program} {loose : List Str} {mean : ExcName → Option Value}
theorem code_own {env : Env} {outer : List Env} {R : Result → Shared → Prop} {name qual : Str} {params : Arguments} {body : List Stmt} {scope : Scope} {dV kV doc pm cdv ct oc : Value} {an od : Option Addr} {osl : Array (Option Value)} {f : Addr} {args : Args} {binds : List (Str × Value)}
    (B : Below A₀ base outer h₀) (F : Fr h₀ L s.heap m) (X₀ : K.In h₀) (N : News h₀ L s.heap (own ++ rest)) (hsep : ∀ q ∈ rest, q.1 ∉ own.map (·.1)) (T : Top p loose mean mg mb h₀) (hA : A.frames = some (env :: outer)) (hf : env.frame = some L) (hke : env.scope.kind = .function)
    (ho : K.lookup f = some ⟨oc, od, .func (fnOf name qual params body scope dV kV doc pm an cdv ct), osl⟩) (hcd : codeIn K cdv qual = true) (hroom : A.depth < recursionLimit)
    (hbind : BindsTo s (fnOf name qual params body scope dV kV doc pm an cdv ct) args binds) (hloc : ∀ y ∈ binds, scope.names.lookup y.1 = some .local)
    (h : ∀ g L' h₁, Fr g L' h₁ (fun y => binds.reverse.lookup y) → News g L' h₁ own → Below A base (env :: outer) g → K.In g → Top p loose mean mg mb g → h₀.StaysIn g → (∀ q ∈ rest, g.get? q.1 = some q.2) → (∀ q ∈ own ++ rest, q.1 < L') →
      wpAny (model prog w) (A.deeper (envOf qual scope L' f cdv)) (execs body (envOf qual scope L' f cdv))
        (fun fl s' => LeaveO h₀ L m g rest R (match fl with | .ret v => v | _ => .none) s')
        (fun _ _ => False)
        { s with heap := h₁, toks := s.toks + binds.length })
    (hco : scope.isCoroutine = false) (hgen : scope.isGenerator = false) (hk : scope.kind = .function)
    (hcell : ∀ x ∈ scope.names, x.2 ≠ .cell) : codeAny (model prog w) A (.call (.ref f) args) R s := by
  have N₁ : News h₀ L s.heap own := fun q hq => N q (List.mem_append_left _ hq)
  obtain ⟨FG, BG, st, lv⟩ := groundX (R := R) B F N₁ hA hf hke
  have hX := X₀.keeps F.keep
  refine codeAny_call_def (fd := fnOf name qual params body scope dV kV doc pm an cdv ct) (body := body) (binds := binds) hroom (hX _ _ ho) rfl (T.nolimit.keeps F.keep) (codeRec_of hX hcd) rfl hbind hcell hloc (fun h₁ hns hk₁ => ?_) hco hgen hk
  have hrest : ∀ q ∈ rest, (hideAll s.heap (own.map (·.1))).get? q.1 = some q.2 := fun q hq => hideAll_get _ (N q (List.mem_append_right _ hq)).1 (hsep q hq)
  refine wpAny_mono (h _ s.heap.objs.size h₁ ⟨hns, fun b o e => hk₁ b o (of_hideAll _ e), Nat.le_of_eq (hideAll_size _ _)⟩
    (fun q hq => ⟨hk₁ _ _ (N₁ q hq).1, Nat.ne_of_lt (Heap.lt_size (N₁ q hq).1), hideAll_none _ (List.mem_map_of_mem hq)⟩) BG (X₀.keeps st) (T.keeps st) st hrest (fun q hq => Heap.lt_size (N q hq).1)) (fun fl s' hl => ?_) fun _ _ y => y.elim
  obtain ⟨L', m', own', F', N', k⟩ := hl
  refine lv _ s' ⟨L', m', own', F', N', fun F₂ N₂ => k F₂ (fun q hq => ?_) fun q hq r hr e => ?_⟩
  · rcases List.mem_append.mp hq with hq | hq
    · exact N₂ q hq
    · exact ⟨F'.keep _ _ (hrest q hq), (N q (List.mem_append_right _ hq)).2⟩
  · have h1 := (N' q hq).2.2
    rw [e, hrest r hr] at h1
    cases h1
end

section
variable {prog : Program} {w : World} {A A₀ : Around} {s : Shared} {K : Frag} {L : Addr} {h₀ base : Heap} {m mg mb : Str → Option Value} {own rest : List (Addr × Obj)} {p : Program} {loose : List Str} {mean : ExcName → Option Value}
/-- the same for a function object that is at hand, with a closure -/
theorem code_ownX {env : Env} {outer : List Env} {R : Result → Shared → Prop} {name qual : Str} {params : Arguments} {body : List Stmt} {scope : Scope} {cl : List (Str × Addr)} {dV kV doc pm cdv ct : Value} {an : Option Addr} {fo : Obj} {f : Addr} {args : Args} {binds : List (Str × Value)}
    (B : Below A₀ base outer h₀) (F : Fr h₀ L s.heap m) (X₀ : K.In h₀) (N : News h₀ L s.heap (own ++ rest)) (hsep : ∀ q ∈ rest, q.1 ∉ own.map (·.1)) (T : Top p loose mean mg mb h₀) (hA : A.frames = some (env :: outer)) (hf : env.frame = some L) (hke : env.scope.kind = .function)
    (ho : s.heap.get? f = some fo) (hd : fo.data = .func (fnX name qual params body scope cl dV kV doc pm an cdv ct)) (hcd : s.heap.CodeRec cdv qual) (hroom : A.depth < recursionLimit)
    (hbind : BindsTo s (fnX name qual params body scope cl dV kV doc pm an cdv ct) args binds) (hloc : ∀ y ∈ binds, scope.names.lookup y.1 = some .local)
    (h : ∀ g L' h₁, Fr g L' h₁ (fun y => binds.reverse.lookup y) → News g L' h₁ own → Below A base (env :: outer) g → K.In g → Top p loose mean mg mb g → h₀.StaysIn g → (∀ q ∈ rest, g.get? q.1 = some q.2) → (∀ q ∈ own ++ rest, q.1 < L') →
      wpAny (model prog w) (A.deeper (envX qual scope L' f cdv cl)) (execs body (envX qual scope L' f cdv cl))
        (fun fl s' => LeaveO h₀ L m g rest R (match fl with | .ret v => v | _ => .none) s')
        (fun _ _ => False)
        { s with heap := h₁, toks := s.toks + binds.length })
    (hco : scope.isCoroutine = false) (hgen : scope.isGenerator = false) (hk : scope.kind = .function)
    (hcell : ∀ x ∈ scope.names, x.2 ≠ .cell) : codeAny (model prog w) A (.call (.ref f) args) R s := by
  have N₁ : News h₀ L s.heap own := fun q hq => N q (List.mem_append_left _ hq)
  obtain ⟨FG, BG, st, lv⟩ := groundX (R := R) B F N₁ hA hf hke
  refine codeAny_call_def (fd := fnX name qual params body scope cl dV kV doc pm an cdv ct) (body := body) (binds := binds) hroom ho hd (T.nolimit.keeps F.keep) hcd rfl hbind hcell hloc (fun h₁ hns hk₁ => ?_) hco hgen hk
  have hrest : ∀ q ∈ rest, (hideAll s.heap (own.map (·.1))).get? q.1 = some q.2 := fun q hq => hideAll_get _ (N q (List.mem_append_right _ hq)).1 (hsep q hq)
  refine wpAny_mono (h _ s.heap.objs.size h₁ ⟨hns, fun b o e => hk₁ b o (of_hideAll _ e), Nat.le_of_eq (hideAll_size _ _)⟩
    (fun q hq => ⟨hk₁ _ _ (N₁ q hq).1, Nat.ne_of_lt (Heap.lt_size (N₁ q hq).1), hideAll_none _ (List.mem_map_of_mem hq)⟩) BG (X₀.keeps st) (T.keeps st) st hrest (fun q hq => Heap.lt_size (N q hq).1)) (fun fl s' hl => ?_) fun _ _ y => y.elim
  obtain ⟨L', m', own', F', N', k⟩ := hl
  refine lv _ s' ⟨L', m', own', F', N', fun F₂ N₂ => k F₂ (fun q hq => ?_) fun q hq r hr e => ?_⟩
  · rcases List.mem_append.mp hq with hq | hq
    · exact N₂ q hq
    · exact ⟨F'.keep _ _ (hrest q hq), (N q (List.mem_append_right _ hq)).2⟩
  · have h1 := (N' q hq).2.2
    rw [e, hrest r hr] at h1
    cases h1
end

/-- a function's contract: what it owns, what it finds, what it leaves -/
def SpecF (prog : Program) (w : World) (K : Frag) (p : Program) (loose : List Str) (mean : ExcName → Option Value) (mg mb : Str → Option Value) (f : Addr) (room : Nat) (vs : List Value) (own : List (Addr × Obj)) (Pre : Heap → Prop) (Post : Value → List (Addr × Obj) → Prop) : Prop :=
  ∀ (dp un : Nat) (gd : Option (List Code)) (cn : Str) (cs : Scope) (a : Addr) (ccd : Value) (cl : List (Str × Addr)) (outer : List Env) (A₀ : Around) (base h₀ : Heap) (L : Addr) (m : Str → Option Value) (s : Shared) (rest : List (Addr × Obj)) (R : Result → Shared → Prop),
    Below A₀ base outer h₀ → Fr h₀ L s.heap m → K.In h₀ → News h₀ L s.heap (own ++ rest) → (∀ q ∈ rest, q.1 ∉ own.map (·.1)) → Top p loose mean mg mb h₀ → cs.kind = .function →
    (∀ g, h₀.StaysIn g → (∀ q ∈ rest, g.get? q.1 = some q.2) → Pre g) → dp + room < recursionLimit → un + 8 * room < cLine →
    (∀ v own' h' tk', Post v own' → (∀ q ∈ own', ∀ r ∈ rest, q.1 ≠ r.1) → Fr h₀ L h' m → News h₀ L h' (own' ++ rest) → R (.ok (.ret v)) { s with heap := h', toks := tk' }) →
    codeAny (model prog w) (ktrTop dp un gd cn cs L a ccd cl outer) (.call (.ref f) ⟨vs, []⟩) R s

section
variable {prog : Program} {w : World} {K : Frag} {p : Program} {loose : List Str} {mean : ExcName → Option Value} {mg mb : Str → Option Value} {f : Addr} {room : Nat} {vs : List Value} {own : List (Addr × Obj)} {Pre : Heap → Prop} {Post : Value → List (Addr × Obj) → Prop}
  {dp un : Nat} {gd : Option (List Code)} {cn : Str} {cs : Scope} {a : Addr} {ccd : Value} {cl : List (Str × Addr)} {outer : List Env} {A₀ : Around} {base h₀ : Heap} {L : Addr} {m : Str → Option Value} {s : Shared} {news : List (Addr × Obj)}
theorem SpecF.code (S : SpecF prog w K p loose mean mg mb f room vs own Pre Post) (rest : List (Addr × Obj)) {R : Result → Shared → Prop}
    (B : Below A₀ base outer h₀) (F : Fr h₀ L s.heap m) (X : K.In h₀) (N : News h₀ L s.heap news) (hin : ∀ q ∈ own ++ rest, q ∈ news) (hsep : ∀ q ∈ rest, q.1 ∉ own.map (·.1)) (T : Top p loose mean mg mb h₀) (hk : cs.kind = .function)
    (hpre : ∀ g, h₀.StaysIn g → (∀ q ∈ rest, g.get? q.1 = some q.2) → Pre g) (hd : dp + room < recursionLimit) (hu : un + 8 * room < cLine)
    (hret : ∀ v own' h' tk', Post v own' → (∀ q ∈ own', ∀ r ∈ rest, q.1 ≠ r.1) → Fr h₀ L h' m → News h₀ L h' (own' ++ rest) → R (.ok (.ret v)) { s with heap := h', toks := tk' }) :
    codeAny (model prog w) (ktrTop dp un gd cn cs L a ccd cl outer) (.call (.ref f) ⟨vs, []⟩) R s :=
  S dp un gd cn cs a ccd cl outer A₀ base h₀ L m s rest R B F X (fun q hq => N q (hin q hq)) hsep T hk hpre hd hu hret
theorem SpecF.call (S : SpecF prog w K p loose mean mg mb f room vs own Pre Post) (rest : List (Addr × Obj)) {Q E : Value → Shared → Prop}
    (B : Below A₀ base outer h₀) (F : Fr h₀ L s.heap m) (X : K.In h₀) (N : News h₀ L s.heap news) (hin : ∀ q ∈ own ++ rest, q ∈ news) (hsep : ∀ q ∈ rest, q.1 ∉ own.map (·.1)) (T : Top p loose mean mg mb h₀) (hk : cs.kind = .function)
    (hpre : ∀ g, h₀.StaysIn g → (∀ q ∈ rest, g.get? q.1 = some q.2) → Pre g) (hd : dp + room < recursionLimit) (hu : un + 8 * room < cLine)
    (hret : ∀ v own' h' tk', Post v own' → (∀ q ∈ own', ∀ r ∈ rest, q.1 ≠ r.1) → Fr h₀ L h' m → News h₀ L h' (own' ++ rest) → Q v { s with heap := h', toks := tk' }) :
    wpAny (model prog w) (ktrTop dp un gd cn cs L a ccd cl outer) (PySem.call (.ref f) vs) Q E s :=
  wpAny_call (S.code rest B F X N hin hsep T hk hpre hd hu hret)
end

theorem nd5 {a b c d e : Nat} (h : List.Nodup [a, b, c, d, e]) : a ≠ b ∧ a ≠ c ∧ a ≠ d ∧ a ≠ e ∧ b ≠ c ∧ b ≠ d ∧ b ≠ e ∧ c ≠ d ∧ c ≠ e ∧ d ≠ e := by
  simp at h
  omega

theorem leaveO_ {h₀ g : Heap} {L L' : Addr} {m m' : Str → Option Value} {rest news' : List (Addr × Obj)} {R : Result → Shared → Prop} {v : Value} {s' : Shared} (own' : List (Addr × Obj)) (F' : Fr g L' s'.heap m') (N' : News g L' s'.heap news') (hin : ∀ q ∈ own', q ∈ news')
    (k : Fr h₀ L s'.heap m → News h₀ L s'.heap (own' ++ rest) → (∀ q ∈ own', ∀ r ∈ rest, q.1 ≠ r.1) → R (.ok (.ret v)) s') : LeaveO h₀ L m g rest R v s' :=
  ⟨L', m', own', F', fun q hq => N' q (hin q hq), k⟩
/-- what a loop's turn must leave -/
def RoundEnd (I : Nat → Shared → Prop) (n : Nat) (Q : Flow → Shared → Prop) (f : Flow) (s : Shared) : Prop :=
  match f with
  | .next => ∃ k, k < n ∧ I k s
  | .cont => ∃ k, k < n ∧ I k s
  | .brk => Q .next s
  | .ret v => Q (.ret v) s
section
variable {prog : Program} {w : World} {A : Around} {s : Shared} {env : Env}
theorem while_inv {test : Expr} {body orelse : List Stmt} {pos : Pos} {Q : Flow → Shared → Prop} (I : Nat → Shared → Prop)
    (turn : ∀ n s, I n s → wpAny (model prog w) A (isTrue test env (eval test env)) (fun b s₂ => WhlIf b (wpAny (model prog w) A (execs body env) (RoundEnd I n Q) (fun _ _ => False) s₂) (wpAny (model prog w) A (execs orelse env) Q (fun _ _ => False) s₂)) (fun _ _ => False) s)
    (n : Nat) (h : I n s) : wpAny (model prog w) A (exec (.While test body orelse pos) env) Q (fun _ _ => False) s := by
  refine whl_start 0 ?_
  induction n using Nat.strongRecOn generalizing s with
  | ind n ih =>
    refine whl_turn (k := 0) PassesOwn.never (wpAny_mono (turn n s h) (fun b s₂ h₂ => ?_) fun _ _ x => x)
    cases b with
    | false => exact h₂
    | true =>
      refine WhlIf.yes rfl ?_
      have h₃ : wpAny (model prog w) A (execs body env) (RoundEnd I n Q) (fun _ _ => False) s₂ := h₂
      refine wpAny_mono h₃ (fun f s₃ h₄ => ?_) fun _ _ x => x
      cases f with
      | next => obtain ⟨k, hk, hI⟩ := h₄; exact ih k hk hI
      | cont => obtain ⟨k, hk, hI⟩ := h₄; exact ih k hk hI
      | brk => exact h₄
      | ret v => exact h₄
theorem for_inv {x : Str} {px : Pos} {it : Value} {body : List Stmt} {Q : Flow → Shared → Prop} (I : Nat → Shared → Prop)
    (turn : ∀ n s, I n s → wpAny (model prog w) A (pyNext it) (fun r s₁ => match r with
      | none => Q .next s₁
      | some v => wpAny (model prog w) A (storeName env x v) (fun _ s₂ => wpAny (model prog w) A (execs body env) (RoundEnd I n Q) (fun _ _ => False) s₂) (fun _ _ => False) s₁) (fun _ _ => False) s)
    (n : Nat) (h : I n s) :
    codeAny (model prog w) A (.forLoop (.Name x px) it body [] env) (fun r s' => match r with | .ok f => Q f s' | .error e => cameBackBy (model prog w) A env (fun _ _ => False) e s') s := by
  refine codeAny_forLoop I (fun n s hI => ?_) n h
  refine wpAny_mono (turn n s hI) (fun r s₁ h₁ => ?_) fun _ _ x => x.elim
  cases r with
  | none => exact wpAny_execs_nil h₁
  | some v =>
    refine wpAny_assign_Name (wpAny_mono h₁ (fun _ s₂ h₂ => ?_) fun _ _ x => x.elim)
    refine wpAny_mono h₂ (fun f s₃ h₃ => ?_) fun _ _ x => x.elim
    cases f <;> exact h₃
end

theorem whl_if {b : Bool} {T F : Prop} (h1 : b = true → T) (h2 : b = false → F) : WhlIf b T F := by
  cases b with
  | true => exact WhlIf.yes rfl (h1 rfl)
  | false => exact WhlIf.no rfl (h2 rfl)
end Mine
end
-- part Kit2
section
open PySem PySem.W PyProof.Rows PySem.Calls
set_option Elab.async false
set_option maxRecDepth 100000
set_option maxHeartbeats 400000
set_option linter.unusedVariables false
namespace Mine
local macro_rules | `(tactic| walk_at "pad0") => `(tactic| skip)
local macro_rules | `(tactic| walk_at "pad1") => `(tactic| skip)
local macro_rules | `(tactic| walk_at "pad2") => `(tactic| skip)
local macro_rules | `(tactic| walk_at "pad3") => `(tactic| skip)
local macro_rules | `(tactic| walk_at "pad4") => `(tactic| skip)
local macro_rules | `(tactic| walk_at "pad5") => `(tactic| skip)
open PySem.Builtin

/-- iter(f, sentinel) -/
abbrev ciO (q : Addr) (x : Str) (t : Tok) : Obj := { cls := .type "callable_iterator", data := .fields #[.ref q, .str x t, .bool false] }
abbrev ciEnd : Obj := { cls := .type "callable_iterator", data := .fields #[.none, .none, .bool true] }

theorem slot_ci_next : Slot "callable_iterator" "__next__" "callable_iterator.__next__" :=
  .of (owner := "callable_iterator") (n := "__next__") (by rw [typeLookup_type, builtinLookup_eq_fast]; kernel_rfl) (by decide +kernel) (by decide +kernel) (by decide +kernel)
    (by first | exact .inl (by decide +kernel) | exact .inr (by decide +kernel)) (by rw [isSubtype_type]; kernel_rfl)
theorem entry_ci_next : entryFor table "callable_iterator.__next__" = some Builtin.«callable_iterator.__next__» := entryFor_of_tree (by kernel_rfl)
theorem args_ci_next (a : Value) : argsOk "callable_iterator.__next__" ⟨[a], []⟩ := by unfold argsOk; kernel_rfl
theorem slot_ci_iter : Slot "callable_iterator" "__iter__" "callable_iterator.__iter__" :=
  .of (owner := "callable_iterator") (n := "__iter__") (by rw [typeLookup_type, builtinLookup_eq_fast]; kernel_rfl) (by decide +kernel) (by decide +kernel) (by decide +kernel)
    (by first | exact .inl (by decide +kernel) | exact .inr (by decide +kernel)) (by rw [isSubtype_type]; kernel_rfl)
theorem entry_ci_iter : entryFor table "callable_iterator.__iter__" = some Builtin.«dict_keyiterator.__iter__» :=
  entryFor_alias (id' := "dict_keyiterator.__iter__") (by kernel_rfl) rfl (by decide +kernel) (by kernel_rfl)
theorem args_ci_iter (a : Value) : argsOk "callable_iterator.__iter__" ⟨[a], []⟩ := by unfold argsOk; kernel_rfl
theorem kind_iter : builtinKind "iter" = none := by decide +kernel
theorem plain_iter : plainId "iter" = true := by decide +kernel
theorem entry_iter : entryFor table "iter" = some Builtin.«iter» := entryFor_of_tree (by kernel_rfl)
theorem args_iter (a b : Value) : argsOk "iter" ⟨[a, b], []⟩ := by unfold argsOk; kernel_rfl
theorem method_callable : typeLookup (.type "method") "__call__" = pure (some (.builtin "method.__call__")) := by rw [typeLookup_type, builtinLookup_eq_fast]; kernel_rfl

section
variable {M : Model} {A : Around} {E : Value → Shared → Prop} {s : Shared}
theorem borrowed_any {f : Value} {pos : List Value} {Q : Value → Shared → Prop}
    (hc : codeAny M A (.call f ⟨pos, []⟩) (fun r s' => match r with | .ok (.ret v) => Q v s' | .ok _ => False | .error e => E e s') s) : wpAny M A (callBorrowed f pos) Q E s := fun Γ p hΓ => by
  unfold callBorrowed
  rw [Sem.wp_call]
  refine wpCode_mono (fun r s' h => ?_) (hc _ p rfl (hΓ.enter _ none p (by intro x; cases x)))
  cases r with
  | error e => exact h
  | ok f => cases f <;> first | exact h | exact h.elim
theorem borrows_any {q f : Addr} {self : Value} {Q : Bool → Shared → Prop} (hq : s.heap.get? q = some (methodObj (.ref f) self)) (hf : FnAt f s.heap) (h : Q true s) : wpAny M A (borrowsExactly (.ref q)) Q E s := by
  obtain ⟨oc, od, fd, sl, ho⟩ := hf
  unfold borrowsExactly
  refine wpAny_bind (wpAny_load hq ?_)
  exact wpAny_bind (wpAny_load ho (wpAny_pure h))
end
section
variable {prog : Program} {w : World} {A : Around} {E : Value → Shared → Prop} {s : Shared} {ci q f : Addr} {self : Value} {x : Str} {t : Tok}
theorem ci_iter {o : Obj} {Q : Value → Shared → Prop} (ho : s.heap.get? ci = some o) (hc : o.cls = .type "callable_iterator") (h : Q (.ref ci) s) : wpAny (model prog w) A (pyIter (.ref ci)) Q E s := by
  have hT : s.TypeIs (.ref ci) "callable_iterator" := ⟨o, ho, hc⟩
  refine wpAny_pyIter_slot hT slot_ci_iter (wpAny_call_entry slot_ci_iter hT entry_ci_iter ?_ (args_ci_iter _))
  show wpAny _ _ (ret (.ref ci)) _ _ s
  exact wpAny_pure ⟨_, rfl, "callable_iterator", _, hT, slot_ci_next.lookup, h⟩
theorem call_iter2 {Q : Value → Shared → Prop} (hq : s.heap.get? q = some (methodObj (.ref f) self))
    (h : Q (.ref s.heap.objs.size) { s with heap := s.heap.push (ciO q x t) }) : wpAny (model prog w) A (call (.builtin "iter") [.ref q, .str x t]) Q E s := by
  refine call_function_entry kind_iter plain_iter entry_iter (args_iter _ _) ?_
  unfold Builtin.«iter»
  refine wpAny_bind (m := someArgs "iter" 1 2 _) (wpAny_pure ?_)
  dsimp only
  refine wpAny_bind (wpAny_specialOf (T := "method") ⟨_, hq, rfl⟩ method_callable ?_)
  rw [if_neg (by simp)]
  refine wpAny_bind (wpAny_rule ?_)
  refine wpAny_bind ?_
  exact wpAny_newObj_type (wpAny_pure ⟨_, rfl, h⟩) (by show (3 : Nat) ≤ sizeLine + 2; decide)
theorem stop_any {α : Type} {M : Model} {s : Shared} {Q : α → Shared → Prop} (hh : A.handled = none) (h : ∀ h' e, (∀ b o, s.heap.get? b = some o → h'.get? b = some o) → (∃ o, h'.get? e = some o ∧ o.cls = .type "StopIteration") → E (.ref e) { s with heap := h' }) :
    wpAny M A (SmallTypes.stopIteration : Sem α) Q E s := by
  show wpAny _ _ (newExc (.type "StopIteration") [] >>= _) _ _ _
  refine wpAny_bind ?_
  simp only [newExc, newTuple]
  refine wpAny_bind (wpAny_newObj_type ?_ (by size_fits))
  refine wpAny_bind (m := firstArgMember _ _) (wpAny_of_eq (a := Value.none) (by first | rfl | (simp only [firstArgMember]; rfl)) ?_)
  refine wpAny_newObj_type ?_ (by size_fits)
  simp only [raiseNew]
  refine wpAny_bind (wpAny_handled ?_)
  rw [hh]
  refine wpAny_bind (wpAny_pure (wpAny_throw ?_))
  exact h _ _ (fun b o e => Heap.get?_push_of_some _ (Heap.get?_push_of_some _ e)) ⟨_, Heap.get?_push_size _ rfl, rfl⟩

theorem ci_next {Q : Option Value → Shared → Prop} (hh : A.handled = none) (hci : s.heap.get? ci = some (ciO q x t)) (hq : s.heap.get? q = some (methodObj (.ref f) self)) (hf : FnAt f s.heap)
    (hc : codeAny (model prog w) A.in1 (.call (.ref f) ⟨[self], []⟩) (fun r s' => ∃ y ty, r = .ok (.ret (.str y ty)) ∧ s'.heap.get? ci = some (ciO q x t) ∧ s'.heap.get? q = some (methodObj (.ref f) self) ∧ FnAt f s'.heap ∧
      (x = y → ∀ h', (∀ b o, b ≠ ci → s'.heap.get? b = some o → h'.get? b = some o) → h'.get? ci = some ciEnd → Q none { s' with heap := h' }) ∧ (x ≠ y → Q (some (.str y ty)) s')) s) :
    wpAny (model prog w) A (pyNext (.ref ci)) Q E s := by
  have hT : s.TypeIs (.ref ci) "callable_iterator" := ⟨_, hci, rfl⟩
  unfold pyNext
  refine wpAny_bind (wpAny_attempt (wpAny_callSpecial?_slot (name := Str.ofString "__next__") hT slot_ci_next (wpAny_call_entry slot_ci_next hT entry_ci_next ?_ (args_ci_next _))))
  unfold «callable_iterator.__next__»
  refine wpAny_bind (m := slotArgs "__next__" 0 _) (wpAny_pure ?_)
  dsimp only
  refine wpAny_bind (wpAny_field hci rfl (x := .bool false) rfl ?_)
  rw [if_neg (by simp)]
  refine wpAny_bind ?_
  refine wpAny_field hci rfl (x := .ref q) rfl ?_
  refine wpAny_bind (wpAny_attempt ?_)
  unfold callOutOfASlot
  refine wpAny_bind (borrows_any hq hf ?_)
  rw [if_pos rfl]
  refine borrowed_any (method_call hq (codeAny_mono hc fun r s' h => ?_))
  obtain ⟨y, ty, rfl, hci', hq', hf', h1, h2⟩ := h
  dsimp only
  refine wpAny_bind (wpAny_field hci' rfl (x := .bool false) rfl ?_)
  rw [if_neg (by simp)]
  refine wpAny_bind ?_
  refine wpAny_field hci' rfl (x := .str x t) rfl ?_
  refine wpAny_bind (wpAny_holding (wpAny_eqBool_str ?_))
  by_cases he : x = y
  · rw [if_neg (by simp [he])]
    refine wpAny_bind (wpAny_rule ?_)
    refine wpAny_bind ?_
    show wpAny _ _ (do slotLetsGo "callable_iterator.__next__" (← field (.ref ci) 0) _; _) _ _ _
    refine wpAny_bind (wpAny_field hci' rfl (x := .ref q) rfl ?_)
    refine wpAny_bind ?_
    unfold slotLetsGo
    refine wpAny_bind (borrows_any hq' hf' ?_)
    rw [if_pos rfl]
    refine wpAny_pure ?_
    refine wpAny_bind (wpAny_setField_rec hci' (by show (0 : Nat) < 3; omega) fun k1 e1 b1 => ?_)
    refine wpAny_bind (wpAny_setField_rec e1 (by show (1 : Nat) < 3; omega) fun k2 e2 b2 => ?_)
    refine wpAny_setField_rec e2 (by show (2 : Nat) < 3; omega) fun k3 e3 b3 => ?_
    refine stop_any hh fun h' e hk hE => ?_
    obtain ⟨oe, he1, he2⟩ := hE
    dsimp only
    refine wpAny_bind (wpAny_isInstance (T := "StopIteration") (b := true) ⟨oe, he1, he2⟩ isSubtype_stop ?_)
    rw [if_pos rfl]
    refine wpAny_pure (h1 he h' (fun b o hb ho => hk b o ?_) (hk _ _ ?_))
    · exact b3.extBut b o hb (b2.extBut b o hb (b1.extBut b o hb ho))
    · exact e3
  · rw [if_pos (by simp [he])]
    exact wpAny_pure ⟨_, rfl, wpAny_pure (h2 he)⟩
theorem ci_ended {Q : Option Value → Shared → Prop} (hh : A.handled = none) (hci : s.heap.get? ci = some ciEnd) (h : ∀ h', (∀ b o, s.heap.get? b = some o → h'.get? b = some o) → Q none { s with heap := h' }) : wpAny (model prog w) A (pyNext (.ref ci)) Q E s := by
  have hT : s.TypeIs (.ref ci) "callable_iterator" := ⟨_, hci, rfl⟩
  unfold pyNext
  refine wpAny_bind (wpAny_attempt (wpAny_callSpecial?_slot (name := Str.ofString "__next__") hT slot_ci_next (wpAny_call_entry slot_ci_next hT entry_ci_next ?_ (args_ci_next _))))
  unfold «callable_iterator.__next__»
  refine wpAny_bind (m := slotArgs "__next__" 0 _) (wpAny_pure ?_)
  dsimp only
  refine wpAny_bind (wpAny_field hci rfl (x := .bool true) rfl ?_)
  rw [if_pos (by rfl)]
  refine wpAny_bind (wpAny_rule ?_)
  refine wpAny_bind (stop_any hh fun h' e hk hE => ?_)
  obtain ⟨oe, he1, he2⟩ := hE
  (try dsimp only)
  refine wpAny_bind (wpAny_isInstance (T := "StopIteration") (b := true) ⟨oe, he1, he2⟩ isSubtype_stop ?_)
  rw [if_pos rfl]
  exact wpAny_pure (h h' hk)
theorem iter_K {Q : Value → Shared → Prop} {h₀ : Heap} {L : Addr} {m : Str → Option Value} {news : List (Addr × Obj)} (F : Fr h₀ L s.heap m) (N : News h₀ L s.heap news) (hq : (q, methodObj (.ref f) self) ∈ news)
    (h : ∀ ci h', Fr h₀ L h' m → News h₀ L h' ((ci, ciO q x t) :: news) → (∀ p ∈ news, p.1 < ci) → Q (.ref ci) { s with heap := h' }) : wpAny (model prog w) A (call (.builtin "iter") [.ref q, .str x t]) Q E s :=
  call_iter2 (N _ hq).1 (h _ _ (F.push _) (N.push F _) fun p hp => Heap.lt_size (N p hp).1)
end
end Mine
end
-- part Kit3
section
open PySem PySem.W PyProof.Rows PySem.Calls
set_option Elab.async false
set_option maxRecDepth 100000
set_option maxHeartbeats 400000
set_option linter.unusedVariables false
namespace Mine
local macro_rules | `(tactic| walk_at "pad0") => `(tactic| skip)
local macro_rules | `(tactic| walk_at "pad1") => `(tactic| skip)
local macro_rules | `(tactic| walk_at "pad2") => `(tactic| skip)
local macro_rules | `(tactic| walk_at "pad3") => `(tactic| skip)
local macro_rules | `(tactic| walk_at "pad4") => `(tactic| skip)
local macro_rules | `(tactic| walk_at "pad5") => `(tactic| skip)
local macro_rules | `(tactic| walk_at "pad6") => `(tactic| skip)

abbrev ent (P : Params) (n : String) (k : Tok) (v : Value) : DictEntry := { hash := PyData.keyHash P (Str.ofString n), key := .str (Str.ofString n) k, val := v }
/-- a machine's dict -/
abbrev lexD (P : Params) (k1 k2 k3 k4 : Tok) (ln : Int) (tl : Tok) (st : Value) (ws : Str) (tw : Tok) (pb : Addr) : Obj :=
  dictOf [ent P "lineno" k1 (.int ln tl), ent P "instream" k2 st, ent P "whitespace" k3 (.str ws tw), ent P "pushback" k4 (.ref pb)] 4
abbrev stD (P : Params) (k1 k2 k3 k4 k5 : Tok) (v1 v2 v3 v4 : Value) (f : Addr) : Obj :=
  dictOf [ent P "lineno" k1 v1, ent P "instream" k2 v2, ent P "whitespace" k3 v3, ent P "pushback" k4 v4, ent P "read" k5 (.ref f)] 5
abbrev atO (p : Nat) (t : Tok) : Obj := listOf #[.int p t] 0
/-- what read(1) gives at p -/
def piece (sent : Str) (p : Nat) : Str := ⟨sent.cps.extract p (p + 1)⟩
/-- the row number at p -/
def lnAt (sent : Str) (p : Nat) : Int := 1 + ((sent.cps.toList.take p).count 10 : Nat)

theorem piece_lt {sent : Str} {p : Nat} (h : p < sent.cps.size) : piece sent p = ⟨#[sent.cps[p]]⟩ := by
  unfold piece
  congr 1
  apply Array.ext'
  simp [List.take_one, h]
theorem piece_ge {sent : Str} {p : Nat} (h : sent.cps.size ≤ p) : piece sent p = ⟨#[]⟩ := by
  unfold piece
  congr 1
  simp
  omega
theorem piece_ne {sent : Str} {p : Nat} (h : p < sent.cps.size) : Str.ofString "" ≠ piece sent p := by
  rw [piece_lt h]
  intro e
  have := congrArg (fun x : Str => x.cps.size) e
  simp at this
  exact absurd this (by decide)
theorem lnAt_step {sent : Str} {p : Nat} : lnAt sent p + (if piece sent p = Str.ofString "\n" then 1 else 0) = lnAt sent (p + (piece sent p).length) := by
  have e10 : Str.ofString "\n" = ⟨#[10]⟩ := by decide +kernel
  rw [e10]
  by_cases h : p < sent.cps.size
  · have hl : (piece sent p).length = 1 := by rw [piece_lt h]; rfl
    rw [hl, piece_lt h]
    unfold lnAt
    rw [List.take_add_one]
    have e : sent.cps.toList[p]? = some sent.cps[p] := by simp [h]
    rw [e]
    simp only [Option.toList_some, List.count_append, Str.mk.injEq]
    by_cases hc : sent.cps[p] = 10
    · rw [if_pos (by rw [hc]), hc]
      simp
      omega
    · rw [if_neg (by intro q; apply hc; simpa using q)]
      have : List.count 10 [sent.cps[p]] = 0 := by rw [List.count_singleton]; simp [hc]
      rw [this]
      omega
  · rw [piece_ge (by omega)]
    rw [if_neg (by intro q; simp at q)]
    show _ = lnAt sent (p + 0)
    rw [Nat.add_zero, Int.add_zero]

/-! what get_token reads, on plain lists -/
def tokQ : List Nat → List Nat × List Nat
  | [] => ([], [])
  | [c] => if c = 34 ∨ c = 92 then ([], []) else ([c], [])
  | c :: d :: r => if c = 34 then ([], d :: r) else if c = 92 then (d :: (tokQ r).1, (tokQ r).2) else (c :: (tokQ (d :: r)).1, (tokQ (d :: r)).2)
def tokP (ws : List Nat) : List Nat → List Nat × List Nat
  | [] => ([], [])
  | [c] => if c ∈ ws ∨ c = 92 then ([], []) else ([c], [])
  | c :: d :: r => if c ∈ ws then ([], d :: r) else if c = 92 then (d :: (tokP ws r).1, (tokP ws r).2) else (c :: (tokP ws (d :: r)).1, (tokP ws (d :: r)).2)
def tok (ws : List Nat) : List Nat → List Nat × List Nat
  | [] => ([], [])
  | c :: r => if c ∈ ws then tok ws r else if c = 34 then tokQ r else if c = 92 then (match r with | [] => ([], []) | d :: r' => (d :: (tokP ws r').1, (tokP ws r').2)) else (c :: (tokP ws r).1, (tokP ws r).2)

/-- a machine over a stream: its parts' places and what stays as it is -/
structure Lx where
  (lex lexd st std f atA pb : Addr)
  (k1 k2 k3 k4 j1 j2 j3 j4 j5 : Tok)
  (v1 v2 v3 v4 : Value)
  ws : Str
  tw : Tok
abbrev Lx.own (x : Lx) (C : Addr) (P : Params) (sent : Str) (p : Nat) (tl ta : Tok) : List (Addr × Obj) :=
  [(x.lex, instObj C x.lexd), (x.lexd, lexD P x.k1 x.k2 x.k3 x.k4 (lnAt sent p) tl (.ref x.st) x.ws x.tw x.pb), (x.st, instObj C x.std), (x.std, stD P x.j1 x.j2 x.j3 x.j4 x.j5 x.v1 x.v2 x.v3 x.v4 x.f), (x.atA, atO p ta)]

theorem nd6 {a b c d e f : Nat} (h : List.Nodup [a, b, c, d, e, f]) : List.Nodup [a, b, c, d, e] ∧ a ≠ f ∧ b ≠ f ∧ c ≠ f ∧ d ≠ f ∧ e ≠ f := by
  simp at h ⊢
  omega
/-- the frame of get_token between two steps -/
abbrev gtM (lex ci : Addr) (tkn : List Nat) (t : Tok) (u : Str → Option Value) : Str → Option Value :=
  fun y => if y = Str.ofString "token" then some (.str ⟨tkn.toArray⟩ t) else if y = Str.ofString "fiter" then some (.ref ci) else if y = Str.ofString "self" then some (.ref lex) else u y
theorem gtM_of {g h : Heap} {L lex ci : Addr} {tkn : List Nat} {t : Tok} {y : Str} {m : Str → Option Value} (F : Fr g L h m) (e1 : m (Str.ofString "token") = some (.str y t)) (e2 : m (Str.ofString "fiter") = some (.ref ci)) (e3 : m (Str.ofString "self") = some (.ref lex)) (hy : y = ⟨tkn.toArray⟩) :
    Fr g L h (gtM lex ci tkn t m) := by
  subst hy
  have : gtM lex ci tkn t m = m := by
    funext y
    unfold gtM
    by_cases h1 : y = Str.ofString "token"
    · rw [if_pos h1, h1, e1]
    · rw [if_neg h1]
      by_cases h2 : y = Str.ofString "fiter"
      · rw [if_pos h2, h2, e2]
      · rw [if_neg h2]
        by_cases h3 : y = Str.ofString "self"
        · rw [if_pos h3, h3, e3]
        · rw [if_neg h3]
  rw [this]; exact F

theorem not_in_ws {ws : Str} {c : Nat} (h : (Builtin.Str.occurrences ws ⟨#[c]⟩ 0 ws.length 1).isEmpty = true) : c ∉ ws.cps.toList := by
  have e := StrLaws.found_one ws c
  rw [h] at e
  simpa using e.symm
theorem in_ws {ws : Str} {c : Nat} (h : (Builtin.Str.occurrences ws ⟨#[c]⟩ 0 ws.length 1).isEmpty = false) : c ∈ ws.cps.toList := by
  have e := StrLaws.found_one ws c
  rw [h] at e
  simpa using e.symm
theorem ofQ : Str.ofString "\"" = ⟨#[34]⟩ := by decide +kernel
theorem ofB : Str.ofString "\\" = ⟨#[92]⟩ := by decide +kernel
theorem one34 {c : Nat} (h : ((⟨#[c]⟩ : Str) == Str.ofString "\"") = true) : c = 34 := by
  rw [ofQ] at h
  simpa using h
theorem one34_no {c : Nat} (h : ((⟨#[c]⟩ : Str) == Str.ofString "\"") = false) : c ≠ 34 := by
  rw [ofQ] at h
  simpa using h
theorem one92 {c : Nat} (h : ((⟨#[c]⟩ : Str) == Str.ofString "\\") = true) : c = 92 := by
  rw [ofB] at h
  simpa using h
theorem one92_no {c : Nat} (h : ((⟨#[c]⟩ : Str) == Str.ofString "\\") = false) : c ≠ 92 := by
  rw [ofB] at h
  simpa using h
theorem app_str (a b : Str) : a ++ b = ⟨(a.cps.toList ++ b.cps.toList).toArray⟩ := by
  show Str.append a b = _
  unfold Str.append
  simp
theorem app_lit (a : List Nat) (b : Str) : (⟨a.toArray⟩ : Str) ++ b = ⟨(a ++ b.cps.toList).toArray⟩ := by rw [app_str]

theorem drop_here {sent : Str} {p : Nat} (h : p < sent.cps.size) : sent.cps.toList.drop p = sent.cps[p] :: sent.cps.toList.drop (p + 1) := by
  have h' : p < sent.cps.toList.length := by simpa using h
  rw [List.drop_eq_getElem_cons h']
  simp
theorem drop_end {sent : Str} {p : Nat} (h : sent.cps.size ≤ p) : sent.cps.toList.drop p = [] := by simp; omega

theorem tokQ_q (r : List Nat) : tokQ (34 :: r) = ([], r) := by cases r <;> simp [tokQ]
theorem tokQ_b (d : Nat) (r : List Nat) : tokQ (92 :: d :: r) = (d :: (tokQ r).1, (tokQ r).2) := by simp [tokQ]
theorem tokQ_b0 : tokQ [92] = ([], []) := by simp [tokQ]
theorem tokQ_o {c : Nat} (r : List Nat) (h1 : c ≠ 34) (h2 : c ≠ 92) : tokQ (c :: r) = (c :: (tokQ r).1, (tokQ r).2) := by cases r <;> simp [tokQ, h1, h2]
section
variable {ws : List Nat}
theorem tokP_w {c : Nat} (r : List Nat) (h : c ∈ ws) : tokP ws (c :: r) = ([], r) := by cases r <;> simp [tokP, h]
theorem tokP_b (d : Nat) (r : List Nat) (h : 92 ∉ ws) : tokP ws (92 :: d :: r) = (d :: (tokP ws r).1, (tokP ws r).2) := by simp [tokP, h]
theorem tokP_b0 : tokP ws [92] = ([], []) := by simp [tokP]
theorem tokP_o {c : Nat} (r : List Nat) (h1 : c ∉ ws) (h2 : c ≠ 92) : tokP ws (c :: r) = (c :: (tokP ws r).1, (tokP ws r).2) := by cases r <;> simp [tokP, h1, h2]
theorem tok_w {c : Nat} (r : List Nat) (h : c ∈ ws) : tok ws (c :: r) = tok ws r := by simp [tok, h]
theorem tok_q (r : List Nat) (h : 34 ∉ ws) : tok ws (34 :: r) = tokQ r := by simp [tok, h]
theorem tok_b (d : Nat) (r : List Nat) (h : 92 ∉ ws) : tok ws (92 :: d :: r) = (d :: (tokP ws r).1, (tokP ws r).2) := by simp [tok, h]
theorem tok_b0 (h : 92 ∉ ws) : tok ws [92] = ([], []) := by simp [tok, h]
theorem tok_o {c : Nat} (r : List Nat) (h1 : c ∉ ws) (h2 : c ≠ 34) (h3 : c ≠ 92) : tok ws (c :: r) = (c :: (tokP ws r).1, (tokP ws r).2) := by simp [tok, h1, h2, h3]
end

/-- a backslash at p and what it leaves, plain or quoted -/
theorem tokQ_at_b {sent : Str} {p : Nat} (h : p < sent.cps.size) (hb : sent.cps[p] = 92) :
    (tokQ (sent.cps.toList.drop p)).1 = (piece sent (p + 1)).cps.toList ++ (tokQ (sent.cps.toList.drop (p + 1 + (piece sent (p + 1)).length))).1 ∧ (tokQ (sent.cps.toList.drop p)).2 = (tokQ (sent.cps.toList.drop (p + 1 + (piece sent (p + 1)).length))).2 := by
  by_cases h1 : p + 1 < sent.cps.size
  · rw [piece_lt h1, drop_here h, drop_here h1, hb, tokQ_b]
    exact ⟨rfl, rfl⟩
  · rw [piece_ge (by omega), drop_here h, drop_end (p := p + 1) (by omega), hb, tokQ_b0]
    show _ = [] ++ (tokQ (sent.cps.toList.drop (p + 1 + 0))).1 ∧ _ = (tokQ (sent.cps.toList.drop (p + 1 + 0))).2
    rw [Nat.add_zero, drop_end (p := p + 1) (by omega)]
    exact ⟨rfl, rfl⟩
theorem tokP_at_b {ws : List Nat} {sent : Str} {p : Nat} (h : p < sent.cps.size) (hb : sent.cps[p] = 92) (hw : 92 ∉ ws) :
    (tokP ws (sent.cps.toList.drop p)).1 = (piece sent (p + 1)).cps.toList ++ (tokP ws (sent.cps.toList.drop (p + 1 + (piece sent (p + 1)).length))).1 ∧ (tokP ws (sent.cps.toList.drop p)).2 = (tokP ws (sent.cps.toList.drop (p + 1 + (piece sent (p + 1)).length))).2 := by
  by_cases h1 : p + 1 < sent.cps.size
  · rw [piece_lt h1, drop_here h, drop_here h1, hb, tokP_b _ _ hw]
    exact ⟨rfl, rfl⟩
  · rw [piece_ge (by omega), drop_here h, drop_end (p := p + 1) (by omega), hb, tokP_b0]
    show _ = [] ++ (tokP ws (sent.cps.toList.drop (p + 1 + 0))).1 ∧ _ = (tokP ws (sent.cps.toList.drop (p + 1 + 0))).2
    rw [Nat.add_zero, drop_end (p := p + 1) (by omega)]
    exact ⟨rfl, rfl⟩
theorem tok_at_b {ws : List Nat} {sent : Str} {p : Nat} (h : p < sent.cps.size) (hb : sent.cps[p] = 92) (hw : 92 ∉ ws) :
    (tok ws (sent.cps.toList.drop p)).1 = (piece sent (p + 1)).cps.toList ++ (tokP ws (sent.cps.toList.drop (p + 1 + (piece sent (p + 1)).length))).1 ∧ (tok ws (sent.cps.toList.drop p)).2 = (tokP ws (sent.cps.toList.drop (p + 1 + (piece sent (p + 1)).length))).2 := by
  by_cases h1 : p + 1 < sent.cps.size
  · rw [piece_lt h1, drop_here h, drop_here h1, hb, tok_b _ _ hw]
    exact ⟨rfl, rfl⟩
  · rw [piece_ge (by omega), drop_here h, drop_end (p := p + 1) (by omega), hb, tok_b0 hw]
    show _ = [] ++ (tokP ws (sent.cps.toList.drop (p + 1 + 0))).1 ∧ _ = (tokP ws (sent.cps.toList.drop (p + 1 + 0))).2
    rw [Nat.add_zero, drop_end (p := p + 1) (by omega)]
    exact ⟨rfl, rfl⟩
theorem piece_len {sent : Str} {p : Nat} (h : p ≤ sent.cps.size) : p + (piece sent p).length ≤ sent.cps.size := by
  by_cases h1 : p < sent.cps.size
  · rw [piece_lt h1]; exact h1
  · rw [piece_ge (by omega)]; exact h
theorem drop_len {sent : Str} {p : Nat} (h : p ≤ sent.cps.size) : p = sent.cps.size - (sent.cps.toList.drop p).length := by simp; omega

theorem sep3 {x : Lx} {q ci : Addr} (hnd : List.Nodup [x.lex, x.lexd, x.st, x.std, x.atA, x.pb]) (hq : x.pb < q ∧ x.lex < q ∧ x.lexd < q ∧ x.st < q ∧ x.std < q ∧ x.atA < q) (hci : q < ci) {C : Addr} {P : Params} {sent : Str} {p : Nat} {tl ta : Tok} {o1 o2 o3 : Obj} :
    ∀ r ∈ [(ci, o1), (q, o2), (x.pb, o3)], r.1 ∉ (x.own C P sent p tl ta).map (·.1) := by
  obtain ⟨nd, e1, e2, e3, e4, e5⟩ := nd6 hnd
  obtain ⟨q1, q2, q3, q4, q5, q6⟩ := hq
  have neq : ∀ b : Nat, b < q → b ≠ ci := fun b hb => Nat.ne_of_lt (Nat.lt_trans hb hci)
  intro r hr
  have l1 := neq _ q2; have l2 := neq _ q3; have l3 := neq _ q4; have l4 := neq _ q5; have l5 := neq _ q6
  have m1 := Nat.ne_of_lt q2; have m2 := Nat.ne_of_lt q3; have m3 := Nat.ne_of_lt q4; have m4 := Nat.ne_of_lt q5; have m5 := Nat.ne_of_lt q6
  simp at hr
  rcases hr with rfl | rfl | rfl
  · simp; exact ⟨Ne.symm l1, Ne.symm l2, Ne.symm l3, Ne.symm l4, Ne.symm l5⟩
  · simp; exact ⟨Ne.symm m1, Ne.symm m2, Ne.symm m3, Ne.symm m4, Ne.symm m5⟩
  · simp; exact ⟨Ne.symm e1, Ne.symm e2, Ne.symm e3, Ne.symm e4, Ne.symm e5⟩
theorem fit1 {a : List Nat} {y : Str} (h : a.length ≤ 1000000) (hy : y.length ≤ 1) : Str.length ⟨a.toArray⟩ + y.length ≤ sizeLine := by
  have e24 : sizeLine = 16777216 := by decide
  have : Str.length ⟨a.toArray⟩ = a.length := by simp [Str.length]
  omega
theorem piece_le1 (sent : Str) (p : Nat) : (piece sent p).length ≤ 1 := by
  by_cases h1 : p < sent.cps.size
  · rw [piece_lt h1]; exact Nat.le_refl 1
  · rw [piece_ge (by omega)]; exact Nat.zero_le 1
theorem tokQ_len : ∀ l : List Nat, (tokQ l).1.length ≤ l.length
  | [] => by simp [tokQ]
  | [c] => by by_cases h : c = 34 ∨ c = 92 <;> simp [tokQ, h]
  | c :: d :: r => by
    have h1 := tokQ_len r
    have h2 := tokQ_len (d :: r)
    unfold tokQ
    by_cases a : c = 34
    · simp [a]
    · by_cases b : c = 92
      · simp [b]; omega
      · simp [a, b] at h2 ⊢; exact h2
theorem tokP_len (ws : List Nat) : ∀ l : List Nat, (tokP ws l).1.length ≤ l.length
  | [] => by simp [tokP]
  | [c] => by by_cases h : c ∈ ws ∨ c = 92 <;> simp [tokP, h]
  | c :: d :: r => by
    have h1 := tokP_len ws r
    have h2 := tokP_len ws (d :: r)
    unfold tokP
    by_cases a : c ∈ ws
    · simp [a]
    · by_cases b : c = 92
      · subst b; simp [a]; omega
      · simp [a, b] at h2 ⊢; exact h2
theorem tok_len (ws : List Nat) : ∀ l : List Nat, (tok ws l).1.length ≤ l.length
  | [] => by simp [tok]
  | c :: r => by
    have h1 := tok_len ws r
    have h2 := tokQ_len r
    have h3 := tokP_len ws r
    unfold tok
    by_cases a : c ∈ ws
    · simp [a]; omega
    · by_cases b : c = 34
      · subst b; simp [a]; omega
      · by_cases d : c = 92
        · subst d
          cases r with
          | nil => simp [a]
          | cons e r' => have := tokP_len ws r'; simp [a]; omega
        · simp [a, b, d]; exact h3
end Mine
end
-- part Kit4
section
open PySem PySem.W PyProof.Rows PySem.Calls
set_option Elab.async false
set_option maxRecDepth 100000
set_option maxHeartbeats 400000
set_option linter.unusedVariables false
namespace Mine
local macro_rules | `(tactic| walk_at "pad0") => `(tactic| skip)
local macro_rules | `(tactic| walk_at "pad1") => `(tactic| skip)
local macro_rules | `(tactic| walk_at "pad2") => `(tactic| skip)
local macro_rules | `(tactic| walk_at "pad3") => `(tactic| skip)
local macro_rules | `(tactic| walk_at "pad4") => `(tactic| skip)
local macro_rules | `(tactic| walk_at "pad5") => `(tactic| skip)
local macro_rules | `(tactic| walk_at "pad6") => `(tactic| skip)
local macro_rules | `(tactic| walk_at "pad7") => `(tactic| skip)
open Builtin Builtin.Str
theorem idx_clip (a b n : Nat) : strSliceIndices (some (a : Int)) (some (b : Int)) 1 n = strSliceIndices (some ((min a n : Nat) : Int)) (some ((min b n : Nat) : Int)) 1 n := by
  unfold strSliceIndices
  have h1 : ¬ ((a : Int) < 0) := by omega
  have h2 : ¬ ((b : Int) < 0) := by omega
  have h3 : ¬ (((min a n : Nat) : Int) < 0) := by omega
  have h4 : ¬ (((min b n : Nat) : Int) < 0) := by omega
  simp only [h1, h2, h3, h4, if_false, show (1 : Int) > 0 by decide, if_true]
  congr 1
  · omega
  · omega
theorem idx_empty {a b n : Nat} (h : b ≤ a) : strSliceIndices (some (a : Int)) (some (b : Int)) 1 n = [] := by
  unfold strSliceIndices sliceRange
  have h1 : ¬ ((a : Int) < 0) := by omega
  have h2 : ¬ ((b : Int) < 0) := by omega
  simp only [h1, h2, if_false, show (1 : Int) > 0 by decide, if_true]
  rw [if_neg (by omega)]
  rfl
theorem slice_nat (x : PySem.Str) (a b : Nat) : Txt.slice x (some (a : Int)) (some (b : Int)) = ⟨((x.cps.toList.drop a).take (b - a)).toArray⟩ := by
  show StrLaws.sliceText x _ _ = _
  by_cases h : a ≤ b
  · have e : StrLaws.sliceText x (some (a : Int)) (some (b : Int)) = StrLaws.sliceText x (some ((min a x.length : Nat) : Int)) (some ((min b x.length : Nat) : Int)) := by
      unfold StrLaws.sliceText; rw [idx_clip]
    rw [e, StrLaws.sliceText_nat x (by omega) (by omega)]
    have hl : x.length = x.cps.toList.length := by simp [PySem.Str.length]
    congr 2
    rw [hl]
    generalize x.cps.toList = l
    by_cases h1 : a ≤ l.length
    · rw [Nat.min_eq_left h1]
      by_cases h2 : b ≤ l.length
      · rw [Nat.min_eq_left h2]
      · rw [show min b l.length = l.length by omega, List.take_of_length_le (by simp), List.take_of_length_le (by simp; omega)]
    · rw [show min a l.length = l.length by omega, List.drop_of_length_le (Nat.le_refl _), List.drop_of_length_le (by omega)]
      simp
  · unfold StrLaws.sliceText
    rw [idx_empty (by omega), show b - a = 0 by omega, List.take_zero]
    by_cases h0 : x.length = 0
    · rw [if_pos (by simp [h0])]
      cases x with | mk c => have : c = #[] := by simpa [PySem.Str.length] using h0
                             rw [this]
    · rw [if_neg (by simp; omega)]
      rfl
theorem slice_piece (sent : PySem.Str) (n : Nat) : Txt.slice sent (some (n : Int)) (some ((n : Int) + 1)) = piece sent n := by
  have := slice_nat sent n (n + 1)
  rw [show ((n + 1 : Nat) : Int) = (n : Int) + 1 by omega] at this
  rw [this]
  unfold piece
  congr 1
  apply Array.ext'
  simp
theorem slice_m1 (x : PySem.Str) : Txt.slice x (some (-1)) (some 0) = ⟨#[]⟩ := by
  show StrLaws.sliceText x _ _ = _
  unfold StrLaws.sliceText
  have e : strSliceIndices (some (-1)) (some 0) 1 x.length = [] := by
    unfold strSliceIndices sliceRange
    simp only [show ¬ ((0 : Int) < 0) by decide, show ((-1 : Int) < 0) by decide, if_true, if_false, show (1 : Int) > 0 by decide]
    rw [if_neg (by omega)]
    rfl
  rw [e]
  by_cases h0 : x.length = 0
  · rw [if_pos (by simp [h0])]
    cases x with | mk c => have : c = #[] := by simpa [PySem.Str.length] using h0
                           rw [this]
  · rw [if_neg (by simp; omega)]
    rfl
theorem slice_to (x : PySem.Str) (b : Nat) : Txt.slice x none (some (b : Int)) = ⟨(x.cps.toList.take b).toArray⟩ := by
  have e : Txt.slice x none (some (b : Int)) = Txt.slice x (some ((0 : Nat) : Int)) (some (b : Int)) := by
    show StrLaws.sliceText x _ _ = StrLaws.sliceText x _ _
    unfold StrLaws.sliceText; rw [StrLaws.sliceIdx_none_lo]; rfl
  rw [e, slice_nat]
  simp
end Mine
end
-- part Kit5
section
open PySem PySem.W PyProof.Rows PySem.Calls
set_option Elab.async false
set_option maxRecDepth 100000
set_option maxHeartbeats 400000
set_option linter.unusedVariables false
namespace Mine
local macro_rules | `(tactic| walk_at "pad0") => `(tactic| skip)
local macro_rules | `(tactic| walk_at "pad1") => `(tactic| skip)
local macro_rules | `(tactic| walk_at "pad2") => `(tactic| skip)
local macro_rules | `(tactic| walk_at "pad3") => `(tactic| skip)
local macro_rules | `(tactic| walk_at "pad4") => `(tactic| skip)
local macro_rules | `(tactic| walk_at "pad5") => `(tactic| skip)
local macro_rules | `(tactic| walk_at "pad6") => `(tactic| skip)
local macro_rules | `(tactic| walk_at "pad7") => `(tactic| skip)
local macro_rules | `(tactic| walk_at "pad8") => `(tactic| skip)
abbrev liO (D : Addr) (i : Nat) : Obj := { cls := .type "list_iterator", data := .fields #[.ref D, .int i 0] }
abbrev riO (x left step : Int) : Obj := { cls := .type "range_iterator", data := .fields #[rawInt x, rawInt left, rawInt step] }
section
variable {prog : Program} {w : World} {A : Around} {E : Value → Shared → Prop} {s : Shared} {h₀ : Heap} {L it D : Addr} {m : Str → Option Value} {news : List (Addr × Obj)} {its : Array Value} {i : Nat}
theorem fr_sameBut {h' : Heap} (F : Fr h₀ L s.heap m) (hit : h₀.get? it = none) (hL : it ≠ L) (hs : Heap.SameBut it s.heap h') : Fr h₀ L h' m := by
  obtain ⟨oL, es, ep, hL', rL⟩ := F.ns
  exact ⟨⟨oL, es, ep, (hs.2 _ (Ne.symm hL)).trans hL', rL⟩, fun b o e => (hs.2 b (fun z => by rw [z, hit] at e; cases e)).trans (F.keep b o e), F.above⟩
theorem fr_extBut {h' : Heap} (F : Fr h₀ L s.heap m) (hit : h₀.get? it = none) (hL : it ≠ L) (hs : Heap.ExtBut it s.heap h') : Fr h₀ L h' m := by
  obtain ⟨oL, es, ep, hL', rL⟩ := F.ns
  exact ⟨⟨oL, es, ep, hs _ _ (Ne.symm hL) hL', rL⟩, fun b o e => hs b o (fun z => by rw [z, hit] at e; cases e) (F.keep b o e), F.above⟩
theorem liter_K {Q : Value → Shared → Prop} (F : Fr h₀ L s.heap m) (N : News h₀ L s.heap news) (hD : s.heap.IsList D its)
    (h : ∀ it h', Fr h₀ L h' m → News h₀ L h' ((it, liO D 0) :: news) → (∀ p ∈ news, p.1 < it) → Q (.ref it) { s with heap := h' }) : wpAny (model prog w) A (pyIter (.ref D)) Q E s :=
  wpAny_pyIter_list hD (h _ _ (F.push _) (N.push F _) fun p hp => Heap.lt_size (N p hp).1)
theorem lnext_K {Q : Option Value → Shared → Prop} (hh : A.handled = none) (F : Fr h₀ L s.heap m) (N : News h₀ L s.heap ((it, liO D i) :: news)) (hD : s.heap.IsList D its) (hne : ∀ p ∈ news, p.1 ≠ it)
    (h1 : ∀ v, its[i]? = some v → ∀ h', Fr h₀ L h' m → News h₀ L h' ((it, liO D (i + 1)) :: news) → Q (some v) { s with heap := h' })
    (h2 : its[i]? = none → ∀ h', Fr h₀ L h' m → News h₀ L h' news → Q none { s with heap := h' }) : wpAny (model prog w) A (pyNext (.ref it)) Q E s := by
  obtain ⟨hit, hL, h0⟩ := N _ (.head _)
  have hI : s.heap.IsListIter it D i := ⟨_, hit, rfl, rfl⟩
  cases hx : its[i]? with
  | none => exact wpAny_pyNext_list_end hh hI hD hx fun h' hs => h2 hx h' (fr_extBut F h0 hL hs) fun p hp => ⟨hs _ _ (hne p hp) (N p (.tail _ hp)).1, (N p (.tail _ hp)).2⟩
  | some v =>
    obtain ⟨ol, hol, _, nl, hdl⟩ := hD
    unfold pyNext
    refine wpAny_bind (wpAny_attempt (wpAny_callSpecial?_slot (name := Str.ofString "__next__") hI.typeIs slot_listiter_next
      (wpAny_call_entry slot_listiter_next hI.typeIs entry_listiter_next ?_ (args_listiter_next _))))
    show wpAny _ _ (field (.ref it) 0 >>= _) _ _ s
    refine wpAny_bind (wpAny_field hit rfl (x := .ref D) rfl ?_)
    show wpAny _ _ (if (Value.ref D == Value.none) = true then _ else _) _ _ s
    rw [if_neg (show ¬ ((Value.ref D == Value.none) = true) from Bool.false_ne_true)]
    show wpAny _ _ (field (.ref it) 1 >>= _) _ _ s
    refine wpAny_bind (wpAny_field hit rfl (x := .int i 0) rfl ?_)
    show wpAny _ _ (seqItems? (.ref D) >>= _) _ _ s
    refine wpAny_bind (wpAny_seqItems hol hdl ?_)
    simp only [Int.toNat_natCast, hx]
    refine wpAny_bind (wpAny_setField_rec hit (by show (1 : Nat) < 2; omega) fun h' e1 b1 => wpAny_pure ⟨v, rfl, wpAny_pure ?_⟩)
    refine h1 v hx h' (fr_sameBut F h0 hL b1) fun p hp => ?_
    rcases List.mem_cons.mp hp with rfl | hp
    · exact ⟨e1, hL, h0⟩
    · exact ⟨(b1.2 _ (hne p hp)).trans (N p (.tail _ hp)).1, (N p (.tail _ hp)).2⟩
theorem rnext_K {x left step : Int} {Q : Option Value → Shared → Prop} (hh : A.handled = none) (F : Fr h₀ L s.heap m) (N : News h₀ L s.heap ((it, riO x left step) :: news)) (hne : ∀ p ∈ news, p.1 ≠ it)
    (h1 : 0 < left → ∀ h' t tk, Fr h₀ L h' m → News h₀ L h' ((it, riO (x + step) (left - 1) step) :: news) → Q (some (.int x t)) { s with heap := h', toks := tk })
    (h2 : left ≤ 0 → ∀ h', Fr h₀ L h' m → News h₀ L h' news → Q none { s with heap := h' }) : wpAny (model prog w) A (pyNext (.ref it)) Q E s := by
  obtain ⟨hit, hL, h0⟩ := N _ (.head _)
  by_cases hl : 0 < left
  · refine wpAny_pyNext_range_item hit hl fun h' hi' hs => h1 hl h' _ _ (fr_sameBut F h0 hL hs) fun p hp => ?_
    rcases List.mem_cons.mp hp with rfl | hp
    · exact ⟨hi', hL, h0⟩
    · exact ⟨(hs.2 _ (hne p hp)).trans (N p (.tail _ hp)).1, (N p (.tail _ hp)).2⟩
  · exact wpAny_pyNext_range_end hh hit (by omega) fun h' hs => h2 (by omega) h' (fr_extBut F h0 hL hs) fun p hp => ⟨hs _ _ (hne p hp) (N p (.tail _ hp)).1, (N p (.tail _ hp)).2⟩
end

section
variable {prog : Program} {w : World} {A : Around} {E : Value → Shared → Prop} {s : Shared} {h₀ : Heap} {L r : Addr} {m : Str → Option Value} {news : List (Addr × Obj)}
theorem riter_K {n : Nat} {t u v : Tok} {Q : Value → Shared → Prop} (F : Fr h₀ L s.heap m) (N : News h₀ L s.heap news) (hr : IsRange s.heap r 0 (n : Int) 1 t u v) (hn : n ≤ 1000000)
    (h : ∀ it h', Fr h₀ L h' m → News h₀ L h' ((it, riO 0 n 1) :: news) → (∀ p ∈ news, p.1 < it) → Q (.ref it) { s with heap := h' }) : wpAny (model prog w) A (pyIter (.ref r)) Q E s := by
  have e : Builtin.Range.rangeSize 0 (n : Int) 1 = (n : Int) := by
    unfold Builtin.Range.rangeSize
    simp
    omega
  refine wpAny_pyIter_range hr ?_ ?_
  · unfold Builtin.Range.small Builtin.Range.rangeFitsLong
    simp
    omega
  · rw [e]
    exact h _ _ (F.push _) (N.push F _) fun p hp => Heap.lt_size (N p hp).1
end
section
variable {g h : Heap} {L : Addr} {m : Str → Option Value}
theorem canon1 (F : Fr g L h m) (a : Str) {v : Value} (e : m a = some v) : Fr g L h (fun y => if y = a then some v else m y) := by
  have : (fun y => if y = a then some v else m y) = m := by
    funext y
    by_cases h1 : y = a
    · rw [if_pos h1, h1, e]
    · rw [if_neg h1]
  rw [this]; exact F
theorem canon2 (F : Fr g L h m) (a b : Str) {v v2 : Value} (e : m a = some v) (e2 : m b = some v2) : Fr g L h (fun y => if y = a then some v else if y = b then some v2 else m y) := by
  have F2 := canon1 (canon1 F b e2) a (v := v) (by by_cases q : a = b; · { subst q; rw [e2] at e; cases e; simp } ; · { rw [if_neg q]; exact e })
  exact F2
theorem canon3 (F : Fr g L h m) (a b c : Str) {v v2 v3 : Value} (e : m a = some v) (e2 : m b = some v2) (e3 : m c = some v3) : Fr g L h (fun y => if y = a then some v else if y = b then some v2 else if y = c then some v3 else m y) := by
  have F2 := canon1 (canon2 F b c e2 e3) a (v := v) (by by_cases q : a = b; · { subst q; rw [e2] at e; cases e; simp } ; · { rw [if_neg q]; by_cases q2 : a = c; · { subst q2; rw [e3] at e; cases e; simp }; · { rw [if_neg q2]; exact e } })
  exact F2
end
end Mine
end
-- part Kit6
section
open PySem PySem.W PyProof.Rows PySem.Calls
set_option Elab.async false
set_option maxRecDepth 100000
set_option maxHeartbeats 400000
set_option linter.unusedVariables false
namespace Mine
local macro_rules | `(tactic| walk_at "pad0") => `(tactic| skip)
local macro_rules | `(tactic| walk_at "pad1") => `(tactic| skip)
local macro_rules | `(tactic| walk_at "pad2") => `(tactic| skip)
local macro_rules | `(tactic| walk_at "pad3") => `(tactic| skip)
local macro_rules | `(tactic| walk_at "pad4") => `(tactic| skip)
local macro_rules | `(tactic| walk_at "pad5") => `(tactic| skip)
local macro_rules | `(tactic| walk_at "pad6") => `(tactic| skip)
local macro_rules | `(tactic| walk_at "pad7") => `(tactic| skip)
local macro_rules | `(tactic| walk_at "pad8") => `(tactic| skip)
local macro_rules | `(tactic| walk_at "pad9") => `(tactic| skip)
/-- the pieces of a text -/
def pcs : Option Nat → List Nat → List (List Nat)
  | _, [] => []
  | a, c :: r => if c = 13 ∨ c = 10 then (if c = 13 ∨ a ≠ some 13 then [13, 10] :: pcs (some c) r else pcs (some c) r) else if c = 46 ∧ (a = none ∨ a = some 13 ∨ a = some 10) then [46, 46] :: pcs (some c) r else [c] :: pcs (some c) r
abbrev strsO (l : List (Str × Tok)) (n : Nat) : Obj := listOf (strValues l).toArray n
abbrev lists (l : List (Str × Tok)) : List (List Nat) := l.map fun q => q.1.cps.toList

def prevAt (x : Str) (i : Nat) : Option Nat := if i = 0 then none else x.cps[i - 1]?
def aheadS : Option Nat → Str
  | none => ⟨#[]⟩
  | some a => ⟨#[a]⟩
theorem slice_ahead {x : Str} {i : Nat} (h : i ≤ x.cps.size) : Txt.slice x (some ((i : Int) - 1)) (some (i : Int)) = aheadS (prevAt x i) := by
  cases i with
  | zero => exact slice_m1 x
  | succ j =>
    have e : ((j + 1 : Nat) : Int) - 1 = (j : Int) := by omega
    rw [e, slice_nat]
    unfold prevAt
    rw [if_neg (by omega)]
    have e2 : x.cps[j + 1 - 1]? = some x.cps[j] := by simp
    rw [e2]
    show _ = (⟨#[x.cps[j]]⟩ : Str)
    congr 1
    apply Array.ext'
    have h' : j < x.cps.toList.length := by simp; omega
    rw [show j + 1 - j = 1 by omega, List.drop_eq_getElem_cons h']
    simp
theorem item_at {x : Str} {i : Nat} (h : i < x.cps.size) : Txt.item x (i : Int) = ⟨#[x.cps[i]]⟩ := by
  unfold Txt.item Txt.charAt seqIndex?
  have h1 : ¬ ((i : Int) < 0) := by omega
  have h2 : ((0 : Int) ≤ (i : Int) && decide ((i : Int) < (x.length : Int))) = true := by
    have : i < x.length := h
    simp; omega
  simp only [h1, if_false]
  simp [Str.length, h]
theorem push_strs (l : List (Str × Tok)) (q : Str) (tq : Tok) : (strValues l).toArray.push (.str q tq) = (strValues (l ++ [(q, tq)])).toArray := by simp [strValues]
theorem ofCRLF : (Str.ofString "\r\n").cps.toList = [13, 10] := by decide +kernel
theorem ofCR : Str.ofString "\r" = ⟨#[13]⟩ := by decide +kernel
theorem ofLF : Str.ofString "\n" = ⟨#[10]⟩ := by decide +kernel
theorem ofDot : Str.ofString "." = ⟨#[46]⟩ := by decide +kernel
theorem ofDots : (Str.ofString "..").cps.toList = [46, 46] := by decide +kernel
theorem ofNil : Str.ofString "" = ⟨#[]⟩ := by decide +kernel
theorem anyA {a : Option Nat} : ([Str.ofString "", Str.ofString "\r", Str.ofString "\n"].any fun z => z == aheadS a) = true ↔ (a = none ∨ a = some 13 ∨ a = some 10) := by
  rw [ofNil, ofCR, ofLF]
  cases a with
  | none => simp [aheadS]
  | some a =>
    simp [aheadS]
    constructor
    · rintro (h | h)
      · exact .inl h.symm
      · exact .inr h.symm
    · rintro (h | h)
      · exact .inl h.symm
      · exact .inr h.symm
theorem neA {a : Option Nat} : (aheadS a != Str.ofString "\r") = true ↔ a ≠ some 13 := by
  rw [ofCR]
  cases a with
  | none => simp [aheadS]
  | some a => simp [aheadS]
theorem prev_succ {x : Str} {i : Nat} (h : i < x.cps.size) : prevAt x (i + 1) = some x.cps[i] := by
  unfold prevAt
  rw [if_neg (by omega)]
  simp [h]
/-- a turn that lays a piece -/
theorem pc_end {x : Str} {t : Tok} {g : Heap} {L' : Addr} {s : Shared} {it P i : Nat} {l : List (Str × Tok)} {ep : Nat} {h : Heap} {tk : Nat} {q : Str} {tq : Tok} {m' : Str → Option Value} {news' : List (Addr × Obj)} {I : Nat → Shared → Prop} {Q : Flow → Shared → Prop}
    (hI : ∀ (i : Nat) (l : List (Str × Tok)) (ep : Nat) (u : Str → Option Value) (h : Heap) (tk : Nat), Fr g L' h (fun z => if z = Str.ofString "pieces" then some (.ref P) else if z = Str.ofString "text" then some (.str x t) else u z) → News g L' h [(it, riO i ((x.length : Int) - i) 1), (P, strsO l ep)] → i ≤ x.length → l.length ≤ i → lists l ++ pcs (prevAt x i) (x.cps.toList.drop i) = pcs none x.cps.toList → I (x.length - i) { s with heap := h, toks := tk })
    (F : Fr g L' h m') (e1 : m' (Str.ofString "pieces") = some (.ref P)) (e2 : m' (Str.ofString "text") = some (.str x t)) (N : News g L' h news') (hin : ∀ p ∈ [(it, riO ((i : Int) + 1) ((x.length : Int) - i - 1) 1), (P, listOf ((strValues l).toArray.push (.str q tq)) (ep + 1))], p ∈ news')
    (hi : i < x.length) (hl : l.length ≤ i) (hp : lists l ++ pcs (prevAt x i) (x.cps.toList.drop i) = pcs none x.cps.toList)
    (hq : pcs (prevAt x i) (x.cps.toList.drop i) = q.cps.toList :: pcs (prevAt x (i + 1)) (x.cps.toList.drop (i + 1))) : RoundEnd I (x.length - i) Q .next { s with heap := h, toks := tk } := by
  refine ⟨x.length - (i + 1), by omega, hI (i + 1) (l ++ [(q, tq)]) (ep + 1) _ h tk (canon2 F _ _ e1 e2) (cb_drop N ?_) hi (by simp; omega) ?_⟩
  · rw [push_strs] at hin
    rw [show ((i + 1 : Nat) : Int) = (i : Int) + 1 by omega, show (x.length : Int) - ((i : Int) + 1) = (x.length : Int) - i - 1 by omega]
    exact hin
  · rw [hq] at hp
    simpa [lists] using hp
theorem pcs_dots {a : Option Nat} (r : List Nat) (h : a = none ∨ a = some 13 ∨ a = some 10) : pcs a (46 :: r) = [46, 46] :: pcs (some 46) r := by
  rw [pcs, if_neg (by omega), if_pos ⟨rfl, h⟩]
theorem pcs_dot {a : Option Nat} (r : List Nat) (h : ¬ (a = none ∨ a = some 13 ∨ a = some 10)) : pcs a (46 :: r) = [46] :: pcs (some 46) r := by
  rw [pcs, if_neg (by omega), if_neg (fun q => h q.2)]
theorem pcs_one {a : Option Nat} {c : Nat} (r : List Nat) (h : ¬ (c = 13 ∨ c = 10)) (h2 : c ≠ 46) : pcs a (c :: r) = [c] :: pcs (some c) r := by
  rw [pcs, if_neg h, if_neg (fun q => h2 q.1)]
theorem pcs_cr {a : Option Nat} (r : List Nat) : pcs a (13 :: r) = [13, 10] :: pcs (some 13) r := by
  rw [pcs, if_pos (.inl rfl), if_pos (.inl rfl)]
theorem pcs_lf {a : Option Nat} (r : List Nat) (h : a ≠ some 13) : pcs a (10 :: r) = [13, 10] :: pcs (some 10) r := by
  rw [pcs, if_pos (.inr rfl), if_pos (.inr h)]
theorem pcs_crlf (r : List Nat) : pcs (some 13) (10 :: r) = pcs (some 10) r := by
  rw [pcs, if_pos (.inr rfl), if_neg (by simp)]
theorem in2 {c : Nat} (h : (Builtin.Str.occurrences (Str.ofString "\r\n") ⟨#[c]⟩ 0 (Str.ofString "\r\n").length 1).isEmpty = false) : c = 13 ∨ c = 10 := by
  have := in_ws h
  rw [ofCRLF] at this
  simpa using this
theorem notIn2 {c : Nat} (h : (Builtin.Str.occurrences (Str.ofString "\r\n") ⟨#[c]⟩ 0 (Str.ofString "\r\n").length 1).isEmpty = true) : ¬ (c = 13 ∨ c = 10) := by
  have := not_in_ws h
  rw [ofCRLF] at this
  simpa using this
theorem one46 {c : Nat} (h : ((⟨#[c]⟩ : Str) == Str.ofString ".") = true) : c = 46 := by rw [ofDot] at h; simpa using h
theorem one46_no {c : Nat} (h : ((⟨#[c]⟩ : Str) == Str.ofString ".") = false) : c ≠ 46 := by rw [ofDot] at h; simpa using h
theorem one13 {c : Nat} (h : ((⟨#[c]⟩ : Str) == Str.ofString "\r") = true) : c = 13 := by rw [ofCR] at h; simpa using h
theorem one13_no {c : Nat} (h : ((⟨#[c]⟩ : Str) == Str.ofString "\r") = false) : c ≠ 13 := by rw [ofCR] at h; simpa using h
end Mine
end
-- part Kit7
section
open PySem PySem.W PyProof.Rows PySem.Calls
set_option Elab.async false
set_option maxRecDepth 100000
set_option maxHeartbeats 400000
set_option linter.unusedVariables false
namespace Mine
local macro_rules | `(tactic| walk_at "pad0") => `(tactic| skip)
local macro_rules | `(tactic| walk_at "pad1") => `(tactic| skip)
local macro_rules | `(tactic| walk_at "pad2") => `(tactic| skip)
local macro_rules | `(tactic| walk_at "pad3") => `(tactic| skip)
local macro_rules | `(tactic| walk_at "pad4") => `(tactic| skip)
local macro_rules | `(tactic| walk_at "pad5") => `(tactic| skip)
local macro_rules | `(tactic| walk_at "pad6") => `(tactic| skip)
local macro_rules | `(tactic| walk_at "pad7") => `(tactic| skip)
local macro_rules | `(tactic| walk_at "pad8") => `(tactic| skip)
local macro_rules | `(tactic| walk_at "pad9") => `(tactic| skip)
local macro_rules | `(tactic| walk_at "pad10") => `(tactic| skip)
section
variable {prog : Program} {w : World} {A : Around} {E : Value → Shared → Prop} {s : Shared} {g : Heap} {L P : Addr} {m : Str → Option Value} {news : List (Addr × Obj)} {l : List (Str × Tok)} {value slice : Expr} {k : Nat} {u : Tok} {Q : Value → Shared → Prop}
theorem strVals_at (h : k < l.length) : (strValues l)[k]? = some (.str l[k].1 l[k].2) := by simp [strValues, h]
theorem strs_item (hP : s.heap.IsList P (strValues l).toArray) (hl : l.length ≤ 1000000) (hk : k < l.length) (h : Q (.str l[k].1 l[k].2) s)
    (hs : subscripted slice false (.ref P) (.int (k : Int) u) = operate [.ref P, .int (k : Int) u] (getItem (.ref P) (.int (k : Int) u)) := by with_unfolding_all rfl) :
    wpAny (model prog w) A (subscriptTail value slice (.ref P) (.int (k : Int) u)) Q E s :=
  tail_any hP.typeIs slot_list_getitem.lookup (wpAny_getItem_list hP (by omega) (by omega) (by simpa using strVals_at hk) h) hs
theorem strs_len (hP : s.heap.IsList P (strValues l).toArray) (hl : l.length ≤ 1000000) (h : ∀ t tk, Q (.int (l.length : Int) t) { s with toks := tk }) : wpAny (model prog w) A (call (.builtin "len") [.ref P]) Q E s := by
  have e : (strValues l).toArray.size = l.length := by simp [strValues]
  refine call_len_list hP (by rw [e]; omega) ?_
  rw [e]
  exact h _ _
theorem pick_run (a b : Nat) : slicePick (strValues l).toArray (some (a : Int)) (some (b : Int)) none = (strValues ((l.drop a).take (b - a))).toArray := by
  have e : sliceBounds (some (a : Int)) (some (b : Int)) none (strValues l).toArray.size = (((min a l.length : Nat) : Int), ((min b l.length : Nat) : Int), 1) := by
    have e0 : (strValues l).toArray.size = l.length := by simp [strValues]
    rw [e0]
    simp only [sliceBounds, Option.getD_none, show (1 : Int) > 0 by decide, if_true, if_neg (show ¬ ((a : Int) < 0) by omega), if_neg (show ¬ ((b : Int) < 0) by omega)]
    congr 1
    · omega
    · congr 1
      omega
  rw [kmk_pick_nat _ e]
  congr 1
  simp only [strValues, ← List.map_drop, ← List.map_take]
  congr 1
  rw [kmk_drop_min]
  by_cases h1 : b ≤ l.length
  · rw [Nat.min_eq_left h1]
    by_cases h2 : a ≤ l.length
    · rw [Nat.min_eq_left h2]
    · rw [List.drop_of_length_le (by omega)]; simp
  · rw [Nat.min_eq_right (by omega), List.take_of_length_le (by simp; omega), List.take_of_length_le (by simp; omega)]
theorem pick_to (b : Nat) : slicePick (strValues l).toArray none (some (b : Int)) none = (strValues (l.take b)).toArray := by
  have e : sliceBounds none (some (b : Int)) none (strValues l).toArray.size = (((0 : Nat) : Int), ((min b l.length : Nat) : Int), 1) := by
    have e0 : (strValues l).toArray.size = l.length := by simp [strValues]
    rw [e0]
    simp only [sliceBounds, Option.getD_none, show (1 : Int) > 0 by decide, if_true, if_neg (show ¬ ((b : Int) < 0) by omega)]
    congr 1
    congr 1
    omega
  rw [kmk_pick_nat _ e]
  congr 1
  simp only [strValues, List.drop_zero, Nat.sub_zero, ← List.map_take]
  congr 1
  exact kmk_take_min l b
theorem strs_slice {a b : Nat} {ta tb : Tok} (F : Fr g L s.heap m) (N : News g L s.heap news) (hP : s.heap.IsList P (strValues l).toArray) (hl : l.length ≤ 1000000)
    (h : ∀ D h', Fr g L h' m → News g L h' ((D, strsO ((l.drop a).take (b - a)) 0) :: news) → (∀ p ∈ news, p.1 < D) → Q (.ref D) { s with heap := h' })
    (hs : subscripted slice false (.ref P) (.ref s.heap.objs.size) = operate [.ref s.heap.objs.size, .ref P] (getItem (.ref P) (.ref s.heap.objs.size)) := by with_unfolding_all rfl) (ht : ∀ r, letTemporaryGo value (.ref P) r = pure () := by (intro _; with_unfolding_all rfl)) :
    wpAny (model prog w) A (subscriptTail value slice (.ref P) (.ref s.heap.objs.size)) Q E { s with heap := s.heap.push { cls := .type "slice", data := .fields #[.int (a : Int) ta, .int (b : Int) tb, .none] } } := by
  have e24 : sizeLine = 16777216 := by decide
  refine kmk_slice F N hP (IsPart.int _ _) (IsPart.int _ _) (fun D h' F' N' hlt => ?_) hs ht (by simp [strValues]; omega)
  rw [pick_run] at N'
  exact h D h' F' N' hlt
theorem strs_sliceTo {b : Nat} {tb : Tok} (F : Fr g L s.heap m) (N : News g L s.heap news) (hP : s.heap.IsList P (strValues l).toArray) (hl : l.length ≤ 1000000)
    (h : ∀ D h', Fr g L h' m → News g L h' ((D, strsO (l.take b) 0) :: news) → (∀ p ∈ news, p.1 < D) → Q (.ref D) { s with heap := h' })
    (hs : subscripted slice false (.ref P) (.ref s.heap.objs.size) = operate [.ref s.heap.objs.size, .ref P] (getItem (.ref P) (.ref s.heap.objs.size)) := by with_unfolding_all rfl) (ht : ∀ r, letTemporaryGo value (.ref P) r = pure () := by (intro _; with_unfolding_all rfl)) :
    wpAny (model prog w) A (subscriptTail value slice (.ref P) (.ref s.heap.objs.size)) Q E { s with heap := s.heap.push { cls := .type "slice", data := .fields #[.none, .int (b : Int) tb, .none] } } := by
  have e24 : sizeLine = 16777216 := by decide
  refine kmk_slice F N hP IsPart.none (IsPart.int _ _) (fun D h' F' N' hlt => ?_) hs ht (by simp [strValues]; omega)
  rw [pick_to] at N'
  exact h D h' F' N' hlt
theorem strs_slice1 (a : Nat) {ai b : Int} {ta tb : Tok} (hai : ai = (a : Int)) (hb : b = (a : Int) + 1) (F : Fr g L s.heap m) (N : News g L s.heap news) (hP : s.heap.IsList P (strValues l).toArray) (hl : l.length ≤ 1000000)
    (h0 : l.length ≤ a → ∀ D h', Fr g L h' m → News g L h' ((D, listOf #[] 0) :: news) → (∀ p ∈ news, p.1 < D) → Q (.ref D) { s with heap := h' })
    (h1 : ∀ ha : a < l.length, ∀ D h', Fr g L h' m → News g L h' ((D, listOf #[.str l[a].1 l[a].2] 0) :: news) → (∀ p ∈ news, p.1 < D) → Q (.ref D) { s with heap := h' })
    (hs : subscripted slice false (.ref P) (.ref s.heap.objs.size) = operate [.ref s.heap.objs.size, .ref P] (getItem (.ref P) (.ref s.heap.objs.size)) := by with_unfolding_all rfl) (ht : ∀ r, letTemporaryGo value (.ref P) r = pure () := by (intro _; with_unfolding_all rfl)) :
    wpAny (model prog w) A (subscriptTail value slice (.ref P) (.ref s.heap.objs.size)) Q E { s with heap := s.heap.push { cls := .type "slice", data := .fields #[.int ai ta, .int b tb, .none] } } := by
  subst hai
  have hb : b = ((a + 1 : Nat) : Int) := by omega
  subst hb
  refine strs_slice F N hP hl (fun D h' F' N' hlt => ?_) hs ht
  by_cases ha : a < l.length
  · refine h1 ha D h' F' ?_ hlt
    rw [List.drop_eq_getElem_cons ha, show a + 1 - a = 1 by omega] at N'
    exact N'
  · refine h0 (by omega) D h' F' ?_ hlt
    rw [List.drop_of_length_le (by omega)] at N'
    rw [List.take_nil] at N'
    exact N'
end
end Mine
end
-- part Kit8
section
open PySem PySem.W PyProof.Rows PySem.Calls PySem.SeqAt
set_option Elab.async false
set_option maxRecDepth 100000
set_option maxHeartbeats 400000
set_option linter.unusedVariables false
namespace Mine
local macro_rules | `(tactic| walk_at "pad0") => `(tactic| skip)
local macro_rules | `(tactic| walk_at "pad1") => `(tactic| skip)
local macro_rules | `(tactic| walk_at "pad2") => `(tactic| skip)
local macro_rules | `(tactic| walk_at "pad3") => `(tactic| skip)
local macro_rules | `(tactic| walk_at "pad4") => `(tactic| skip)
local macro_rules | `(tactic| walk_at "pad5") => `(tactic| skip)
local macro_rules | `(tactic| walk_at "pad6") => `(tactic| skip)
local macro_rules | `(tactic| walk_at "pad7") => `(tactic| skip)
local macro_rules | `(tactic| walk_at "pad8") => `(tactic| skip)
local macro_rules | `(tactic| walk_at "pad9") => `(tactic| skip)
local macro_rules | `(tactic| walk_at "pad10") => `(tactic| skip)
local macro_rules | `(tactic| walk_at "pad11") => `(tactic| skip)
/-- do two lists agree at j -/
def eqAtJ (xs ys : List Str) (j : Nat) : Bool := xs.getD j ⟨#[]⟩ == ys.getD j ⟨#[]⟩
theorem getD_at {α : Type} {xs : List α} {j : Nat} {d : α} (h : j < xs.length) : xs.getD j d = xs[j] := by simp [List.getD_eq_getElem?_getD, h]
theorem all_eqAtJ : ∀ {xs ys : List Str}, xs.length = ys.length → (List.range xs.length).all (eqAtJ xs ys) = decide (xs = ys) := by
  intro xs ys h
  rw [Bool.eq_iff_iff, List.all_eq_true, decide_eq_true_iff]
  constructor
  · intro q
    refine List.ext_getElem h fun i h1 h2 => ?_
    have := q i (List.mem_range.mpr h1)
    unfold eqAtJ at this
    rw [beq_iff_eq, getD_at h1, getD_at h2] at this
    exact this
  · rintro rfl i _
    exact beq_self_eq_true _
section
variable {prog : Program} {w : World} {A : Around} {E : Value → Shared → Prop} {s : Shared} {a b : Addr} {l l2 : List (Str × Tok)} {Q : Value → Shared → Prop}
theorem strs_eqAt (j : Nat) (h1 : j < (strValues l).toArray.size) (h2 : j < (strValues l2).toArray.size) : EqAt A s (strValues l).toArray[j] (strValues l2).toArray[j] (eqAtJ (l.map (·.1)) (l2.map (·.1)) j) := by
  have g1 : j < l.length := by simpa [strValues] using h1
  have g2 : j < l2.length := by simpa [strValues] using h2
  have e1 : (strValues l).toArray[j] = .str l[j].1 l[j].2 := by simp [strValues]
  have e2 : (strValues l2).toArray[j] = .str l2[j].1 l2[j].2 := by simp [strValues]
  rw [e1, e2]
  have e3 : eqAtJ (l.map (·.1)) (l2.map (·.1)) j = (l[j].1 == l2[j].1) := by
    unfold eqAtJ
    rw [getD_at (by simpa using g1), getD_at (by simpa using g2)]
    simp
  rw [e3]
  exact EqAt.str_str _ _ _ _
theorem strs_size : (strValues l).toArray.size = (l.map (·.1)).length := by simp [strValues]
theorem strs_ne (ha : s.heap.IsList a (strValues l).toArray) (hb : s.heap.IsList b (strValues l2).toArray) (hu : A.units < cLine) (h : Q (.bool (!decide (l.map (·.1) = l2.map (·.1)))) s) :
    wpAny (model prog w) A (compareOp .NotEq (.ref a) (.ref b)) Q E s := by
  by_cases hs : (l.map (·.1)).length = (l2.map (·.1)).length
  · have := RcNeAt.lists (A := A) ha hb (by rw [strs_size, strs_size, hs]) hu (fun j h1 h2 => strs_eqAt j h1 h2)
    rw [strs_size, all_eqAtJ hs] at this
    exact this prog w E Q h
  · have e : decide (l.map (·.1) = l2.map (·.1)) = false := decide_eq_false fun q => hs (by rw [q])
    rw [e] at h
    exact RcNeAt.lists_lengths (A := A) ha hb (by rw [strs_size, strs_size]; simpa using hs) hu prog w E Q h
theorem strs_eq (ha : s.heap.IsList a (strValues l).toArray) (hb : s.heap.IsList b (strValues l2).toArray) (hu : A.units < cLine) (h : Q (.bool (decide (l.map (·.1) = l2.map (·.1)))) s) :
    wpAny (model prog w) A (compareOp .Eq (.ref a) (.ref b)) Q E s := by
  by_cases hs : (l.map (·.1)).length = (l2.map (·.1)).length
  · have := RcAt.lists (A := A) ha hb (by rw [strs_size, strs_size, hs]) hu (fun j h1 h2 => strs_eqAt j h1 h2)
    rw [strs_size, all_eqAtJ hs] at this
    exact this prog w E Q h
  · have e : decide (l.map (·.1) = l2.map (·.1)) = false := decide_eq_false fun q => hs (by rw [q])
    rw [e] at h
    exact RcAt.lists_lengths (A := A) ha hb (by rw [strs_size, strs_size]; simpa using hs) hu prog w E Q h
theorem one_ne {x y : Str} {t u : Tok} (ha : s.heap.IsList a #[.str x t]) (hb : s.heap.IsList b #[.str y u]) (hu : A.units < cLine) (h1 : x = y → Q (.bool false) s) (h2 : x ≠ y → Q (.bool true) s) :
    wpAny (model prog w) A (compareOp .NotEq (.ref a) (.ref b)) Q E s := by
  refine strs_ne (l := [(x, t)]) (l2 := [(y, u)]) ha hb hu ?_
  by_cases e : x = y
  · have : decide (List.map (·.1) [(x, t)] = List.map (·.1) [(y, u)]) = true := by simp [e]
    rw [this]; exact h1 e
  · have : decide (List.map (·.1) [(x, t)] = List.map (·.1) [(y, u)]) = false := by simp [e]
    rw [this]; exact h2 e
/-- a text and two numbers against their like -/
theorem trip_ne {x y : Str} {i j i2 j2 : Int} {t1 t2 t3 u1 u2 u3 : Tok} (ha : s.heap.IsTuple a #[.str x t1, .int i t2, .int j t3]) (hb : s.heap.IsTuple b #[.str y u1, .int i2 u2, .int j2 u3]) (hu : A.units < cLine) (h : Q (.bool (!(x == y && i == i2 && j == j2))) s) :
    wpAny (model prog w) A (compareOp .NotEq (.ref a) (.ref b)) Q E s := by
  have := RcNeAt.tuples (A := A) (e := fun k => if k = 0 then x == y else if k = 1 then i == i2 else j == j2) ha hb hu (fun k h1 h2 => by
    match k, h1, h2 with
    | 0, _, _ => exact EqAt.str_str _ _ _ _
    | 1, _, _ => exact (MeetsSeq.EqGives.int i i2 t2 u2).at _ _
    | 2, _, _ => exact (MeetsSeq.EqGives.int j j2 t3 u3).at _ _
    | k + 3, h1, _ => exact absurd h1 (by simp))
  have e : (!((List.range (min (#[Value.str x t1, .int i t2, .int j t3] : Array Value).size (#[Value.str y u1, .int i2 u2, .int j2 u3] : Array Value).size)).all (fun k => if k = 0 then x == y else if k = 1 then i == i2 else j == j2) && (#[Value.str x t1, .int i t2, .int j t3] : Array Value).size == (#[Value.str y u1, .int i2 u2, .int j2 u3] : Array Value).size)) = (!(x == y && i == i2 && j == j2)) := by
    simp [List.range_succ, Bool.and_assoc]
  rw [e] at this
  exact this prog w E Q h
end
theorem len_app (a b : Str) : (a ++ b).length = a.length + b.length := by rw [app_str]; simp [Str.length]
section
variable {prog : Program} {w : World} {A : Around} {E : Value → Shared → Prop} {s : Shared} {D : Addr} {Q : Value → Shared → Prop}
theorem one_join {x q : Str} {t tq : Tok} (hl : s.heap.IsList D #[.str q tq]) (hq : q.length + x.length ≤ 1000) (h : ∀ t' k, Q (.str q t') { s with toks := k }) : wpAny (model prog w) A (call (.builtin "str.join") [.str x t, .ref D]) Q E s :=
  SC.join (l := [(q, tq)]) hl rfl (joinOk_of (by simp; omega)) h
end
theorem canon4 {g h : Heap} {L : Addr} {m : Str → Option Value} (F : Fr g L h m) (a1 a2 a3 a4 : Str) {v1 v2 v3 v4 : Value} (e1 : m a1 = some v1) (e2 : m a2 = some v2) (e3 : m a3 = some v3) (e4 : m a4 = some v4) : Fr g L h (fun y => if y = a1 then some v1 else if y = a2 then some v2 else if y = a3 then some v3 else if y = a4 then some v4 else m y) := by
  have : (fun y => if y = a1 then some v1 else if y = a2 then some v2 else if y = a3 then some v3 else if y = a4 then some v4 else m y) = m := by
    funext y
    by_cases h1 : y = a1
    · rw [if_pos h1, h1, e1]
    rw [if_neg h1]
    by_cases h2 : y = a2
    · rw [if_pos h2, h2, e2]
    rw [if_neg h2]
    by_cases h3 : y = a3
    · rw [if_pos h3, h3, e3]
    rw [if_neg h3]
    by_cases h4 : y = a4
    · rw [if_pos h4, h4, e4]
    rw [if_neg h4]
  rw [this]; exact F
theorem canon5 {g h : Heap} {L : Addr} {m : Str → Option Value} (F : Fr g L h m) (a1 a2 a3 a4 a5 : Str) {v1 v2 v3 v4 v5 : Value} (e1 : m a1 = some v1) (e2 : m a2 = some v2) (e3 : m a3 = some v3) (e4 : m a4 = some v4) (e5 : m a5 = some v5) : Fr g L h (fun y => if y = a1 then some v1 else if y = a2 then some v2 else if y = a3 then some v3 else if y = a4 then some v4 else if y = a5 then some v5 else m y) := by
  have : (fun y => if y = a1 then some v1 else if y = a2 then some v2 else if y = a3 then some v3 else if y = a4 then some v4 else if y = a5 then some v5 else m y) = m := by
    funext y
    by_cases h1 : y = a1
    · rw [if_pos h1, h1, e1]
    rw [if_neg h1]
    by_cases h2 : y = a2
    · rw [if_pos h2, h2, e2]
    rw [if_neg h2]
    by_cases h3 : y = a3
    · rw [if_pos h3, h3, e3]
    rw [if_neg h3]
    by_cases h4 : y = a4
    · rw [if_pos h4, h4, e4]
    rw [if_neg h4]
    by_cases h5 : y = a5
    · rw [if_pos h5, h5, e5]
    rw [if_neg h5]
  rw [this]; exact F
theorem canon6 {g h : Heap} {L : Addr} {m : Str → Option Value} (F : Fr g L h m) (a1 a2 a3 a4 a5 a6 : Str) {v1 v2 v3 v4 v5 v6 : Value} (e1 : m a1 = some v1) (e2 : m a2 = some v2) (e3 : m a3 = some v3) (e4 : m a4 = some v4) (e5 : m a5 = some v5) (e6 : m a6 = some v6) : Fr g L h (fun y => if y = a1 then some v1 else if y = a2 then some v2 else if y = a3 then some v3 else if y = a4 then some v4 else if y = a5 then some v5 else if y = a6 then some v6 else m y) := by
  have : (fun y => if y = a1 then some v1 else if y = a2 then some v2 else if y = a3 then some v3 else if y = a4 then some v4 else if y = a5 then some v5 else if y = a6 then some v6 else m y) = m := by
    funext y
    by_cases h1 : y = a1
    · rw [if_pos h1, h1, e1]
    rw [if_neg h1]
    by_cases h2 : y = a2
    · rw [if_pos h2, h2, e2]
    rw [if_neg h2]
    by_cases h3 : y = a3
    · rw [if_pos h3, h3, e3]
    rw [if_neg h3]
    by_cases h4 : y = a4
    · rw [if_pos h4, h4, e4]
    rw [if_neg h4]
    by_cases h5 : y = a5
    · rw [if_pos h5, h5, e5]
    rw [if_neg h5]
    by_cases h6 : y = a6
    · rw [if_pos h6, h6, e6]
    rw [if_neg h6]
  rw [this]; exact F
theorem canon7 {g h : Heap} {L : Addr} {m : Str → Option Value} (F : Fr g L h m) (a1 a2 a3 a4 a5 a6 a7 : Str) {v1 v2 v3 v4 v5 v6 v7 : Value} (e1 : m a1 = some v1) (e2 : m a2 = some v2) (e3 : m a3 = some v3) (e4 : m a4 = some v4) (e5 : m a5 = some v5) (e6 : m a6 = some v6) (e7 : m a7 = some v7) : Fr g L h (fun y => if y = a1 then some v1 else if y = a2 then some v2 else if y = a3 then some v3 else if y = a4 then some v4 else if y = a5 then some v5 else if y = a6 then some v6 else if y = a7 then some v7 else m y) := by
  have : (fun y => if y = a1 then some v1 else if y = a2 then some v2 else if y = a3 then some v3 else if y = a4 then some v4 else if y = a5 then some v5 else if y = a6 then some v6 else if y = a7 then some v7 else m y) = m := by
    funext y
    by_cases h1 : y = a1
    · rw [if_pos h1, h1, e1]
    rw [if_neg h1]
    by_cases h2 : y = a2
    · rw [if_pos h2, h2, e2]
    rw [if_neg h2]
    by_cases h3 : y = a3
    · rw [if_pos h3, h3, e3]
    rw [if_neg h3]
    by_cases h4 : y = a4
    · rw [if_pos h4, h4, e4]
    rw [if_neg h4]
    by_cases h5 : y = a5
    · rw [if_pos h5, h5, e5]
    rw [if_neg h5]
    by_cases h6 : y = a6
    · rw [if_pos h6, h6, e6]
    rw [if_neg h6]
    by_cases h7 : y = a7
    · rw [if_pos h7, h7, e7]
    rw [if_neg h7]
  rw [this]; exact F
end Mine
end
-- part Kit9
section
open PySem PySem.W PyProof.Rows PySem.Calls
set_option Elab.async false
set_option maxRecDepth 100000
set_option maxHeartbeats 400000
set_option linter.unusedVariables false
namespace Mine
local macro_rules | `(tactic| walk_at "pad0") => `(tactic| skip)
local macro_rules | `(tactic| walk_at "pad1") => `(tactic| skip)
local macro_rules | `(tactic| walk_at "pad2") => `(tactic| skip)
local macro_rules | `(tactic| walk_at "pad3") => `(tactic| skip)
local macro_rules | `(tactic| walk_at "pad4") => `(tactic| skip)
local macro_rules | `(tactic| walk_at "pad5") => `(tactic| skip)
local macro_rules | `(tactic| walk_at "pad6") => `(tactic| skip)
local macro_rules | `(tactic| walk_at "pad7") => `(tactic| skip)
local macro_rules | `(tactic| walk_at "pad8") => `(tactic| skip)
local macro_rules | `(tactic| walk_at "pad9") => `(tactic| skip)
local macro_rules | `(tactic| walk_at "pad10") => `(tactic| skip)
local macro_rules | `(tactic| walk_at "pad11") => `(tactic| skip)
local macro_rules | `(tactic| walk_at "pad12") => `(tactic| skip)
theorem carried_snoc {y : Value} {d : PyData} (h : Carried y d) : ∀ {ys : List Value} {ds : List PyData}, CarriedAll ys ds → CarriedAll (ys ++ [y]) (ds ++ [d])
  | _, _, .nil => .cons h .nil
  | _, _, .cons a r => .cons a (carried_snoc h r)
/-- what a comprehension's turn must leave -/
def CompTurn (d : PyData) (s : Shared) (h : Heap) (y : Value) (s' : Shared) : Prop := Carried y d ∧ ∃ tk', s' = { s with heap := h, toks := tk' }
section
variable {prog : Program} {w : World} {A : Around} {s : Shared} {h₀ : Heap} {L : Addr} {m : Str → Option Value} {env : Env} {elt : Expr} {x : Str} {scope : Scope} {cl : List (Str × Addr)} {S : List (Addr × Obj) → Prop} {Fin : List Value → List (Addr × Obj) → Prop} {news : List (Addr × Obj)} {l : List (Str × Tok)}
theorem strs_rest (d : Str → PyData)
    (turn : ∀ q t I oI C oC D m₂ ys h tk (E' : Value → Shared → Prop), (q, t) ∈ l → LCg.NsObj oC m₂ → m₂ x = some (.str q t) → Fr h₀ L h m → News h₀ L h ((I, oI) :: (C, oC) :: (D, LCg.lst ys) :: news) → LCg.Off3 I C D news → ((@Ne Nat I C) ∧ (@Ne Nat I D) ∧ (@Ne Nat C D)) →
      wpAny (model prog w) A (eval elt (compEnvC scope cl C env)) (CompTurn (d q) s h) E' { s with heap := h, toks := tk })
    (hS : S news) (fin : ∀ ys, CarriedAll ys (l.map fun q => d q.1) → Fin ys news) : LCg.CompRest prog w A h₀ L m env elt x scope cl s S (fun i v => (strValues l).toArray[i]? = some v) Fin (strValues l).toArray.size 0 [] news := by
  have key : ∀ (j i : Nat) (ys : List Value), i + j = l.length → CarriedAll ys ((l.take i).map fun q => d q.1) → LCg.CompRest prog w A h₀ L m env elt x scope cl s S (fun i v => (strValues l).toArray[i]? = some v) Fin j i ys news := by
    intro j
    induction j with
    | zero =>
      intro i ys hi hy
      have e : i = l.length := by omega
      subst e
      rw [List.take_length] at hy
      exact LCg.CompRest.zero (fin ys hy)
    | succ j ih =>
      intro i ys hi hy
      refine LCg.CompRest.succ ?_
      intro v I oI C oC D m₂ h tk E' hv hC hx F N off ne
      have hil : i < l.length := by omega
      have hv' : v = .str l[i].1 l[i].2 := by
        have := strVals_at hil
        rw [List.getElem?_toArray] at hv
        rw [this] at hv
        exact (Option.some.inj hv).symm
      rw [hv'] at hx
      refine wpAny_mono (turn l[i].1 l[i].2 I oI C oC D m₂ ys h tk E' (List.getElem_mem hil) hC hx F N off ne) (fun y s₂ hq => ?_) fun _ _ e => e
      obtain ⟨hc, tk', rfl⟩ := hq
      refine ⟨h, tk', news, rfl, F, N, off, hS, ?_⟩
      refine ih (i + 1) _ (by omega) ?_
      rw [List.take_add_one, List.getElem?_eq_getElem hil, List.map_append]
      exact carried_snoc hc hy
  have e : (strValues l).toArray.size = l.length := by simp [strValues]
  rw [e]
  exact key l.length 0 [] (by omega) (by simp only [List.take_zero, List.map_nil]; exact .nil)
end
theorem countP_strs (k : Str) : ∀ l : List (Str × Tok), (strValues l).countP (isStrOf k) = (lists l).count k.cps.toList
  | [] => rfl
  | q :: r => by
    have ih := countP_strs k r
    show List.countP (isStrOf k) (.str q.1 q.2 :: strValues r) = List.count k.cps.toList (q.1.cps.toList :: lists r)
    rw [List.countP_cons, List.count_cons, ih]
    congr 1
    show (if (q.1 == k) = true then 1 else 0) = if (q.1.cps.toList == k.cps.toList) = true then 1 else 0
    by_cases h : q.1 = k
    · rw [h]; simp
    · have h1 : (q.1 == k) = false := by simpa using h
      have h2 : (q.1.cps.toList == k.cps.toList) = false := by
        rw [beq_eq_false_iff_ne]
        intro z
        apply h
        obtain ⟨⟨a⟩, b⟩ := q
        obtain ⟨c⟩ := k
        rw [Str.mk.injEq]
        exact Array.ext' z
      rw [h1, h2]
section
variable {prog : Program} {w : World} {A : Around} {E : Value → Shared → Prop} {s : Shared} {D : Addr} {l : List (Str × Tok)} {Q : Value → Shared → Prop}
theorem strs_are : ∀ l : List (Str × Tok), StrsAre (strValues l) (l.map (·.1))
  | [] => .nil
  | q :: r => .cons _ _ (strs_are r)
theorem strs_count {k : Str} {t : Tok} (hl : s.heap.IsList D (strValues l).toArray) (h : ∀ tk t', Q (.int ((lists l).count k.cps.toList : Nat) t') { s with toks := tk }) : wpAny (model prog w) A (call (.builtin "list.count") [.ref D, .str k t]) Q E s := by
  obtain ⟨⟨cls, dd, data, sl⟩, ho, hc, n, hd⟩ := id hl
  simp only at hc hd
  subst hc hd
  refine call_meets PySem.F.slot_list_count ⟨_, ho, rfl⟩ PySem.F.entry_list_count (PySem.F.args_list_count_2 _ _) (SeqAt.list_countAt D (strValues l).toArray n dd sl (.str k t) (isStrOf k)) ⟨ho, fun y hy => (eq_isStrOf k t (strs_are l) y (by simpa using hy)).at _ _, ?_⟩
  rw [countP_strs]
  exact h _ _
end
theorem ints_of_carried {f : (Str × Tok) → Int} : ∀ {l : List (Str × Tok)} {ys : List Value}, CarriedAll ys (l.map fun q => PyData.int (f q)) → IntsAre ys (l.map f)
  | [], _, h => by cases h; exact .nil
  | q :: r, _, h => by
    cases h with
    | cons a b =>
      cases a
      exact .cons _ _ (ints_of_carried b)
end Mine
end
-- part H01
section
open PySem PySem.W PyProof.Rows
set_option Elab.async false
set_option maxRecDepth 100000
set_option maxHeartbeats 8000000
namespace Mine
local macro_rules | `(tactic| walk_at "pad0") => `(tactic| skip)
local macro_rules | `(tactic| walk_at "pad1") => `(tactic| skip)
local macro_rules | `(tactic| walk_at "pad2") => `(tactic| skip)
local macro_rules | `(tactic| walk_at "pad3") => `(tactic| skip)
local macro_rules | `(tactic| walk_at "pad4") => `(tactic| skip)
local macro_rules | `(tactic| walk_at "pad5") => `(tactic| skip)
local macro_rules | `(tactic| walk_at "pad6") => `(tactic| skip)
local macro_rules | `(tactic| walk_at "pad7") => `(tactic| skip)
local macro_rules | `(tactic| walk_at "pad8") => `(tactic| skip)
local macro_rules | `(tactic| walk_at "pad9") => `(tactic| skip)
local macro_rules | `(tactic| walk_at "pad10") => `(tactic| skip)
local macro_rules | `(tactic| walk_at "pad11") => `(tactic| skip)
local macro_rules | `(tactic| walk_at "pad12") => `(tactic| skip)
local macro_rules | `(tactic| walk_at "pad13") => `(tactic| skip)
open_top hd01 for PySem.Challenge.rw_ny0034_01
end Mine
end
-- part Q01
section
open PySem PySem.W PyProof.Rows PySem.Calls
set_option Elab.async false
set_option maxRecDepth 100000
set_option maxHeartbeats 8000000
set_option linter.unusedVariables false
namespace Mine
local macro_rules | `(tactic| walk_at "pad0") => `(tactic| skip)
local macro_rules | `(tactic| walk_at "pad1") => `(tactic| skip)
local macro_rules | `(tactic| walk_at "pad2") => `(tactic| skip)
local macro_rules | `(tactic| walk_at "pad3") => `(tactic| skip)
local macro_rules | `(tactic| walk_at "pad4") => `(tactic| skip)
local macro_rules | `(tactic| walk_at "pad5") => `(tactic| skip)
local macro_rules | `(tactic| walk_at "pad6") => `(tactic| skip)
local macro_rules | `(tactic| walk_at "pad7") => `(tactic| skip)
local macro_rules | `(tactic| walk_at "pad8") => `(tactic| skip)
local macro_rules | `(tactic| walk_at "pad9") => `(tactic| skip)
local macro_rules | `(tactic| walk_at "pad10") => `(tactic| skip)
local macro_rules | `(tactic| walk_at "pad11") => `(tactic| skip)
local macro_rules | `(tactic| walk_at "pad12") => `(tactic| skip)
local macro_rules | `(tactic| walk_at "pad13") => `(tactic| skip)

abbrev Sp01 (w : World) (p : Program) (loose : List Str) (mean : ExcName → Option Value) (mg mb : Str → Option Value) := SpecF PySem.Challenge.rw_ny0034_01.row.prog w (hd01.heap_39 w.params) p loose mean mg mb

local macro_rules | `(tactic| walk_at "getMethod ref") => `(tactic| (k_here; (with_reducible show wpAny _ _ (getMethod (Value.ref _) (Str.ofString "sub") _) _ _ _); refine sub_method (PatAt.keeps (by assumption) (Fr.keep (by k_asm))) ?_))
theorem quotedata01 (w : World) (p : Program) (loose : List Str) (mean : ExcName → Option Value) (mg mb : Str → Option Value) (x : Str) (t : Tok) (hx : x.cps.size ≤ 20000) :
    SpecF PySem.Challenge.rw_ny0034_01.row.prog w (hd01.heap_39 w.params) p loose mean mg mb 97 1 [.str x t] [] (fun _ => True) (fun v own' => own' = [] ∧ ∃ t', v = .str (quoted x) t') := by
  w_top off
  k_fill
  intro dp un gd cn cs a ccd cl outer A₀ base h₀ L m s rest R B F X N hsep T hk _ hd hu hret
  k_dflt (refine' code_own (own := []) (rest := rest) ?k1 ?k2 ?k3 ?k4 ?kS ?k5 ?kA ?kF ?kK ?k6 ?k7 ?k8 ?k9 ?kB ?_ ?c2 ?c3 ?c4 ?c5; (case kA => exact rfl); (case kF => exact rfl); (case kK => assumption); (case kS => assumption); (case k1 => k_asm); (case k2 => k_asm); (case k3 => k_asm); (case k4 => k_asm); (case k5 => k_asm); (case k6 => k_is); (case k7 => k_is); (case k8 => ktr_room); (case k9 => exact BindsTo.of_eq rfl); (case c5 => decide); (case kB => exact locs rfl); (case c2 => exact rfl); (case c3 => exact rfl); (case c4 => exact rfl); k_whole)
  intro g L' h₁ F' N' B' X' T' hst hrest hlt
  clear B F X T
  dsimp only
  have P1 : PatAt g 85 code1 := ⟨_, _, _, _, _, _, X' _ _ (by k_is), rfl, rfl, rfl, rfl, rfl, rfl, X' _ _ (by k_is), rfl, by decide +kernel⟩
  have P2 : PatAt g 90 code2 := ⟨_, _, _, _, _, _, X' _ _ (by k_is), rfl, rfl, rfl, rfl, rfl, rfl, X' _ _ (by k_is), rfl, by decide +kernel⟩
  k_steps
  refine' call_sub2 P2 ?f ?n hx ?_; (case f => k_asm); (case n => k_asm)
  intro h' u tk' F2 N2
  (try dsimp only)
  k_steps
  refine' call_sub1 P1 ?f ?n ?s ?_; (case f => k_asm); (case n => k_asm); (case s => have := crlfS_size x; omega)
  intro h'' u' tk'' F3 N3
  (try dsimp only)
  k_steps
  exact ⟨L', _, [], F3, N3, fun F4 N4 H4 => hret _ [] _ _ ⟨rfl, _, rfl⟩ H4 F4 N4⟩
end Mine
end
-- part R01
section
open PySem PySem.W PyProof.Rows PySem.Calls
set_option Elab.async false
set_option maxRecDepth 100000
set_option maxHeartbeats 8000000
set_option linter.unusedVariables false
namespace Mine
local macro_rules | `(tactic| walk_at "pad0") => `(tactic| skip)
local macro_rules | `(tactic| walk_at "pad1") => `(tactic| skip)
local macro_rules | `(tactic| walk_at "pad2") => `(tactic| skip)
local macro_rules | `(tactic| walk_at "pad3") => `(tactic| skip)
local macro_rules | `(tactic| walk_at "pad4") => `(tactic| skip)
local macro_rules | `(tactic| walk_at "pad5") => `(tactic| skip)
local macro_rules | `(tactic| walk_at "pad6") => `(tactic| skip)
local macro_rules | `(tactic| walk_at "pad7") => `(tactic| skip)
local macro_rules | `(tactic| walk_at "pad8") => `(tactic| skip)
local macro_rules | `(tactic| walk_at "pad9") => `(tactic| skip)
local macro_rules | `(tactic| walk_at "pad10") => `(tactic| skip)
local macro_rules | `(tactic| walk_at "pad11") => `(tactic| skip)
local macro_rules | `(tactic| walk_at "pad12") => `(tactic| skip)
local macro_rules | `(tactic| walk_at "pad13") => `(tactic| skip)
local macro_rules | `(tactic| walk_at "pad14") => `(tactic| skip)
local macro_rules | `(tactic| walk_at "pad15") => `(tactic| skip)
local macro_rules | `(tactic| k_room) => `(tactic| ktr_room)
local macro_rules | `(tactic| k_units) => `(tactic| ktr_units)
/-- the contract of a stream's read(1) -/
abbrev ReadOk01 (w : World) (p : Program) (loose : List Str) (mean : ExcName → Option Value) (mg mb : Str → Option Value) (sent : Str) (f atA : Addr) (rd : List (Addr × Obj)) : Prop :=
  ∀ (n : Nat) (t t1 : Tok), n ≤ sent.cps.size → SpecF PySem.Challenge.rw_ny0034_01.row.prog w (hd01.heap_39 w.params) p loose mean mg mb f 1 [.int 1 t1] [(atA, atO n t)] (fun g => ∀ q ∈ rd, g.get? q.1 = some q.2) (fun v own' => ∃ t1 t2, v = .str (piece sent n) t1 ∧ own' = [(atA, atO (n + (piece sent n).length) t2)])

theorem read01 (w : World) (p : Program) (loose : List Str) (mean : ExcName → Option Value) (mg mb : Str → Option Value) (sent : Str) (x : Lx) (rd : List (Addr × Obj)) (hfn : ∃ fo, (x.f, fo) ∈ rd ∧ ∃ oc od fd sl, fo = ⟨oc, od, .func fd, sl⟩)
    (hR : ReadOk01 w p loose mean mg mb sent x.f x.atA rd) (hnd : List.Nodup [x.lex, x.lexd, x.st, x.std, x.atA]) (ps : Nat) (hps : ps ≤ sent.cps.size) (ta tl : Tok) :
    SpecF PySem.Challenge.rw_ny0034_01.row.prog w (hd01.heap_39 w.params) p loose mean mg mb 59 2 [.ref x.lex] (x.own 76 w.params sent ps tl ta) (fun g => ∀ q ∈ rd, g.get? q.1 = some q.2)
      (fun v own' => ∃ t1 ta' tl', v = .str (piece sent ps) t1 ∧ own' = x.own 76 w.params sent (ps + (piece sent ps).length) tl' ta') := by
  w_top off
  k_fill
  intro dp un gd cn cs a ccd cl outer A₀ base h₀ L m s rest R B F X N hsep T hk hpre hd hu hret
  k_dflt (refine' code_own (rest := rest) ?k1 ?k2 ?k3 ?k4 ?kS ?k5 ?kA ?kF ?kK ?k6 ?k7 ?k8 ?k9 ?kB ?_ ?c2 ?c3 ?c4 ?c5; (case kA => exact rfl); (case kF => exact rfl); (case kK => assumption); (case kS => assumption); (case k1 => k_asm); (case k2 => k_asm); (case k3 => k_asm); (case k4 => k_asm); (case k5 => k_asm); (case k6 => k_is); (case k7 => k_is); (case k8 => ktr_room); (case k9 => exact BindsTo.of_eq rfl); (case c5 => decide); (case kB => exact locs rfl); (case c2 => exact rfl); (case c3 => exact rfl); (case c4 => exact rfl); k_whole)
  intro g L' h₁ F' N' B' X' T' hst hrest hlt
  have hrd := hpre g hst hrest
  clear B F X T N
  (try dsimp only)
  have hFn : ∀ h, (∀ b o, g.get? b = some o → h.get? b = some o) → FnAt x.f h := fun h hk => by
    obtain ⟨fo, hm, oc, od, fd, sl, rfl⟩ := hfn
    exact ⟨oc, od, fd, sl, hk _ _ (hrd _ hm)⟩
  walk1; walk1; walk1; walk1; walk1; walk1; walk1; walk1; (try dsimp only)
  refine callWith_F (hFn _ F'.keep) ?_
  walk1; walk1; walk1; (try dsimp only)
  refine ⟨hFn _ (Fr.keep (by k_asm)), ?_⟩
  obtain ⟨n1, n2, n3, n4, n5, n6, n7, n8, n9, n10⟩ := nd5 hnd
  k_dflt (refine' (hR ps ta _ hps).call [(x.lex, instObj 76 x.lexd), (x.lexd, lexD w.params x.k1 x.k2 x.k3 x.k4 (lnAt sent ps) tl (.ref x.st) x.ws x.tw x.pb), (x.st, instObj 76 x.std), (x.std, stD w.params x.j1 x.j2 x.j3 x.j4 x.j5 x.v1 x.v2 x.v3 x.v4 x.f)] ?k1 ?k2 ?k3 ?k4 ?hin ?hsep ?k5 ?kK ?hpre ?kd ?ku ?_; (case k1 => k_asm); (case k2 => k_asm); (case k3 => k_asm); (case k4 => k_asm); (case k5 => k_asm); (case kK => exact rfl); (case kd => ktr_room); (case ku => ktr_units); k_whole)
  case hin => kcj_all
  case hsep => intro q hq; simp at hq; rcases hq with rfl | rfl | rfl | rfl <;> simp <;> assumption
  case hpre => exact fun g' hg' _ q hq => hg' _ _ (hrd q hq)
  rintro v own' h' tk' ⟨t1, t2, rfl, rfl⟩ _ F2 N2
  simp only [List.cons_append, List.nil_append] at N2
  (try dsimp only)
  k_steps
  all_goals (try dsimp only)
  all_goals k_steps
  · rename_i hb _ _ _
    have e : (if piece sent ps = Str.ofString "\n" then (1 : Int) else 0) = 1 := if_pos (eq_of_beq hb)
    have e2 := lnAt_step (sent := sent) (p := ps)
    rw [e] at e2
    refine' leaveO_ [(x.lex, instObj 76 x.lexd), (x.lexd, lexD w.params x.k1 x.k2 x.k3 x.k4 (lnAt sent ps + 1) ?tl (.ref x.st) x.ws x.tw x.pb), (x.st, instObj 76 x.std), (x.std, stD w.params x.j1 x.j2 x.j3 x.j4 x.j5 x.v1 x.v2 x.v3 x.v4 x.f), (x.atA, atO (ps + (piece sent ps).length) t2)] ?f ?n ?i ?k
    case f => k_asm
    case n => k_asm
    case i => kcj_all
    case k => rw [e2]; exact fun F4 N4 H4 => hret _ _ _ _ ⟨_, _, _, rfl, rfl⟩ H4 F4 N4
  · rename_i hb
    have e : (if piece sent ps = Str.ofString "\n" then (1 : Int) else 0) = 0 := if_neg (fun q => by rw [q] at hb; simp at hb)
    have e2 := lnAt_step (sent := sent) (p := ps)
    rw [e, Int.add_zero] at e2
    refine' leaveO_ [(x.lex, instObj 76 x.lexd), (x.lexd, lexD w.params x.k1 x.k2 x.k3 x.k4 (lnAt sent ps) tl (.ref x.st) x.ws x.tw x.pb), (x.st, instObj 76 x.std), (x.std, stD w.params x.j1 x.j2 x.j3 x.j4 x.j5 x.v1 x.v2 x.v3 x.v4 x.f), (x.atA, atO (ps + (piece sent ps).length) t2)] ?f ?n ?i ?k
    case f => k_asm
    case n => k_asm
    case i => kcj_all
    case k => rw [e2]; exact fun F4 N4 H4 => hret _ _ _ _ ⟨_, _, _, rfl, rfl⟩ H4 F4 N4
end Mine
end
-- part G01
section
open PySem PySem.W PyProof.Rows PySem.Calls
set_option Elab.async false
set_option maxRecDepth 100000
set_option maxHeartbeats 8000000
set_option linter.unusedVariables false
namespace Mine
local macro_rules | `(tactic| walk_at "pad0") => `(tactic| skip)
local macro_rules | `(tactic| walk_at "pad1") => `(tactic| skip)
local macro_rules | `(tactic| walk_at "pad2") => `(tactic| skip)
local macro_rules | `(tactic| walk_at "pad3") => `(tactic| skip)
local macro_rules | `(tactic| walk_at "pad4") => `(tactic| skip)
local macro_rules | `(tactic| walk_at "pad5") => `(tactic| skip)
local macro_rules | `(tactic| walk_at "pad6") => `(tactic| skip)
local macro_rules | `(tactic| walk_at "pad7") => `(tactic| skip)
local macro_rules | `(tactic| walk_at "pad8") => `(tactic| skip)
local macro_rules | `(tactic| walk_at "pad9") => `(tactic| skip)
local macro_rules | `(tactic| walk_at "pad10") => `(tactic| skip)
local macro_rules | `(tactic| walk_at "pad11") => `(tactic| skip)
local macro_rules | `(tactic| walk_at "pad12") => `(tactic| skip)
local macro_rules | `(tactic| walk_at "pad13") => `(tactic| skip)
local macro_rules | `(tactic| walk_at "pad14") => `(tactic| skip)
local macro_rules | `(tactic| walk_at "pad15") => `(tactic| skip)
local macro_rules | `(tactic| k_room) => `(tactic| ktr_room)
local macro_rules | `(tactic| k_units) => `(tactic| ktr_units)
local macro_rules | `(tactic| walk_at "go") => `(tactic| repeat' (first | (k_unfold; (try dsimp only)) | ((fail_if_success (with_reducible show wpAny _ _ (exec (Stmt.While _ _ _ _) _) _ _ _)); (fail_if_success (with_reducible show wpAny _ _ (exec (Stmt.For _ _ _ _ _) _) _ _ _)); (fail_if_success (with_reducible show wpAny _ _ (PySem.call (Value.ref _) _) _ _ _)); first | walk1 | (dsimp only; walk1))))


/-- one step of the iterator, in get_token's frame -/
theorem nx01 {w : World} {p : Program} {loose : List Str} {mean : ExcName → Option Value} {mg mb : Str → Option Value} {sent : Str} {x : Lx} {rd : List (Addr × Obj)} (hfn : ∃ fo, (x.f, fo) ∈ rd ∧ ∃ oc od fd sl, fo = ⟨oc, od, .func fd, sl⟩)
    (hR : ReadOk01 w p loose mean mg mb sent x.f x.atA rd) (hnd : List.Nodup [x.lex, x.lexd, x.st, x.std, x.atA, x.pb]) {ps : Nat} (hps : ps ≤ sent.cps.size) {ta tl : Tok} {nb : Nat} {dp un : Nat} {gd : Option (List Code)} {cn : Str} {cs : Scope} {a : Addr} {ccd : Value} {cl : List (Str × Addr)} {outer : List Env} {A₀ : Around} {base g : Heap} {L : Addr} {m : Str → Option Value} {s : Shared} {q ci : Addr} {t0 : Tok} {Q : Option Value → Shared → Prop} {E : Value → Shared → Prop}
    (B : Below A₀ base outer g) (F : Fr g L s.heap m) (X : (hd01.heap_39 w.params).In g) (N : News g L s.heap ((ci, ciO q (Str.ofString "") t0) :: (q, methodObj (.ref 59) (.ref x.lex)) :: (x.pb, listOf #[] nb) :: x.own 76 w.params sent ps tl ta)) (T : Top p loose mean mg mb g) (hk : cs.kind = .function)
    (hq : x.pb < q ∧ x.lex < q ∧ x.lexd < q ∧ x.st < q ∧ x.std < q ∧ x.atA < q) (hci : q < ci) (hrd : ∀ q ∈ rd, g.get? q.1 = some q.2) (hd : dp + 2 < recursionLimit) (hu : un + 20 < cLine)
    (h1 : ∀ (hlt : ps < sent.cps.size) h' tk' tl' ta' ty, Fr g L h' m → News g L h' ((ci, ciO q (Str.ofString "") t0) :: (q, methodObj (.ref 59) (.ref x.lex)) :: (x.pb, listOf #[] nb) :: x.own 76 w.params sent (ps + 1) tl' ta') → Q (some (.str ⟨#[sent.cps[ps]]⟩ ty)) { s with heap := h', toks := tk' })
    (h2 : sent.cps.size ≤ ps → ∀ h' tk' tl' ta', Fr g L h' m → News g L h' ((ci, ciEnd) :: (q, methodObj (.ref 59) (.ref x.lex)) :: (x.pb, listOf #[] nb) :: x.own 76 w.params sent ps tl' ta') → Q none { s with heap := h', toks := tk' }) :
    wpAny (model PySem.Challenge.rw_ny0034_01.row.prog w) (ktrTop dp un gd cn cs L a ccd cl outer) (pyNext (.ref ci)) Q E s := by
  revert X
  w_top off
  k_fill
  intro X
  have hF59 : ∀ h, (∀ b o, g.get? b = some o → h.get? b = some o) → FnAt 59 h := fun h hk => ⟨_, _, _, _, hk _ _ (X _ _ (by k_is))⟩
  obtain ⟨nd, e1, e2, e3, e4, e5⟩ := nd6 hnd
  obtain ⟨q1, q2, q3, q4, q5, q6⟩ := hq
  have S := read01 w p loose mean mg mb sent x rd hfn hR nd ps hps ta tl
  refine ci_next rfl (N _ (.head _)).1 (N _ (.tail _ (.head _))).1 (hF59 _ F.keep) ?_
  show codeAny _ (ktrTop dp (un + 1) gd cn cs L a ccd cl outer) _ _ _
  have neq : ∀ b : Nat, b < q → b ≠ ci := fun b hb => Nat.ne_of_lt (Nat.lt_trans hb hci)
  refine S.code [(ci, ciO q (Str.ofString "") t0), (q, methodObj (.ref 59) (.ref x.lex)), (x.pb, listOf #[] nb)] B F X N (by kcj_all) ?_ T hk (fun g' hg' _ r hr => hg' _ _ (hrd r hr)) (by omega) (by omega) ?_
  · intro r hr
    have l1 := neq _ q2; have l2 := neq _ q3; have l3 := neq _ q4; have l4 := neq _ q5; have l5 := neq _ q6
    have m1 := Nat.ne_of_lt q2; have m2 := Nat.ne_of_lt q3; have m3 := Nat.ne_of_lt q4; have m4 := Nat.ne_of_lt q5; have m5 := Nat.ne_of_lt q6
    simp at hr
    rcases hr with rfl | rfl | rfl
    · simp; exact ⟨Ne.symm l1, Ne.symm l2, Ne.symm l3, Ne.symm l4, Ne.symm l5⟩
    · simp; exact ⟨Ne.symm m1, Ne.symm m2, Ne.symm m3, Ne.symm m4, Ne.symm m5⟩
    · simp; exact ⟨Ne.symm e1, Ne.symm e2, Ne.symm e3, Ne.symm e4, Ne.symm e5⟩
  · rintro v own' h' tk' ⟨t1, ta', tl', rfl, rfl⟩ _ F2 N2
    have N3 : News g L h' ((ci, ciO q (Str.ofString "") t0) :: (q, methodObj (.ref 59) (.ref x.lex)) :: (x.pb, listOf #[] nb) :: x.own 76 w.params sent (ps + (piece sent ps).length) tl' ta') := cb_drop N2 (by kcj_all)
    refine ⟨_, _, rfl, (N3 _ (.head _)).1, (N3 _ (.tail _ (.head _))).1, hF59 _ F2.keep, fun hy h'' hk'' hc'' => ?_, fun hy => ?_⟩
    · have hge : sent.cps.size ≤ ps := by
        refine Nat.le_of_not_lt fun hlt => ?_
        exact piece_ne hlt hy
      have hl : (piece sent ps).length = 0 := by rw [piece_ge hge]; rfl
      rw [hl, Nat.add_zero] at N3
      obtain ⟨oL, es, ep, hL, rL⟩ := F2.ns
      have hgc : g.get? ci = none := (N3 _ (.head _)).2.2
      refine h2 hge h'' tk' tl' ta' ⟨⟨oL, es, ep, hk'' _ _ (Ne.symm (N3 _ (.head _)).2.1) hL, rL⟩, fun b o e => hk'' b o (fun z => by rw [z, hgc] at e; cases e) (F2.keep b o e), F2.above⟩ fun r hr => ?_
      rcases List.mem_cons.mp hr with rfl | hr
      · exact ⟨hc'', (N3 _ (.head _)).2⟩
      · have hn := N3 r (.tail _ hr)
        refine ⟨hk'' _ _ ?_ hn.1, hn.2⟩
        simp at hr
        rcases hr with rfl | rfl | rfl | rfl | rfl | rfl | rfl
        · exact Nat.ne_of_lt hci
        all_goals exact neq _ (by assumption)
    · have hlt : ps < sent.cps.size := by
        refine Nat.lt_of_not_le fun hge => hy ?_
        rw [piece_ge hge]
        decide +kernel
      have hl : (piece sent ps).length = 1 := by rw [piece_lt hlt]; rfl
      rw [hl] at N3
      rw [piece_lt hlt]
      exact h1 hlt h' tk' tl' ta' t1 F2 N3

end Mine
end
-- part G01b
section
open PySem PySem.W PyProof.Rows PySem.Calls
set_option Elab.async false
set_option maxRecDepth 100000
set_option maxHeartbeats 8000000
set_option linter.unusedVariables false
namespace Mine
local macro_rules | `(tactic| walk_at "pad0") => `(tactic| skip)
local macro_rules | `(tactic| walk_at "pad1") => `(tactic| skip)
local macro_rules | `(tactic| walk_at "pad2") => `(tactic| skip)
local macro_rules | `(tactic| walk_at "pad3") => `(tactic| skip)
local macro_rules | `(tactic| walk_at "pad4") => `(tactic| skip)
local macro_rules | `(tactic| walk_at "pad5") => `(tactic| skip)
local macro_rules | `(tactic| walk_at "pad6") => `(tactic| skip)
local macro_rules | `(tactic| walk_at "pad7") => `(tactic| skip)
local macro_rules | `(tactic| walk_at "pad8") => `(tactic| skip)
local macro_rules | `(tactic| walk_at "pad9") => `(tactic| skip)
local macro_rules | `(tactic| walk_at "pad10") => `(tactic| skip)
local macro_rules | `(tactic| walk_at "pad11") => `(tactic| skip)
local macro_rules | `(tactic| walk_at "pad12") => `(tactic| skip)
local macro_rules | `(tactic| walk_at "pad13") => `(tactic| skip)
local macro_rules | `(tactic| walk_at "pad14") => `(tactic| skip)
local macro_rules | `(tactic| walk_at "pad15") => `(tactic| skip)
local macro_rules | `(tactic| k_room) => `(tactic| ktr_room)
local macro_rules | `(tactic| k_units) => `(tactic| ktr_units)
local macro_rules | `(tactic| walk_at "go") => `(tactic| repeat' (first | (k_unfold; (try dsimp only)) | ((fail_if_success (with_reducible show wpAny _ _ (exec (Stmt.While _ _ _ _) _) _ _ _)); (fail_if_success (with_reducible show wpAny _ _ (exec (Stmt.For _ _ _ _ _) _) _ _ _)); (fail_if_success (with_reducible show wpAny _ _ (PySem.call (Value.ref _) _) _ _ _)); first | walk1 | (dsimp only; walk1))))


local macro_rules | `(tactic| walk_at "inplaceOp Add str str") => `(tactic| (refine PyProof.Rows.iadd_str ?_ (fit1 (by assumption) (by first | exact Nat.le_refl 1 | exact piece_le1 _ _)); intro _ _))
theorem token01 (w : World) (p : Program) (loose : List Str) (mean : ExcName → Option Value) (mg mb : Str → Option Value) (sent : Str) (x : Lx) (rd : List (Addr × Obj)) (hfn : ∃ fo, (x.f, fo) ∈ rd ∧ ∃ oc od fd sl, fo = ⟨oc, od, .func fd, sl⟩)
    (hR : ReadOk01 w p loose mean mg mb sent x.f x.atA rd) (hnd : List.Nodup [x.lex, x.lexd, x.st, x.std, x.atA, x.pb]) (ps : Nat) (hps : ps ≤ sent.cps.size) (hsz : sent.cps.size ≤ 1000000) (ta tl : Tok) (nb : Nat) :
    SpecF PySem.Challenge.rw_ny0034_01.row.prog w (hd01.heap_39 w.params) p loose mean mg mb 66 4 [.ref x.lex] ((x.pb, listOf #[] nb) :: x.own 76 w.params sent ps tl ta) (fun g => ∀ q ∈ rd, g.get? q.1 = some q.2)
      (fun v own' => ∃ t1 ta' tl', v = .str ⟨(tok x.ws.cps.toList (sent.cps.toList.drop ps)).1.toArray⟩ t1 ∧ own' = (x.pb, listOf #[] nb) :: x.own 76 w.params sent (sent.cps.size - (tok x.ws.cps.toList (sent.cps.toList.drop ps)).2.length) tl' ta') := by
  w_top off
  k_fill
  intro dp un gd cn cs a ccd cl outer A₀ base h₀ L m s rest R B F X N hsep T hk hpre hd hu hret
  k_dflt (refine' code_own (rest := rest) ?k1 ?k2 ?k3 ?k4 ?kS ?k5 ?kA ?kF ?kK ?k6 ?k7 ?k8 ?k9 ?kB ?_ ?c2 ?c3 ?c4 ?c5; (case kA => exact rfl); (case kF => exact rfl); (case kK => assumption); (case kS => assumption); (case k1 => k_asm); (case k2 => k_asm); (case k3 => k_asm); (case k4 => k_asm); (case k5 => k_asm); (case k6 => k_is); (case k7 => k_is); (case k8 => ktr_room); (case k9 => exact BindsTo.of_eq rfl); (case c5 => decide); (case kB => exact locs rfl); (case c2 => exact rfl); (case c3 => exact rfl); (case c4 => exact rfl); k_whole)
  intro g L' h₁ F' N' B' X' T' hst hrest hlt
  have hrd := hpre g hst hrest
  clear B F X T N
  (try dsimp only)
  walk_at "go"
  (rename Fr _ _ _ _ => Fq)
  (rename News _ _ _ _ => Nq)
  rename_i q0 hq0 lq
  refine iter_K Fq Nq (by k_mem) ?_
  intro ci h2 F2 N2 lci
  k_lt lci
  dsimp only
  clear Fq Nq
  walk_at "go"
  (try clear F2); (try clear N2)
  (rename Fr _ _ _ _ => Fq)
  (rename News _ _ _ _ => Nq)
  refine wpAny_For ?_
  walk1
  refine ci_iter (Nq _ (.head _)).1 rfl ?_
  generalize hTT : tok x.ws.cps.toList (sent.cps.toList.drop ps) = TT at hret
  have fin : ∀ (pp : Nat) (tl' ta' t : Tok) (h : Heap) (tk : Nat) (m' : Str → Option Value) (news' : List (Addr × Obj)) (y : Str), Fr g L' h m' → News g L' h news' → (∀ q ∈ (x.pb, listOf #[] nb) :: x.own 76 w.params sent pp tl' ta', q ∈ news') → pp = sent.cps.size - TT.2.length → y = ⟨TT.1.toArray⟩ →
      LeaveO h₀ L m g rest R (.str y t) { s with heap := h, toks := tk } := by
    intro pp tl' ta' t h tk m' news' y F4 N4 hin hpp hy
    subst hy
    subst hpp
    exact leaveO_ _ F4 N4 hin fun F5 N5 H5 => hret _ _ _ _ ⟨_, _, _, rfl, rfl⟩ H5 F5 N5
  refine for_inv (fun n s' => ∃ (pp : Nat) (tkn : List Nat) (t t0 tl ta : Tok) (u : Str → Option Value) (h : Heap) (tk : Nat), s' = { s with heap := h, toks := tk } ∧ Fr g L' h (gtM x.lex ci tkn t u) ∧
    ((News g L' h ((ci, ciO q0 (Str.ofString "") t0) :: (q0, methodObj (.ref 59) (.ref x.lex)) :: (x.pb, listOf #[] nb) :: x.own 76 w.params sent pp tl ta) ∧ tkn = [] ∧ pp ≤ sent.cps.size ∧ tok x.ws.cps.toList (sent.cps.toList.drop pp) = TT ∧ n = sent.cps.size - pp + 1) ∨
     (News g L' h ((ci, ciEnd) :: (q0, methodObj (.ref 59) (.ref x.lex)) :: (x.pb, listOf #[] nb) :: x.own 76 w.params sent pp tl ta) ∧ tkn = TT.1 ∧ pp = sent.cps.size ∧ TT.2 = [] ∧ n = 0))) ?turn (sent.cps.size - ps + 1)
    ⟨ps, [], _, _, tl, ta, _, _, _, rfl, gtM_of Fq rfl rfl rfl (by decide +kernel), .inl ⟨Nq, rfl, hps, hTT, rfl⟩⟩
  case turn =>
    clear Fq Nq
    rintro n s' ⟨pp, tkn, t, t0, tl1, ta1, u, h, tk, rfl, Fh, (⟨Nh, rfl, hpp, hT, rfl⟩ | ⟨Nh, rfl, rfl, hT2, rfl⟩)⟩
    · k_dflt (refine' nx01 hfn hR hnd (by assumption) ?B Fh X' Nh T' ?K lq lci.1 hrd ?d ?u ?_ ?_; (case B => exact B'); (case K => exact rfl); (case d => ktr_room); (case u => ktr_units))
      · intro hlt1 h' tk' tl' ta' ty F2 N2
        dsimp only
        rw [drop_here hlt1] at hT
        have h0 : ([] : List Nat).length ≤ 1000000 := by decide
        walk_at "go"
        -- a quote
        · (rename Fr _ _ _ _ => F3); (rename News _ _ _ _ => N3)
          (rename (Builtin.Str.occurrences _ _ _ _ _).isEmpty = _ => hw); (rename (_ == Str.ofString "\"") = _ => hq)
          have hw := not_in_ws hw
          have hq := one34 hq
          rw [hq] at hT hw
          rw [tok_q _ hw] at hT
          refine wpAny_For ?_
          walk1
          refine ci_iter (N3 _ (.head _)).1 rfl ?_
          refine for_inv (fun n s' => ∃ (pp : Nat) (tkn : List Nat) (t t0 tl ta : Tok) (u : Str → Option Value) (h : Heap) (tk : Nat), s' = { s with heap := h, toks := tk } ∧ Fr g L' h (gtM x.lex ci tkn t u) ∧ News g L' h ((ci, ciO q0 (Str.ofString "") t0) :: (q0, methodObj (.ref 59) (.ref x.lex)) :: (x.pb, listOf #[] nb) :: x.own 76 w.params sent pp tl ta) ∧ pp ≤ sent.cps.size ∧ tkn ++ (tokQ (sent.cps.toList.drop pp)).1 = TT.1 ∧ (tokQ (sent.cps.toList.drop pp)).2 = TT.2 ∧ n = sent.cps.size - pp + 1) ?_ _
            ⟨pp + 1, [], _, _, _, _, _, _, _, rfl, gtM_of F3 rfl rfl rfl rfl, N3, hlt1, by rw [hT]; rfl, by rw [hT], rfl⟩
          (try clear Fh); (try clear Nh); (try clear F2); (try clear N2); (try clear F3); (try clear N3)
          rintro n s' ⟨pp2, tkn, t, t0, tl1, ta1, u, h, tk, rfl, Fh, Nh, hpp2, hT1, hT2, rfl⟩
          k_dflt (refine' nx01 hfn hR hnd (by assumption) ?B Fh X' Nh T' ?K lq lci.1 hrd ?d ?u ?_ ?_; (case B => exact B'); (case K => exact rfl); (case d => ktr_room); (case u => ktr_units))
          · intro hlt2 h' tk' tl' ta' ty F2 N2
            dsimp only
            have hle : tkn.length ≤ 1000000 := by
              have := tok_len x.ws.cps.toList (sent.cps.toList.drop ps)
              rw [hTT, ← hT1] at this
              simp at this
              omega
            walk_at "go"
            -- the closing quote
            · (rename Fr _ _ _ _ => F3); (rename News _ _ _ _ => N3); (rename (_ == Str.ofString "\"") = _ => hq2)
              have hq2 := one34 hq2
              rw [drop_here hlt2, hq2, tokQ_q] at hT1 hT2
              refine fin _ _ _ _ _ _ _ _ _ F3 N3 (by kcj_all) ?_ ?_
              · rw [← hT2]; exact drop_len hlt2
              · rw [← hT1]; simp
            -- an escape
            · (rename Fr _ _ _ _ => F3); (rename News _ _ _ _ => N3); (rename (_ == Str.ofString "\\") = _ => hb2)
              have hb2 := one92 hb2
              obtain ⟨b1, b2⟩ := tokQ_at_b hlt2 hb2
              k_dflt (refine' (read01 w p loose mean mg mb sent x rd hfn hR (nd6 hnd).1 _ (by assumption) _ _).call [(ci, ciO q0 (Str.ofString "") t0), (q0, methodObj (.ref 59) (.ref x.lex)), (x.pb, listOf #[] nb)] ?k1 ?k2 ?k3 N3 ?hin ?hsep ?k5 ?kK ?hpre ?kd ?ku ?_; (case k1 => k_asm); (case k2 => k_asm); (case k3 => k_asm); (case k5 => k_asm); (case kK => exact rfl); (case kd => ktr_room); (case ku => ktr_units))
              case hin => kcj_all
              case hsep => exact sep3 hnd lq lci.1
              case hpre => exact fun g' hg' _ q hq => hg' _ _ (hrd q hq)
              rintro v own' h' tk' ⟨t1, t2, t3, rfl, rfl⟩ _ F4 N4
              (try clear F3); (try clear N3)
              simp only [List.cons_append, List.nil_append] at N4
              (try dsimp only)
              walk_at "go"
              (rename Fr _ _ _ _ => F5); (rename News _ _ _ _ => N5)
              refine ⟨sent.cps.size - (pp2 + 1 + (piece sent (pp2 + 1)).length) + 1, by omega, _, tkn ++ (piece sent (pp2 + 1)).cps.toList, _, _, _, _, _, _, _, rfl, gtM_of F5 rfl rfl rfl (app_lit _ _), cb_drop N5 (by kcj_all), piece_len hlt2, ?_, ?_, rfl⟩
              · rw [List.append_assoc, ← b1]; exact hT1
              · rw [← b2]; exact hT2
            -- any other sign
            · (rename Fr _ _ _ _ => F3); (rename News _ _ _ _ => N3); (rename (_ == Str.ofString "\\") = _ => hb2); (rename (_ == Str.ofString "\"") = _ => hq2)
              have hb2 := one92_no hb2
              have hq2 := one34_no hq2
              rw [drop_here hlt2, tokQ_o _ hq2 hb2] at hT1 hT2
              refine ⟨sent.cps.size - (pp2 + 1) + 1, by omega, pp2 + 1, tkn ++ [sent.cps[pp2]], _, _, _, _, _, _, _, rfl, gtM_of F3 rfl rfl rfl (app_lit _ _), N3, hlt2, ?_, hT2, rfl⟩
              rw [List.append_assoc]; exact hT1
          · intro hge h' tk' tl' ta' F2 N2
            dsimp only
            rw [drop_end hge] at hT1 hT2
            walk_at "go"
            refine ⟨0, by omega, pp2, tkn, _, 0, _, _, _, _, _, rfl, F2, .inr ⟨N2, ?_, by omega, hT2.symm, rfl⟩⟩
            rw [← hT1]; simp [tokQ]
        -- an escape ahead of a plain word
        · (rename Fr _ _ _ _ => F3); (rename News _ _ _ _ => N3)
          (rename (Builtin.Str.occurrences _ _ _ _ _).isEmpty = _ => hw); (rename (_ == Str.ofString "\\") = _ => hb)
          have hw := not_in_ws hw
          have hb := one92 hb
          rw [hb] at hw
          rw [← drop_here hlt1] at hT
          obtain ⟨b1, b2⟩ := tok_at_b (ws := x.ws.cps.toList) hlt1 hb hw
          rw [hT] at b1 b2
          k_dflt (refine' (read01 w p loose mean mg mb sent x rd hfn hR (nd6 hnd).1 _ (by assumption) _ _).call [(ci, ciO q0 (Str.ofString "") t0), (q0, methodObj (.ref 59) (.ref x.lex)), (x.pb, listOf #[] nb)] ?k1 ?k2 ?k3 N3 ?hin ?hsep ?k5 ?kK ?hpre ?kd ?ku ?_; (case k1 => k_asm); (case k2 => k_asm); (case k3 => k_asm); (case k5 => k_asm); (case kK => exact rfl); (case kd => ktr_room); (case ku => ktr_units))
          case hin => kcj_all
          case hsep => exact sep3 hnd lq lci.1
          case hpre => exact fun g' hg' _ q hq => hg' _ _ (hrd q hq)
          rintro v own' h' tk' ⟨t1, t2, t3, rfl, rfl⟩ _ F4 N4
          (try clear F3); (try clear N3)
          have N5 : News g L' h' ((ci, ciO q0 (Str.ofString "") t0) :: (q0, methodObj (.ref 59) (.ref x.lex)) :: (x.pb, listOf #[] nb) :: x.own 76 w.params sent (pp + 1 + (piece sent (pp + 1)).length) t3 t2) := cb_drop N4 (by kcj_all)
          clear N4
          (try dsimp only)
          walk_at "go"
          (rename Fr _ _ _ _ => F3); (rename News _ _ _ _ => N3)
          refine wpAny_For ?_
          walk1
          refine ci_iter (N3 _ (.head _)).1 rfl ?_
          refine for_inv (fun n s' => ∃ (pp : Nat) (tkn : List Nat) (t t0 tl ta : Tok) (u : Str → Option Value) (h : Heap) (tk : Nat), s' = { s with heap := h, toks := tk } ∧ Fr g L' h (gtM x.lex ci tkn t u) ∧ News g L' h ((ci, ciO q0 (Str.ofString "") t0) :: (q0, methodObj (.ref 59) (.ref x.lex)) :: (x.pb, listOf #[] nb) :: x.own 76 w.params sent pp tl ta) ∧ pp ≤ sent.cps.size ∧ tkn ++ (tokP x.ws.cps.toList (sent.cps.toList.drop pp)).1 = TT.1 ∧ (tokP x.ws.cps.toList (sent.cps.toList.drop pp)).2 = TT.2 ∧ n = sent.cps.size - pp + 1) ?_ _
            ⟨_, (piece sent (pp + 1)).cps.toList, _, _, _, _, _, _, _, rfl, gtM_of F3 rfl rfl rfl (app_lit [] _), N3, piece_len hlt1, b1.symm, b2.symm, rfl⟩
          (try clear Fh); (try clear Nh); (try clear F2); (try clear N2); (try clear F3); (try clear N3)
          rintro n s' ⟨pp2, tkn, t, t0, tl1, ta1, u, h, tk, rfl, Fh, Nh, hpp2, hT1, hT2, rfl⟩
          k_dflt (refine' nx01 hfn hR hnd (by assumption) ?B Fh X' Nh T' ?K lq lci.1 hrd ?d ?u ?_ ?_; (case B => exact B'); (case K => exact rfl); (case d => ktr_room); (case u => ktr_units))
          · intro hlt2 h' tk' tl' ta' ty F2 N2
            dsimp only
            have hle : tkn.length ≤ 1000000 := by
              have := tok_len x.ws.cps.toList (sent.cps.toList.drop ps)
              rw [hTT, ← hT1] at this
              simp at this
              omega
            walk_at "go"
            -- an escape
            · (rename Fr _ _ _ _ => F3); (rename News _ _ _ _ => N3); (rename (_ == Str.ofString "\\") = _ => hb2); (rename (Builtin.Str.occurrences _ _ _ _ _).isEmpty = _ => hw2)
              have hb2 := one92 hb2
              have hw2 := not_in_ws hw2
              rw [hb2] at hw2
              obtain ⟨b1, b2⟩ := tokP_at_b (ws := x.ws.cps.toList) hlt2 hb2 hw2
              k_dflt (refine' (read01 w p loose mean mg mb sent x rd hfn hR (nd6 hnd).1 _ (by assumption) _ _).call [(ci, ciO q0 (Str.ofString "") t0), (q0, methodObj (.ref 59) (.ref x.lex)), (x.pb, listOf #[] nb)] ?k1 ?k2 ?k3 N3 ?hin ?hsep ?k5 ?kK ?hpre ?kd ?ku ?_; (case k1 => k_asm); (case k2 => k_asm); (case k3 => k_asm); (case k5 => k_asm); (case kK => exact rfl); (case kd => ktr_room); (case ku => ktr_units))
              case hin => kcj_all
              case hsep => exact sep3 hnd lq lci.1
              case hpre => exact fun g' hg' _ q hq => hg' _ _ (hrd q hq)
              rintro v own' h' tk' ⟨t1, t2, t3, rfl, rfl⟩ _ F4 N4
              (try clear F3); (try clear N3)
              simp only [List.cons_append, List.nil_append] at N4
              (try dsimp only)
              walk_at "go"
              (rename Fr _ _ _ _ => F5); (rename News _ _ _ _ => N5)
              refine ⟨sent.cps.size - (pp2 + 1 + (piece sent (pp2 + 1)).length) + 1, by omega, _, tkn ++ (piece sent (pp2 + 1)).cps.toList, _, _, _, _, _, _, _, rfl, gtM_of F5 rfl rfl rfl (app_lit _ _), cb_drop N5 (by kcj_all), piece_len hlt2, ?_, ?_, rfl⟩
              · rw [List.append_assoc, ← b1]; exact hT1
              · rw [← b2]; exact hT2
            -- any other sign
            · (rename Fr _ _ _ _ => F3); (rename News _ _ _ _ => N3); (rename (_ == Str.ofString "\\") = _ => hb2); (rename (Builtin.Str.occurrences _ _ _ _ _).isEmpty = _ => hw2)
              have hb2 := one92_no hb2
              have hw2 := not_in_ws hw2
              rw [drop_here hlt2, tokP_o _ hw2 hb2] at hT1 hT2
              refine ⟨sent.cps.size - (pp2 + 1) + 1, by omega, pp2 + 1, tkn ++ [sent.cps[pp2]], _, _, _, _, _, _, _, rfl, gtM_of F3 rfl rfl rfl (app_lit _ _), N3, hlt2, ?_, hT2, rfl⟩
              rw [List.append_assoc]; exact hT1
            -- white space
            · (rename Fr _ _ _ _ => F3); (rename News _ _ _ _ => N3); (rename (Builtin.Str.occurrences _ _ _ _ _).isEmpty = _ => hw2)
              rw [drop_here hlt2, tokP_w _ (in_ws hw2)] at hT1 hT2
              refine fin _ _ _ _ _ _ _ _ _ F3 N3 (by kcj_all) ?_ ?_
              · rw [← hT2]; exact drop_len hlt2
              · rw [← hT1]; simp
          · intro hge h' tk' tl' ta' F2 N2
            dsimp only
            rw [drop_end hge] at hT1 hT2
            walk_at "go"
            refine ⟨0, by omega, pp2, tkn, _, 0, _, _, _, _, _, rfl, F2, .inr ⟨N2, ?_, by omega, hT2.symm, rfl⟩⟩
            rw [← hT1]; simp [tokP]
        -- a plain word
        · (rename Fr _ _ _ _ => F3); (rename News _ _ _ _ => N3)
          (rename (Builtin.Str.occurrences _ _ _ _ _).isEmpty = _ => hw); (rename (_ == Str.ofString "\\") = _ => hb); (rename (_ == Str.ofString "\"") = _ => hq)
          have hw := not_in_ws hw
          have hb := one92_no hb
          have hq := one34_no hq
          rw [tok_o _ hw hq hb] at hT
          refine wpAny_For ?_
          walk1
          refine ci_iter (N3 _ (.head _)).1 rfl ?_
          refine for_inv (fun n s' => ∃ (pp : Nat) (tkn : List Nat) (t t0 tl ta : Tok) (u : Str → Option Value) (h : Heap) (tk : Nat), s' = { s with heap := h, toks := tk } ∧ Fr g L' h (gtM x.lex ci tkn t u) ∧ News g L' h ((ci, ciO q0 (Str.ofString "") t0) :: (q0, methodObj (.ref 59) (.ref x.lex)) :: (x.pb, listOf #[] nb) :: x.own 76 w.params sent pp tl ta) ∧ pp ≤ sent.cps.size ∧ tkn ++ (tokP x.ws.cps.toList (sent.cps.toList.drop pp)).1 = TT.1 ∧ (tokP x.ws.cps.toList (sent.cps.toList.drop pp)).2 = TT.2 ∧ n = sent.cps.size - pp + 1) ?_ _
            ⟨pp + 1, [sent.cps[pp]], _, _, _, _, _, _, _, rfl, gtM_of F3 rfl rfl rfl (app_lit [] _), N3, hlt1, by rw [← hT]; rfl, by rw [← hT], rfl⟩
          (try clear Fh); (try clear Nh); (try clear F2); (try clear N2); (try clear F3); (try clear N3)
          rintro n s' ⟨pp2, tkn, t, t0, tl1, ta1, u, h, tk, rfl, Fh, Nh, hpp2, hT1, hT2, rfl⟩
          k_dflt (refine' nx01 hfn hR hnd (by assumption) ?B Fh X' Nh T' ?K lq lci.1 hrd ?d ?u ?_ ?_; (case B => exact B'); (case K => exact rfl); (case d => ktr_room); (case u => ktr_units))
          · intro hlt2 h' tk' tl' ta' ty F2 N2
            dsimp only
            have hle : tkn.length ≤ 1000000 := by
              have := tok_len x.ws.cps.toList (sent.cps.toList.drop ps)
              rw [hTT, ← hT1] at this
              simp at this
              omega
            walk_at "go"
            -- an escape
            · (rename Fr _ _ _ _ => F3); (rename News _ _ _ _ => N3); (rename (_ == Str.ofString "\\") = _ => hb2); (rename (Builtin.Str.occurrences _ _ _ _ _).isEmpty = _ => hw2)
              have hb2 := one92 hb2
              have hw2 := not_in_ws hw2
              rw [hb2] at hw2
              obtain ⟨b1, b2⟩ := tokP_at_b (ws := x.ws.cps.toList) hlt2 hb2 hw2
              k_dflt (refine' (read01 w p loose mean mg mb sent x rd hfn hR (nd6 hnd).1 _ (by assumption) _ _).call [(ci, ciO q0 (Str.ofString "") t0), (q0, methodObj (.ref 59) (.ref x.lex)), (x.pb, listOf #[] nb)] ?k1 ?k2 ?k3 N3 ?hin ?hsep ?k5 ?kK ?hpre ?kd ?ku ?_; (case k1 => k_asm); (case k2 => k_asm); (case k3 => k_asm); (case k5 => k_asm); (case kK => exact rfl); (case kd => ktr_room); (case ku => ktr_units))
              case hin => kcj_all
              case hsep => exact sep3 hnd lq lci.1
              case hpre => exact fun g' hg' _ q hq => hg' _ _ (hrd q hq)
              rintro v own' h' tk' ⟨t1, t2, t3, rfl, rfl⟩ _ F4 N4
              (try clear F3); (try clear N3)
              simp only [List.cons_append, List.nil_append] at N4
              (try dsimp only)
              walk_at "go"
              (rename Fr _ _ _ _ => F5); (rename News _ _ _ _ => N5)
              refine ⟨sent.cps.size - (pp2 + 1 + (piece sent (pp2 + 1)).length) + 1, by omega, _, tkn ++ (piece sent (pp2 + 1)).cps.toList, _, _, _, _, _, _, _, rfl, gtM_of F5 rfl rfl rfl (app_lit _ _), cb_drop N5 (by kcj_all), piece_len hlt2, ?_, ?_, rfl⟩
              · rw [List.append_assoc, ← b1]; exact hT1
              · rw [← b2]; exact hT2
            -- any other sign
            · (rename Fr _ _ _ _ => F3); (rename News _ _ _ _ => N3); (rename (_ == Str.ofString "\\") = _ => hb2); (rename (Builtin.Str.occurrences _ _ _ _ _).isEmpty = _ => hw2)
              have hb2 := one92_no hb2
              have hw2 := not_in_ws hw2
              rw [drop_here hlt2, tokP_o _ hw2 hb2] at hT1 hT2
              refine ⟨sent.cps.size - (pp2 + 1) + 1, by omega, pp2 + 1, tkn ++ [sent.cps[pp2]], _, _, _, _, _, _, _, rfl, gtM_of F3 rfl rfl rfl (app_lit _ _), N3, hlt2, ?_, hT2, rfl⟩
              rw [List.append_assoc]; exact hT1
            -- white space
            · (rename Fr _ _ _ _ => F3); (rename News _ _ _ _ => N3); (rename (Builtin.Str.occurrences _ _ _ _ _).isEmpty = _ => hw2)
              rw [drop_here hlt2, tokP_w _ (in_ws hw2)] at hT1 hT2
              refine fin _ _ _ _ _ _ _ _ _ F3 N3 (by kcj_all) ?_ ?_
              · rw [← hT2]; exact drop_len hlt2
              · rw [← hT1]; simp
          · intro hge h' tk' tl' ta' F2 N2
            dsimp only
            rw [drop_end hge] at hT1 hT2
            walk_at "go"
            refine ⟨0, by omega, pp2, tkn, _, 0, _, _, _, _, _, rfl, F2, .inr ⟨N2, ?_, by omega, hT2.symm, rfl⟩⟩
            rw [← hT1]; simp [tokP]
        -- white space
        · (rename Fr _ _ _ _ => F3); (rename News _ _ _ _ => N3); (rename (Builtin.Str.occurrences _ _ _ _ _).isEmpty = _ => hw)
          rw [tok_w _ (in_ws hw)] at hT
          exact ⟨sent.cps.size - (pp + 1) + 1, by omega, pp + 1, [], _, _, _, _, _, _, _, rfl, gtM_of F3 rfl rfl rfl rfl, .inl ⟨N3, rfl, hlt1, hT, rfl⟩⟩
      · intro hge h' tk' tl' ta' F2 N2
        dsimp only
        walk_at "go"
        rw [drop_end hge] at hT
        (rename Fr _ _ _ _ => F3); (rename News _ _ _ _ => N3)
        exact fin _ _ _ _ _ _ _ _ _ F3 N3 (by kcj_all) (by rw [← hT]; simp [tok]; omega) (by rw [← hT]; rfl)
    · refine ci_ended rfl (Nh _ (.head _)).1 fun h' hk' => ?_
      dsimp only
      have F3 : Fr g L' h' (gtM x.lex ci TT.1 t u) := by
        obtain ⟨oL, es, ep, hL, rL⟩ := Fh.ns
        exact ⟨⟨oL, es, ep, hk' _ _ hL, rL⟩, fun b o e => hk' _ _ (Fh.keep b o e), Fh.above⟩
      have N3 : News g L' h' _ := fun q hq => ⟨hk' _ _ (Nh q hq).1, (Nh q hq).2⟩
      clear Fh Nh
      walk_at "go"
      exact fin _ _ _ _ _ _ _ _ _ F3 N3 (by kcj_all) (by rw [hT2]; simp) rfl
end Mine
end
-- part V01
section
open PySem PySem.W PyProof.Rows PySem.Calls
set_option Elab.async false
set_option maxRecDepth 100000
set_option maxHeartbeats 8000000
set_option linter.unusedVariables false
namespace Mine
local macro_rules | `(tactic| walk_at "pad0") => `(tactic| skip)
local macro_rules | `(tactic| walk_at "pad1") => `(tactic| skip)
local macro_rules | `(tactic| walk_at "pad2") => `(tactic| skip)
local macro_rules | `(tactic| walk_at "pad3") => `(tactic| skip)
local macro_rules | `(tactic| walk_at "pad4") => `(tactic| skip)
local macro_rules | `(tactic| walk_at "pad5") => `(tactic| skip)
local macro_rules | `(tactic| walk_at "pad6") => `(tactic| skip)
local macro_rules | `(tactic| walk_at "pad7") => `(tactic| skip)
local macro_rules | `(tactic| walk_at "pad8") => `(tactic| skip)
local macro_rules | `(tactic| walk_at "pad9") => `(tactic| skip)
local macro_rules | `(tactic| walk_at "pad10") => `(tactic| skip)
local macro_rules | `(tactic| walk_at "pad11") => `(tactic| skip)
local macro_rules | `(tactic| walk_at "pad12") => `(tactic| skip)
local macro_rules | `(tactic| walk_at "pad13") => `(tactic| skip)
local macro_rules | `(tactic| walk_at "pad14") => `(tactic| skip)
local macro_rules | `(tactic| walk_at "pad15") => `(tactic| skip)
local macro_rules | `(tactic| walk_at "pad16") => `(tactic| skip)
local macro_rules | `(tactic| walk_at "pad17") => `(tactic| skip)
local macro_rules | `(tactic| k_room) => `(tactic| ktr_room)
local macro_rules | `(tactic| k_units) => `(tactic| ktr_units)
section
variable {M : Model} {A : Around} {E : Value → Shared → Prop} {s : Shared} {h₀ : Heap} {L a : Addr} {m : Str → Option Value} {cn : Str} {cs : Scope} {ccd : Value} {cl : List (Str × Addr)} {x : Str} {pos : Pos} {v : Value} {o : Obj} {Q : Value → Shared → Prop} {c : Addr}
theorem nameX_FG (F : Fr h₀ L s.heap m) (hc : cl.lookup x = some c) (hm : h₀.get? c = some o) (hd : o.data = .cell (some v)) (h : Q v s)
    (hk : cs.kind = .function := by rfl) (hx : (envX cn cs L a ccd cl).kindOf x = some .free := by rfl) (hb : (x == ("__debug__" : Str)) = false := by decide) (hn : (x == ("__classdict__" : Str)) = false := by decide) :
    wpAny M A (eval (.Name x pos) (envX cn cs L a ccd cl)) Q E s := wpAny_Name (wpAny_loadName_free hk hx hc ⟨o, F.keep _ _ hm, hd⟩ h hn) hb
end
local macro_rules | `(tactic| walk_at "eval Name") => `(tactic| (k_here; k_dflt (refine' nameX_FG ?F ?c ?m ?d ?_ ?a ?b; (case a => rfl); (case b => rfl); (case F => k_asm); (case c => assumption); (case m => assumption); (case d => assumption); k_whole)))
/-- the inner def of the stream's maker -/
abbrev giveD01 : Stmt := match PySem.Challenge.pw_ny0034_01.main.body with
  | _ :: _ :: _ :: _ :: _ :: _ :: _ :: _ :: _ :: _ :: _ :: .FunctionDef _ _ (_ :: d :: _) _ _ _ _ _ _ _ :: _ => d
  | _ => .Pass ⟨0, 0, 0, 0⟩
theorem give01 (w : World) (p : Program) (loose : List Str) (mean : ExcName → Option Value) (mg mb : Str → Option Value) (sent : Str) (tS : Tok) (f c' cT cA atA : Addr) (name qual : Str) (params : Arguments) (body : List Stmt) (scope : Scope) (cl : List (Str × Addr)) (doc pm ctv : Value) (oc oT oA : Obj) (vs : Array Value) (tq : Tok)
    (hast : ∃ n ds r tp ts b ps, giveD01 = .FunctionDef n params body ds r tp scope ts b ps) (hoc : oc.data = .fields vs) (hvs : vs[1]? = some (.str qual tq)) (hcT : cl.lookup (Str.ofString "text") = some cT) (hcA : cl.lookup (Str.ofString "at") = some cA)
    (hoT : oT.data = .cell (some (.str sent tS))) (hoA : oA.data = .cell (some (.ref atA))) (hsz : sent.cps.size ≤ 1000000) :
    ∀ (n : Nat) (t t1 : Tok), n ≤ sent.cps.size → SpecF PySem.Challenge.rw_ny0034_01.row.prog w (hd01.heap_39 w.params) p loose mean mg mb f 1 [.int 1 t1] [(atA, atO n t)] (fun g => ∀ q ∈ [(f, fnMade name qual params body scope cl doc pm c' ctv), (c', oc), (cT, oT), (cA, oA)], g.get? q.1 = some q.2) (fun v own' => ∃ t1 t2, v = .str (piece sent n) t1 ∧ own' = [(atA, atO (n + (piece sent n).length) t2)]) := by
  w_top off
  k_fill
  obtain ⟨n0, ds, r, tp, ts, b, ps0, e⟩ := hast
  dsimp only [giveD01, PySem.Challenge.pw_ny0034_01] at e
  cases e
  intro n t t1 hn dp un gd cn cs a ccd cl' outer A₀ base h₀ L m s rest R B F X N hsep T hk hpre hd hu hret
  have hs := hpre s.heap F.keep (fun q hq => (N q (List.mem_append_right _ hq)).1)
  have hcode : s.heap.CodeRec (.ref c') qual := ⟨c', oc, vs, tq, rfl, hs (c', oc) (by simp), hoc, hvs⟩
  k_dflt (refine' code_ownX (rest := rest) ?k1 ?k2 ?k3 ?k4 ?kS ?k5 ?kA ?kF ?kK (hs _ (.head _)) rfl hcode ?k8 ?k9 ?kB ?_ ?c2 ?c3 ?c4 ?c5; (case kA => exact rfl); (case kF => exact rfl); (case kK => assumption); (case kS => assumption); (case k1 => k_asm); (case k2 => k_asm); (case k3 => k_asm); (case k4 => k_asm); (case k5 => k_asm); (case k8 => ktr_room); (case k9 => exact BindsTo.of_eq rfl); (case c5 => decide); (case kB => exact locs rfl); (case c2 => exact rfl); (case c3 => exact rfl); (case c4 => exact rfl); k_whole)
  intro g L' h₁ F' N' B' X' T' hst hrest hlt
  have hrd := hpre g hst hrest
  have g1 : g.get? cT = some oT := hrd (cT, oT) (by simp)
  have g2 : g.get? cA = some oA := hrd (cA, oA) (by simp)
  clear B F X T N hs
  (try dsimp only)
  have hl0 : sent.length ≤ 1000000 := hsz
  k_steps
  have hg0 : ([(n : Int)].getD (Int.toNat 0) 0) = (n : Int) := rfl
  simp only [hg0, slice_piece] at *
  k_steps
  (rename Fr _ _ _ _ => F3); (rename News _ _ _ _ => N3)
  rw [← Int.natCast_add] at N3
  exact leaveO_ _ F3 N3 (fun q hq => hq) fun F5 N5 H5 => hret _ _ _ _ ⟨_, _, rfl, rfl⟩ H5 F5 N5
end Mine
end
-- part X01
section
open PySem PySem.W PyProof.Rows PySem.Calls
set_option Elab.async false
set_option maxRecDepth 100000
set_option maxHeartbeats 8000000
set_option linter.unusedVariables false
namespace Mine
local macro_rules | `(tactic| walk_at "pad0") => `(tactic| skip)
local macro_rules | `(tactic| walk_at "pad1") => `(tactic| skip)
local macro_rules | `(tactic| walk_at "pad2") => `(tactic| skip)
local macro_rules | `(tactic| walk_at "pad3") => `(tactic| skip)
local macro_rules | `(tactic| walk_at "pad4") => `(tactic| skip)
local macro_rules | `(tactic| walk_at "pad5") => `(tactic| skip)
local macro_rules | `(tactic| walk_at "pad6") => `(tactic| skip)
local macro_rules | `(tactic| walk_at "pad7") => `(tactic| skip)
local macro_rules | `(tactic| walk_at "pad8") => `(tactic| skip)
local macro_rules | `(tactic| walk_at "pad9") => `(tactic| skip)
local macro_rules | `(tactic| walk_at "pad10") => `(tactic| skip)
local macro_rules | `(tactic| walk_at "pad11") => `(tactic| skip)
local macro_rules | `(tactic| walk_at "pad12") => `(tactic| skip)
local macro_rules | `(tactic| walk_at "pad13") => `(tactic| skip)
local macro_rules | `(tactic| walk_at "pad14") => `(tactic| skip)
local macro_rules | `(tactic| walk_at "pad15") => `(tactic| skip)
local macro_rules | `(tactic| walk_at "pad16") => `(tactic| skip)
local macro_rules | `(tactic| walk_at "pad17") => `(tactic| skip)
local macro_rules | `(tactic| walk_at "pad18") => `(tactic| skip)
local macro_rules | `(tactic| k_room) => `(tactic| ktr_room)
local macro_rules | `(tactic| k_units) => `(tactic| ktr_units)
local macro_rules | `(tactic| walk_at "go") => `(tactic| repeat' (first | (k_unfold; (try dsimp only)) | ((fail_if_success (with_reducible show wpAny _ _ (exec (Stmt.While _ _ _ _) _) _ _ _)); (fail_if_success (with_reducible show wpAny _ _ (exec (Stmt.For _ _ _ _ _) _) _ _ _)); (fail_if_success (with_reducible show wpAny _ _ (PySem.call (Value.ref _) _) _ _ _)); first | walk1 | (dsimp only; walk1))))
theorem intsAre_some {vs : List Value} {ns : List Int} (h : IntsAre vs ns) {i : Nat} {v : Value} (hv : vs[i]? = some v) : ∃ z t, v = .int z t := by
  have hl := h.length
  have hi : i < ns.length := by
    rcases Nat.lt_or_ge i vs.length with q | q
    · omega
    · rw [List.getElem?_eq_none q] at hv; cases hv
  obtain ⟨t, e⟩ := h.get i ns[i] (by simp [hi])
  rw [hv] at e
  exact ⟨_, _, Option.some.inj e⟩
theorem text01 (w : World) (p : Program) (loose : List Str) (mean : ExcName → Option Value) (mg mb : Str → Option Value) (scr : Addr) (vs : List Value) (ns : List Int) (hI : IntsAre vs ns) (hn : ns.length ≤ 63) :
    SpecF PySem.Challenge.rw_ny0034_01.row.prog w (hd01.heap_39 w.params) p loose mean mg mb 104 1 [.ref scr] [] (fun g => g.IsList scr vs.toArray) (fun v own' => own' = [] ∧ ∃ y t, v = .str y t ∧ y.cps.size ≤ 24) := by
  w_top off
  k_fill
  intro dp un gd cn cs a ccd cl outer A₀ base h₀ L m s rest R B F X N hsep T hk hpre hd hu hret
  k_dflt (refine' code_own (own := []) (rest := rest) ?k1 ?k2 ?k3 ?k4 ?kS ?k5 ?kA ?kF ?kK ?k6 ?k7 ?k8 ?k9 ?kB ?_ ?c2 ?c3 ?c4 ?c5; (case kA => exact rfl); (case kF => exact rfl); (case kK => assumption); (case kS => assumption); (case k1 => k_asm); (case k2 => k_asm); (case k3 => k_asm); (case k4 => k_asm); (case k5 => k_asm); (case k6 => k_is); (case k7 => k_is); (case k8 => ktr_room); (case k9 => exact BindsTo.of_eq rfl); (case c5 => decide); (case kB => exact locs rfl); (case c2 => exact rfl); (case c3 => exact rfl); (case c4 => exact rfl); k_whole)
  intro g L' h₁ F' N' B' X' T' hst hrest hlt
  have hsc := hpre g hst hrest
  clear B F X T N
  (try dsimp only at hsc)
  (try dsimp only)
  walk_at "go"
  refine wpAny_For ?_
  walk_at "go"
  (rename Fr _ _ _ _ => F2); (rename News _ _ _ _ => N2)
  (rename IntsAre _ (List.take _ _) => hI2)
  refine liter_K F2 N2 (News.isList N2 (.head _)) ?_
  intro it h3 F3 N3 l3
  k_lt l3
  clear F2 N2
  rename_i D ws _ _ _ _
  dsimp only
  refine for_inv (fun n s' => ∃ (i : Nat) (y : Str) (t ts : Tok) (u : Str → Option Value) (h : Heap) (tk : Nat), s' = { s with heap := h, toks := tk } ∧ Fr g L' h (fun z => if z = Str.ofString "text" then some (.str y t) else if z = Str.ofString "signs" then some (.str (Str.ofString ".\n\\\"\r n.\t\r\n\x0c") ts) else u z) ∧
    News g L' h [(it, liO D i), (D, listOf ws.toArray 0)] ∧ y.cps.size ≤ 24 ∧ n = ws.length - i) ?turn _
    ⟨0, _, _, _, _, _, _, rfl, canon2 F3 _ _ rfl rfl, N3, (by decide +kernel), rfl⟩
  case turn =>
    (try clear F3); (try clear N3)
    rintro n s' ⟨i, y, t, ts, u, h, tk, rfl, Fh, Nh, hy, rfl⟩
    refine lnext_K rfl Fh Nh (News.isList Nh (.tail _ (.head _))) ?ne ?_ ?_
    case ne => intro p hp; simp at hp; subst hp; exact Nat.ne_of_lt l3
    · intro v hv h4 F4 N4
      obtain ⟨z, tz, rfl⟩ : ∃ z tz, v = .int z tz := intsAre_some hI2 (by simpa using hv)
      have hi : i < ws.length := by
        rcases Nat.lt_or_ge i ws.length with q | q
        · exact q
        · simp [q] at hv
      dsimp only
      walk_at "go"
      (rename Fr _ _ _ _ => F5); (rename News _ _ _ _ => N5)
      refine while_inv (fun n s' => ∃ (y : Str) (t ts : Tok) (r : Int) (tr : Tok) (u : Str → Option Value) (h : Heap) (tk : Nat), s' = { s with heap := h, toks := tk } ∧ Fr g L' h (fun z => if z = Str.ofString "text" then some (.str y t) else if z = Str.ofString "signs" then some (.str (Str.ofString ".\n\\\"\r n.\t\r\n\x0c") ts) else if z = Str.ofString "rest" then some (.int r tr) else u z) ∧
        News g L' h [(it, liO D (i + 1)), (D, listOf ws.toArray 0)] ∧ y.cps.size ≤ 24 ∧ 0 ≤ r ∧ n = 24 - y.cps.size) ?_ _ ⟨_, _, _, _, _, _, _, _, rfl, canon3 F5 _ _ _ rfl rfl rfl, N5, hy, ?r0, rfl⟩
      case r0 => rw [Int.fmod_eq_emod_of_nonneg _ (by decide)]; exact Int.emod_nonneg _ (by decide)
      (try clear F4); (try clear N4); (try clear F5); (try clear N5)
      rintro n s' ⟨y, t, ts, r, tr, u, h, tk, rfl, Fh, Nh, hy, hr, rfl⟩
      have hyl : y.length ≤ 24 := hy
      walk_at "go"
      refine whl_if (fun hb => ?_) (fun hb => ?_)
      · have hb := of_decide_eq_true hb
        have hq := Int.emod_nonneg r (show (12 : Int) ≠ 0 by decide)
        have hq2 := Int.emod_lt_of_pos r (show (0 : Int) < 12 by decide)
        walk_at "go"
        · dsimp only [RoundEnd]
          walk_at "go"
          (rename Fr _ _ _ _ => F5); (rename News _ _ _ _ => N5)
          exact ⟨ws.length - (i + 1), by omega, i + 1, _, _, _, _, _, _, rfl, canon2 F5 _ _ rfl rfl, N5, (by show Str.length (y ++ _) ≤ 24; omega), rfl⟩
        · (rename Fr _ _ _ _ => F5); (rename News _ _ _ _ => N5)
          refine ⟨_, ?_, _, _, _, _, _, _, _, _, rfl, canon3 F5 _ _ _ rfl rfl rfl, N5, (by show Str.length (y ++ _) ≤ 24; omega), ?_, rfl⟩
          · show 24 - Str.length (y ++ _) < 24 - Str.length y
            omega
          · rw [Int.fdiv_eq_ediv_of_nonneg _ (by decide)]; exact Int.ediv_nonneg hr (by decide)
      · walk_at "go"
        exact ⟨ws.length - (i + 1), by omega, i + 1, _, _, _, _, _, _, rfl, canon2 Fh _ _ rfl rfl, Nh, hy, rfl⟩
    · intro hv h4 F4 N4
      dsimp only
      walk_at "go"
      · exact leaveO_ [] F4 N4 (fun _ h => nomatch h) fun F5 N5 H5 => hret _ [] _ _ ⟨rfl, _, _, rfl, hy⟩ H5 F5 N5
      · exact leaveO_ [] F4 N4 (fun _ h => nomatch h) fun F5 N5 H5 => hret _ [] _ _ ⟨rfl, _, _, rfl, by decide +kernel⟩ H5 F5 N5
end Mine
end
-- part P01
section
open PySem PySem.W PyProof.Rows PySem.Calls
set_option Elab.async false
set_option maxRecDepth 100000
set_option maxHeartbeats 8000000
set_option linter.unusedVariables false
namespace Mine
local macro_rules | `(tactic| walk_at "pad0") => `(tactic| skip)
local macro_rules | `(tactic| walk_at "pad1") => `(tactic| skip)
local macro_rules | `(tactic| walk_at "pad2") => `(tactic| skip)
local macro_rules | `(tactic| walk_at "pad3") => `(tactic| skip)
local macro_rules | `(tactic| walk_at "pad4") => `(tactic| skip)
local macro_rules | `(tactic| walk_at "pad5") => `(tactic| skip)
local macro_rules | `(tactic| walk_at "pad6") => `(tactic| skip)
local macro_rules | `(tactic| walk_at "pad7") => `(tactic| skip)
local macro_rules | `(tactic| walk_at "pad8") => `(tactic| skip)
local macro_rules | `(tactic| walk_at "pad9") => `(tactic| skip)
local macro_rules | `(tactic| walk_at "pad10") => `(tactic| skip)
local macro_rules | `(tactic| walk_at "pad11") => `(tactic| skip)
local macro_rules | `(tactic| walk_at "pad12") => `(tactic| skip)
local macro_rules | `(tactic| walk_at "pad13") => `(tactic| skip)
local macro_rules | `(tactic| walk_at "pad14") => `(tactic| skip)
local macro_rules | `(tactic| walk_at "pad15") => `(tactic| skip)
local macro_rules | `(tactic| walk_at "pad16") => `(tactic| skip)
local macro_rules | `(tactic| walk_at "pad17") => `(tactic| skip)
local macro_rules | `(tactic| walk_at "pad18") => `(tactic| skip)
local macro_rules | `(tactic| walk_at "pad19") => `(tactic| skip)
local macro_rules | `(tactic| k_room) => `(tactic| ktr_room)
local macro_rules | `(tactic| k_units) => `(tactic| ktr_units)
local macro_rules | `(tactic| walk_at "go") => `(tactic| repeat' (first | (k_unfold; (try dsimp only)) | ((fail_if_success (with_reducible show wpAny _ _ (exec (Stmt.While _ _ _ _) _) _ _ _)); (fail_if_success (with_reducible show wpAny _ _ (exec (Stmt.For _ _ _ _ _) _) _ _ _)); (fail_if_success (with_reducible show wpAny _ _ (PySem.call (Value.ref _) _) _ _ _)); (fail_if_success (with_reducible show wpAny _ _ (pyIter (Value.ref _)) _ _ _)); first | walk1 | (dsimp only; walk1))))
theorem pieces01 (w : World) (p : Program) (loose : List Str) (mean : ExcName → Option Value) (mg mb : Str → Option Value) (x : Str) (t : Tok) (hx : x.cps.size ≤ 1000) :
    SpecF PySem.Challenge.rw_ny0034_01.row.prog w (hd01.heap_39 w.params) p loose mean mg mb 118 1 [.str x t] [] (fun _ => True) (fun v own' => ∃ P l n, v = .ref P ∧ own' = [(P, strsO l n)] ∧ lists l = pcs none x.cps.toList) := by
  w_top off
  k_fill
  intro dp un gd cn cs a ccd cl outer A₀ base h₀ L m s rest R B F X N hsep T hk _ hd hu hret
  k_dflt (refine' code_own (own := []) (rest := rest) ?k1 ?k2 ?k3 ?k4 ?kS ?k5 ?kA ?kF ?kK ?k6 ?k7 ?k8 ?k9 ?kB ?_ ?c2 ?c3 ?c4 ?c5; (case kA => exact rfl); (case kF => exact rfl); (case kK => assumption); (case kS => assumption); (case k1 => k_asm); (case k2 => k_asm); (case k3 => k_asm); (case k4 => k_asm); (case k5 => k_asm); (case k6 => k_is); (case k7 => k_is); (case k8 => ktr_room); (case k9 => exact BindsTo.of_eq rfl); (case c5 => decide); (case kB => exact locs rfl); (case c2 => exact rfl); (case c3 => exact rfl); (case c4 => exact rfl); k_whole)
  intro g L' h₁ F' N' B' X' T' hst hrest hlt
  clear B F X T N
  (try dsimp only)
  have hxl : x.length ≤ 1000 := hx
  walk_at "go"
  refine wpAny_For ?_
  walk_at "go"
  rename IsRange _ _ _ _ _ _ _ _ => hRg
  (rename Fr _ _ _ _ => F2); (rename News _ _ _ _ => N2)
  refine riter_K F2 N2 hRg (by show x.length ≤ _; omega) ?_
  intro it h3 F3 N3 l3
  k_lt l3
  clear F2 N2
  dsimp only
  refine for_inv (fun n s' => ∃ (P i : Nat) (l : List (Str × Tok)) (ep : Nat) (u : Str → Option Value) (h : Heap) (tk : Nat), s' = { s with heap := h, toks := tk } ∧ Fr g L' h (fun z => if z = Str.ofString "pieces" then some (.ref P) else if z = Str.ofString "text" then some (.str x t) else u z) ∧
    News g L' h [(it, riO i ((x.length : Int) - i) 1), (P, strsO l ep)] ∧ P < it ∧ i ≤ x.length ∧ l.length ≤ i ∧ lists l ++ pcs (prevAt x i) (x.cps.toList.drop i) = pcs none x.cps.toList ∧ n = x.length - i) ?turn _
    ⟨_, 0, [], _, _, _, _, rfl, canon2 F3 _ _ rfl rfl, N3, l3, Nat.zero_le _, Nat.le_refl _, rfl, rfl⟩
  case turn =>
    (try clear F3); (try clear N3); clear l3
    rintro n s' ⟨P, i, l, ep, u, h, tk, rfl, Fh, Nh, l3, hi, hll, hp, rfl⟩
    refine rnext_K rfl Fh Nh ?ne ?_ ?_
    case ne => intro p hp; simp at hp; subst hp; exact Nat.ne_of_lt l3
    · intro hlt2 h4 t4 tk4 F4 N4
      have hi2 : i < x.length := by omega
      have hsz : (strValues l).toArray.size ≤ 1000 := by simp [strValues]; omega
      dsimp only
      walk_at "go"
      all_goals
        rename News _ _ _ _ => N5
        rename Fr _ _ _ _ => F5
        (try rw [slice_ahead (Nat.le_of_lt hi2)] at *)
        (try rw [item_at hi2] at *)
      · rename (_ == Str.ofString ".") = _ => hc; rename (List.any _ _) = _ => ha
        have hc := one46 hc; have ha := anyA.mp ha
        exact pc_end (fun i l ep u h tk a1 a2 a3 a4 a5 => ⟨P, i, l, ep, u, h, tk, rfl, a1, a2, l3, a3, a4, a5, rfl⟩) F5 rfl rfl N5 (by kcj_all) hi2 hll hp (by rw [drop_here hi2, hc, pcs_dots _ ha, ofDots, prev_succ hi2, hc])
      · rename (_ == Str.ofString ".") = _ => hc; rename (List.any _ _) = _ => ha
        have hc := one46 hc; have ha : ¬ (prevAt x i = none ∨ prevAt x i = some 13 ∨ prevAt x i = some 10) := fun q => by have := anyA.mpr q; rw [ha] at this; cases this
        exact pc_end (fun i l ep u h tk a1 a2 a3 a4 a5 => ⟨P, i, l, ep, u, h, tk, rfl, a1, a2, l3, a3, a4, a5, rfl⟩) F5 rfl rfl N5 (by kcj_all) hi2 hll hp (by rw [drop_here hi2, hc, pcs_dot _ ha, prev_succ hi2, hc])
      · rename (_ == Str.ofString ".") = _ => hc; rename (Builtin.Str.occurrences _ _ _ _ _).isEmpty = _ => ho
        have hc := one46_no hc; have ho := notIn2 ho
        exact pc_end (fun i l ep u h tk a1 a2 a3 a4 a5 => ⟨P, i, l, ep, u, h, tk, rfl, a1, a2, l3, a3, a4, a5, rfl⟩) F5 rfl rfl N5 (by kcj_all) hi2 hll hp (by rw [drop_here hi2, pcs_one _ ho hc, prev_succ hi2])
      · rename (_ == Str.ofString "\r") = _ => hc
        have hc := one13 hc
        exact pc_end (fun i l ep u h tk a1 a2 a3 a4 a5 => ⟨P, i, l, ep, u, h, tk, rfl, a1, a2, l3, a3, a4, a5, rfl⟩) F5 rfl rfl N5 (by kcj_all) hi2 hll hp (by rw [drop_here hi2, hc, pcs_cr, ofCRLF, prev_succ hi2, hc])
      · rename (_ == Str.ofString "\r") = _ => hc; rename (Builtin.Str.occurrences _ _ _ _ _).isEmpty = _ => ho; rename (_ != _) = _ => hn
        have hc := one13_no hc; have ho := (in2 ho).resolve_left hc; have hn := neA.mp hn
        exact pc_end (fun i l ep u h tk a1 a2 a3 a4 a5 => ⟨P, i, l, ep, u, h, tk, rfl, a1, a2, l3, a3, a4, a5, rfl⟩) F5 rfl rfl N5 (by kcj_all) hi2 hll hp (by rw [drop_here hi2, ho, pcs_lf _ hn, ofCRLF, prev_succ hi2, ho])
      · rename (_ == Str.ofString "\r") = _ => hc; rename (Builtin.Str.occurrences _ _ _ _ _).isEmpty = _ => ho; rename (_ != _) = _ => hn
        have hc := one13_no hc; have ho := (in2 ho).resolve_left hc
        have hn : prevAt x i = some 13 := by
          refine Classical.byContradiction fun q => ?_
          rw [neA.mpr q] at hn
          cases hn
        rw [drop_here hi2, ho, hn, pcs_crlf] at hp
        refine ⟨x.length - (i + 1), by omega, P, i + 1, l, ep, _, _, _, rfl, canon2 F5 _ _ rfl rfl, ?_, l3, hi2, by omega, ?_, rfl⟩
        · rw [show ((i + 1 : Nat) : Int) = (i : Int) + 1 by omega, show (x.length : Int) - ((i : Int) + 1) = (x.length : Int) - i - 1 by omega]
          exact cb_drop N5 (by kcj_all)
        · rw [prev_succ hi2, ho]; exact hp
    · intro hge h4 F4 N4
      dsimp only
      walk_at "go"
      have hi3 : i = x.length := by omega
      have hdr : x.cps.toList.drop i = [] := drop_end (by rw [hi3]; exact Nat.le_refl _)
      rw [hdr, pcs, List.append_nil] at hp
      exact leaveO_ [(P, strsO l ep)] F4 N4 (by kcj_all) fun F5 N5 H5 => hret _ _ _ _ ⟨P, l, ep, rfl, rfl, hp⟩ H5 F5 N5
end Mine
end
-- part E01
section
open PySem PySem.W PyProof.Rows PySem.Calls
set_option Elab.async false
set_option maxRecDepth 100000
set_option maxHeartbeats 8000000
set_option linter.unusedVariables false
namespace Mine
local macro_rules | `(tactic| walk_at "pad0") => `(tactic| skip)
local macro_rules | `(tactic| walk_at "pad1") => `(tactic| skip)
local macro_rules | `(tactic| walk_at "pad2") => `(tactic| skip)
local macro_rules | `(tactic| walk_at "pad3") => `(tactic| skip)
local macro_rules | `(tactic| walk_at "pad4") => `(tactic| skip)
local macro_rules | `(tactic| walk_at "pad5") => `(tactic| skip)
local macro_rules | `(tactic| walk_at "pad6") => `(tactic| skip)
local macro_rules | `(tactic| walk_at "pad7") => `(tactic| skip)
local macro_rules | `(tactic| walk_at "pad8") => `(tactic| skip)
local macro_rules | `(tactic| walk_at "pad9") => `(tactic| skip)
local macro_rules | `(tactic| walk_at "pad10") => `(tactic| skip)
local macro_rules | `(tactic| walk_at "pad11") => `(tactic| skip)
local macro_rules | `(tactic| walk_at "pad12") => `(tactic| skip)
local macro_rules | `(tactic| walk_at "pad13") => `(tactic| skip)
local macro_rules | `(tactic| walk_at "pad14") => `(tactic| skip)
local macro_rules | `(tactic| walk_at "pad15") => `(tactic| skip)
local macro_rules | `(tactic| walk_at "pad16") => `(tactic| skip)
local macro_rules | `(tactic| walk_at "pad17") => `(tactic| skip)
local macro_rules | `(tactic| walk_at "pad18") => `(tactic| skip)
theorem fit2 {a b : Str} {l : List (Str × Tok)} {k : Nat} (hl : l.length ≤ 1000000) (hk : k ≤ l.length) (ha : a.length ≤ 2 * k) (hb : b.length ≤ 2) : a.length + b.length ≤ sizeLine := by
  have e24 : sizeLine = 16777216 := by decide
  omega
local macro_rules | `(tactic| k_room) => `(tactic| ktr_room)
local macro_rules | `(tactic| k_units) => `(tactic| ktr_units)
local macro_rules | `(tactic| ke_room) => `(tactic| ktr_units)
local macro_rules | `(tactic| walk_at "go") => `(tactic| repeat' (first | (k_unfold; (try dsimp only)) | ((fail_if_success (with_reducible show wpAny _ _ (exec (Stmt.While _ _ _ _) _) _ _ _)); (fail_if_success (with_reducible show wpAny _ _ (exec (Stmt.For _ _ _ _ _) _) _ _ _)); (fail_if_success (with_reducible show wpAny _ _ (PySem.call (Value.ref _) _) _ _ _)); (fail_if_success (with_reducible show wpAny _ _ (pyIter (Value.ref _)) _ _ _)); (fail_if_success (with_reducible show wpAny _ _ (subscriptTail _ (PySem.Expr.Slice _ _ _ _) (Value.ref _) _) _ _ _)); first | walk1 | (dsimp only; walk1))))
local macro_rules | `(tactic| walk_at "subscriptTail Name Name ref int") => `(tactic| (k_here; (refine strs_item (Fr.lst (by k_asm) (by assumption)) (by assumption) (by omega) ?_)))
local macro_rules | `(tactic| walk_at "call builtin:len") => `(tactic| (k_here; (with_reducible show wpAny _ _ (PySem.call (Value.builtin "len") [Value.ref _]) _ _ _); (refine strs_len (Fr.lst (by k_asm) (by assumption)) (by assumption) ?_); intro _ _))

abbrev isBl (q : List Nat) : Prop := q = [32] ∨ q = [9] ∨ q = [13, 10]
def skipP : List (List Nat) → List (List Nat)
  | [] => []
  | q :: r => if isBl q then skipP r else q :: r
/-- a plain word off the pieces: the word, the pieces left, and whether a half line end was taken -/
def getP : List (List Nat) → List Nat × List (List Nat) × Nat
  | [] => ([], [], 0)
  | [q] => if q = [13, 10] then ([], [q], 1) else if q = [32] ∨ q = [9] then ([], [], 0) else if q = [92] then ([], [], 0) else (q, [], 0)
  | q :: d :: r => if q = [13, 10] then ([], q :: d :: r, 1) else if q = [32] ∨ q = [9] then ([], d :: r, 0) else if q = [92] then (if d = [13, 10] then ([13], r, 0) else (d ++ (getP r).1, (getP r).2)) else (q ++ (getP (d :: r)).1, (getP (d :: r)).2)
def getQ : List (List Nat) → List Nat × List (List Nat)
  | [] => ([], [])
  | [q] => if q = [34] then ([], []) else if q = [92] then ([], []) else (q, [])
  | q :: d :: r => if q = [34] then ([], d :: r) else if q = [92] then (d ++ (getQ r).1, (getQ r).2) else (q ++ (getQ (d :: r)).1, (getQ (d :: r)).2)
def getL (ps : List (List Nat)) : List Nat × List (List Nat) × Nat :=
  match skipP ps with
  | [] => getP []
  | q :: r => if q = [34] then ((getQ r).1, (getQ r).2, 0) else getP (q :: r)
theorem anyBl {y : Str} : ([Str.ofString " ", Str.ofString "\t", Str.ofString "\r\n"].any fun z => z == y) = true ↔ isBl y.cps.toList := by
  have e1 : Str.ofString " " = ⟨#[32]⟩ := by decide +kernel
  have e2 : Str.ofString "\t" = ⟨#[9]⟩ := by decide +kernel
  have e3 : Str.ofString "\r\n" = ⟨#[13, 10]⟩ := by decide +kernel
  rw [e1, e2, e3]
  obtain ⟨c⟩ := y
  have key : ∀ a : Array Nat, ((⟨a⟩ : Str) == ⟨c⟩) = true ↔ c.toList = a.toList := by
    intro a
    rw [beq_iff_eq, Str.mk.injEq]
    constructor
    · intro h; rw [h]
    · intro h; exact (Array.ext' h).symm
  simp only [List.any_cons, List.any_nil, Bool.or_false, Bool.or_eq_true, key]
theorem str_of_list {x : Str} {a : Array Nat} (h : x.cps.toList = a.toList) : x = ⟨a⟩ := by
  obtain ⟨c⟩ := x
  rw [Str.mk.injEq]
  exact Array.ext' h
theorem lists_drop {l : List (Str × Tok)} {k : Nat} (h : k < l.length) : lists (l.drop k) = l[k].1.cps.toList :: lists (l.drop (k + 1)) := by
  rw [List.drop_eq_getElem_cons h]
  rfl
theorem lists_end {l : List (Str × Tok)} {k : Nat} (h : l.length ≤ k) : lists (l.drop k) = [] := by
  rw [List.drop_of_length_le h]
  rfl
theorem getP_n (r : List (List Nat)) : getP ([13, 10] :: r) = ([], [13, 10] :: r, 1) := by cases r <;> simp [getP]
theorem getP_e {q : List Nat} (r : List (List Nat)) (h : q = [32] ∨ q = [9]) : getP (q :: r) = ([], r, 0) := by
  have h1 : q ≠ [13, 10] := by rcases h with rfl | rfl <;> decide
  cases r <;> simp [getP, h1, h]
theorem getP_b0 : getP [[92]] = ([], [], 0) := by simp [getP]
theorem getP_bn (r : List (List Nat)) : getP ([92] :: [13, 10] :: r) = ([13], r, 0) := by simp [getP]
theorem getP_b {d : List Nat} (r : List (List Nat)) (h : d ≠ [13, 10]) : getP ([92] :: d :: r) = (d ++ (getP r).1, (getP r).2) := by simp [getP, h]
theorem getP_o {q : List Nat} (r : List (List Nat)) (h1 : q ≠ [13, 10]) (h2 : ¬ (q = [32] ∨ q = [9])) (h3 : q ≠ [92]) : getP (q :: r) = (q ++ (getP r).1, (getP r).2) := by
  cases r <;> simp only [getP, if_neg h1, if_neg h2, if_neg h3, List.append_nil]
theorem getQ_q (r : List (List Nat)) : getQ ([34] :: r) = ([], r) := by cases r <;> simp [getQ]
theorem getQ_b0 : getQ [[92]] = ([], []) := by simp [getQ]
theorem getQ_b (d : List Nat) (r : List (List Nat)) : getQ ([92] :: d :: r) = (d ++ (getQ r).1, (getQ r).2) := by simp [getQ]
theorem getQ_o {q : List Nat} (r : List (List Nat)) (h1 : q ≠ [34]) (h3 : q ≠ [92]) : getQ (q :: r) = (q ++ (getQ r).1, (getQ r).2) := by
  cases r <;> simp only [getQ, if_neg h1, if_neg h3, List.append_nil]
theorem eqS {x y : Str} (h : (x == y) = true) : x.cps.toList = y.cps.toList := by rw [beq_iff_eq] at h; rw [h]
theorem neS {x y : Str} (h : (x == y) = false) : x.cps.toList ≠ y.cps.toList := by
  intro q
  have : x = y := by obtain ⟨a⟩ := x; obtain ⟨b⟩ := y; rw [Str.mk.injEq]; exact Array.ext' q
  rw [this, beq_self_eq_true] at h
  cases h
theorem ofB1 : (Str.ofString "\\").cps.toList = [92] := by rw [ofB]
theorem ofNil1 : (Str.ofString "").cps.toList = [] := by rw [ofNil]
theorem ofQ1 : (Str.ofString "\"").cps.toList = [34] := by rw [ofQ]
theorem any2 {y : Str} : ([Str.ofString " ", Str.ofString "\t"].any fun z => z == y) = true ↔ (y.cps.toList = [32] ∨ y.cps.toList = [9]) := by
  have e1 : Str.ofString " " = ⟨#[32]⟩ := by decide +kernel
  have e2 : Str.ofString "\t" = ⟨#[9]⟩ := by decide +kernel
  rw [e1, e2]
  have key : ∀ a : Array Nat, ((⟨a⟩ : Str) == y) = true ↔ y.cps.toList = a.toList := by
    intro a
    obtain ⟨c⟩ := y
    rw [beq_iff_eq, Str.mk.injEq]
    constructor
    · intro h; rw [h]
    · intro h; exact (Array.ext' h).symm
  simp only [List.any_cons, List.any_nil, Bool.or_false, Bool.or_eq_true, key]
theorem any1 {y : Str} : ([Str.ofString "\""].any fun z => z == y) = true ↔ (y.cps.toList = [34]) := by
  rw [ofQ]
  obtain ⟨c⟩ := y
  simp only [List.any_cons, List.any_nil, Bool.or_false, beq_iff_eq, Str.mk.injEq]
  constructor
  · intro h; rw [← h]
  · intro h; exact (Array.ext' h).symm
abbrev tupO (vs : Array Value) : Obj := { cls := .type "tuple", data := .seq vs }
def GetPost (l : List (Str × Tok)) (k : Nat) (v : Value) (own' : List (Addr × Obj)) : Prop :=
  ∃ T w tw ki tk' hi th k', v = .ref T ∧ own' = [(T, tupO #[.str w tw, .int ki tk', .int hi th])] ∧ ki = ((k' : Nat) : Int) ∧ k' ≤ l.length ∧ w.cps.toList = (getL (lists (l.drop k))).1 ∧ lists (l.drop k') = (getL (lists (l.drop k))).2.1 ∧ hi = ((getL (lists (l.drop k))).2.2 : Nat)
/-- what the first loop of the reader leaves -/
def SkipMid (g : Heap) (L P : Addr) (s : Shared) (l : List (Str × Tok)) (k : Nat) (f : Flow) (s' : Shared) : Prop :=
  f = .next ∧ ∃ (k1 : Nat) (tk1 : Tok) (u : Str → Option Value) (h : Heap) (tks : Nat), s' = { s with heap := h, toks := tks } ∧ Fr g L h (fun z => if z = Str.ofString "k" then some (.int (k1 : Int) tk1) else if z = Str.ofString "pieces" then some (.ref P) else u z) ∧
    News g L h [] ∧ k1 ≤ l.length ∧ skipP (lists (l.drop k)) = lists (l.drop k1) ∧ ∀ hlt : k1 < l.length, ¬ isBl l[k1].1.cps.toList
theorem get01 (w : World) (p : Program) (loose : List Str) (mean : ExcName → Option Value) (mg mb : Str → Option Value) (P : Addr) (l : List (Str × Tok)) (hl : l.length ≤ 1000000) (k : Nat) (hk0 : k ≤ l.length) (tk : Tok) (h2 : ∀ q ∈ l, q.1.length ≤ 2) :
    SpecF PySem.Challenge.rw_ny0034_01.row.prog w (hd01.heap_39 w.params) p loose mean mg mb 125 10 [.ref P, .int (k : Int) tk] [] (fun g => g.IsList P (strValues l).toArray) (GetPost l k) := by
  w_top off
  k_fill
  intro dp un gd cn cs a ccd cl outer A₀ base h₀ L m s rest R B F X N hsep T hk hpre hd hu hret
  k_dflt (refine' code_own (own := []) (rest := rest) ?k1 ?k2 ?k3 ?k4 ?kS ?k5 ?kA ?kF ?kK ?k6 ?k7 ?k8 ?k9 ?kB ?_ ?c2 ?c3 ?c4 ?c5; (case kA => exact rfl); (case kF => exact rfl); (case kK => assumption); (case kS => assumption); (case k1 => k_asm); (case k2 => k_asm); (case k3 => k_asm); (case k4 => k_asm); (case k5 => k_asm); (case k6 => k_is); (case k7 => k_is); (case k8 => ktr_room); (case k9 => exact BindsTo.of_eq rfl); (case c5 => decide); (case kB => exact locs rfl); (case c2 => exact rfl); (case c3 => exact rfl); (case c4 => exact rfl); k_whole)
  intro g L' h₁ F' N' B' X' T' hst hrest hlt
  have hP : g.IsList P (strValues l).toArray := hpre g hst hrest
  clear B F X T N
  (try dsimp only)
  walk_at "go"
  (rename Fr _ _ _ _ => F2); (rename News _ _ _ _ => N2)
  refine wpAny_mono (Q := SkipMid g L' P s l k) ?wh ?rest (fun _ _ h => h)
  case wh =>
    refine while_inv (fun n s' => ∃ (k1 : Nat) (tk1 : Tok) (u : Str → Option Value) (h : Heap) (tks : Nat), s' = { s with heap := h, toks := tks } ∧ Fr g L' h (fun z => if z = Str.ofString "k" then some (.int (k1 : Int) tk1) else if z = Str.ofString "pieces" then some (.ref P) else u z) ∧
      News g L' h [] ∧ k1 ≤ l.length ∧ skipP (lists (l.drop k)) = skipP (lists (l.drop k1)) ∧ n = l.length - k1) ?_ _ ⟨_, _, _, _, _, rfl, canon2 F2 _ _ rfl rfl, N2, hk0, rfl, rfl⟩
    clear F2 N2
    rintro n s' ⟨k1, tk1, u, h, tks, rfl, Fh, Nh, hk1, hs, rfl⟩
    walk_at "go"
    · rename List.any _ _ = _ => hb
      (rename Fr _ _ _ _ => F3); (rename News _ _ _ _ => N3)
      have hlt1 : k1 < l.length := by omega
      have hb := anyBl.mp hb
      refine ⟨l.length - (k1 + 1), by omega, k1 + 1, _, _, _, _, rfl, canon2 F3 _ _ (by rw [show ((k1 + 1 : Nat) : Int) = (k1 : Int) + 1 by omega]; rfl) rfl, cb_drop N3 (fun _ h => nomatch h), hlt1, ?_, rfl⟩
      rw [hs, lists_drop hlt1, skipP, if_pos hb]
    · rename List.any _ _ = _ => hb
      (rename Fr _ _ _ _ => F3); (rename News _ _ _ _ => N3)
      have hlt1 : k1 < l.length := by omega
      have hb : ¬ isBl l[k1].1.cps.toList := fun q => by have := anyBl.mpr q; rw [hb] at this; cases this
      refine ⟨rfl, k1, _, _, _, _, rfl, canon2 F3 _ _ rfl rfl, cb_drop N3 (fun _ h => nomatch h), hk1, ?_, fun _ => hb⟩
      rw [hs, lists_drop hlt1, skipP, if_neg hb]
    · (rename Fr _ _ _ _ => F3); (rename News _ _ _ _ => N3)
      refine ⟨rfl, k1, _, _, _, _, rfl, canon2 F3 _ _ rfl rfl, cb_drop N3 (fun _ h => nomatch h), hk1, ?_, fun q => absurd q (by omega)⟩
      rw [hs, lists_end (by omega)]
      rfl
  case rest =>
    clear F2 N2
    rintro f s' ⟨rfl, k1, tk1, u, h, tks, rfl, Fh, Nh, hk1, hs, hnb⟩
    dsimp only
    walk_at "go"
    (rename Fr _ _ _ _ => F3); (rename News _ _ _ _ => N3)
    refine strs_slice1 k1 rfl rfl F3 N3 (Fr.lst F3 hP) hl ?sl0 ?sl1
    case sl0 =>
      intro hge D1 h4 F4 N4 l4
      dsimp only
      walk_at "go"
      (rename Fr _ _ _ _ => F5); (rename News _ _ _ _ => N5)
      refine while_inv (fun n s' => s' = _) ?_ 0 rfl
      rintro n s' rfl
      walk_at "go"
      refine whl_if (fun hb => absurd hb (by simp; omega)) (fun hb => ?_)
      walk_at "go"
      (rename Fr _ _ _ _ => F7); (rename News _ _ _ _ => N7)
      have hg : getL (lists (l.drop k)) = ([], [], 0) := by rw [getL, hs, lists_end hge, getP]
      exact leaveO_ [(_, _)] F7 N7 (by kcj_all) fun F5 N5 H5 => hret _ _ _ _ ⟨_, _, _, _, _, _, _, k1, rfl, rfl, rfl, hk1, by rw [hg, ofNil1], by rw [hg, lists_end hge], by rw [hg]; rfl⟩ H5 F5 N5
    case sl1 =>
      intro hge D1 h4 F4 N4 l4
      dsimp only
      walk_at "go"
      (rename Fr _ _ _ _ => F5); (rename News _ _ _ _ => N5)
      refine one_ne ⟨_, (N5 _ (.tail _ (.head _))).1, rfl, _, rfl⟩ ⟨_, (N5 _ (.head _)).1, rfl, _, rfl⟩ (by ktr_units) ?qy ?qn
      case qy =>
        intro hq
        dsimp only
        walk_at "go"
        (rename Fr _ _ _ _ => F6); (rename News _ _ _ _ => N6)
        refine while_inv (fun n s' => ∃ (D : Addr) (t1 : Tok) (k2 : Nat) (tk2 : Tok) (wd : Str) (tw : Tok) (u : Str → Option Value) (h : Heap) (tks : Nat), s' = { s with heap := h, toks := tks } ∧
          Fr g L' h (fun z => if z = Str.ofString "word" then some (.str wd tw) else if z = Str.ofString "k" then some (.int (k2 : Int) tk2) else if z = Str.ofString "ends" then some (.ref D) else if z = Str.ofString "plain" then some (.bool false) else if z = Str.ofString "pieces" then some (.ref P) else u z) ∧
          News g L' h [(D, { cls := .type "tuple", data := .seq #[.str (Str.ofString "\"") t1] })] ∧ k2 ≤ l.length ∧ wd.length ≤ 2 * k2 ∧ (wd.cps.toList ++ (getQ (lists (l.drop k2))).1, (getQ (lists (l.drop k2))).2, 0) = getL (lists (l.drop k)) ∧ n = l.length - k2) ?_ _
          ⟨_, _, k1 + 1, _, Str.ofString "", _, _, _, _, rfl, canon5 F6 _ _ _ _ _ rfl (by rw [show ((k1 + 1 : Nat) : Int) = (k1 : Int) + 1 by omega]; rfl) rfl rfl rfl, cb_drop N6 (by kcj_all), hge, Nat.zero_le _, ?_, rfl⟩
        · (try clear F6); (try clear N6)
          rintro n s' ⟨D, t1, k2, tk2, wd, tw, u, h, tks, rfl, Fh, Nh, hk2, hwd, hg, rfl⟩
          walk_at "go"
          refine whl_if (fun hb => ?_) (fun hb => ?_)
          · have hlt2 : k2 < l.length := by simpa using hb
            walk_at "go"
            · (rename Fr _ _ _ _ => F7); (rename News _ _ _ _ => N7)
              rename (List.any _ _) = _ => ha
              rw [lists_drop hlt2, any1.mp ha, getQ_q] at hg
              exact leaveO_ [(_, _)] F7 N7 (by kcj_all) fun F5 N5 H5 => hret _ _ _ _ ⟨_, _, _, _, _, _, _, k2 + 1, rfl, rfl, by omega, hlt2, by rw [← hg, List.append_nil], by rw [← hg], by rw [← hg]; rfl⟩ H5 F5 N5
            · (rename Fr _ _ _ _ => F7); (rename News _ _ _ _ => N7)
              rename (_ == Str.ofString "\\") = _ => hb
              have hb := eqS hb
              rw [ofB1] at hb
              refine strs_slice1 (k2 + 1) (by omega) (by omega) F7 N7 (Fr.lst F7 hP) hl ?_ ?_
              · intro hge3 D2 h5 F8 N8 l5
                dsimp only
                walk_at "go"
                (rename Fr _ _ _ _ => F9); (rename News _ _ _ _ => N9)
                refine strs_slice1 (k2 + 1) (by omega) (by omega) F9 N9 (Fr.lst F9 hP) hl ?_ (fun q => absurd q (by omega))
                intro hge4 D3 h6 F10 N10 l6
                dsimp only
                walk_at "go"
                (rename Fr _ _ _ _ => F11); (rename News _ _ _ _ => N11)
                rw [lists_drop hlt2, hb, lists_end hge3, getQ_b0] at hg
                refine ⟨l.length - (k2 + 1), by omega, D, t1, k2 + 1, _, _, _, _, _, _, rfl, canon5 F11 _ _ _ _ _ rfl (by rw [show ((k2 + 1 : Nat) : Int) = (k2 : Int) + 1 + 0 by omega]; rfl) rfl rfl rfl, cb_drop N11 (by kcj_all), hlt2, ?_, ?_, rfl⟩
                · rw [len_app, show (Str.ofString "").length = 0 by decide +kernel]; omega
                · rw [← hg, app_str, lists_end hge3, ofNil1]; simp [getQ]
              · intro hge3 D2 h5 F8 N8 l5
                dsimp only
                walk_at "go"
                have hl2 := h2 _ (List.getElem_mem hge3)
                (rename Fr _ _ _ _ => F9); (rename News _ _ _ _ => N9)
                refine one_join ⟨_, (N9 _ (.head _)).1, rfl, _, rfl⟩ (by rw [show (Str.ofString "").length = 0 by decide +kernel]; omega) ?_
                intro _ _
                dsimp only
                walk_at "go"
                (rename Fr _ _ _ _ => F9); (rename News _ _ _ _ => N9)
                refine strs_slice1 (k2 + 1) (by omega) (by omega) F9 N9 (Fr.lst F9 hP) hl (fun q => absurd q (by omega)) ?_
                intro hge4 D3 h6 F10 N10 l6
                dsimp only
                walk_at "go"
                (rename Fr _ _ _ _ => F11); (rename News _ _ _ _ => N11)
                rw [lists_drop hlt2, hb, lists_drop hge3, getQ_b] at hg
                refine ⟨l.length - (k2 + 1 + 1), by omega, D, t1, k2 + 1 + 1, _, _, _, _, _, _, rfl, canon5 F11 _ _ _ _ _ rfl (by rw [show ((k2 + 1 + 1 : Nat) : Int) = (k2 : Int) + 1 + 1 by omega]; rfl) rfl rfl rfl, cb_drop N11 (by kcj_all), hge3, ?_, ?_, rfl⟩
                · rw [len_app]; omega
                · rw [← hg, app_str]; simp
            · (rename Fr _ _ _ _ => F7); (rename News _ _ _ _ => N7)
              rename (_ == Str.ofString "\\") = _ => hb
              rename (List.any _ _) = _ => ha
              have hb := neS hb
              rw [ofB1] at hb
              have ha : ¬ (l[k2].1.cps.toList = [34]) := fun q => by have := any1.mpr q; rw [ha] at this; cases this
              have hl2 := h2 _ (List.getElem_mem hlt2)
              refine PyProof.Rows.iadd_str ?_ (fit2 hl hk2 hwd hl2)
              intro _ _
              walk_at "go"
              (rename Fr _ _ _ _ => F8); (rename News _ _ _ _ => N8)
              rw [lists_drop hlt2, getQ_o _ ha hb] at hg
              refine ⟨l.length - (k2 + 1), by omega, D, t1, k2 + 1, _, _, _, _, _, _, rfl, canon5 F8 _ _ _ _ _ rfl (by rw [show ((k2 + 1 : Nat) : Int) = (k2 : Int) + 1 by omega]; rfl) rfl rfl rfl, cb_drop N8 (by kcj_all), hlt2, ?_, ?_, rfl⟩
              · rw [len_app]; omega
              · rw [← hg, app_str]; simp
          · have hge2 : k2 = l.length := by
              have : ¬ k2 < l.length := by simpa using hb
              omega
            walk_at "go"
            (rename Fr _ _ _ _ => F7); (rename News _ _ _ _ => N7)
            rw [lists_end (by omega), getQ] at hg
            exact leaveO_ [(_, _)] F7 N7 (by kcj_all) fun F5 N5 H5 => hret _ _ _ _ ⟨_, _, _, _, _, _, _, k2, rfl, rfl, rfl, hk2, by rw [← hg, List.append_nil], by rw [← hg, lists_end (by omega)], by rw [← hg]; rfl⟩ H5 F5 N5
        · rw [ofNil1, getL, hs, lists_drop hge]
          simp only [List.nil_append]
          rw [if_pos (by rw [hq, ofQ1])]
      case qn =>
        intro hq
        dsimp only
        walk_at "go"
        (rename Fr _ _ _ _ => F6); (rename News _ _ _ _ => N6)
        have hne : l[k1].1.cps.toList ≠ [34] := fun z => hq (by rw [ofQ]; exact str_of_list z)
        refine while_inv (fun n s' => ∃ (D : Addr) (t1 t2 : Tok) (k2 : Nat) (tk2 : Tok) (wd : Str) (tw : Tok) (u : Str → Option Value) (h : Heap) (tks : Nat), s' = { s with heap := h, toks := tks } ∧
          Fr g L' h (fun z => if z = Str.ofString "word" then some (.str wd tw) else if z = Str.ofString "k" then some (.int (k2 : Int) tk2) else if z = Str.ofString "ends" then some (.ref D) else if z = Str.ofString "plain" then some (.bool true) else if z = Str.ofString "pieces" then some (.ref P) else u z) ∧
          News g L' h [(D, { cls := .type "tuple", data := .seq #[.str (Str.ofString " ") t1, .str (Str.ofString "\t") t2] })] ∧ k2 ≤ l.length ∧ wd.length ≤ 2 * k2 ∧ (wd.cps.toList ++ (getP (lists (l.drop k2))).1, (getP (lists (l.drop k2))).2) = getL (lists (l.drop k)) ∧ n = l.length - k2) ?_ _
          ⟨_, _, _, k1, _, Str.ofString "", _, _, _, _, rfl, canon5 F6 _ _ _ _ _ rfl rfl rfl rfl rfl, cb_drop N6 (by kcj_all), hk1, Nat.zero_le _, ?_, rfl⟩
        · (try clear F6); (try clear N6)
          rintro n s' ⟨D, t1, t2, k2, tk2, wd, tw, u, h, tks, rfl, Fh, Nh, hk2, hwd, hg, rfl⟩
          walk_at "go"
          refine whl_if (fun hb => ?_) (fun hb => ?_)
          · have hlt2 : k2 < l.length := by simpa using hb
            walk_at "go"
            · (rename Fr _ _ _ _ => F7); (rename News _ _ _ _ => N7)
              rename (_ == Str.ofString "\r\n") = _ => hc
              have hc := eqS hc
              rw [ofCRLF] at hc
              rw [lists_drop hlt2, hc, getP_n] at hg
              exact leaveO_ [(_, _)] F7 N7 (by kcj_all) fun F5 N5 H5 => hret _ _ _ _ ⟨_, _, _, _, _, _, _, k2, rfl, rfl, rfl, hk2, by rw [← hg, List.append_nil], by rw [← hg, lists_drop hlt2, hc], by rw [← hg]; rfl⟩ H5 F5 N5
            · (rename Fr _ _ _ _ => F7); (rename News _ _ _ _ => N7)
              rename (List.any _ _) = _ => ha
              rw [lists_drop hlt2, getP_e _ (any2.mp ha)] at hg
              exact leaveO_ [(_, _)] F7 N7 (by kcj_all) fun F5 N5 H5 => hret _ _ _ _ ⟨_, _, _, _, _, _, _, k2 + 1, rfl, rfl, by omega, hlt2, by rw [← hg, List.append_nil], by rw [← hg], by rw [← hg]; rfl⟩ H5 F5 N5
            · (rename Fr _ _ _ _ => F7); (rename News _ _ _ _ => N7)
              rename (_ == Str.ofString "\\") = _ => hb
              rename (_ == Str.ofString "\r\n") = _ => hc
              have hb := eqS hb
              rw [ofB1] at hb
              refine strs_slice1 (k2 + 1) (by omega) (by omega) F7 N7 (Fr.lst F7 hP) hl ?_ ?_
              · intro hge3 D2 h5 F8 N8 l5
                dsimp only
                walk_at "go"
                (rename Fr _ _ _ _ => F9); (rename News _ _ _ _ => N9)
                refine strs_slice1 (k2 + 1) (by omega) (by omega) F9 N9 (Fr.lst F9 hP) hl ?_ (fun q => absurd q (by omega))
                intro hge4 D3 h6 F10 N10 l6
                dsimp only
                walk_at "go"
                (rename Fr _ _ _ _ => F11); (rename News _ _ _ _ => N11)
                rw [lists_drop hlt2, hb, lists_end hge3, getP_b0] at hg
                refine ⟨l.length - (k2 + 1), by omega, D, t1, t2, k2 + 1, _, _, _, _, _, _, rfl, canon5 F11 _ _ _ _ _ rfl (by rw [show ((k2 + 1 : Nat) : Int) = (k2 : Int) + 1 + 0 by omega]; rfl) rfl rfl rfl, cb_drop N11 (by kcj_all), hlt2, ?_, ?_, rfl⟩
                · rw [len_app, show (Str.ofString "").length = 0 by decide +kernel]; omega
                · rw [← hg, app_str, lists_end hge3, ofNil1]; simp [getP]
              · intro hge3 D2 h5 F8 N8 l5
                dsimp only
                walk_at "go"
                have hl2 := h2 _ (List.getElem_mem hge3)
                (rename Fr _ _ _ _ => F9); (rename News _ _ _ _ => N9)
                refine one_join ⟨_, (N9 _ (.head _)).1, rfl, _, rfl⟩ (by rw [show (Str.ofString "").length = 0 by decide +kernel]; omega) ?_
                intro _ _
                dsimp only
                walk_at "go"
                (rename Fr _ _ _ _ => F9); (rename News _ _ _ _ => N9)
                refine strs_slice1 (k2 + 1) (by omega) (by omega) F9 N9 (Fr.lst F9 hP) hl (fun q => absurd q (by omega)) ?_
                intro hge4 D3 h6 F10 N10 l6
                dsimp only
                walk_at "go"
                · (rename Fr _ _ _ _ => F11); (rename News _ _ _ _ => N11)
                  rename (l[k2 + 1].fst == _) = _ => hd2
                  have hd2 := eqS hd2
                  rw [ofCRLF] at hd2
                  rw [lists_drop hlt2, hb, lists_drop hge3, hd2, getP_bn] at hg
                  exact leaveO_ [(_, _)] F11 N11 (by kcj_all) fun F5 N5 H5 => hret _ _ _ _ ⟨_, _, _, _, _, _, _, k2 + 1 + 1, rfl, rfl, by omega, hge3, by rw [← hg, app_str, ofCR], by rw [← hg], by rw [← hg]; rfl⟩ H5 F5 N5
                · (rename Fr _ _ _ _ => F11); (rename News _ _ _ _ => N11)
                  rename (l[k2 + 1].fst == _) = _ => hd2
                  have hd2 := neS hd2
                  rw [ofCRLF] at hd2
                  rw [lists_drop hlt2, hb, lists_drop hge3, getP_b _ hd2] at hg
                  refine ⟨l.length - (k2 + 1 + 1), by omega, D, t1, t2, k2 + 1 + 1, _, _, _, _, _, _, rfl, canon5 F11 _ _ _ _ _ rfl (by rw [show ((k2 + 1 + 1 : Nat) : Int) = (k2 : Int) + 1 + 1 by omega]; rfl) rfl rfl rfl, cb_drop N11 (by kcj_all), hge3, ?_, ?_, rfl⟩
                  · rw [len_app]; omega
                  · rw [← hg, app_str]; simp
            · (rename Fr _ _ _ _ => F7); (rename News _ _ _ _ => N7)
              rename (_ == Str.ofString "\\") = _ => hb
              rename (_ == Str.ofString "\r\n") = _ => hc
              rename (List.any _ _) = _ => ha
              have hb := neS hb
              rw [ofB1] at hb
              have hc := neS hc
              rw [ofCRLF] at hc
              have ha : ¬ (l[k2].1.cps.toList = [32] ∨ l[k2].1.cps.toList = [9]) := fun q => by have := any2.mpr q; rw [ha] at this; cases this
              have hl2 := h2 _ (List.getElem_mem hlt2)
              refine PyProof.Rows.iadd_str ?_ (fit2 hl hk2 hwd hl2)
              intro _ _
              walk_at "go"
              (rename Fr _ _ _ _ => F8); (rename News _ _ _ _ => N8)
              rw [lists_drop hlt2, getP_o _ hc ha hb] at hg
              refine ⟨l.length - (k2 + 1), by omega, D, t1, t2, k2 + 1, _, _, _, _, _, _, rfl, canon5 F8 _ _ _ _ _ rfl (by rw [show ((k2 + 1 : Nat) : Int) = (k2 : Int) + 1 by omega]; rfl) rfl rfl rfl, cb_drop N8 (by kcj_all), hlt2, ?_, ?_, rfl⟩
              · rw [len_app]; omega
              · rw [← hg, app_str]; simp
          · have hge2 : k2 = l.length := by
              have : ¬ k2 < l.length := by simpa using hb
              omega
            walk_at "go"
            (rename Fr _ _ _ _ => F7); (rename News _ _ _ _ => N7)
            rw [lists_end (by omega), getP] at hg
            exact leaveO_ [(_, _)] F7 N7 (by kcj_all) fun F5 N5 H5 => hret _ _ _ _ ⟨_, _, _, _, _, _, _, k2, rfl, rfl, rfl, hk2, by rw [← hg, List.append_nil], by rw [← hg, lists_end (by omega)], by rw [← hg]; rfl⟩ H5 F5 N5
        · rw [ofNil1, getL, hs, lists_drop hge]
          simp only [List.nil_append]
          rw [if_neg hne]
end Mine
end
-- part Pure1
section
open PySem PySem.W PyProof.Rows PySem.Calls
set_option Elab.async false
set_option maxRecDepth 100000
set_option maxHeartbeats 400000
set_option linter.unusedVariables false
namespace Mine
local macro_rules | `(tactic| walk_at "pad0") => `(tactic| skip)
local macro_rules | `(tactic| walk_at "pad1") => `(tactic| skip)
local macro_rules | `(tactic| walk_at "pad2") => `(tactic| skip)
local macro_rules | `(tactic| walk_at "pad3") => `(tactic| skip)
local macro_rules | `(tactic| walk_at "pad4") => `(tactic| skip)
local macro_rules | `(tactic| walk_at "pad5") => `(tactic| skip)
local macro_rules | `(tactic| walk_at "pad6") => `(tactic| skip)
local macro_rules | `(tactic| walk_at "pad7") => `(tactic| skip)
local macro_rules | `(tactic| walk_at "pad8") => `(tactic| skip)
local macro_rules | `(tactic| walk_at "pad9") => `(tactic| skip)
local macro_rules | `(tactic| walk_at "pad10") => `(tactic| skip)
local macro_rules | `(tactic| walk_at "pad11") => `(tactic| skip)
local macro_rules | `(tactic| walk_at "pad12") => `(tactic| skip)
local macro_rules | `(tactic| walk_at "pad13") => `(tactic| skip)
local macro_rules | `(tactic| walk_at "pad14") => `(tactic| skip)
local macro_rules | `(tactic| walk_at "pad15") => `(tactic| skip)
local macro_rules | `(tactic| walk_at "pad16") => `(tactic| skip)
local macro_rules | `(tactic| walk_at "pad17") => `(tactic| skip)
local macro_rules | `(tactic| walk_at "pad18") => `(tactic| skip)
local macro_rules | `(tactic| walk_at "pad19") => `(tactic| skip)
local macro_rules | `(tactic| walk_at "pad20") => `(tactic| skip)
local macro_rules | `(tactic| walk_at "pad21") => `(tactic| skip)
local macro_rules | `(tactic| walk_at "pad22") => `(tactic| skip)
/-- is a dot here at a row's head -/
def atHead (a : Option Nat) : Bool := decide (a = none ∨ a = some 13 ∨ a = some 10)
theorem quoted_pcs : ∀ (n : Nat) (l : List Nat) (a : Option Nat), l.length ≤ n → (a = some 13 → l.head? ≠ some 10) → dots (atHead a) (crlf l) = (pcs a l).flatten := by
  intro n
  induction n with
  | zero =>
    intro l a hn _
    have : l = [] := List.length_eq_zero_iff.mp (by omega)
    subst this
    simp [crlf, dots, pcs]
  | succ n ih =>
    intro l a hn ha
    cases l with
    | nil => simp [crlf, dots, pcs]
    | cons c r =>
      have hr : r.length ≤ n := by simp at hn; omega
      by_cases h10 : c = 10
      · subst h10
        have ha' : a ≠ some 13 := fun q => ha q rfl
        have := ih r (some 10) hr (by simp)
        rw [crlf_lf, pcs_lf _ ha']
        simp only [dots, List.flatten_cons, List.cons_append, List.nil_append]
        rw [if_neg (by simp), if_neg (by simp), ← this]
        rfl
      · by_cases h13 : c = 13
        · subst h13
          by_cases hh : r.head? = some 10
          · cases r with
            | nil => cases hh
            | cons d r' =>
              simp at hh
              subst hh
              have := ih r' (some 10) (by simp at hr; omega) (by simp)
              rw [crlf_crlf, pcs_cr, pcs_crlf]
              simp only [dots, List.flatten_cons, List.cons_append, List.nil_append]
              rw [if_neg (by simp), if_neg (by simp), ← this]
              rfl
          · have := ih r (some 13) hr (fun _ => hh)
            rw [crlf_cr _ hh, pcs_cr]
            simp only [dots, List.flatten_cons, List.cons_append, List.nil_append]
            rw [if_neg (by simp), if_neg (by simp), ← this]
            rfl
        · have h2 : ¬ is2 c := by unfold is2; omega
          have := ih r (some c) hr (fun q => absurd (Option.some.inj q) h13)
          have hf : atHead (some c) = false := by simp [atHead, h10, h13]
          rw [hf] at this
          have h10' : (c == 10) = false := by simpa using h10
          rw [crlf_other _ h2, dots]
          by_cases hd : c = 46 ∧ (a = none ∨ a = some 13 ∨ a = some 10)
          · have e : pcs a (c :: r) = [46, 46] :: pcs (some c) r := by rw [pcs, if_neg (by omega), if_pos hd]
            rw [e, if_pos ⟨by simp [atHead, hd.2], hd.1⟩, this]
            rfl
          · have e : pcs a (c :: r) = [c] :: pcs (some c) r := by rw [pcs, if_neg (by omega), if_neg hd]
            rw [e, if_neg (fun q => hd ⟨q.2, by simpa [atHead] using q.1⟩), h10', this]
            rfl
/-- of what make a text's pieces are -/
def PieceOk (q : List Nat) : Prop := q = [13, 10] ∨ q = [46, 46] ∨ ∃ c, q = [c] ∧ c ≠ 13 ∧ c ≠ 10
theorem pcs_ok : ∀ (l : List Nat) (a : Option Nat), ∀ q ∈ pcs a l, PieceOk q
  | [], _, q, h => by simp [pcs] at h
  | c :: r, a, q, h => by
    have ih := pcs_ok r (some c)
    rw [pcs] at h
    split at h
    · split at h
      · rcases List.mem_cons.mp h with rfl | h
        · exact .inl rfl
        · exact ih q h
      · exact ih q h
    · split at h
      · rcases List.mem_cons.mp h with rfl | h
        · exact .inr (.inl rfl)
        · exact ih q h
      · rcases List.mem_cons.mp h with rfl | h
        · exact .inr (.inr ⟨c, rfl, by omega, by omega⟩)
        · exact ih q h
abbrev wsL : List Nat := [10, 9, 13, 32]
theorem tokQ_getQ : ∀ (n : Nat) (ps : List (List Nat)), ps.length ≤ n → (∀ q ∈ ps, PieceOk q) → tokQ ps.flatten = ((getQ ps).1, (getQ ps).2.flatten) := by
  intro n
  induction n with
  | zero =>
    intro ps hn _
    have : ps = [] := List.length_eq_zero_iff.mp (by omega)
    subst this
    simp [tokQ, getQ]
  | succ n ih =>
    intro ps hn hok
    cases ps with
    | nil => simp [tokQ, getQ]
    | cons q r =>
      have hr : r.length ≤ n := by simp at hn; omega
      have hokr : ∀ z ∈ r, PieceOk z := fun z hz => hok z (.tail _ hz)
      have i1 := ih r hr hokr
      rcases hok q (.head _) with rfl | rfl | ⟨c, rfl, hc1, hc2⟩
      · rw [getQ_o _ (by decide) (by decide)]
        simp only [List.flatten_cons, List.cons_append, List.nil_append]
        rw [tokQ_o _ (by decide) (by decide), tokQ_o _ (by decide) (by decide), i1]
      · rw [getQ_o _ (by decide) (by decide)]
        simp only [List.flatten_cons, List.cons_append, List.nil_append]
        rw [tokQ_o _ (by decide) (by decide), tokQ_o _ (by decide) (by decide), i1]
      · by_cases h34 : c = 34
        · subst h34
          rw [getQ_q]
          simp only [List.flatten_cons, List.cons_append, List.nil_append]
          rw [tokQ_q]
        · by_cases h92 : c = 92
          · subst h92
            cases r with
            | nil => simp [tokQ, getQ]
            | cons d r' =>
              have i2 := ih r' (by simp at hr; omega) (fun z hz => hokr z (.tail _ hz))
              rw [getQ_b]
              rcases hokr d (.head _) with rfl | rfl | ⟨e, rfl, he1, he2⟩
              · simp only [List.flatten_cons, List.cons_append, List.nil_append]
                rw [tokQ_b, tokQ_o _ (by decide) (by decide), i2]
              · simp only [List.flatten_cons, List.cons_append, List.nil_append]
                rw [tokQ_b, tokQ_o _ (by decide) (by decide), i2]
              · simp only [List.flatten_cons, List.cons_append, List.nil_append]
                rw [tokQ_b, i2]
          · rw [getQ_o _ (by simpa using h34) (by simpa using h92)]
            simp only [List.flatten_cons, List.cons_append, List.nil_append]
            rw [tokQ_o _ h34 h92, i1]
theorem tokP_getP : ∀ (n : Nat) (ps : List (List Nat)), ps.length ≤ n → (∀ q ∈ ps, PieceOk q) → tokP wsL ps.flatten = ((getP ps).1, (getP ps).2.1.flatten.drop (getP ps).2.2) := by
  intro n
  induction n with
  | zero =>
    intro ps hn _
    have : ps = [] := List.length_eq_zero_iff.mp (by omega)
    subst this
    simp [tokP, getP]
  | succ n ih =>
    intro ps hn hok
    cases ps with
    | nil => simp [tokP, getP]
    | cons q r =>
      have hr : r.length ≤ n := by simp at hn; omega
      have hokr : ∀ z ∈ r, PieceOk z := fun z hz => hok z (.tail _ hz)
      have i1 := ih r hr hokr
      rcases hok q (.head _) with rfl | rfl | ⟨c, rfl, hc1, hc2⟩
      · rw [getP_n]
        simp only [List.flatten_cons, List.cons_append, List.nil_append]
        rw [tokP_w _ (by decide)]
        rfl
      · rw [getP_o _ (by decide) (by decide) (by decide)]
        simp only [List.flatten_cons, List.cons_append, List.nil_append]
        rw [tokP_o _ (by decide) (by decide), tokP_o _ (by decide) (by decide), i1]
      · by_cases hb : c = 32 ∨ c = 9
        · rw [getP_e _ (by simpa using hb)]
          simp only [List.flatten_cons, List.cons_append, List.nil_append]
          rw [tokP_w _ (by rcases hb with rfl | rfl <;> decide)]
          rfl
        · have hw : c ∉ wsL := by simp; omega
          by_cases h92 : c = 92
          · subst h92
            cases r with
            | nil => simp [tokP, getP]
            | cons d r' =>
              have i2 := ih r' (by simp at hr; omega) (fun z hz => hokr z (.tail _ hz))
              rcases hokr d (.head _) with rfl | rfl | ⟨e, rfl, he1, he2⟩
              · rw [getP_bn]
                simp only [List.flatten_cons, List.cons_append, List.nil_append]
                rw [tokP_b _ _ (by decide), tokP_w _ (by decide)]
                rfl
              · rw [getP_b _ (by decide)]
                simp only [List.flatten_cons, List.cons_append, List.nil_append]
                rw [tokP_b _ _ (by decide), tokP_o _ (by decide) (by decide), i2]
              · rw [getP_b _ (by simp)]
                simp only [List.flatten_cons, List.cons_append, List.nil_append]
                rw [tokP_b _ _ (by decide), i2]
          · rw [getP_o _ (by simp) (by simpa using hb) (by simpa using h92)]
            simp only [List.flatten_cons, List.cons_append, List.nil_append]
            rw [tokP_o _ hw h92, i1]
theorem tok_tokP {c : Nat} (r : List Nat) (h1 : c ∉ wsL) (h2 : c ≠ 34) : tok wsL (c :: r) = tokP wsL (c :: r) := by
  by_cases h92 : c = 92
  · subst h92
    cases r with
    | nil => simp [tok, tokP]
    | cons d r => rw [tok_b _ _ (by decide), tokP_b _ _ (by decide)]
  · rw [tok_o _ h1 h2 h92, tokP_o _ h1 h92]
theorem getL_skip {q : List Nat} (r : List (List Nat)) (h : isBl q) : getL (q :: r) = getL r := by
  unfold getL
  rw [skipP, if_pos h]
theorem getL_stop {q : List Nat} (r : List (List Nat)) (h : ¬ isBl q) : getL (q :: r) = if q = [34] then ((getQ r).1, (getQ r).2, 0) else getP (q :: r) := by
  unfold getL
  rw [skipP, if_neg h]
theorem tok_getL : ∀ (ps : List (List Nat)), (∀ q ∈ ps, PieceOk q) → tok wsL ps.flatten = ((getL ps).1, (getL ps).2.1.flatten.drop (getL ps).2.2)
  | [], _ => by simp [tok, getL, skipP, getP]
  | q :: r, hok => by
    have hokr : ∀ z ∈ r, PieceOk z := fun z hz => hok z (.tail _ hz)
    have ih := tok_getL r hokr
    have hP := tokP_getP _ (q :: r) (Nat.le_refl _) hok
    have hQ := tokQ_getQ _ r (Nat.le_refl _) hokr
    rcases hok q (.head _) with rfl | rfl | ⟨c, rfl, hc1, hc2⟩
    · rw [getL_skip _ (.inr (.inr rfl)), ← ih]
      simp only [List.flatten_cons, List.cons_append, List.nil_append]
      rw [tok_w _ (by decide), tok_w _ (by decide)]
    · rw [getL_stop _ (by decide), if_neg (by decide), ← hP]
      simp only [List.flatten_cons, List.cons_append, List.nil_append]
      rw [tok_tokP _ (by decide) (by decide)]
    · by_cases hb : c = 32 ∨ c = 9
      · rw [getL_skip _ (by rcases hb with rfl | rfl <;> simp [isBl]), ← ih]
        simp only [List.flatten_cons, List.cons_append, List.nil_append]
        rw [tok_w _ (by rcases hb with rfl | rfl <;> decide)]
      · have hw : c ∉ wsL := by simp; omega
        rw [getL_stop _ (by simp [isBl]; omega)]
        by_cases h34 : c = 34
        · subst h34
          rw [if_pos rfl]
          simp only [List.flatten_cons, List.cons_append, List.nil_append]
          rw [tok_q _ (by decide), hQ]
          rfl
        · rw [if_neg (by simpa using h34), ← hP]
          simp only [List.flatten_cons, List.cons_append, List.nil_append]
          rw [tok_tokP _ hw h34]
theorem getQ_len : ∀ (n : Nat) (ps : List (List Nat)), ps.length ≤ n → (getQ ps).2.length ≤ ps.length := by
  intro n
  induction n with
  | zero =>
    intro ps hn
    have : ps = [] := List.length_eq_zero_iff.mp (by omega)
    subst this
    simp [getQ]
  | succ n ih =>
    intro ps hn
    cases ps with
    | nil => simp [getQ]
    | cons q r =>
      have hr : r.length ≤ n := by simp at hn; omega
      by_cases h1 : q = [34]
      · rw [h1, getQ_q]; simp
      · by_cases h2 : q = [92]
        · subst h2
          cases r with
          | nil => simp [getQ]
          | cons d r' =>
            have := ih r' (by simp at hr; omega)
            rw [getQ_b]; simp; omega
        · have := ih r hr
          rw [getQ_o _ h1 h2]; simp; omega
theorem getP_len : ∀ (n : Nat) (ps : List (List Nat)), ps.length ≤ n → (getP ps).2.1.length ≤ ps.length := by
  intro n
  induction n with
  | zero =>
    intro ps hn
    have : ps = [] := List.length_eq_zero_iff.mp (by omega)
    subst this
    simp [getP]
  | succ n ih =>
    intro ps hn
    cases ps with
    | nil => simp [getP]
    | cons q r =>
      have hr : r.length ≤ n := by simp at hn; omega
      by_cases h0 : q = [13, 10]
      · rw [h0, getP_n]; simp
      · by_cases h1 : q = [32] ∨ q = [9]
        · rw [getP_e _ h1]; simp
        · by_cases h2 : q = [92]
          · subst h2
            cases r with
            | nil => simp [getP]
            | cons d r' =>
              have := ih r' (by simp at hr; omega)
              by_cases h3 : d = [13, 10]
              · rw [h3, getP_bn]; simp; omega
              · rw [getP_b _ h3]; simp; omega
          · have := ih r hr
            rw [getP_o _ h0 h1 h2]; simp; omega
theorem getP_less {q : List Nat} (r : List (List Nat)) (h0 : q ≠ [13, 10]) : (getP (q :: r)).2.1.length < (q :: r).length := by
  by_cases h1 : q = [32] ∨ q = [9]
  · rw [getP_e _ h1]; simp
  · by_cases h2 : q = [92]
    · subst h2
      cases r with
      | nil => simp [getP]
      | cons d r' =>
        have := getP_len _ r' (Nat.le_refl _)
        by_cases h3 : d = [13, 10]
        · rw [h3, getP_bn]; simp; omega
        · rw [getP_b _ h3]; simp; omega
    · have := getP_len _ r (Nat.le_refl _)
      rw [getP_o _ h0 h1 h2]; simp; omega
theorem getL_less : ∀ ps : List (List Nat), (getL ps).2.1.length ≤ ps.length ∧ (ps ≠ [] → (getL ps).2.1.length < ps.length)
  | [] => by simp [getL, skipP, getP]
  | q :: r => by
    have ih := getL_less r
    by_cases hb : isBl q
    · rw [getL_skip _ hb]
      have := ih.1
      simp; omega
    · rw [getL_stop _ hb]
      by_cases h34 : q = [34]
      · have := getQ_len _ r (Nat.le_refl _)
        rw [if_pos h34]; simp; omega
      · rw [if_neg h34]
        have := getP_less r (q := q) (fun z => hb (.inr (.inr z)))
        exact ⟨Nat.le_of_lt this, fun _ => this⟩
def HalfOk (half : Nat) (ps : List (List Nat)) : Prop := half = 0 ∨ (half = 1 ∧ ∃ r, ps = [13, 10] :: r)
theorem getP_half : ∀ (n : Nat) (ps : List (List Nat)), ps.length ≤ n → HalfOk (getP ps).2.2 (getP ps).2.1 := by
  intro n
  induction n with
  | zero =>
    intro ps hn
    have : ps = [] := List.length_eq_zero_iff.mp (by omega)
    subst this
    exact .inl rfl
  | succ n ih =>
    intro ps hn
    cases ps with
    | nil => exact .inl rfl
    | cons q r =>
      have hr : r.length ≤ n := by simp at hn; omega
      by_cases h0 : q = [13, 10]
      · rw [h0, getP_n]; exact .inr ⟨rfl, _, rfl⟩
      · by_cases h1 : q = [32] ∨ q = [9]
        · rw [getP_e _ h1]; exact .inl rfl
        · by_cases h2 : q = [92]
          · subst h2
            cases r with
            | nil => rw [getP_b0]; exact .inl rfl
            | cons d r' =>
              have := ih r' (by simp at hr; omega)
              by_cases h3 : d = [13, 10]
              · rw [h3, getP_bn]; exact .inl rfl
              · rw [getP_b _ h3]; exact this
          · rw [getP_o _ h0 h1 h2]; exact ih r hr
theorem getL_half : ∀ ps : List (List Nat), HalfOk (getL ps).2.2 (getL ps).2.1
  | [] => .inl rfl
  | q :: r => by
    by_cases hb : isBl q
    · rw [getL_skip _ hb]; exact getL_half r
    · rw [getL_stop _ hb]
      by_cases h34 : q = [34]
      · rw [if_pos h34]; exact .inl rfl
      · rw [if_neg h34]; exact getP_half _ _ (Nat.le_refl _)
theorem count_pieces : ∀ ps : List (List Nat), (∀ q ∈ ps, PieceOk q) → ps.flatten.count 10 = ps.count [13, 10]
  | [], _ => rfl
  | q :: r, hok => by
    have ih := count_pieces r fun z hz => hok z (.tail _ hz)
    rw [List.flatten_cons, List.count_append, ih, List.count_cons]
    rcases hok q (.head _) with rfl | rfl | ⟨c, rfl, h1, h2⟩
    · simp; omega
    · simp
    · have e : List.count 10 [c] = 0 := by rw [List.count_singleton]; simp [h2]
      rw [e]; simp
theorem flat_split (A : List (List Nat)) (k : Nat) : A.flatten = (A.take k).flatten ++ (A.drop k).flatten := by
  rw [← List.flatten_append, List.take_append_drop]
theorem sync_step {A : List (List Nat)} (hok : ∀ q ∈ A, PieceOk q) {k half k' : Nat} (hk : k ≤ A.length) (hh : HalfOk half (A.drop k)) (hk' : k' ≤ A.length) (hr : A.drop k' = (getL (A.drop k)).2.1) :
    tok wsL (A.flatten.drop ((A.take k).flatten.length + half)) = ((getL (A.drop k)).1, (A.drop k').flatten.drop (getL (A.drop k)).2.2) ∧
    A.flatten.length - ((A.drop k').flatten.drop (getL (A.drop k)).2.2).length = (A.take k').flatten.length + (getL (A.drop k)).2.2 ∧
    HalfOk (getL (A.drop k)).2.2 (A.drop k') ∧ (k ≤ k' ∧ (k < A.length → k < k')) ∧
    (A.flatten.take ((A.take k').flatten.length + (getL (A.drop k)).2.2)).count 10 = (A.take k').count [13, 10] := by
  have hokd : ∀ q ∈ A.drop k, PieceOk q := fun q hq => hok q (List.mem_of_mem_drop hq)
  have hH := getL_half (A.drop k)
  rw [← hr] at hH
  refine ⟨?_, ?_, hH, ?_, ?_⟩
  · rw [hr, ← tok_getL _ hokd, flat_split A k, List.drop_append]
    have e : List.drop ((A.take k).flatten.length + half) (A.take k).flatten = [] := List.drop_of_length_le (by omega)
    rw [e, List.nil_append, show (A.take k).flatten.length + half - (A.take k).flatten.length = half by omega]
    have e2 : (List.take k A).flatten ++ (List.drop k A).flatten = A.flatten := (flat_split A k).symm
    rcases hh with rfl | ⟨rfl, r, hr2⟩
    · rfl
    · rw [hr2]
      simp only [List.flatten_cons, List.cons_append, List.nil_append, List.drop_succ_cons, List.drop_zero]
      rw [tok_w _ (by decide), tok_w _ (by decide), tok_w _ (by decide)]
  · have e := congrArg List.length (flat_split A k')
    rw [List.length_append] at e
    rw [List.length_drop]
    rcases hH with h0 | ⟨h1, r, hr2⟩
    · rw [h0]; omega
    · rw [h1]
      rw [hr2] at e ⊢
      simp only [List.flatten_cons, List.length_append, List.length_cons, List.length_nil] at e ⊢
      omega
  · have := getL_less (A.drop k)
    rw [← hr] at this
    simp only [List.length_drop] at this
    refine ⟨by omega, fun h => ?_⟩
    have := this.2 (fun q => by have := congrArg List.length q; simp at this; omega)
    omega
  · rw [flat_split A k', List.take_append]
    rw [List.take_of_length_le (by omega), show (A.take k').flatten.length + (getL (A.drop k)).2.2 - (A.take k').flatten.length = (getL (A.drop k)).2.2 by omega, List.count_append]
    have e := count_pieces (A.take k') fun q hq => hok q (List.mem_of_mem_take hq)
    rw [e]
    rcases hH with h0 | ⟨h1, r, hr2⟩
    · rw [h0]; simp
    · have e3 : List.take 1 (A.drop k').flatten = [13] := by rw [hr2]; rfl
      rw [h1, e3]; rfl
theorem sum_lens : ∀ A : List (List Nat), (A.map List.length).sum = A.flatten.length
  | [] => rfl
  | q :: r => by rw [List.map_cons, List.sum_cons, sum_lens r, List.flatten_cons, List.length_append]
theorem pcs_len : ∀ (l : List Nat) (a : Option Nat), (pcs a l).length ≤ l.length
  | [], _ => by simp [pcs]
  | c :: r, a => by
    have ih := pcs_len r (some c)
    rw [pcs]
    split
    · split
      · simp; exact ih
      · simp; omega
    · split
      · simp; exact ih
      · simp; exact ih
theorem ok_len {q : List Nat} (h : PieceOk q) : q.length ≤ 2 := by
  rcases h with rfl | rfl | ⟨c, rfl, _, _⟩ <;> simp
theorem lists_take (l : List (Str × Tok)) (k : Nat) : lists (l.take k) = (lists l).take k := List.map_take
theorem lists_dropN (l : List (Str × Tok)) (k : Nat) : lists (l.drop k) = (lists l).drop k := List.map_drop
theorem sum_int : ∀ l : List (Str × Tok), (l.map fun q => (q.1.length : Int)).sum = (((lists l).flatten.length : Nat) : Int)
  | [] => rfl
  | q :: r => by
    rw [List.map_cons, List.sum_cons, sum_int r]
    show (q.1.length : Int) + _ = (((q.1.cps.toList :: lists r).flatten.length : Nat) : Int)
    rw [List.flatten_cons, List.length_append, Int.natCast_add]
    congr 1
theorem half_le {half : Nat} {ps : List (List Nat)} (h : HalfOk half ps) : half ≤ ps.flatten.length := by
  rcases h with rfl | ⟨rfl, r, rfl⟩
  · exact Nat.zero_le _
  · simp
theorem turn_facts {l : List (Str × Tok)} {sent ws wd : Str} (hq : sent.cps.toList = (lists l).flatten) (hok : ∀ q ∈ lists l, PieceOk q) (hws : ws.cps.toList = wsL) {k half k' p p' half' : Nat} (hk : k ≤ l.length) (hh : HalfOk half ((lists l).drop k)) (hk' : k' ≤ l.length)
    (hrs : lists (l.drop k') = (getL (lists (l.drop k))).2.1) (hw : wd.cps.toList = (getL (lists (l.drop k))).1) (hhalf : half' = (getL (lists (l.drop k))).2.2) (hp : p = ((lists l).take k).flatten.length + half) (hp' : p' = sent.cps.size - (tok ws.cps.toList (sent.cps.toList.drop p)).2.length) :
    (⟨(tok ws.cps.toList (sent.cps.toList.drop p)).1.toArray⟩ : Str) = wd ∧ p' = ((lists l).take k').flatten.length + half' ∧ HalfOk half' ((lists l).drop k') ∧ k ≤ k' ∧ (k < l.length → k < k') ∧
      ((p' : Nat) : Int) = ((l.take k').map fun q => (q.1.length : Int)).sum + (half' : Nat) ∧ lnAt sent p' = 1 + (((lists (l.take k')).count [13, 10] : Nat) : Int) := by
  have hlen : (lists l).length = l.length := by simp
  rw [lists_dropN, lists_dropN] at hrs
  rw [lists_dropN] at hw hhalf
  obtain ⟨s1, s2, s3, ⟨s4, s5⟩, s6⟩ := sync_step hok (by omega) hh (by omega) hrs
  have hsz : sent.cps.size = (lists l).flatten.length := by rw [← hq]; simp
  rw [hws, hq, hp, s1] at hp'
  have hp2 : p' = ((lists l).take k').flatten.length + half' := by rw [hp', hsz, hhalf, s2]
  refine ⟨?_, hp2, ?_, s4, fun h => s5 (by omega), ?_, ?_⟩
  · rw [hws, hq, hp, s1]
    obtain ⟨⟨c⟩⟩ := wd
    rw [← hw]
  · rw [hhalf]; exact s3
  · rw [hp2, sum_int, lists_take, Int.natCast_add]
  · rw [lnAt, hq, hp2, hhalf, s6, lists_take]
theorem pos_le {l : List (Str × Tok)} {sent : Str} (hq : sent.cps.toList = (lists l).flatten) {k half : Nat} (hh : HalfOk half ((lists l).drop k)) : ((lists l).take k).flatten.length + half ≤ sent.cps.size := by
  have hsz : sent.cps.size = (lists l).flatten.length := by rw [← hq]; simp
  have e := congrArg List.length (flat_split (lists l) k)
  rw [List.length_append] at e
  have := half_le hh
  omega
end Mine
end
-- part L01
section
open PySem PySem.W PyProof.Rows PySem.Calls
set_option Elab.async false
set_option maxRecDepth 100000
set_option maxHeartbeats 8000000
set_option linter.unusedVariables false
namespace Mine
local macro_rules | `(tactic| walk_at "pad0") => `(tactic| skip)
local macro_rules | `(tactic| walk_at "pad1") => `(tactic| skip)
local macro_rules | `(tactic| walk_at "pad2") => `(tactic| skip)
local macro_rules | `(tactic| walk_at "pad3") => `(tactic| skip)
local macro_rules | `(tactic| walk_at "pad4") => `(tactic| skip)
local macro_rules | `(tactic| walk_at "pad5") => `(tactic| skip)
local macro_rules | `(tactic| walk_at "pad6") => `(tactic| skip)
local macro_rules | `(tactic| walk_at "pad7") => `(tactic| skip)
local macro_rules | `(tactic| walk_at "pad8") => `(tactic| skip)
local macro_rules | `(tactic| walk_at "pad9") => `(tactic| skip)
local macro_rules | `(tactic| walk_at "pad10") => `(tactic| skip)
local macro_rules | `(tactic| walk_at "pad11") => `(tactic| skip)
local macro_rules | `(tactic| walk_at "pad12") => `(tactic| skip)
local macro_rules | `(tactic| walk_at "pad13") => `(tactic| skip)
local macro_rules | `(tactic| walk_at "pad14") => `(tactic| skip)
local macro_rules | `(tactic| walk_at "pad15") => `(tactic| skip)
local macro_rules | `(tactic| walk_at "pad16") => `(tactic| skip)
local macro_rules | `(tactic| walk_at "pad17") => `(tactic| skip)
local macro_rules | `(tactic| walk_at "pad18") => `(tactic| skip)
local macro_rules | `(tactic| walk_at "pad19") => `(tactic| skip)
local macro_rules | `(tactic| walk_at "go") => `(tactic| repeat' (first | (k_unfold; (try dsimp only)) | ((fail_if_success (with_reducible show wpAny _ _ (exec (Stmt.While _ _ _ _) _) _ _ _)); (fail_if_success (with_reducible show wpAny _ _ (exec (Stmt.For _ _ _ _ _) _) _ _ _)); (fail_if_success (with_reducible show wpAny _ _ (PySem.call (Value.ref _) _) _ _ _)); (fail_if_success (with_reducible show wpAny _ _ (pyIter (Value.ref _)) _ _ _)); (fail_if_success (with_reducible show wpAny _ _ (compareOp _ (Value.ref _) (Value.ref _)) _ _ _)); (fail_if_success (with_reducible show wpAny _ _ (eval (PySem.Expr.ListComp _ _ _ _) _) _ _ _)); (fail_if_success (with_reducible show wpAny _ _ (subscriptTail _ (PySem.Expr.Slice _ _ _ _) (Value.ref _) _) _ _ _)); first | walk1 | (dsimp only; walk1))))
local macro_rules | `(tactic| walk_at "go2") => `(tactic| repeat' (first | (k_unfold; (try dsimp only)) | ((fail_if_success (with_reducible show wpAny _ _ (exec (Stmt.While _ _ _ _) _) _ _ _)); (fail_if_success (with_reducible show wpAny _ _ (exec (Stmt.For _ _ _ _ _) _) _ _ _)); first | walk1 | (dsimp only; walk1))))
theorem isL {g h : Heap} {L P : Addr} {l : List (Str × Tok)} {n : Nat} {news : List (Addr × Obj)} (N : News g L h news) (hm : (P, strsO l n) ∈ news) : h.IsList P (strValues l).toArray := ⟨_, (N _ hm).1, rfl, _, rfl⟩
local macro_rules | `(tactic| walk_at "call builtin:len") => `(tactic| (k_here; (with_reducible show wpAny _ _ (PySem.call (Value.builtin "len") [Value.ref _]) _ _ _); (refine strs_len (isL (by k_asm) (by k_mem)) (by assumption) ?_); intro _ _))
local macro_rules | `(tactic| walk_at "call builtin:list.count") => `(tactic| (k_here; (with_reducible show wpAny _ _ (PySem.call (Value.builtin "list.count") [Value.ref _, Value.str _ _]) _ _ _); (refine strs_count (isL (by k_asm) (by k_mem)) ?_); intro _ _))
theorem sepB {x : Lx} {P : Addr} {rd : List (Addr × Obj)} {o o1 o2 : Obj} {C : Addr} {pr : Params} {sent : Str} {p : Nat} {tl ta : Tok} (hsep : ∀ q ∈ rd, q.1 ∉ [x.lex, x.lexd, x.st, x.std, x.atA, x.pb, P, 106]) (hsP : ∀ q ∈ [P, 106], q ∉ [x.lex, x.lexd, x.st, x.std, x.atA, x.pb]) :
    ∀ q ∈ (P, o1) :: (106, o2) :: rd, q.1 ∉ ((x.pb, o) :: x.own C pr sent p tl ta).map (·.1) := by
  intro q hq hm
  have h6 : q.1 ∉ [x.lex, x.lexd, x.st, x.std, x.atA, x.pb] := by
    rcases List.mem_cons.mp hq with rfl | hq
    · exact hsP _ (.head _)
    · rcases List.mem_cons.mp hq with rfl | hq
      · exact hsP _ (.tail _ (.head _))
      · intro z
        refine hsep q hq ?_
        simp at z ⊢
        rcases z with z | z | z | z | z | z <;> simp [z]
  apply h6
  simp [Lx.own] at hm ⊢
  rcases hm with z | z | z | z | z | z <;> simp [z]
theorem at_item {prog : Program} {w : World} {A : Around} {E : Value → Shared → Prop} {s : Shared} {D : Addr} {v : Value} {value slice : Expr} {u : Tok} {Q : Value → Shared → Prop} (hD : s.heap.IsList D #[v]) (h : Q v s)
    (hs : subscripted slice false (.ref D) (.int ((0 : Nat) : Int) u) = operate [.ref D, .int ((0 : Nat) : Int) u] (getItem (.ref D) (.int ((0 : Nat) : Int) u)) := by with_unfolding_all rfl) :
    wpAny (model prog w) A (subscriptTail value slice (.ref D) (.int ((0 : Nat) : Int) u)) Q E s :=
  tail_any hD.typeIs slot_list_getitem.lookup (wpAny_getItem_list hD (by omega) (by omega) (by simp) h) hs
theorem isList_stays {h g : Heap} {D : Addr} {vs : Array Value} (H : h.IsList D vs) (hs : h.StaysIn g) : g.IsList D vs := by
  obtain ⟨o, ho, r⟩ := H
  exact ⟨o, hs _ _ ho, r⟩
theorem ordA {pb lex lexd f c' st std cA cT atA P : Nat} (hord : atA < cT ∧ cT < cA ∧ cA < std ∧ std < st ∧ st < c' ∧ c' < f ∧ f < lexd ∧ lexd < lex ∧ lex < pb) (hP : P < atA ∧ 106 < atA ∧ P ≠ 106) :
    List.Nodup [lex, lexd, st, std, atA, pb] ∧ (∀ q ∈ [f, c', cT, cA], q ∉ [lex, lexd, st, std, atA, pb, P, 106]) ∧ (∀ q ∈ [P, 106], q ∉ [lex, lexd, st, std, atA, pb]) := by
  refine ⟨?_, ?_, ?_⟩
  · simp; omega
  · intro q hq
    simp at hq ⊢
    rcases hq with rfl | rfl | rfl | rfl <;> omega
  · intro q hq
    simp at hq ⊢
    rcases hq with rfl | rfl <;> omega
theorem pack01 (w : World) (p : Program) (loose : List Str) (mean : ExcName → Option Value) (mg mb : Str → Option Value) {g h : Heap} {L : Addr}
    {pb lex lexd f c' pb2 st std cA cT atA P : Nat} {k1 k2 k3 k4 j1 j2 j3 j4 j5 : Tok} {tl tw : Tok} {ws : Str} {v1 v2 v3 v4 : Value} {name qual : Str} {params : Arguments} {body : List Stmt} {scope : Scope} {cl : List (Str × Addr)} {doc pm ctv : Value} {oc oT oA : Obj} {vs : Array Value} {tq : Tok} {sent : Str} {tS ta : Tok} {tb : Array Value} {l : List (Str × Tok)} {n : Nat} {o2 : Obj}
    (T : Top p loose mean mg mb g) (N : News g L h [(pb, listOf #[] 0), (lex, instObj 76 lexd), (lexd, lexD w.params k1 k2 k3 k4 1 tl (.ref st) ws tw pb), (f, fnMade name qual params body scope cl doc pm c' ctv), (c', oc), (pb2, o2), (st, instObj 76 std), (std, stD w.params j1 j2 j3 j4 j5 v1 v2 v3 v4 f), (cA, oA), (cT, oT), (atA, listOf #[.int 0 ta] 0), (P, strsO l n), (106, tabObj tb)])
    (hast : ∃ n ds r tp ts b ps, giveD01 = .FunctionDef n params body ds r tp scope ts b ps) (hoc : oc.data = .fields vs) (hvs : vs[1]? = some (.str qual tq)) (hcT : cl.lookup (Str.ofString "text") = some cT) (hcA : cl.lookup (Str.ofString "at") = some cA)
    (hoT : oT.data = .cell (some (.str sent tS))) (hoA : oA.data = .cell (some (.ref atA))) (hsz : sent.cps.size ≤ 1000000)
    (hord : atA < cT ∧ cT < cA ∧ cA < std ∧ std < st ∧ st < c' ∧ c' < f ∧ f < lexd ∧ lexd < lex ∧ lex < pb) (hP : P < atA ∧ 106 < atA ∧ P ≠ 106) :
    ∃ (x : Lx) (rd : List (Addr × Obj)) (tl ta : Tok) (tb : Array Value), x.lex = lex ∧ x.atA = atA ∧ x.ws = ws ∧ (∃ fo, (x.f, fo) ∈ rd ∧ ∃ oc od fd sl, fo = ⟨oc, od, .func fd, sl⟩) ∧ ReadOk01 w p loose mean mg mb sent x.f x.atA rd ∧ List.Nodup [x.lex, x.lexd, x.st, x.std, x.atA, x.pb] ∧
      (∀ q ∈ rd, q.1 ∉ [x.lex, x.lexd, x.st, x.std, x.atA, x.pb, P, 106]) ∧ (∀ q ∈ [P, 106], q ∉ [x.lex, x.lexd, x.st, x.std, x.atA, x.pb]) ∧ News g L h (((x.pb, listOf #[] 0) :: x.own 76 w.params sent 0 tl ta) ++ ((P, strsO l n) :: (106, tabObj tb) :: rd)) := by
  obtain ⟨a1, a2, a3⟩ := ordA hord hP
  refine ⟨⟨lex, lexd, st, std, f, atA, pb, k1, k2, k3, k4, j1, j2, j3, j4, j5, v1, v2, v3, v4, ws, tw⟩, [(f, fnMade name qual params body scope cl doc pm c' ctv), (c', oc), (cT, oT), (cA, oA)], tl, ta, tb, rfl, rfl, rfl, ⟨_, .head _, _, _, _, _, rfl⟩, ?_, a1, ?_, a3, ?_⟩
  · exact give01 w p loose mean mg mb sent tS f c' cT cA atA name qual params body scope cl doc pm ctv oc oT oA vs tq hast hoc hvs hcT hcA hoT hoA hsz
  · intro q hq
    refine a2 q.1 ?_
    simp at hq ⊢
    rcases hq with rfl | rfl | rfl | rfl <;> simp
  · have e : lnAt sent 0 = 1 := by simp [lnAt]
    refine cb_drop N ?_
    intro q hq
    simp [Lx.own, e] at hq ⊢
    rcases hq with h | h | h | h | h | h | h | h | h | h | h | h <;> simp [h]
/-- the law's state at the head of its loop -/
def LawI (G : Heap) (L : Addr) (s : Shared) (x : Lx) (pr : Params) (sent : Str) (P : Addr) (l : List (Str × Tok)) (n : Nat) (tb : Array Value) (rd : List (Addr × Obj)) (nn : Nat) (s' : Shared) : Prop :=
  ∃ (k : Nat) (tk : Tok) (ov : Nat) (tov : Tok) (half : Nat) (u : Str → Option Value) (h : Heap) (tks : Nat) (tl ta : Tok), s' = { s with heap := h, toks := tks } ∧
    Fr G L h (fun z => if z = Str.ofString "over" then some (.int (ov : Int) tov) else if z = Str.ofString "k" then some (.int (k : Int) tk) else if z = Str.ofString "lex" then some (.ref x.lex) else if z = Str.ofString "at" then some (.ref x.atA) else if z = Str.ofString "pieces" then some (.ref P) else u z) ∧
    News G L h (((x.pb, listOf #[] 0) :: x.own 76 pr sent (((lists l).take k).flatten.length + half) tl ta) ++ ((P, strsO l n) :: (106, tabObj tb) :: rd)) ∧
    k ≤ l.length ∧ ov ≤ 3 ∧ HalfOk half ((lists l).drop k) ∧ nn = (3 - ov) + (l.length - k)
theorem law01 : PySem.Challenge.rw_ny0034_01.Holds := hd01 (by
  w_top off
  k_go0
  walk_at "go"
  rename Fr _ _ _ _ => F1; rename News _ _ _ _ => N1; rename Below _ _ _ _ => B1; rename Frag.In _ _ => X1; rename Top topProg _ _ _ _ _ => T1; rename IntsAre _ _ => hI1; rename ¬ _ < _ => hn1
  refine (text01 _ _ _ _ _ _ _ _ _ hI1 (by omega)).call [(106, tabObj #[])] B1 F1 X1 N1 (fun q hq => hq) (fun _ _ h => nomatch h) T1 rfl (fun g hst _ => isList_stays lifted hst) (by ktr_room) (by ktr_units) ?_
  rintro v own' h2 tk2 ⟨rfl, y, ty, rfl, hy⟩ H2 F2 N2
  clear F1 N1
  (try simp only [List.nil_append] at N2)
  dsimp only
  walk_at "go"
  rename Fr _ _ _ _ => F1; rename News _ _ _ _ => N1
  refine (pieces01 _ _ _ _ _ _ y ty (by omega)).call [(106, tabObj #[])] B1 F1 X1 N1 (fun q hq => hq) (fun _ _ h => nomatch h) T1 rfl (fun g hst _ => trivial) (by ktr_room) (by ktr_units) ?_
  rintro v own' h3 tk3 ⟨P, l, n, rfl, rfl, hl⟩ H3 F3 N3
  have hP6 : P ≠ 106 := H3 _ (.head _) _ (.head _)
  clear F1 N1
  (try simp only [List.cons_append, List.nil_append] at N3)
  dsimp only
  walk_at "go"
  rename Fr _ _ _ _ => F1; rename News _ _ _ _ => N1
  refine (quotedata01 _ _ _ _ _ _ y ty (by omega)).call _ B1 F1 X1 N1 (fun q hq => hq) (fun _ _ h => nomatch h) T1 rfl (fun g hst _ => trivial) (by ktr_room) (by ktr_units) ?_
  rintro v own' h4 tk4 ⟨rfl, tq, rfl⟩ H4 F4 N4
  clear F1 N1
  (try simp only [List.nil_append] at N4)
  dsimp only
  walk_at "go"
  walk_at "go2"
  (rename News _ _ _ _ => N9); (rename Fr _ _ _ _ => F9)
  have PK := pack01 _ _ _ _ _ _ T1 N9 ⟨_, _, _, _, _, _, _, rfl⟩ (by assumption) (by assumption) rfl rfl (by assumption) (by assumption)
  have hq : (quoted y).cps.toList = (lists l).flatten := by
    rw [hl]
    show (dots true (crlf y.cps.toList).toArray.toList).toArray.toList = _
    rw [← quoted_pcs _ y.cps.toList none (Nat.le_refl _) (by simp)]
    rfl
  have hqs : (quoted y).cps.size ≤ 96 := by
    have a1 := dotsS_size (crlfS y)
    have a2 := crlfS_size y
    show (dotsS (crlfS y)).cps.size ≤ 96
    omega
  obtain ⟨x, rd, tl, ta, tb, hlex, hat, hws, hfn, hR, hnd, hsep, hsP, N10⟩ := PK (by omega) (by omega) ⟨by omega, by omega, hP6⟩
  clear PK
  rw [← hlex, ← hat] at F9
  refine wpAny_mono (?_ : wpAny _ _ _ _ (fun _ _ => False) _) (fun _ _ h => h) (fun _ _ h => h.elim)
  refine while_inv (LawI _ _ _ x _ (quoted y) P l n tb rd) ?_ _ ⟨0, _, 0, _, 0, _, _, _, tl, ta, rfl, canon5 F9 _ _ _ _ _ rfl rfl rfl rfl rfl, N10, Nat.zero_le _, by omega, .inl rfl, rfl⟩
  clear F9 N10 N9
  have hll : l.length ≤ 24 := by
    have a1 := congrArg List.length hl
    have a2 := pcs_len y.cps.toList none
    simp only [List.length_map, Array.length_toList] at a1 a2
    omega
  have hl6 : l.length ≤ 1000000 := by omega
  have hokA : ∀ q ∈ lists l, PieceOk q := by rw [hl]; exact pcs_ok _ _
  have hl2 : ∀ q ∈ l, q.1.length ≤ 2 := fun q hq => by
    have := ok_len (hokA q.1.cps.toList (List.mem_map_of_mem hq))
    simpa [Str.length] using this
  rintro nn s' ⟨k, tk, ov, tov, half, u, h, tks, tl, ta, rfl, Fh, Nh, hk, hov, hh, rfl⟩
  walk_at "go"
  refine whl_if (fun hb => ?_) (fun hb => ?_)
  · have hov3 : ov < 3 := by
      have := of_decide_eq_true hb
      omega
    (rename Fr _ _ _ _ => F11); (rename News _ _ _ _ => N11)
    simp only [Lx.own, List.cons_append, List.nil_append] at N11
    walk_at "go"
    · (rename Fr _ _ _ _ => F12); (rename News _ _ _ _ => N12)
      refine (get01 _ _ _ _ _ _ P l hl6 k hk tk hl2).call _ B1 F12 X1 N12 (fun q hq => hq) (fun _ _ h => nomatch h) T1 rfl (fun g _ hr => ⟨_, hr (P, strsO l n) (by k_mem), rfl, _, rfl⟩) (by ktr_room) (by ktr_units) ?_
      rintro v own' h5 tk5 ⟨T, wd, twd, ki, tki, hi, thi, k', rfl, rfl, rfl, hk', hw, hrs, rfl⟩ H5 F5 N5
      clear F12 N12
      (try simp only [List.cons_append, List.nil_append] at N5)
      dsimp only
      walk_at "go"
      (rename Fr _ _ _ _ => F6); (rename News _ _ _ _ => N6)
      refine LCg.ListComp_U (F₀ := F6) (by with_unfolding_all rfl) (by decide) (by rfl) (by decide) (by rfl) ?_
      walk_at "go"
      (rename Fr _ _ _ _ => F7); (rename News _ _ _ _ => N7)
      refine strs_sliceTo F7 N7 (isL N7 (by k_mem)) hl6 ?_
      intro D1 h6 F8 N8 lt8
      refine LCg.CompSrc.ledger (by rfl) F8 N8 (.head _) (by rw [PySem.sizeLine_eq]; simp [strValues]; omega) ?_
      intro g6
      refine strs_rest (fun q => .int q.length) ?turn (.inr ⟨_, .head _, rfl, _, rfl⟩) ?fin
      case turn =>
        intro q t I oI C oC D m₂ ys h tk E' hm hC hx F N off ne
        (try clear F6); (try clear N6); (try clear F7); (try clear N7); (try clear F8); (try clear N8)
        iterate 6 walk1
        have hq2 := hl2 _ (List.mem_of_mem_take hm)
        dsimp only at hq2
        refine PySem.P.len_str (by omega) ?_
        exact ⟨.int _ _, _, rfl⟩
      case fin =>
        intro ys hys D2 h7 tk7 F9 N9 off9
        (try clear F6); (try clear N6); (try clear F7); (try clear N7); (try clear F8); (try clear N8)
        dsimp only
        iterate 1 walk1
        refine LSm.sum_ints F9 N9 rfl ⟨_, (N9 _ (.head _)).1, rfl, _, rfl⟩ (ints_of_carried hys) ?_
        intro h8 tk8 t8 F10 N10
        walk_at "go"
        (rename Fr _ _ _ _ => F11); (rename News _ _ _ _ => N11)
        refine strs_sliceTo F11 N11 (isL N11 (by k_mem)) hl6 ?_
        intro D3 h9 F12 N12 lt12
        (try clear F11); (try clear N11); (try clear F10); (try clear N10); (try clear F9); (try clear N9)
        dsimp only
        walk_at "go"
        (rename Fr _ _ _ _ => F13); (rename News _ _ _ _ => N13)
        refine (token01 _ _ _ _ _ _ (quoted y) x rd hfn hR hnd (((lists l).take k).flatten.length + half) (pos_le hq hh) (by omega) ta tl 0).call ((P, strsO l n) :: (106, tabObj tb) :: rd) B1 F13 X1 N13 (fun q hq => by repeat (first | exact hq | apply List.Mem.tail)) (sepB hsep hsP) T1 rfl (fun g _ hr q hq => hr q (.tail _ (.tail _ hq))) (by ktr_room) (by ktr_units) ?_
        rintro v own' h10 tk10 ⟨t1, ta', tl', rfl, rfl⟩ H10 F14 N14
        clear F13 N13
        have hwsL : x.ws.cps.toList = wsL := by rw [hws]; decide +kernel
        obtain ⟨pp, hpp⟩ : ∃ pp, pp = (quoted y).cps.size - (tok x.ws.cps.toList ((quoted y).cps.toList.drop (((lists l).take k).flatten.length + half))).2.length := ⟨_, rfl⟩
        obtain ⟨f1, f2, f3, f4, f5, f6, f7⟩ := turn_facts hq hokA hwsL hk hh hk' hrs hw rfl rfl hpp
        rw [← hpp] at N14
        rw [f1]
        simp only [Lx.own, List.cons_append, List.nil_append] at N14
        generalize hln : lnAt (quoted y) pp = ln at N14 f7
        dsimp only
        iterate 4 (first | walk1 | (dsimp only; walk1))
        refine at_item ⟨_, (N14 (x.atA, atO pp ta') (by simp)).1, rfl, _, rfl⟩ ?_
        walk_at "go"
        (rename Fr _ _ _ _ => F15); (rename News _ _ _ _ => N15)
        refine trip_ne ⟨_, (N15 _ (.tail _ (.head _))).1, rfl, _, rfl⟩ ⟨_, (N15 _ (.head _)).1, rfl, _, rfl⟩ (by ktr_units) ?_
        rw [show (wd == wd) = true from beq_self_eq_true wd, f6, f7, ofCRLF]
        simp only [beq_self_eq_true, Bool.and_self, Bool.not_true]
        walk_at "go"
        (rename Fr _ _ _ _ => F16); (rename News _ _ _ _ => N16)
        subst hln
        subst f2
        exact ⟨(3 - (ov + 1)) + (l.length - k'), by omega, k', _, ov + 1, _, _, _, _, _, tl', ta', rfl, canon5 F16 _ _ _ _ _ (by rw [show ((ov + 1 : Nat) : Int) = (ov : Int) + 1 by omega]; rfl) rfl rfl rfl rfl, cb_drop N16 (fun q hq => by repeat (first | exact hq | apply List.Mem.tail)), hk', hov3, f3, rfl⟩
    · (rename Fr _ _ _ _ => F12); (rename News _ _ _ _ => N12)
      refine (get01 _ _ _ _ _ _ P l hl6 k hk tk hl2).call _ B1 F12 X1 N12 (fun q hq => hq) (fun _ _ h => nomatch h) T1 rfl (fun g _ hr => ⟨_, hr (P, strsO l n) (by k_mem), rfl, _, rfl⟩) (by ktr_room) (by ktr_units) ?_
      rintro v own' h5 tk5 ⟨T, wd, twd, ki, tki, hi, thi, k', rfl, rfl, rfl, hk', hw, hrs, rfl⟩ H5 F5 N5
      clear F12 N12
      (try simp only [List.cons_append, List.nil_append] at N5)
      dsimp only
      walk_at "go"
      (rename Fr _ _ _ _ => F6); (rename News _ _ _ _ => N6)
      refine LCg.ListComp_U (F₀ := F6) (by with_unfolding_all rfl) (by decide) (by rfl) (by decide) (by rfl) ?_
      walk_at "go"
      (rename Fr _ _ _ _ => F7); (rename News _ _ _ _ => N7)
      refine strs_sliceTo F7 N7 (isL N7 (by k_mem)) hl6 ?_
      intro D1 h6 F8 N8 lt8
      refine LCg.CompSrc.ledger (by rfl) F8 N8 (.head _) (by rw [PySem.sizeLine_eq]; simp [strValues]; omega) ?_
      intro g6
      refine strs_rest (fun q => .int q.length) ?turn (.inr ⟨_, .head _, rfl, _, rfl⟩) ?fin
      case turn =>
        intro q t I oI C oC D m₂ ys h tk E' hm hC hx F N off ne
        (try clear F6); (try clear N6); (try clear F7); (try clear N7); (try clear F8); (try clear N8)
        iterate 6 walk1
        have hq2 := hl2 _ (List.mem_of_mem_take hm)
        dsimp only at hq2
        refine PySem.P.len_str (by omega) ?_
        exact ⟨.int _ _, _, rfl⟩
      case fin =>
        intro ys hys D2 h7 tk7 F9 N9 off9
        (try clear F6); (try clear N6); (try clear F7); (try clear N7); (try clear F8); (try clear N8)
        dsimp only
        iterate 1 walk1
        refine LSm.sum_ints F9 N9 rfl ⟨_, (N9 _ (.head _)).1, rfl, _, rfl⟩ (ints_of_carried hys) ?_
        intro h8 tk8 t8 F10 N10
        walk_at "go"
        (rename Fr _ _ _ _ => F11); (rename News _ _ _ _ => N11)
        refine strs_sliceTo F11 N11 (isL N11 (by k_mem)) hl6 ?_
        intro D3 h9 F12 N12 lt12
        (try clear F11); (try clear N11); (try clear F10); (try clear N10); (try clear F9); (try clear N9)
        dsimp only
        walk_at "go"
        (rename Fr _ _ _ _ => F13); (rename News _ _ _ _ => N13)
        refine (token01 _ _ _ _ _ _ (quoted y) x rd hfn hR hnd (((lists l).take k).flatten.length + half) (pos_le hq hh) (by omega) ta tl 0).call ((P, strsO l n) :: (106, tabObj tb) :: rd) B1 F13 X1 N13 (fun q hq => by repeat (first | exact hq | apply List.Mem.tail)) (sepB hsep hsP) T1 rfl (fun g _ hr q hq => hr q (.tail _ (.tail _ hq))) (by ktr_room) (by ktr_units) ?_
        rintro v own' h10 tk10 ⟨t1, ta', tl', rfl, rfl⟩ H10 F14 N14
        clear F13 N13
        have hwsL : x.ws.cps.toList = wsL := by rw [hws]; decide +kernel
        obtain ⟨pp, hpp⟩ : ∃ pp, pp = (quoted y).cps.size - (tok x.ws.cps.toList ((quoted y).cps.toList.drop (((lists l).take k).flatten.length + half))).2.length := ⟨_, rfl⟩
        obtain ⟨f1, f2, f3, f4, f5, f6, f7⟩ := turn_facts hq hokA hwsL hk hh hk' hrs hw rfl rfl hpp
        rw [← hpp] at N14
        rw [f1]
        simp only [Lx.own, List.cons_append, List.nil_append] at N14
        generalize hln : lnAt (quoted y) pp = ln at N14 f7
        dsimp only
        iterate 4 (first | walk1 | (dsimp only; walk1))
        refine at_item ⟨_, (N14 (x.atA, atO pp ta') (by simp)).1, rfl, _, rfl⟩ ?_
        walk_at "go"
        (rename Fr _ _ _ _ => F15); (rename News _ _ _ _ => N15)
        refine trip_ne ⟨_, (N15 _ (.tail _ (.head _))).1, rfl, _, rfl⟩ ⟨_, (N15 _ (.head _)).1, rfl, _, rfl⟩ (by ktr_units) ?_
        rw [show (wd == wd) = true from beq_self_eq_true wd, f6, f7, ofCRLF]
        simp only [beq_self_eq_true, Bool.and_self, Bool.not_true]
        walk_at "go"
        (rename Fr _ _ _ _ => F16); (rename News _ _ _ _ => N16)
        subst hln
        subst f2
        exact ⟨(3 - ov) + (l.length - k'), by omega, k', _, ov, _, _, _, _, _, tl', ta', rfl, canon5 F16 _ _ _ _ _ rfl rfl rfl rfl rfl, cb_drop N16 (fun q hq => by repeat (first | exact hq | apply List.Mem.tail)), hk', hov, f3, rfl⟩
  · walk_at "go"
    (show GoodW _ _ _ _ _ (.ok (.ret (.bool _))) _)
    refine goodW_bool Fh (by assumption) (raisesW_false ?_) ?_
    · wrow_none_raised
    · wrow_post)
end Mine
end
open PySem PySem.W PyProof.Rows
set_option maxRecDepth 100000 in
set_option maxHeartbeats 8000000 in
theorem PySem.Challenge.cw_ny0034_01_holds : PySem.Challenge.rw_ny0034_01.Holds :=
  Mine.law01
