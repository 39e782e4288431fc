import PyProof.Rows.All
import Wide.All
import OpenK.AllK
import Wide.FinOn
import Lean
import PySem.Challenge.RW_ny0034_04
set_option Elab.async false
open PySem PySem.W PyProof.Rows PySem.Calls PySem.SeqAt
set_option maxRecDepth 100000
local macro_rules | `(tactic| walk_at "drv0") => `(tactic| repeat' (first | (k_unfold; (try dsimp only)) | ((fail_if_success (with_reducible show wpAny _ _ (exec (Stmt.While _ _ _ _) _) _ _ _)); (fail_if_success (with_reducible show wpAny _ _ (exec (Stmt.For _ _ _ _ _) _) _ _ _)); (fail_if_success (with_reducible show wpAny _ _ (PySem.call (Value.ref _) _) _ _ _)); first | walk1 | (dsimp only; walk1))))
local macro_rules | `(tactic| walk_at "drv1") => `(tactic| repeat' (first | (k_unfold; (try dsimp only)) | ((fail_if_success (with_reducible show wpAny _ _ (exec (Stmt.While _ _ _ _) _) _ _ _)); (fail_if_success (with_reducible show wpAny _ _ (exec (Stmt.For _ _ _ _ _) _) _ _ _)); (fail_if_success (with_reducible show wpAny _ _ (PySem.call (Value.ref _) _) _ _ _)); (fail_if_success (with_reducible show wpAny _ _ (compareOp _ (Value.ref _) (Value.ref _)) _ _ _)); first | walk1 | (dsimp only; walk1))))
local macro_rules | `(tactic| walk_at "drv2") => `(tactic| repeat' (first | (k_unfold; (try dsimp only)) | ((fail_if_success (with_reducible show wpAny _ _ (exec (Stmt.While _ _ _ _) _) _ _ _)); (fail_if_success (with_reducible show wpAny _ _ (exec (Stmt.For _ _ _ _ _) _) _ _ _)); (fail_if_success (with_reducible show wpAny _ _ (PySem.call (Value.ref _) _) _ _ _)); (fail_if_success (with_reducible show wpAny _ _ (PySem.call (Value.builtin "list.pop") _) _ _ _)); (fail_if_success (with_reducible show wpAny _ _ (PySem.call (Value.builtin "list.append") _) _ _ _)); first | walk1 | (dsimp only; walk1))))
local macro_rules | `(tactic| walk_at "drv3") => `(tactic| repeat' (first | (k_unfold; (try dsimp only)) | ((fail_if_success (with_reducible show wpAny _ _ (exec (Stmt.While _ _ _ _) _) _ _ _)); (fail_if_success (with_reducible show wpAny _ _ (exec (Stmt.For _ _ _ _ _) _) _ _ _)); (fail_if_success (with_reducible show wpAny _ _ (PySem.call (Value.ref _) _) _ _ _)); (fail_if_success (with_reducible show wpAny _ _ (PySem.call (Value.builtin "str.replace") _) _ _ _)); (fail_if_success (with_reducible show wpAny _ _ (PySem.call (Value.builtin "str.split") _) _ _ _)); (fail_if_success (with_reducible show wpAny _ _ (PySem.call (Value.builtin "str.join") _) _ _ _)); (fail_if_success (with_reducible show wpAny _ _ (eval (PySem.Expr.ListComp _ _ _ _) _) _ _ _)); first | walk1 | (dsimp only; walk1))))
local macro_rules | `(tactic| walk_at "drv4") => `(tactic| repeat' (first | (k_unfold; (try dsimp only)) | ((fail_if_success (with_reducible show wpAny _ _ (exec (Stmt.While _ _ _ _) _) _ _ _)); (fail_if_success (with_reducible show wpAny _ _ (exec (Stmt.For _ _ _ _ _) _) _ _ _)); (fail_if_success (with_reducible show wpAny _ _ (PySem.call (Value.ref _) _) _ _ _)); (fail_if_success (with_reducible show wpAny _ _ (PySem.call (Value.builtin "str.replace") _) _ _ _)); (fail_if_success (with_reducible show wpAny _ _ (PySem.call (Value.builtin "str.split") _) _ _ _)); (fail_if_success (with_reducible show wpAny _ _ (PySem.call (Value.builtin "str.join") _) _ _ _)); (fail_if_success (with_reducible show wpAny _ _ (eval (PySem.Expr.ListComp _ _ _ _) _) _ _ _)); (fail_if_success (with_reducible show wpAny _ _ (compareOp _ (Value.int _ _) (Value.int _ _)) _ _ _)); first | walk1 | (dsimp only; walk1))))
local macro_rules | `(tactic| walk_at "drv5") => `(tactic| repeat' (first | (k_unfold; (try dsimp only)) | ((fail_if_success (with_reducible show wpAny _ _ (exec (Stmt.While _ _ _ _) _) _ _ _)); (fail_if_success (with_reducible show wpAny _ _ (exec (Stmt.For _ _ _ _ _) _) _ _ _)); (fail_if_success (with_reducible show wpAny _ _ (PySem.call (Value.ref _) _) _ _ _)); (fail_if_success (with_reducible show wpAny _ _ (pyIter (Value.ref _)) _ _ _)); (fail_if_success (with_reducible show wpAny _ _ (subscriptTail _ _ (Value.ref _) _) _ _ _)); (fail_if_success (with_reducible show wpAny _ _ (eval (PySem.Expr.ListComp _ _ _ _) _) _ _ _)); first | walk1 | (dsimp only; walk1))))
local macro_rules | `(tactic| walk_at "drv6") => `(tactic| repeat' (first | (k_unfold; (try dsimp only)) | ((fail_if_success (with_reducible show wpAny _ _ (exec (Stmt.While _ _ _ _) _) _ _ _)); (fail_if_success (with_reducible show wpAny _ _ (exec (Stmt.For _ _ _ _ _) _) _ _ _)); (fail_if_success (with_reducible show wpAny _ _ (PySem.call (Value.ref _) _) _ _ _)); (fail_if_success (with_reducible show wpAny _ _ (PySem.call (Value.builtin "str.replace") _) _ _ _)); (fail_if_success (with_reducible show wpAny _ _ (PySem.call (Value.builtin "str.join") _) _ _ _)); (fail_if_success (with_reducible show wpAny _ _ (eval (PySem.Expr.ListComp _ _ _ _) _) _ _ _)); first | walk1 | (dsimp only; walk1))))
local macro_rules | `(tactic| walk_at "drv7") => `(tactic| repeat' (first | (k_unfold; (try dsimp only)) | ((fail_if_success (with_reducible show wpAny _ _ (exec (Stmt.While _ _ _ _) _) _ _ _)); (fail_if_success (with_reducible show wpAny _ _ (exec (Stmt.For _ _ _ _ _) _) _ _ _)); first | walk1 | (dsimp only; walk1))))
local macro_rules | `(tactic| walk_at "drv8") => `(tactic| repeat' (first | (k_unfold; (try dsimp only)) | ((fail_if_success (with_reducible show wpAny _ _ (exec (Stmt.While _ _ _ _) _) _ _ _)); (fail_if_success (with_reducible show wpAny _ _ (exec (Stmt.For _ _ _ _ _) _) _ _ _)); (fail_if_success (with_reducible show wpAny _ _ (PySem.call (Value.ref _) _) _ _ _)); (fail_if_success (with_reducible show wpAny _ _ (pyIter (Value.ref _)) _ _ _)); (fail_if_success (with_reducible show wpAny _ _ (eval (PySem.Expr.ListComp _ _ _ _) _) _ _ _)); first | walk1 | (dsimp only; walk1))))
local macro_rules | `(tactic| walk_at "drv9") => `(tactic| repeat' (first | (k_unfold; (try dsimp only)) | ((fail_if_success (with_reducible show wpAny _ _ (exec (Stmt.While _ _ _ _) _) _ _ _)); (fail_if_success (with_reducible show wpAny _ _ (exec (Stmt.For _ _ _ _ _) _) _ _ _)); (fail_if_success (with_reducible show wpAny _ _ (PySem.call (Value.ref _) _) _ _ _)); (fail_if_success (with_reducible show wpAny _ _ (PySem.call (Value.builtin "list.append") _) _ _ _)); (fail_if_success (with_reducible show wpAny _ _ (PySem.call (Value.builtin "sum") _) _ _ _)); (fail_if_success (with_reducible show wpAny _ _ (PySem.call (Value.builtin "len") [Value.ref _]) _ _ _)); (fail_if_success (with_reducible show wpAny _ _ (pyIter (Value.ref _)) _ _ _)); (fail_if_success (with_reducible show wpAny _ _ (eval (PySem.Expr.ListComp _ _ _ _) _) _ _ _)); first | walk1 | (dsimp only; walk1))))
local macro_rules | `(tactic| walk_at "drv10") => `(tactic| repeat' (first | (k_unfold; (try dsimp only)) | ((fail_if_success (with_reducible show wpAny _ _ (exec (Stmt.While _ _ _ _) _) _ _ _)); (fail_if_success (with_reducible show wpAny _ _ (exec (Stmt.For _ _ _ _ _) _) _ _ _)); (fail_if_success (with_reducible show wpAny _ _ (PySem.call (Value.ref _) _) _ _ _)); (fail_if_success (with_reducible show wpAny _ _ (PySem.call (Value.builtin "list.extend") _) _ _ _)); (fail_if_success (with_reducible show wpAny _ _ (PySem.call (Value.builtin "len") [Value.ref _]) _ _ _)); (fail_if_success (with_reducible show wpAny _ _ (subscriptTail _ _ (Value.ref _) _) _ _ _)); (fail_if_success (with_reducible show wpAny _ _ (pyIter (Value.ref _)) _ _ _)); (fail_if_success (with_reducible show wpAny _ _ (eval (PySem.Expr.ListComp _ _ _ _) _) _ _ _)); first | walk1 | (dsimp only; walk1))))
local macro_rules | `(tactic| walk_at "drv11") => `(tactic| repeat' (first | (k_unfold; (try dsimp only)) | ((fail_if_success (with_reducible show wpAny _ _ (exec (Stmt.While _ _ _ _) _) _ _ _)); (fail_if_success (with_reducible show wpAny _ _ (exec (Stmt.For _ _ _ _ _) _) _ _ _)); (fail_if_success (with_reducible show wpAny _ _ (PySem.call (Value.ref _) _) _ _ _)); (fail_if_success (with_reducible show wpAny _ _ (PySem.call (Value.builtin "str.count") _) _ _ _)); (fail_if_success (with_reducible show wpAny _ _ (PySem.call (Value.builtin "len") [Value.str _ _]) _ _ _)); (fail_if_success (with_reducible show wpAny _ _ (subscriptTail _ _ (Value.ref _) _) _ _ _)); (fail_if_success (with_reducible show wpAny _ _ (compareOp _ (Value.ref _) (Value.ref _)) _ _ _)); first | walk1 | (dsimp only; walk1))))
local macro_rules | `(tactic| walk_at "drv12") => `(tactic| repeat' (first | (k_unfold; (try dsimp only)) | ((fail_if_success (with_reducible show wpAny _ _ (exec (Stmt.While _ _ _ _) _) _ _ _)); (fail_if_success (with_reducible show wpAny _ _ (exec (Stmt.For _ _ _ _ _) _) _ _ _)); (fail_if_success (with_reducible show wpAny _ _ (PySem.call (Value.ref _) _) _ _ _)); (fail_if_success (with_reducible show wpAny _ _ (PySem.call (Value.builtin "sum") _) _ _ _)); first | walk1 | (dsimp only; walk1))))
-- part Re1
section
open PySem PySem.W PyProof.Rows
set_option Elab.async false
set_option maxRecDepth 100000
set_option maxHeartbeats 400000
set_option linter.unusedVariables false
namespace Mine
open PySem.Sre

theorem runFor_done {m : M} (h : m.outcome.isSome = true) : ∀ n, M.runFor n m = m
  | 0 => rfl
  | n + 1 => by simp [M.runFor, h]
theorem runFor_add (a b : Nat) (m : M) : M.runFor (a + b) m = M.runFor b (M.runFor a m) := by
  induction a generalizing m with
  | zero => simp [M.runFor]
  | succ a ih =>
    rw [show a + 1 + b = (a + b) + 1 by omega]
    by_cases h : m.outcome.isSome = true
    · rw [runFor_done h, runFor_done h, runFor_done h]
    · simp only [M.runFor, h]; exact ih _
theorem runFor_step {m : M} (h : m.outcome = none) (n : Nat) : M.runFor (n + 1) m = M.runFor n m.step := by
  simp [M.runFor, h]

/-- m goes to m' in at most k steps -/
def Goes (k : Nat) (m m' : M) : Prop := ∃ n, n ≤ k ∧ M.runFor n m = m'
theorem Goes.refl (m : M) : Goes 0 m m := ⟨0, Nat.le_refl _, rfl⟩
theorem Goes.step {k : Nat} {m m' m'' : M} (ho : m.outcome = none) (h : m.step = m') (g : Goes k m' m'') : Goes (k + 1) m m'' := by
  obtain ⟨n, hn, e⟩ := g
  exact ⟨n + 1, Nat.succ_le_succ hn, by rw [runFor_step ho, h]; exact e⟩
theorem Goes.trans {k l : Nat} {m m' m'' : M} (h : Goes k m m') (g : Goes l m' m'') : Goes (k + l) m m'' := by
  obtain ⟨n, hn, e⟩ := h
  obtain ⟨n', hn', e'⟩ := g
  exact ⟨n + n', Nat.add_le_add hn hn', by rw [runFor_add, e]; exact e'⟩
theorem Goes.mono {k l : Nat} {m m' : M} (h : Goes k m m') (hl : k ≤ l) : Goes l m m' := by
  obtain ⟨n, hn, e⟩ := h
  exact ⟨n, Nat.le_trans hn hl, e⟩

section
variable {m : M}
theorem step_run (ho : m.outcome = none) (ha : m.answer = none) (hp : m.pc < m.code.size) : m.step = m.exec := by
  unfold M.step
  rw [ho, ha]
  simp [hp]
theorem step_lit (ho : m.outcome = none) (ha : m.answer = none) (hp : m.pc < m.code.size) (hw : m.code.getD m.pc 0 = 16)
    (hl : m.pos < m.lim) (hc : m.text.getD m.pos 0 = m.code.getD (m.pc + 1) 0) :
    m.step = { m with seen := m.seen.add 16, pc := m.pc + 2, pos := m.pos + 1 } := by
  rw [step_run ho ha hp]
  unfold M.exec
  have e : m.word 0 = 16 := hw
  rw [e]
  show (if m.pos ≥ m.lim then _ else _) = _
  rw [if_neg (by omega)]
  unfold accepts itemWidth
  simp only [hw, hc]
  simp [ops]
theorem step_lit_no (ho : m.outcome = none) (ha : m.answer = none) (hp : m.pc < m.code.size) (hw : m.code.getD m.pc 0 = 16)
    (hl : m.lim ≤ m.pos ∨ m.text.getD m.pos 0 ≠ m.code.getD (m.pc + 1) 0) :
    m.step = { m with seen := m.seen.add 16, answer := some false } := by
  rw [step_run ho ha hp]
  unfold M.exec
  have e : m.word 0 = 16 := hw
  rw [e]
  show (if m.pos ≥ m.lim then _ else _) = _
  by_cases h : m.pos ≥ m.lim
  · rw [if_pos h]; rfl
  · rw [if_neg h]
    have hc := hl.resolve_left h
    have hb : (m.text.getD m.pos 0 == m.code.getD (m.pc + 1) 0) = false := by simpa using hc
    unfold accepts
    simp only [hw, hb]
    rfl
theorem step_at (ho : m.outcome = none) (ha : m.answer = none) (hp : m.pc < m.code.size) (hw : m.code.getD m.pc 0 = 6) (hk : m.code.getD (m.pc + 1) 0 = 1)
    (hc : m.pos = 0 ∨ m.text.getD (m.pos - 1) 0 = 10) : m.step = { m with seen := (m.seen.add 6).add 44, pc := m.pc + 2 } := by
  rw [step_run ho ha hp]
  unfold M.exec
  have e : m.word 0 = 6 := hw
  have e1 : m.word 1 = 1 := hk
  rw [e]
  have hb : (m.pos == 0 || m.text.getD (m.pos - 1) 0 == 10) = true := by
    rcases hc with h | h
    · rw [h]; rfl
    · rw [h]; simp
  have hi : M.isAt { m with seen := m.seen.add 6 } (M.word { m with seen := m.seen.add 6 } 1) = .ok true := by
    have : M.word { m with seen := m.seen.add 6 } 1 = 1 := hk
    rw [this]
    show Except.ok (m.pos == 0 || m.text.getD (m.pos - 1) 0 == 10) = _
    rw [hb]
  show (match M.isAt { m with seen := m.seen.add 6 } (M.word { m with seen := m.seen.add 6 } 1) with | .error why => _ | .ok yes => _) = _
  rw [hi]
  show ({ m with seen := (m.seen.add 6).add (43 + m.word 1), pc := m.pc + 2 } : M) = _
  rw [e1]
theorem step_at_no (ho : m.outcome = none) (ha : m.answer = none) (hp : m.pc < m.code.size) (hw : m.code.getD m.pc 0 = 6) (hk : m.code.getD (m.pc + 1) 0 = 1)
    (hc : ¬ (m.pos = 0 ∨ m.text.getD (m.pos - 1) 0 = 10)) : m.step = { m with seen := (m.seen.add 6).add 44, answer := some false } := by
  rw [step_run ho ha hp]
  unfold M.exec
  have e : m.word 0 = 6 := hw
  have e1 : m.word 1 = 1 := hk
  rw [e]
  have hb : (m.pos == 0 || m.text.getD (m.pos - 1) 0 == 10) = false := by
    simpa using hc
  have hi : M.isAt { m with seen := m.seen.add 6 } (M.word { m with seen := m.seen.add 6 } 1) = .ok false := by
    have : M.word { m with seen := m.seen.add 6 } 1 = 1 := hk
    rw [this]
    show Except.ok (m.pos == 0 || m.text.getD (m.pos - 1) 0 == 10) = _
    rw [hb]
  show (match M.isAt { m with seen := m.seen.add 6 } (M.word { m with seen := m.seen.add 6 } 1) with | .error why => _ | .ok yes => _) = _
  rw [hi]
  show ({ m with seen := (m.seen.add 6).add (43 + m.word 1), answer := some false } : M) = _
  rw [e1]
theorem step_jump (ho : m.outcome = none) (ha : m.answer = none) (hp : m.pc < m.code.size) (hw : m.code.getD m.pc 0 = 15) :
    m.step = { m with seen := m.seen.add 15, pc := m.pc + 1 + m.code.getD (m.pc + 1) 0 } := by
  rw [step_run ho ha hp]
  unfold M.exec
  have e : m.word 0 = 15 := hw
  rw [e]
  rfl
theorem step_success (ho : m.outcome = none) (ha : m.answer = none) (hp : m.pc < m.code.size) (hw : m.code.getD m.pc 0 = 1)
    (h1 : m.wholeText = false) (h2 : m.mustAdvance = false) : m.step = { m with seen := m.seen.add 1, handed := m.pos, answer := some true } := by
  rw [step_run ho ha hp]
  unfold M.exec
  have e : m.word 0 = 1 := hw
  rw [e]
  show (if (m.outermost && ((m.wholeText && m.pos != m.lim) || (m.mustAdvance && m.pos == m.start))) = true then _ else _) = _
  rw [h1, h2]
  simp [M.say]
def keptOf (m : M) : Sre.Kept := { lastmark := m.lastmark, lastindex := m.lastindex, whole := false, marks := #[] }
theorem step_branch (ho : m.outcome = none) (ha : m.answer = none) (hp : m.pc < m.code.size) (hw : m.code.getD m.pc 0 = 7) (hi : m.inner = none)
    (hz : (m.code.getD (m.pc + 1) 0 == 0) = false) (hg : m.weight < 1000) :
    m.step = { m with seen := m.seen.add 7, frames := { wait := .nextBranch, pc := m.pc + 1, pos := m.pos, outermost := m.outermost, kept := keptOf m } :: m.frames, weight := m.weight + 1, pc := m.pc + 2, handed := m.pos } := by
  rw [step_run ho ha hp]
  unfold M.exec
  have e : m.word 0 = 7 := hw
  rw [e]
  show M.alternative { m with seen := m.seen.add 7 } (m.pc + 1) (M.keep { m with seen := m.seen.add 7 } m.inner.isSome) = _
  rw [hi]
  unfold M.alternative
  show (if (m.code.getD (m.pc + 1) 0 == 0) = true then _ else _) = _
  rw [hz]
  simp only [Bool.false_eq_true, if_false]
  unfold M.attempt
  show (if m.weight + 1 + 0 > 16777216 then _ else _) = _
  rw [if_neg (by omega)]
  rfl
theorem step_assertNot (ho : m.outcome = none) (ha : m.answer = none) (hp : m.pc < m.code.size) (hw : m.code.getD m.pc 0 = 5) (hi : m.inner = none)
    (hz : m.code.getD (m.pc + 2) 0 = 0) (hg : m.weight < 1000) :
    m.step = { m with seen := m.seen.add 5, frames := { wait := .lookNot, pc := m.pc, pos := m.pos, outermost := m.outermost, kept := keptOf m } :: m.frames, weight := m.weight + 1, pc := m.pc + 3, handed := m.pos, outermost := false } := by
  rw [step_run ho ha hp]
  unfold M.exec
  have e : m.word 0 = 5 := hw
  rw [e]
  have e2 : M.word { m with seen := m.seen.add 5 } 2 = 0 := hz
  show (if m.pos < M.word { m with seen := m.seen.add 5 } 2 then _ else _) = _
  rw [if_neg (by rw [e2]; omega)]
  show M.attempt { m with seen := m.seen.add 5 } { M.frame { m with seen := m.seen.add 5 } .lookNot with kept := M.keep { m with seen := m.seen.add 5 } (true && m.inner.isSome) } (m.pc + 3) (m.pos - M.word { m with seen := m.seen.add 5 } 2) false = _
  rw [e2, hi]
  unfold M.attempt
  show (if m.weight + 1 + 0 > 16777216 then _ else _) = _
  rw [if_neg (by omega)]
  rfl
theorem step_back {yes : Bool} {f : Sre.Frame} {rest : List Sre.Frame} (ho : m.outcome = none) (ha : m.answer = some yes) (hf : m.frames = f :: rest) :
    m.step = M.resume { m with answer := none, frames := rest, weight := m.weight - (1 + f.kept.marks.size), pc := f.pc, pos := f.pos, outermost := f.outermost } f yes := by
  unfold M.step
  rw [ho, ha, hf]
  rfl
theorem step_end {yes : Bool} (ho : m.outcome = none) (ha : m.answer = some yes) (hf : m.frames = []) :
    m.step = { m with outcome := some (if yes then .matched else .failed) } := by
  unfold M.step
  rw [ho, ha, hf]
  rfl
end

abbrev code2 : Array Nat := #[14, 9, 4, 1, 2, 16, 10, 16, 13, 0, 7, 7, 16, 13, 16, 10, 15, 18, 5, 16, 10, 15, 13, 11, 16, 13, 5, 5, 0, 16, 10, 1, 15, 2, 0, 1]
abbrev code1 : Array Nat := #[14, 4, 0, 1, 1, 6, 1, 16, 46, 1]

/-- a state of the search: no group, no loop, nothing that must advance -/
def S (code text : Array Nat) (lim st ls pc pos handed : Nat) (out : Bool) (frames : List Sre.Frame) (weight : Nat) (ans : Option Bool) (seen : Sre.Seen) : M :=
  { code, text, lim, start := st, lastStart := ls, pc, pos, handed, outermost := out, marks := #[], frames, weight, answer := ans, seen }
def K0 : Sre.Kept := { lastmark := -1, lastindex := -1, whole := false, marks := #[] }
abbrev fStart (pc pos : Nat) (out : Bool) : Sre.Frame := { wait := .nextStart, pc, pos, outermost := out }
abbrev fBranch (pc pos : Nat) (out : Bool) : Sre.Frame := { wait := .nextBranch, pc, pos, outermost := out, kept := K0 }
abbrev fNot (pc pos : Nat) (out : Bool) : Sre.Frame := { wait := .lookNot, pc, pos, outermost := out, kept := K0 }
section
variable {code text : Array Nat} {lim st ls pc pos handed weight : Nat} {out : Bool} {frames : List Sre.Frame} {seen : Sre.Seen}
theorem S_lit (hp : pc < code.size) (hw : code.getD pc 0 = 16) (hl : pos < lim) (hc : text.getD pos 0 = code.getD (pc + 1) 0) :
    (S code text lim st ls pc pos handed out frames weight none seen).step = S code text lim st ls (pc + 2) (pos + 1) handed out frames weight none (seen.add 16) :=
  step_lit rfl rfl hp hw hl hc
theorem S_lit_no (hp : pc < code.size) (hw : code.getD pc 0 = 16) (hl : lim ≤ pos ∨ text.getD pos 0 ≠ code.getD (pc + 1) 0) :
    (S code text lim st ls pc pos handed out frames weight none seen).step = S code text lim st ls pc pos handed out frames weight (some false) (seen.add 16) :=
  step_lit_no rfl rfl hp hw hl
theorem S_at (hp : pc < code.size) (hw : code.getD pc 0 = 6) (hk : code.getD (pc + 1) 0 = 1) (hc : pos = 0 ∨ text.getD (pos - 1) 0 = 10) :
    (S code text lim st ls pc pos handed out frames weight none seen).step = S code text lim st ls (pc + 2) pos handed out frames weight none ((seen.add 6).add 44) :=
  step_at rfl rfl hp hw hk hc
theorem S_at_no (hp : pc < code.size) (hw : code.getD pc 0 = 6) (hk : code.getD (pc + 1) 0 = 1) (hc : ¬ (pos = 0 ∨ text.getD (pos - 1) 0 = 10)) :
    (S code text lim st ls pc pos handed out frames weight none seen).step = S code text lim st ls pc pos handed out frames weight (some false) ((seen.add 6).add 44) :=
  step_at_no rfl rfl hp hw hk hc
theorem S_jump (hp : pc < code.size) (hw : code.getD pc 0 = 15) :
    (S code text lim st ls pc pos handed out frames weight none seen).step = S code text lim st ls (pc + 1 + code.getD (pc + 1) 0) pos handed out frames weight none (seen.add 15) :=
  step_jump rfl rfl hp hw
theorem S_success (hp : pc < code.size) (hw : code.getD pc 0 = 1) :
    (S code text lim st ls pc pos handed out frames weight none seen).step = S code text lim st ls pc pos pos out frames weight (some true) (seen.add 1) :=
  step_success rfl rfl hp hw rfl rfl
theorem S_branch (hp : pc < code.size) (hw : code.getD pc 0 = 7) (hz : (code.getD (pc + 1) 0 == 0) = false) (hg : weight < 1000) :
    (S code text lim st ls pc pos handed out frames weight none seen).step = S code text lim st ls (pc + 2) pos pos out (fBranch (pc + 1) pos out :: frames) (weight + 1) none (seen.add 7) :=
  step_branch rfl rfl hp hw rfl hz hg
theorem S_assertNot (hp : pc < code.size) (hw : code.getD pc 0 = 5) (hz : code.getD (pc + 2) 0 = 0) (hg : weight < 1000) :
    (S code text lim st ls pc pos handed out frames weight none seen).step = S code text lim st ls (pc + 3) pos pos false (fNot pc pos out :: frames) (weight + 1) none (seen.add 5) :=
  step_assertNot rfl rfl hp hw rfl hz hg
theorem S_end {yes : Bool} : (S code text lim st ls pc pos handed out [] weight (some yes) seen).step = { S code text lim st ls pc pos handed out [] weight (some yes) seen with outcome := some (if yes then .matched else .failed) } :=
  step_end rfl rfl rfl
theorem S_start_yes {q p0 : Nat} {o : Bool} : (S code text lim st ls pc pos handed out (fStart q p0 o :: frames) (weight + 1) (some true) seen).step = S code text lim st ls q p0 handed o frames weight (some true) seen := by
  rw [step_back rfl rfl rfl]
  show S code text lim st ls q p0 handed o frames (weight + 1 - (1 + 0)) (some true) seen = _
  rw [show weight + 1 - (1 + 0) = weight by omega]
theorem S_branch_yes {q p0 : Nat} {o : Bool} : (S code text lim st ls pc pos handed out (fBranch q p0 o :: frames) (weight + 1) (some true) seen).step = S code text lim st ls q p0 handed o frames weight (some true) seen := by
  rw [step_back rfl rfl rfl]
  show S code text lim st ls q p0 handed o frames (weight + 1 - (1 + 0)) (some true) seen = _
  rw [show weight + 1 - (1 + 0) = weight by omega]
theorem S_branch_no {q p0 : Nat} {o : Bool} (hz : (code.getD (q + code.getD q 0) 0 == 0) = false) (hg : weight < 1000) :
    (S code text lim st ls pc pos handed out (fBranch q p0 o :: frames) (weight + 1) (some false) seen).step =
      S code text lim st ls (q + code.getD q 0 + 1) p0 p0 o (fBranch (q + code.getD q 0) p0 o :: frames) (weight + 1) none seen := by
  rw [step_back rfl rfl rfl]
  show M.alternative (S code text lim st ls q p0 handed o frames (weight + 1 - (1 + 0)) none seen) (q + code.getD q 0) K0 = _
  rw [show weight + 1 - (1 + 0) = weight by omega]
  unfold M.alternative
  show (if (code.getD (q + code.getD q 0) 0 == 0) = true then _ else _) = _
  rw [hz]
  simp only [Bool.false_eq_true, if_false]
  unfold M.attempt
  show (if weight + 1 + 0 > 16777216 then _ else _) = _
  rw [if_neg (by omega)]
  rfl
theorem S_not_no {q p0 : Nat} {o : Bool} : (S code text lim st ls pc pos handed out (fNot q p0 o :: frames) (weight + 1) (some false) seen).step = S code text lim st ls (q + 1 + code.getD (q + 1) 0) p0 handed o frames weight none seen := by
  rw [step_back rfl rfl rfl]
  show S code text lim st ls (q + 1 + code.getD (q + 1) 0) p0 handed o frames (weight + 1 - (1 + 0)) none seen = _
  rw [show weight + 1 - (1 + 0) = weight by omega]
end

section
variable {text : Array Nat} {lim s ls h : Nat} {out : Bool} {seen : Sre.Seen} {st : Nat}
/-- ahead of an attempt of the second pattern at s -/
def m2 (text : Array Nat) (lim s ls : Nat) (out : Bool) (h : Nat) (seen : Sre.Seen) : M := S code2 text lim s ls 10 s h out [fStart 10 s out] 1 none seen

theorem m2_lf (hs : s < lim) (hc : text.getD s 0 = 10) :
    ∃ m, Goes 20 (m2 text lim s ls out h seen) m ∧ m.outcome = some .matched ∧ m.start = s ∧ m.handed = s + 1 := by
  refine ⟨?m, Goes.mono (k := 9) ?g (by omega), ?h⟩
  case g =>
    refine Goes.step rfl (S_branch (by decide) rfl rfl (by omega)) ?_
    refine Goes.step rfl (S_lit_no (by decide) rfl (.inr (by show text.getD s 0 ≠ 13; omega))) ?_
    refine Goes.step rfl (S_branch_no rfl (by omega)) ?_
    refine Goes.step rfl (S_lit (by decide) rfl hs hc) ?_
    refine Goes.step rfl (S_jump (by decide) rfl) ?_
    refine Goes.step rfl (S_success (by decide) rfl) ?_
    refine Goes.step rfl S_branch_yes ?_
    refine Goes.step rfl S_start_yes ?_
    refine Goes.step rfl S_end ?_
    exact Goes.refl _
  case h => exact ⟨rfl, rfl, rfl⟩
theorem m2_crlf (hs : s < lim) (hc : text.getD s 0 = 13) (hs1 : s + 1 < lim) (hc1 : text.getD (s + 1) 0 = 10) :
    ∃ m, Goes 20 (m2 text lim s ls out h seen) m ∧ m.outcome = some .matched ∧ m.start = s ∧ m.handed = s + 2 := by
  refine ⟨?m, Goes.mono (k := 8) ?g (by omega), ?h⟩
  case g =>
    refine Goes.step rfl (S_branch (by decide) rfl rfl (by omega)) ?_
    refine Goes.step rfl (S_lit (by decide) rfl hs hc) ?_
    refine Goes.step rfl (S_lit (by decide) rfl hs1 hc1) ?_
    refine Goes.step rfl (S_jump (by decide) rfl) ?_
    refine Goes.step rfl (S_success (by decide) rfl) ?_
    refine Goes.step rfl S_branch_yes ?_
    refine Goes.step rfl S_start_yes ?_
    refine Goes.step rfl S_end ?_
    exact Goes.refl _
  case h => exact ⟨rfl, rfl, rfl⟩
theorem m2_cr (hs : s < lim) (hc : text.getD s 0 = 13) (hn : lim ≤ s + 1 ∨ text.getD (s + 1) 0 ≠ 10) :
    ∃ m, Goes 20 (m2 text lim s ls out h seen) m ∧ m.outcome = some .matched ∧ m.start = s ∧ m.handed = s + 1 := by
  refine ⟨?m, Goes.mono (k := 15) ?g (by omega), ?h⟩
  case g =>
    refine Goes.step rfl (S_branch (by decide) rfl rfl (by omega)) ?_
    refine Goes.step rfl (S_lit (by decide) rfl hs hc) ?_
    refine Goes.step rfl (S_lit_no (by decide) rfl hn) ?_
    refine Goes.step rfl (S_branch_no rfl (by omega)) ?_
    refine Goes.step rfl (S_lit_no (by decide) rfl (.inr (by show text.getD s 0 ≠ 10; omega))) ?_
    refine Goes.step rfl (S_branch_no rfl (by omega)) ?_
    refine Goes.step rfl (S_lit (by decide) rfl hs hc) ?_
    refine Goes.step rfl (S_assertNot (by decide) rfl rfl (by omega)) ?_
    refine Goes.step rfl (S_lit_no (by decide) rfl hn) ?_
    refine Goes.step rfl S_not_no ?_
    refine Goes.step rfl (S_jump (by decide) rfl) ?_
    refine Goes.step rfl (S_success (by decide) rfl) ?_
    refine Goes.step rfl S_branch_yes ?_
    refine Goes.step rfl S_start_yes ?_
    refine Goes.step rfl S_end ?_
    exact Goes.refl _
  case h => exact ⟨rfl, rfl, rfl⟩

abbrev is2 (c : Nat) : Prop := c = 10 ∨ c = 13

theorem inSet2_yes {c : Nat} {seen : Sre.Seen} (h : is2 c) : ∃ seen', inSet code2 c 36 5 true seen = .ok (true, seen') := by
  rcases h with rfl | rfl
  · exact ⟨_, rfl⟩
  · exact ⟨_, rfl⟩
theorem inSet2_no {c : Nat} {seen : Sre.Seen} (h : ¬ is2 c) : ∃ seen', inSet code2 c 36 5 true seen = .ok (false, seen') := by
  unfold is2 at h
  have h1 : (c == 10) = false := by simp; omega
  have h2 : (c == 13) = false := by simp; omega
  refine ⟨((seen.add 16).add 16).add 0, ?_⟩
  show (if (c == 10) = true then _ else (if (c == 13) = true then _ else _)) = _
  rw [h1, h2]
  rfl
theorem admitted_some (m : M) (hm : m.code = code2) (k : Nat) : ∀ (fuel p : Nat) (seen : Sre.Seen), p + k < m.lim → k < fuel → (∀ i, p ≤ i → i < p + k → ¬ is2 (m.text.getD i 0)) → is2 (m.text.getD (p + k) 0) →
    ∃ seen', m.admitted fuel p seen = .ok (some (p + k), seen') := by
  induction k with
  | zero =>
    intro fuel p seen hl hf _ hy
    obtain ⟨fuel, rfl⟩ : ∃ f, fuel = f + 1 := ⟨fuel - 1, by omega⟩
    obtain ⟨seen', e⟩ := inSet2_yes (seen := seen) hy
    refine ⟨seen', ?_⟩
    unfold M.admitted
    rw [if_neg (by omega), hm]
    have e' : inSet code2 (m.text.getD p 0) code2.size 5 true seen = .ok (true, seen') := e
    rw [e']
    rfl
  | succ k ih =>
    intro fuel p seen hl hf hn hy
    obtain ⟨fuel, rfl⟩ : ∃ f, fuel = f + 1 := ⟨fuel - 1, by omega⟩
    obtain ⟨seen', e⟩ := inSet2_no (seen := seen) (hn p (Nat.le_refl _) (by omega))
    have e' : inSet code2 (m.text.getD p 0) code2.size 5 true seen = .ok (false, seen') := e
    obtain ⟨s2, r⟩ := ih fuel (p + 1) seen' (by omega) (by omega) (fun i h1 h2 => hn i (by omega) (by omega)) (by rw [show p + 1 + k = p + (k + 1) by omega]; exact hy)
    refine ⟨s2, ?_⟩
    unfold M.admitted
    rw [if_neg (by omega), hm, e']
    show m.admitted fuel (p + 1) seen' = _
    rw [r]
    rw [show p + 1 + k = p + (k + 1) by omega]
theorem admitted_none (m : M) (hm : m.code = code2) : ∀ (fuel p : Nat) (seen : Sre.Seen), (∀ i, p ≤ i → i < m.lim → ¬ is2 (m.text.getD i 0)) →
    ∃ seen', m.admitted fuel p seen = .ok (none, seen') := by
  intro fuel
  induction fuel with
  | zero => intro p seen _; exact ⟨_, rfl⟩
  | succ fuel ih =>
    intro p seen hn
    by_cases hp : p ≥ m.lim
    · refine ⟨seen, ?_⟩
      unfold M.admitted
      rw [if_pos hp]
    · obtain ⟨seen', e⟩ := inSet2_no (seen := seen) (hn p (Nat.le_refl _) (by omega))
      have e' : inSet code2 (m.text.getD p 0) code2.size 5 true seen = .ok (false, seen') := e
      obtain ⟨s2, r⟩ := ih (p + 1) seen' (fun i h1 h2 => hn i (by omega) h2)
      refine ⟨s2, ?_⟩
      unfold M.admitted
      rw [if_neg hp, hm, e']
      exact r
/-- how long the second pattern's match at s is -/
def len2 (text : Array Nat) (lim s : Nat) : Nat := if text.getD s 0 = 13 ∧ s + 1 < lim ∧ text.getD (s + 1) 0 = 10 then 2 else 1

abbrev seen0 : Sre.Seen := ({} : Sre.Seen).add 14
abbrev b2 (text : Array Nat) (lim p : Nat) : M := S code2 text lim p lim 10 p p true [] 0 none seen0
theorem fs2 {p lim : Nat} : forSearch code2 text 0 p lim false =
    if (decide (p > lim) || decide (lim - p < 1)) = true then S code2 text lim p 0 10 p p true [] 0 (some false) seen0 else M.attemptFrom (b2 text lim p) p true := rfl
theorem af2 {p lim : Nat} : M.attemptFrom (b2 text lim p) p true = match M.admitted (b2 text lim p) (lim + 1 - p) p seen0 with
    | .ok (some s, seen) => ({ (b2 text lim p) with mustAdvance := false, seen := seen } : M).attemptAt s true
    | .ok (none, seen) => ({ (b2 text lim p) with seen := seen } : M).say false
    | .error why => (b2 text lim p).stick why := by
  unfold M.attemptFrom
  have e : (b2 text lim p).hasFirstSet = true := rfl
  rw [e]
  rfl
theorem search2_some {p s lim : Nat} (hp : p ≤ s) (hs : s < lim) (hn : ∀ i, p ≤ i → i < s → ¬ is2 (text.getD i 0)) (hy : is2 (text.getD s 0)) :
    ∃ m, Goes 20 (forSearch code2 text 0 p lim false) m ∧ m.outcome = some .matched ∧ m.start = s ∧ m.handed = s + len2 text lim s := by
  obtain ⟨k, rfl⟩ : ∃ k, s = p + k := ⟨s - p, by omega⟩
  have h0 : ∃ seen', forSearch code2 text 0 p lim false = m2 text lim (p + k) lim true (p + k) seen' := by
    rw [fs2, if_neg (by simp; omega), af2]
    obtain ⟨s1, e⟩ := admitted_some (b2 text lim p) rfl k (lim + 1 - p) p seen0 hs (by omega) hn hy
    rw [e]
    exact ⟨s1, rfl⟩
  obtain ⟨seen', e⟩ := h0
  rw [e]
  by_cases h13 : text.getD (p + k) 0 = 13
  · by_cases h2 : p + k + 1 < lim ∧ text.getD (p + k + 1) 0 = 10
    · have := m2_crlf (text := text) (ls := lim) (out := true) (h := p + k) (seen := seen') hs h13 h2.1 h2.2
      rw [show len2 text lim (p + k) = 2 from if_pos ⟨h13, h2⟩]
      exact this
    · have := m2_cr (text := text) (ls := lim) (out := true) (h := p + k) (seen := seen') hs h13 (by omega)
      rw [show len2 text lim (p + k) = 1 from if_neg (fun q => h2 q.2)]
      exact this
  · have h10 : text.getD (p + k) 0 = 10 := hy.resolve_right h13
    have := m2_lf (text := text) (ls := lim) (out := true) (h := p + k) (seen := seen') hs h10
    rw [show len2 text lim (p + k) = 1 from if_neg (fun q => h13 q.1)]
    exact this
theorem search2_none {p lim : Nat} (hn : ∀ i, p ≤ i → i < lim → ¬ is2 (text.getD i 0)) :
    ∃ m, Goes 20 (forSearch code2 text 0 p lim false) m ∧ m.outcome = some .failed := by
  have h0 : ∃ m0 : M, forSearch code2 text 0 p lim false = m0 ∧ m0.outcome = none ∧ m0.answer = some false ∧ m0.frames = [] := by
    rw [fs2]
    by_cases hc : (decide (p > lim) || decide (lim - p < 1)) = true
    · rw [if_pos hc]; exact ⟨_, rfl, rfl, rfl, rfl⟩
    · rw [if_neg hc, af2]
      obtain ⟨s1, e⟩ := admitted_none (b2 text lim p) rfl (lim + 1 - p) p seen0 hn
      rw [e]
      exact ⟨_, rfl, rfl, rfl, rfl⟩
  obtain ⟨m0, e, h1, h2, h3⟩ := h0
  rw [e]
  exact ⟨_, Goes.mono (Goes.step h1 (step_end h1 h2 h3) (Goes.refl _)) (by omega), rfl⟩

/-! the first pattern: a dot at a row's head -/
abbrev is1 (text : Array Nat) (i : Nat) : Prop := (i = 0 ∨ text.getD (i - 1) 0 = 10) ∧ text.getD i 0 = 46
def m1 (text : Array Nat) (lim s : Nat) (out : Bool) (h : Nat) (seen : Sre.Seen) : M := S code1 text lim s lim 5 s h out [fStart 5 s out] 1 none seen
theorem m1_yes (hs : s < lim) (hc : is1 text s) :
    ∃ m, Goes 5 (m1 text lim s out h seen) m ∧ m.outcome = some .matched ∧ m.start = s ∧ m.handed = s + 1 := by
  refine ⟨?m, Goes.mono (k := 5) ?g (by omega), ?h⟩
  case g =>
    refine Goes.step rfl (S_at (by decide) rfl rfl hc.1) ?_
    refine Goes.step rfl (S_lit (by decide) rfl hs hc.2) ?_
    refine Goes.step rfl (S_success (by decide) rfl) ?_
    refine Goes.step rfl S_start_yes ?_
    refine Goes.step rfl S_end ?_
    exact Goes.refl _
  case h => exact ⟨rfl, rfl, rfl⟩
theorem m1_fails (hc : lim ≤ s ∨ ¬ is1 text s) : ∃ pc pos seen', Goes 2 (m1 text lim s out h seen) (S code1 text lim s lim pc pos h out [fStart 5 s out] 1 (some false) seen') := by
  by_cases ha : s = 0 ∨ text.getD (s - 1) 0 = 10
  · exact ⟨_, _, _, Goes.step rfl (S_at (by decide) rfl rfl ha) (Goes.step rfl (S_lit_no (by decide) rfl (hc.imp id fun q e => q ⟨ha, e⟩)) (Goes.refl _))⟩
  · exact ⟨_, _, _, Goes.mono (Goes.step rfl (S_at_no (by decide) rfl rfl ha) (Goes.refl _)) (by omega)⟩
theorem m1_next {pc pos : Nat} (hs : s < lim) : (S code1 text lim s lim pc pos h out [fStart 5 s out] 1 (some false) seen).step = m1 text lim (s + 1) false (s + 1) seen := by
  rw [step_back rfl rfl rfl]
  show (if s < lim then _ else _) = _
  rw [if_pos hs]
  rfl
theorem m1_last {pc pos : Nat} (hs : lim ≤ s) : (S code1 text lim s lim pc pos h out [fStart 5 s out] 1 (some false) seen).step = S code1 text lim s lim 5 s h out [] 0 (some false) seen := by
  rw [step_back rfl rfl rfl]
  show (if s < lim then _ else _) = _
  rw [if_neg (by omega)]
  rfl
theorem m1_some (k : Nat) : ∀ {p h : Nat} {out : Bool} {seen : Sre.Seen}, p + k < lim → (∀ i, p ≤ i → i < p + k → ¬ is1 text i) → is1 text (p + k) →
    ∃ m, Goes (3 * k + 5) (m1 text lim p out h seen) m ∧ m.outcome = some .matched ∧ m.start = p + k ∧ m.handed = p + k + 1 := by
  induction k with
  | zero => intro p h out seen hl _ hy; exact m1_yes hl hy
  | succ k ih =>
    intro p h out seen hl hn hy
    obtain ⟨pc, pos, s1, g1⟩ := m1_fails (h := h) (out := out) (seen := seen) (lim := lim) (.inr (hn p (Nat.le_refl _) (by omega)))
    obtain ⟨m, g2, r⟩ := ih (p := p + 1) (h := p + 1) (out := false) (seen := s1) (by omega) (fun i h1 h2 => hn i (by omega) (by omega)) (by rw [show p + 1 + k = p + (k + 1) by omega]; exact hy)
    rw [show p + (k + 1) = p + 1 + k by omega]
    exact ⟨m, Goes.mono (Goes.trans g1 (Goes.step rfl (m1_next (by omega)) g2)) (by omega), r⟩
theorem m1_none (k : Nat) : ∀ {p h : Nat} {out : Bool} {seen : Sre.Seen}, p + k = lim → (∀ i, p ≤ i → i < lim → ¬ is1 text i) →
    ∃ m, Goes (3 * k + 5) (m1 text lim p out h seen) m ∧ m.outcome = some .failed := by
  induction k with
  | zero =>
    intro p h out seen hl _
    obtain ⟨pc, pos, s1, g1⟩ := m1_fails (text := text) (s := p) (h := h) (out := out) (seen := seen) (lim := lim) (.inl (by omega))
    exact ⟨_, Goes.mono (Goes.trans g1 (Goes.step rfl (m1_last (by omega)) (Goes.step rfl S_end (Goes.refl _)))) (by omega), rfl⟩
  | succ k ih =>
    intro p h out seen hl hn
    obtain ⟨pc, pos, s1, g1⟩ := m1_fails (h := h) (out := out) (seen := seen) (lim := lim) (.inr (hn p (Nat.le_refl _) (by omega)))
    obtain ⟨m, g2, r⟩ := ih (p := p + 1) (h := p + 1) (out := false) (seen := s1) (by omega) (fun i h1 h2 => hn i (by omega) h2)
    exact ⟨m, Goes.mono (Goes.trans g1 (Goes.step rfl (m1_next (by omega)) g2)) (by omega), r⟩
theorem fs1 {p lim : Nat} : forSearch code1 text 0 p lim false =
    if (decide (p > lim) || decide (lim - p < 1)) = true then S code1 text lim p 0 5 p p true [] 0 (some false) seen0 else m1 text lim p true p seen0 := rfl
theorem search1_some {p s lim : Nat} (hp : p ≤ s) (hs : s < lim) (hn : ∀ i, p ≤ i → i < s → ¬ is1 text i) (hy : is1 text s) :
    ∃ m, Goes (3 * lim + 5) (forSearch code1 text 0 p lim false) m ∧ m.outcome = some .matched ∧ m.start = s ∧ m.handed = s + 1 := by
  obtain ⟨k, rfl⟩ : ∃ k, s = p + k := ⟨s - p, by omega⟩
  rw [fs1, if_neg (by simp; omega)]
  obtain ⟨m, g, r⟩ := m1_some k (h := p) (out := true) (seen := seen0) hs hn hy
  exact ⟨m, g.mono (by omega), r⟩
theorem search1_none {p lim : Nat} (hn : ∀ i, p ≤ i → i < lim → ¬ is1 text i) :
    ∃ m, Goes (3 * lim + 5) (forSearch code1 text 0 p lim false) m ∧ m.outcome = some .failed := by
  rw [fs1]
  by_cases hc : (decide (p > lim) || decide (lim - p < 1)) = true
  · rw [if_pos hc]
    exact ⟨_, Goes.mono (Goes.step rfl S_end (Goes.refl _)) (by omega), rfl⟩
  · rw [if_neg hc]
    have hc' : p ≤ lim := by simp at hc; omega
    obtain ⟨m, g, r⟩ := m1_none (lim - p) (text := text) (p := p) (h := p) (out := true) (seen := seen0) (by omega) hn
    exact ⟨m, g.mono (by omega), r⟩
end
end Mine
end
-- part Re2
section
open PySem PySem.W PyProof.Rows
set_option Elab.async false
set_option maxRecDepth 100000
set_option maxHeartbeats 400000
set_option linter.unusedVariables false
namespace Mine
open PySem.Builtin PySem.Builtin.Re

section
variable {M : Model} {A : Around} {E : Value → Shared → Prop} {s : Shared}
theorem drive_any {Q : Sre.M → Shared → Prop} : ∀ (turns n : Nat) (m m' : Sre.M), n ≤ 4 * turns → 0 < turns → Sre.M.runFor n m = m' → m'.outcome.isSome = true → Q m' s → wpAny M A (reDrive turns m) Q E s := by
  intro turns
  induction turns with
  | zero => intro n m m' _ h; exact absurd h (Nat.lt_irrefl _)
  | succ turns ih =>
    intro n m m' hn _ he ho hq
    have hst : ∀ k, n ≤ k → Sre.M.runFor k m = m' := fun k hk => by
      obtain ⟨j, rfl⟩ : ∃ j, k = n + j := ⟨k - n, by omega⟩
      rw [runFor_add, he, runFor_done ho]
    show wpAny M A (if (Sre.M.runFor 4 m).outcome.isSome = true then pure (Sre.M.runFor 4 m) else do rule "sre.turn"; reDrive turns (Sre.M.runFor 4 m)) Q E s
    by_cases h4 : n ≤ 4
    · rw [hst 4 h4, if_pos ho]
      exact wpAny_pure hq
    · by_cases hb : (Sre.M.runFor 4 m).outcome.isSome = true
      · rw [if_pos hb]
        have : Sre.M.runFor 4 m = m' := by
          rw [← he, show n = 4 + (n - 4) by omega, runFor_add, runFor_done hb]
        rw [this]; exact wpAny_pure hq
      · rw [if_neg hb]
        refine wpAny_bind (wpAny_rule ?_)
        exact ih (n - 4) _ m' (by omega) (by omega) (by rw [← he, ← runFor_add]; congr 1; omega) ho hq
theorem rules_any (has : Nat → Bool) {Q : PUnit → Shared → Prop} (h : Q ⟨⟩ s) : ∀ l : List Nat,
    wpAny M A (forIn l PUnit.unit fun i _ => if has i = true then (do rule (Sre.names.getD i ""); pure (ForInStep.yield PUnit.unit)) else pure (ForInStep.yield PUnit.unit)) Q E s
  | [] => by rw [List.forIn_nil]; exact wpAny_pure h
  | i :: l => by
    rw [List.forIn_cons]
    refine wpAny_bind ?_
    by_cases hb : has i = true
    · rw [if_pos hb]
      exact wpAny_bind (wpAny_rule (wpAny_pure (rules_any has h l)))
    · rw [if_neg hb]
      exact wpAny_pure (rules_any has h l)
theorem runToEnd_some {k : Nat} {m m' : Sre.M} {Q : Option Sre.M → Shared → Prop} (hk : k ≤ 2 ^ 60) (g : Goes k m m') (ho : m'.outcome = some .matched) (hq : Q (some m') s) : wpAny M A (reRunToEnd m) Q E s := by
  obtain ⟨n, hn, e⟩ := g
  unfold reRunToEnd
  refine wpAny_bind (drive_any (2 ^ 64) n m m' (by omega) (by omega) e (by rw [ho]; rfl) ?_)
  refine wpAny_bind (rules_any _ ?_ _)
  rw [ho]
  exact wpAny_pure hq
theorem runToEnd_none {k : Nat} {m m' : Sre.M} {Q : Option Sre.M → Shared → Prop} (hk : k ≤ 2 ^ 60) (g : Goes k m m') (ho : m'.outcome = some .failed) (hq : Q none s) : wpAny M A (reRunToEnd m) Q E s := by
  obtain ⟨n, hn, e⟩ := g
  unfold reRunToEnd
  refine wpAny_bind (drive_any (2 ^ 64) n m m' (by omega) (by omega) e (by rw [ho]; rfl) ?_)
  refine wpAny_bind (rules_any _ ?_ _)
  rw [ho]
  exact wpAny_pure hq
end

/-- what a substitution by a literal gives from p on -/
inductive Sub (code text : Array Nat) (repl : List Nat) : Nat → List Nat → Prop
  | stop {p : Nat} : p ≤ text.size → (∃ m, Goes (3 * text.size + 20) (Sre.forSearch code text 0 p text.size false) m ∧ m.outcome = some .failed) → Sub code text repl p (text.toList.drop p)
  | next {p a b : Nat} {out : List Nat} : p ≤ a → a < b → b ≤ text.size → (∃ m, Goes (3 * text.size + 20) (Sre.forSearch code text 0 p text.size false) m ∧ m.outcome = some .matched ∧ m.start = a ∧ m.handed = b) →
      Sub code text repl b out → Sub code text repl p ((text.toList.drop p).take (a - p) ++ repl ++ out)

theorem entry_sub : entryFor table "re.Pattern.sub" = some Builtin.«re.Pattern.sub» := entryFor_of_tree (by kernel_rfl)
theorem entry_loop : entryFor table "re.Pattern.sub.loop" = some Builtin.«re.Pattern.sub.loop» := entryFor_of_tree (by kernel_rfl)
theorem slot_sub : Slot "re.Pattern" "sub" "re.Pattern.sub" :=
  .of (owner := "re.Pattern") (n := "sub") (by rw [typeLookup_type, builtinLookup_eq_fast]; kernel_rfl) (by decide +kernel) (by decide +kernel) (by decide +kernel)
    (by first | exact .inl (by decide +kernel) | exact .inr (by decide +kernel)) (by rw [isSubtype_type]; kernel_rfl)
theorem type_sub : typeOf (.builtin "re.Pattern.sub") = pure (.type "method_descriptor") := by show builtinType _ = _; rw [builtinType_eq_fast]; kernel_rfl
theorem args_sub (a b c : Value) : argsOk "re.Pattern.sub" ⟨[a, b, c], []⟩ := by unfold argsOk; kernel_rfl
theorem plain_loop : plainId "re.Pattern.sub.loop" = true := by decide +kernel
theorem pattern_attrs : PlainAttrs "re.Pattern" :=
  ⟨⟨"object.__getattribute__", by rw [typeLookup_type, builtinLookup_eq_fast]; kernel_rfl, by decide +kernel⟩, by rw [typeLookup_type, builtinLookup_eq_fast]; kernel_rfl⟩
theorem str_no_call : typeLookup (.type "str") "__call__" = pure none := by rw [typeLookup_type, builtinLookup_eq_fast]; kernel_rfl

structure PatAt (h : Heap) (P : Addr) (code : Array Nat) : Prop where
  it : ∃ oP fs C oC items ep, h.get? P = some oP ∧ oP.cls = .type "re.Pattern" ∧ oP.dict = none ∧ oP.data = .fields fs ∧ reRawNat (fs.getD 6 .none) = 0 ∧ fs.getD 5 .none = .ref C ∧ reRawNat (fs.getD 2 .none) = 0 ∧
    h.get? C = some oC ∧ oC.data = .seq items ep ∧ (items.map reRawOf).map (·.toNat) = code
theorem PatAt.keeps {h h' : Heap} {P : Addr} {code : Array Nat} (X : PatAt h P code) (k : ∀ b o, h.get? b = some o → h'.get? b = some o) : PatAt h' P code := by
  obtain ⟨oP, fs, C, oC, items, ep, hP, a, b, hf, h6, h5, h2, hC, r⟩ := X.it
  exact ⟨oP, fs, C, oC, items, ep, k _ _ hP, a, b, hf, h6, h5, h2, k _ _ hC, r⟩
section
variable {M : Model} {A : Around} {E : Value → Shared → Prop} {s : Shared}
theorem whole_any {P : Addr} {code : Array Nat} {x : Str} {t : Tok} {Q : ReTarget → Shared → Prop} (X : PatAt s.heap P code)
    (h : Q { pattern := .ref P, string := .str x t, code, text := x.cps, kind := 0, groups := 0, pos := 0, lim := x.cps.size } s) :
    wpAny M A (reWholeTarget (.ref P) (.str x t)) Q E s := by
  obtain ⟨oP, fs, C, oC, items, ep, hP, _, _, hf, h6, h5, h2, hC, hd, hc⟩ := X.it
  unfold reWholeTarget
  refine wpAny_bind ?_
  unfold fieldsOf
  refine wpAny_bind (wpAny_load hP ?_)
  rw [hf]
  refine wpAny_pure ?_
  refine wpAny_bind (wpAny_pure ?_)
  show wpAny M A (if (reRawNat (fs.getD 6 .none) == 0 && (0 : Nat) == 1) = true then _ else _) Q E s
  rw [h6]
  show wpAny M A (reNoCollectionInside (.str x t) 0 >>= _) Q E s
  refine wpAny_bind (wpAny_pure ?_)
  refine wpAny_bind ?_
  rw [h5]
  unfold reRawItems
  refine wpAny_bind ?_
  refine wpAny_seqItems hC hd ?_
  refine wpAny_pure ?_
  show wpAny M A (pure _) Q E s
  refine wpAny_pure ?_
  rw [h2]
  show Q { pattern := .ref P, string := .str x t, code := (items.map reRawOf).map (·.toNat), text := x.cps, kind := 0, groups := 0, pos := 0, lim := x.cps.size } s
  rw [hc]
  exact h
end

/-- the signs of all pieces, one behind the other -/
def cat (acc : List (Str × Tok)) : List Nat := acc.flatMap fun p => p.1.cps.toList
theorem cat_append (a b : List (Str × Tok)) : cat (a ++ b) = cat a ++ cat b := by simp [cat]
theorem join_empty : ∀ (l : List (Str × Tok)) , Str.join ⟨#[]⟩ (l.map (·.1)) = ⟨(cat l).toArray⟩
  | [] => rfl
  | [x] => by
    show x.1 = _
    cases x with | mk x t => cases x; simp [cat]
  | x :: y :: r => by
    have ih := join_empty (y :: r)
    show x.1 ++ ⟨#[]⟩ ++ Str.join ⟨#[]⟩ ((y :: r).map (·.1)) = _
    rw [ih]
    show Str.append (Str.append x.1 ⟨#[]⟩) _ = _
    unfold Str.append
    simp only [Str.mk.injEq]
    apply Array.ext'
    simp [cat]
theorem cat_length (l : List (Str × Tok)) : (cat l).length = ((l.map (·.1)).map (·.length)).sum := by
  induction l with
  | nil => rfl
  | cons x r ih =>
    show ((x.1.cps.toList ++ cat r)).length = _
    rw [List.length_append, ih]
    simp [Str.length]
theorem quiet_loop (args : Args) : (Code.builtin "re.Pattern.sub.loop" args).quiet = true := plainId_quiet plain_loop args
theorem extract_list (text : Array Nat) (a b : Nat) : (text.extract a b).toList = (text.toList.drop a).take (b - a) := by simp

section
variable {prog : Program} {w : World} {A : Around} {R : Result → Shared → Prop} {g : Heap} {P l : Addr} {code : Array Nat} {x r : Str} {t tr : Tok}
abbrev subArgs (P : Addr) (x : Str) (t : Tok) (r : Str) (tr : Tok) (n : Int) (p : Nat) (l : Addr) : Args :=
  ⟨[.ref P, .str x t, .str r tr, rawInt 0, rawInt 0, rawInt n, rawInt p, rawInt p, .bool false, .ref l, .bool false], []⟩
abbrev lst (acc : List (Str × Tok)) (ep : Nat) : Obj := { cls := .type "list", data := .seq (strValues acc).toArray ep }

/-- a piece onto the list -/
theorem push_any {M : Model} {A : Around} {E : Value → Shared → Prop} {s : Shared} {acc : List (Str × Tok)} {ep : Nat} {y : Str} {ty : Tok} {Q : Unit → Shared → Prop} (hl : s.heap.get? l = some (lst acc ep)) (hz : acc.length ≤ 4194304)
    (h : ∀ h' ep', h'.get? l = some (lst (acc ++ [(y, ty)]) ep') → (∀ b o, b ≠ l → s.heap.get? b = some o → h'.get? b = some o) → Q () { s with heap := h' }) :
    wpAny M A (updateSeq l fun xs => xs.push (.str y ty)) Q E s := by
  have e24 : sizeLine = 16777216 := by decide
  have hs : (strValues acc).toArray.size = acc.length := by simp [strValues]
  refine wpAny_updateSeq hl rfl (h _ (if (strValues acc).toArray.size + 1 == (strValues acc).toArray.size then ep else ep + 1) ?_ ?_) (by rw [hs]; omega) (by rw [Array.size_push, hs]; omega)
  · refine (Heap.get?_update_self _ hl rfl).trans ?_
    congr 1
    show Obj.mk _ _ (Data.seq ((strValues acc).toArray.push (.str y ty)) (if ((strValues acc).toArray.push (.str y ty)).size == (strValues acc).toArray.size then ep else ep + 1)) _ = _
    have e1 : (strValues acc).toArray.push (.str y ty) = (strValues (acc ++ [(y, ty)])).toArray := by simp [strValues]
    rw [Array.size_push, e1]
  · intro b o hb ho
    exact (Heap.get?_update_other _ _ (fun q : l = b => hb q.symm)).trans ho

theorem slice_any {M : Model} {A : Around} {E : Value → Shared → Prop} {s : Shared} {text : Array Nat} {a b : Nat} {Q : Value → Shared → Prop} (hz : text.size ≤ 4194304) (h : Q (.str ⟨text.extract a b⟩ s.toks) { s with toks := s.toks + 1 }) : wpAny M A (reSlice text 0 a b) Q E s := by
  have e24 : sizeLine = 16777216 := by decide
  show wpAny M A (mkStr ⟨text.extract a b⟩) Q E s
  refine wpAny_mkStr h ?_
  show (text.extract a b).size ≤ _
  simp
  omega

theorem sub_loop (X : PatAt g P code) (hgl : g.get? l = none) (hx : x.cps.size ≤ 100000) {p : Nat} {out : List Nat} (S : Sub code x.cps r.cps.toList p out) :
    ∀ (s : Shared) (n : Int) (acc : List (Str × Tok)) (ep : Nat), (∀ b o, g.get? b = some o → s.heap.get? b = some o) → s.heap.get? l = some (lst acc ep) →
    acc.length + 2 * (x.cps.size - p) ≤ 300000 → (cat acc).length + out.length ≤ 300000 →
    (∀ h' u tk, (∀ b o, b ≠ l → s.heap.get? b = some o → h'.get? b = some o) → R (.ok (.ret (.str ⟨(cat acc ++ out).toArray⟩ u))) { s with heap := h', toks := tk }) →
    codeAny (model prog w) A (.builtin "re.Pattern.sub.loop" (subArgs P x t r tr n p l)) R s := by
  induction S with
  | @stop p hp hm =>
    intro s n acc ep hk hl hz1 hz2 hR
    obtain ⟨m, g1, ho⟩ := hm
    refine codeAny_builtin entry_loop ?_
    show wpAny _ _ («re.Pattern.sub.loop» _) _ _ s
    unfold «re.Pattern.sub.loop»
    dsimp only [rawInt]
    refine wpAny_bind (whole_any (X.keeps hk) ?_)
    rw [if_pos (by rfl)]
    refine wpAny_bind (wpAny_pure ?_)
    refine wpAny_bind ?_
    rw [if_neg (by simp)]
    unfold reNextFound
    have e0 : ((p : Int)).toNat = p := by simp
    rw [e0]
    refine runToEnd_none (by omega) g1 ho ?_
    dsimp only
    -- the rest of the text
    have rest : ∀ (s₁ : Shared) (acc₁ : List (Str × Tok)) (ep₁ : Nat), s₁.heap.get? l = some (lst acc₁ ep₁) → cat acc₁ = cat acc ++ List.drop p x.cps.toList → acc₁.length ≤ 300001 →
        (∀ u tk, R (.ok (.ret (.str ⟨(cat acc ++ List.drop p x.cps.toList).toArray⟩ u))) { s₁ with toks := tk }) →
        wpAny (model prog w) (A.under (.builtin "re.Pattern.sub.loop" (subArgs P x t r tr n p l))) (do
          let joiner ← reSlice x.cps 0 0 0
          let __do_lift ← seqItems? (.ref l)
          if (__do_lift.getD #[]).isEmpty = true then do
              let text ← pure joiner
              if false = true then do
                  let __do_lift ← holding [text] do
                      let __do_lift ← mkInt n
                      newTuple [text, __do_lift]
                  ret __do_lift
                else ret text
            else do
              let text ← call (Value.builtin (if ((0 : Nat) == 0) = true then "str.join" else "bytes.join")) [joiner, .ref l]
              if false = true then do
                  let __do_lift ← holding [text] do
                      let __do_lift ← mkInt n
                      newTuple [text, __do_lift]
                  ret __do_lift
                else ret text)
          (fun fin s' => match fin with | .done f => R (.ok f) s' | .again c' => c'.quiet = true ∧ codeAny (model prog w) A c' R s') (fun e s' => R (.error e) s') s₁ := by
      intro s₁ acc₁ ep₁ hl₁ hc₁ hz₁ hR₁
      refine wpAny_bind (slice_any (by omega) ?_)
      refine wpAny_bind (wpAny_seqItems hl₁ rfl ?_)
      by_cases he : ((some (strValues acc₁).toArray).getD #[]).isEmpty = true
      · rw [if_pos he]
        refine wpAny_bind (wpAny_pure ?_)
        rw [if_neg (by simp)]
        have hn : acc₁ = [] := by
          have h2 : (strValues acc₁).toArray = #[] := by simpa using he
          simpa [strValues] using h2
        rw [hn] at hc₁
        refine wpAny_pure ?_
        have hh := hR₁ s₁.toks (s₁.toks + 1)
        rw [← hc₁] at hh
        have e1 : (x.cps.extract 0 0) = #[] := by simp
        rw [e1]
        exact hh
      · rw [if_neg he]
        refine wpAny_bind ?_
        rw [if_pos (by rfl)]
        have e1 : (x.cps.extract 0 0) = #[] := by simp
        rw [e1]
        refine SC.join (l := acc₁) ⟨_, hl₁, rfl, _, rfl⟩ rfl ?_ ?_
        · have hl2 := cat_length acc₁
          refine joinOk_of_weight ?_ (by show (0 : Nat) ≤ 16; omega)
          rw [← hl2, hc₁, List.length_map, List.length_append]
          omega
        · intro t' k
          rw [if_neg (by simp)]
          refine wpAny_pure ?_
          have hj : Txt.join ⟨#[]⟩ (acc₁.map (·.1)) = ⟨(cat acc ++ List.drop p x.cps.toList).toArray⟩ := by
            show PySem.Builtin.Str.glued _ _ = _
            rw [StrLaws.glued_eq_join, join_empty, hc₁]
          rw [hj]
          exact hR₁ t' k
    by_cases hlt : p < x.cps.size
    · rw [if_pos hlt]
      refine wpAny_bind (slice_any (by omega) ?_)
      refine wpAny_bind (push_any (acc := acc) (ep := ep) hl (by omega) fun h' ep' hl' hk' => ?_)
      refine rest _ (acc ++ [(⟨x.cps.extract p x.cps.size⟩, s.toks)]) ep' hl' ?_ (by simp; omega) fun u tk => ?_
      · rw [cat_append]
        congr 1
        simp only [cat, List.flatMap_cons, List.flatMap_nil, List.append_nil]
        rw [extract_list]
        exact List.take_of_length_le (by simp)
      · exact hR h' u tk hk'
    · rw [if_neg hlt]
      refine rest _ acc ep hl ?_ (by omega) fun u tk => ?_
      · have : List.drop p x.cps.toList = [] := by simp; omega
        rw [this, List.append_nil]
      · exact hR s.heap u tk (fun _ _ _ h => h)
  | @next p a b out hpa hab hb hm _ ih =>
    intro s n acc ep hk hl hz1 hz2 hR
    obtain ⟨m, g1, ho, hst, hhd⟩ := hm
    subst hst
    subst hhd
    have hlen : ((List.take (m.start - p) (List.drop p x.cps.toList) ++ r.cps.toList ++ out)).length = (m.start - p) + r.cps.size + out.length := by
      simp; omega
    rw [hlen] at hz2
    refine codeAny_builtin entry_loop ?_
    show wpAny _ _ («re.Pattern.sub.loop» _) _ _ s
    unfold «re.Pattern.sub.loop»
    dsimp only [rawInt]
    refine wpAny_bind (whole_any (X.keeps hk) ?_)
    rw [if_pos (by rfl)]
    refine wpAny_bind (wpAny_pure ?_)
    refine wpAny_bind ?_
    rw [if_neg (by simp)]
    unfold reNextFound
    have e0 : ((p : Int)).toNat = p := by simp
    rw [e0]
    refine runToEnd_some (by omega) g1 ho ?_
    dsimp only
    have hbe : (m.handed == m.start) = false := by simp; omega
    have fin : ∀ (s₁ : Shared) (acc₁ : List (Str × Tok)) (ep₁ : Nat), s₁.heap.get? l = some (lst acc₁ ep₁) → (∀ b o, g.get? b = some o → s₁.heap.get? b = some o) → cat acc₁ = cat acc ++ List.take (m.start - p) (List.drop p x.cps.toList) → acc₁.length ≤ acc.length + 1 →
        (∀ h' u tk, (∀ b o, b ≠ l → s₁.heap.get? b = some o → h'.get? b = some o) → R (.ok (.ret (.str ⟨(cat acc ++ (List.take (m.start - p) (List.drop p x.cps.toList) ++ r.cps.toList ++ out)).toArray⟩ u))) { s₁ with heap := h', toks := tk }) →
        wpAny (model prog w) (A.under (.builtin "re.Pattern.sub.loop" (subArgs P x t r tr n p l))) (do
          let item ← pure (Value.str r tr)
          if (item != Value.none) = true then do
              let __r ← updateSeq l fun (x : Array Value) => x.push item
              again (Code.builtin "re.Pattern.sub.loop" { pos := [.ref P, .str x t, .str r tr, rawInt 0, rawInt 0, rawInt (n + 1), rawInt ↑m.handed, rawInt ↑m.handed, Value.bool (m.handed == m.start), .ref l, Value.bool false] })
            else again (Code.builtin "re.Pattern.sub.loop" { pos := [.ref P, .str x t, .str r tr, rawInt 0, rawInt 0, rawInt (n + 1), rawInt ↑m.handed, rawInt ↑m.handed, Value.bool (m.handed == m.start), .ref l, Value.bool false] }))
          (fun fin s' => match fin with | .done f => R (.ok f) s' | .again c' => c'.quiet = true ∧ codeAny (model prog w) A c' R s') (fun e s' => R (.error e) s') s₁ := by
      intro s₁ acc₁ ep₁ hl₁ hk₁ hc₁ hz₁ hR₁
      refine wpAny_bind (wpAny_pure ?_)
      rw [if_pos (by simp)]
      refine wpAny_bind (push_any (acc := acc₁) (ep := ep₁) hl₁ (by omega) fun h' ep' hl' hk' => ?_)
      refine wpAny_pure ⟨quiet_loop _, ?_⟩
      rw [hbe]
      refine ih { s₁ with heap := h' } (n + 1) (acc₁ ++ [(r, tr)]) ep' ?_ hl' (by simp; omega) ?_ ?_
      · intro b o hb'
        exact hk' b o (fun q => by rw [q, hgl] at hb'; cases hb') (hk₁ b o hb')
      · rw [cat_append, List.length_append, hc₁, List.length_append]
        simp [cat] at hz2 ⊢
        omega
      · intro h'' u tk hk''
        have hh := hR₁ h'' u tk (fun b o hb' ho' => hk'' b o hb' (hk' b o hb' ho'))
        have e : cat (acc₁ ++ [(r, tr)]) ++ out = cat acc ++ (List.take (m.start - p) (List.drop p x.cps.toList) ++ r.cps.toList ++ out) := by
          rw [cat_append, hc₁]
          simp [cat]
        rw [e]
        exact hh
    by_cases hlt : p < m.start
    · rw [if_pos hlt]
      refine wpAny_bind (slice_any (by omega) ?_)
      refine wpAny_bind (push_any (acc := acc) (ep := ep) hl (by omega) fun h' ep' hl' hk' => ?_)
      rw [if_pos (by rfl)]
      refine fin { s with heap := h', toks := s.toks + 1 } (acc ++ [(⟨x.cps.extract p m.start⟩, s.toks)]) ep' hl' ?_ ?_ (by simp) fun h'' u tk hk'' => ?_
      · intro b o hb'
        exact hk' b o (fun q => by rw [q, hgl] at hb'; cases hb') (hk b o hb')
      · rw [cat_append]
        congr 1
        simp [cat]
      · exact hR h'' u tk (fun b o hb' ho' => hk'' b o hb' (hk' b o hb' ho'))
    · rw [if_neg hlt, if_pos (by rfl)]
      refine fin _ acc ep hl hk ?_ (by omega) hR
      have : m.start - p = 0 := by omega
      rw [this]; simp
end
end Mine
end
-- part Re3
section
open PySem PySem.W PyProof.Rows
set_option Elab.async false
set_option maxRecDepth 100000
set_option maxHeartbeats 400000
set_option linter.unusedVariables false
namespace Mine

/-- line ends of the three kinds become CRLF -/
def crlf : List Nat → List Nat
  | [] => []
  | [c] => if c = 10 ∨ c = 13 then [13, 10] else [c]
  | c :: d :: r => if c = 13 ∧ d = 10 then 13 :: 10 :: crlf r else if c = 10 ∨ c = 13 then 13 :: 10 :: crlf (d :: r) else c :: crlf (d :: r)
/-- a dot at a row's head is doubled -/
def dots : Bool → List Nat → List Nat
  | _, [] => []
  | b, c :: r => if b = true ∧ c = 46 then 46 :: 46 :: dots false r else c :: dots (c == 10) r

theorem crlf_other {c : Nat} (r : List Nat) (h : ¬ is2 c) : crlf (c :: r) = c :: crlf r := by
  unfold is2 at h
  cases r with
  | nil => simp [crlf, h]
  | cons d r => rw [crlf, if_neg (by omega), if_neg h]
theorem crlf_lf (r : List Nat) : crlf (10 :: r) = 13 :: 10 :: crlf r := by
  cases r with
  | nil => simp [crlf]
  | cons d r => rw [crlf, if_neg (by omega), if_pos (by simp)]
theorem crlf_crlf (r : List Nat) : crlf (13 :: 10 :: r) = 13 :: 10 :: crlf r := by rw [crlf, if_pos (by simp)]
theorem crlf_cr (r : List Nat) (h : r.head? ≠ some 10) : crlf (13 :: r) = 13 :: 10 :: crlf r := by
  cases r with
  | nil => simp [crlf]
  | cons d r => rw [crlf, if_neg (by simp at h; simp [h]), if_pos (by simp)]

theorem first_or (P : Nat → Prop) [DecidablePred P] (n : Nat) : ∀ k p, p + k = n → (∀ i, p ≤ i → i < n → ¬ P i) ∨ ∃ s, p ≤ s ∧ s < n ∧ P s ∧ ∀ i, p ≤ i → i < s → ¬ P i := by
  intro k
  induction k with
  | zero => intro p h; exact .inl fun i h1 h2 => absurd h2 (by omega)
  | succ k ih =>
    intro p h
    by_cases hp : P p
    · exact .inr ⟨p, Nat.le_refl _, by omega, hp, fun i h1 h2 => absurd h2 (by omega)⟩
    · rcases ih (p + 1) (by omega) with h0 | ⟨s, h1, h2, h3, h4⟩
      · refine .inl fun i hi1 hi2 => ?_
        by_cases he : i = p
        · rw [he]; exact hp
        · exact h0 i (by omega) hi2
      · refine .inr ⟨s, by omega, h2, h3, fun i hi1 hi2 => ?_⟩
        by_cases he : i = p
        · rw [he]; exact hp
        · exact h4 i (by omega) hi2

theorem drop_cons {text : Array Nat} {p : Nat} (h : p < text.size) : text.toList.drop p = text.getD p 0 :: text.toList.drop (p + 1) := by
  have e : text.toList[p]? = some (text.getD p 0) := by simp [Array.getD, h]
  have h' : p < text.toList.length := by simpa using h
  rw [List.drop_eq_getElem_cons h']
  congr 1
  simp [Array.getD, h]

theorem crlf_clean {text : Array Nat} (k : Nat) : ∀ p, p + k ≤ text.size → (∀ i, p ≤ i → i < p + k → ¬ is2 (text.getD i 0)) →
    crlf (text.toList.drop p) = (text.toList.drop p).take k ++ crlf (text.toList.drop (p + k)) := by
  induction k with
  | zero => intro p _ _; simp
  | succ k ih =>
    intro p hp hn
    rw [drop_cons (by omega), crlf_other _ (hn p (Nat.le_refl _) (by omega)), ih (p + 1) (by omega) (fun i h1 h2 => hn i (by omega) (by omega)), List.take_succ_cons,
      show p + 1 + k = p + (k + 1) by omega]
    rfl
theorem len2_cases (text : Array Nat) (lim s : Nat) : (len2 text lim s = 2 ∧ s + 1 < lim) ∨ len2 text lim s = 1 := by
  unfold len2
  by_cases h : text.getD s 0 = 13 ∧ s + 1 < lim ∧ text.getD (s + 1) 0 = 10
  · rw [if_pos h]; exact .inl ⟨rfl, h.2.1⟩
  · rw [if_neg h]; exact .inr rfl
theorem sub2 (text : Array Nat) : ∀ k p, text.size - p = k → p ≤ text.size → Sub code2 text [13, 10] p (crlf (text.toList.drop p)) := by
  intro k
  induction k using Nat.strongRecOn with
  | ind k ih =>
    intro p hk hp
    rcases first_or (fun i => is2 (text.getD i 0)) text.size (text.size - p) p (by omega) with h | ⟨s, h1, h2, h3, h4⟩
    · have e := crlf_clean (text.size - p) p (by omega) (fun i a b => h i a (by omega))
      rw [e, show p + (text.size - p) = text.size by omega]
      have e2 : text.toList.drop text.size = [] := by simp
      have e3 : (text.toList.drop p).take (text.size - p) = text.toList.drop p := List.take_of_length_le (by simp)
      rw [e2, e3, crlf, List.append_nil]
      obtain ⟨m, g, ho⟩ := search2_none (text := text) (p := p) h
      exact .stop hp ⟨m, g.mono (by omega), ho⟩
    · have e := crlf_clean (s - p) p (by omega) (fun i a b => h4 i a (by omega))
      obtain ⟨m, g, ho, hs, hh⟩ := search2_some h1 h2 h4 h3
      have hb : s + len2 text text.size s ≤ text.size := by rcases len2_cases text text.size s with q | q <;> omega
      have hl : 1 ≤ len2 text text.size s := by rcases len2_cases text text.size s with q | q <;> omega
      have e1 : crlf (text.toList.drop s) = [13, 10] ++ crlf (text.toList.drop (s + len2 text text.size s)) := by
        rw [drop_cons h2]
        by_cases h13 : text.getD s 0 = 13
        · rw [h13]
          by_cases h10 : s + 1 < text.size ∧ text.getD (s + 1) 0 = 10
          · rw [show len2 text text.size s = 2 from if_pos ⟨h13, h10⟩, drop_cons h10.1, h10.2, crlf_crlf]
            rfl
          · rw [show len2 text text.size s = 1 from if_neg (fun q => h10 q.2), crlf_cr]
            · rfl
            · by_cases hlt : s + 1 < text.size
              · rw [drop_cons hlt]
                simp
                intro q
                exact h10 ⟨hlt, by simpa [Array.getD, hlt] using q⟩
              · have : text.toList.drop (s + 1) = [] := by simp; omega
                rw [this]; simp
        · have h10 : text.getD s 0 = 10 := h3.resolve_right h13
          rw [h10, show len2 text text.size s = 1 from if_neg (fun q => h13 q.1), crlf_lf]
          rfl
      rw [e, show p + (s - p) = s by omega, e1, ← List.append_assoc]
      exact .next h1 (by omega) hb ⟨m, g.mono (by omega), ho, hs, hh⟩ (ih (text.size - (s + len2 text text.size s)) (by omega) _ rfl hb)

/-- is place i a row's head -/
def bol (text : Array Nat) (i : Nat) : Bool := i == 0 || text.getD (i - 1) 0 == 10
theorem dots_clean {text : Array Nat} (k : Nat) : ∀ p, p + k ≤ text.size → (∀ i, p ≤ i → i < p + k → ¬ is1 text i) →
    dots (bol text p) (text.toList.drop p) = (text.toList.drop p).take k ++ dots (bol text (p + k)) (text.toList.drop (p + k)) := by
  induction k with
  | zero => intro p _ _; simp
  | succ k ih =>
    intro p hp hn
    have hd := drop_cons (text := text) (p := p) (by omega)
    have hno := hn p (Nat.le_refl _) (by omega)
    have hb : bol text (p + 1) = (text.getD p 0 == 10) := by simp [bol]
    rw [hd, dots, if_neg (by intro q; apply hno; unfold is1; refine ⟨?_, q.2⟩; have := q.1; simpa [bol] using this), ← hb,
      ih (p + 1) (by omega) (fun i h1 h2 => hn i (by omega) (by omega)), List.take_succ_cons, show p + 1 + k = p + (k + 1) by omega]
    rfl
theorem sub1 (text : Array Nat) : ∀ k p, text.size - p = k → p ≤ text.size → Sub code1 text [46, 46] p (dots (bol text p) (text.toList.drop p)) := by
  intro k
  induction k using Nat.strongRecOn with
  | ind k ih =>
    intro p hk hp
    rcases first_or (fun i => is1 text i) text.size (text.size - p) p (by omega) with h | ⟨s, h1, h2, h3, h4⟩
    · have e := dots_clean (text.size - p) p (by omega) (fun i a b => h i a (by omega))
      rw [e, show p + (text.size - p) = text.size by omega]
      have e2 : text.toList.drop text.size = [] := by simp
      have e3 : (text.toList.drop p).take (text.size - p) = text.toList.drop p := List.take_of_length_le (by simp)
      rw [e2, e3, dots, List.append_nil]
      obtain ⟨m, g, ho⟩ := search1_none (text := text) (p := p) h
      exact .stop hp ⟨m, g.mono (by omega), ho⟩
    · have e := dots_clean (s - p) p (by omega) (fun i a b => h4 i a (by omega))
      obtain ⟨m, g, ho, hs, hh⟩ := search1_some h1 h2 h4 h3
      have hb1 : bol text s = true := by
        have := h3.1
        unfold bol
        simpa using this
      have hb2 : bol text (s + 1) = false := by
        have := h3.2
        unfold bol
        rw [show s + 1 - 1 = s by omega, this]
        rfl
      have e1 : dots (bol text s) (text.toList.drop s) = [46, 46] ++ dots (bol text (s + 1)) (text.toList.drop (s + 1)) := by
        rw [drop_cons h2, h3.2, dots, if_pos ⟨hb1, rfl⟩, hb2]
        rfl
      rw [e, show p + (s - p) = s by omega, e1, ← List.append_assoc]
      exact .next h1 (by omega) h2 ⟨m, g.mono (by omega), ho, hs, hh⟩ (ih (text.size - (s + 1)) (by omega) _ rfl h2)
theorem sub2_all (x : Str) : Sub code2 x.cps [13, 10] 0 (crlf x.cps.toList) := by
  have := sub2 x.cps x.cps.size 0 (by omega) (Nat.zero_le _)
  simpa using this
theorem sub1_all (x : Str) : Sub code1 x.cps [46, 46] 0 (dots true x.cps.toList) := by
  have := sub1 x.cps x.cps.size 0 (by omega) (Nat.zero_le _)
  simpa [bol] using this
theorem crlf_len : ∀ l : List Nat, (crlf l).length ≤ 2 * l.length
  | [] => by simp [crlf]
  | [c] => by unfold crlf; split <;> simp
  | c :: d :: r => by
    unfold crlf
    split
    · have := crlf_len r; simp; omega
    · split
      · have := crlf_len (d :: r); simp at this ⊢; omega
      · have := crlf_len (d :: r); simp at this ⊢; omega
theorem dots_len : ∀ (l : List Nat) (b : Bool), (dots b l).length ≤ 2 * l.length
  | [], _ => by simp [dots]
  | c :: r, b => by
    unfold dots
    split
    · have := dots_len r false; simp; omega
    · have := dots_len r (c == 10); simp; omega
end Mine
end
-- part Re4
section
open PySem PySem.W PyProof.Rows
set_option Elab.async false
set_option maxRecDepth 100000
set_option maxHeartbeats 400000
set_option linter.unusedVariables false
namespace Mine
open PySem.Builtin PySem.Builtin.Re
section
variable {prog : Program} {w : World} {A : Around} {E : Value → Shared → Prop} {s : Shared} {h₀ : Heap} {L : Addr} {m : Str → Option Value} {news : List (Addr × Obj)} {P : Addr} {code : Array Nat} {x r : Str} {t tr : Tok} {out : List Nat}

theorem named_sub (a b : Value) : reNamed "re.Pattern.sub" "sub" ["repl", "string", "count"] 2 [a, b] [] = pure [some a, some b, none] := by
  kernel_rfl

theorem call_sub {Q : Value → Shared → Prop} (X : PatAt h₀ P code) (F : Fr h₀ L s.heap m) (N : News h₀ L s.heap news) (hr : r.cps.contains 92 = false) (S : Sub code x.cps r.cps.toList 0 out)
    (hx : x.cps.size ≤ 100000) (ho : out.length ≤ 300000)
    (h : ∀ h' u tk, Fr h₀ L h' m → News h₀ L h' news → Q (.str ⟨out.toArray⟩ u) { s with heap := h', toks := tk }) :
    wpAny (model prog w) A (call (.builtin "re.Pattern.sub") [.ref P, .str r tr, .str x t]) Q E s := by
  have X' := X.keeps F.keep
  obtain ⟨oP, _, _, _, _, _, hP, hcls, _⟩ := X'.it
  refine wpAny_call (codeAny_call_builtin slot_sub.plain entry_sub (slot_sub.check _ _ _ _ _ _ _ _ ⟨oP, hP, hcls⟩ (args_sub _ _ _) ?_))
  show wpAny _ _ (reSubstitute "re.Pattern.sub" "sub" false ⟨[.ref P, .str r tr, .str x t], []⟩) _ _ s
  unfold reSubstitute
  dsimp only
  rw [named_sub]
  refine wpAny_bind (wpAny_pure ?_)
  dsimp only
  refine wpAny_bind (wpAny_pure ?_)
  refine wpAny_bind (wpAny_specialOf (typeIs_str _ _ _) str_no_call ?_)
  rw [if_neg (by simp)]
  refine wpAny_bind (wpAny_pure ?_)
  dsimp only
  refine wpAny_bind (wpAny_pure ?_)
  rw [if_neg (by simp), if_pos (by rw [hr]; rfl)]
  refine wpAny_bind (wpAny_pure ?_)
  dsimp only
  refine wpAny_bind (wpAny_holding (whole_any X' ?_))
  rw [if_neg (by simp)]
  refine wpAny_bind ?_
  refine wpAny_newObj_type ?_ (by show (0 : Nat) ≤ sizeLine; omega)
  refine wpAny_pure ⟨quiet_loop _, ?_⟩
  have hno : h₀.get? s.heap.objs.size = none := by
    cases q : h₀.get? s.heap.objs.size with
    | none => rfl
    | some o => exact absurd (Heap.lt_size (F.keep _ _ q)) (Nat.lt_irrefl _)
  refine sub_loop X hno hx S _ 0 [] 0 (fun b o hb => Heap.get?_push_of_some _ (F.keep b o hb)) (Heap.get?_push_size _ rfl) (by simp; omega) (by simp [cat]; omega) fun h' u tk hk => ?_
  show Q (.str ⟨([] ++ out).toArray⟩ u) _
  rw [List.nil_append]
  have hk' : ∀ b o, b ≠ s.heap.objs.size → s.heap.get? b = some o → h'.get? b = some o := fun b o hb ho' => hk b o hb (Heap.get?_push_of_some _ ho')
  obtain ⟨oL, es, ep, hL, rL⟩ := F.ns
  refine h h' u tk ⟨⟨oL, es, ep, hk' _ _ (Nat.ne_of_lt (Heap.lt_size hL)) hL, rL⟩, fun b o hb => hk' b o (fun q => by rw [q, hno] at hb; cases hb) (F.keep b o hb), F.above⟩ fun p hp => ⟨hk' _ _ (Nat.ne_of_lt (Heap.lt_size (N p hp).1)) (N p hp).1, (N p hp).2⟩
theorem sub_method {M : Model} {pl : Sem Bool} {Q : Value × List Value → Shared → Prop} (X : PatAt s.heap P code) (h : Q (.builtin "re.Pattern.sub", [.ref P]) s) : wpAny M A (getMethod (.ref P) "sub" pl) Q E s := by
  obtain ⟨oP, _, _, _, _, _, hP, hcls, hd, _⟩ := X.it
  exact getMethod_builtin ⟨oP, hP, hcls⟩ pattern_attrs slot_sub type_sub (fun a e => by cases e; exact ⟨oP, hP, hd⟩) h
def crlfS (x : Str) : Str := ⟨(crlf x.cps.toList).toArray⟩
def dotsS (x : Str) : Str := ⟨(dots true x.cps.toList).toArray⟩
def quoted (x : Str) : Str := dotsS (crlfS x)
theorem crlfS_size (x : Str) : (crlfS x).cps.size ≤ 2 * x.cps.size := by
  have := crlf_len x.cps.toList
  simpa [crlfS] using this
theorem call_sub2 {Q : Value → Shared → Prop} (X : PatAt h₀ P code2) (F : Fr h₀ L s.heap m) (N : News h₀ L s.heap news) (hx : x.cps.size ≤ 20000)
    (h : ∀ h' u tk, Fr h₀ L h' m → News h₀ L h' news → Q (.str (crlfS x) u) { s with heap := h', toks := tk }) :
    wpAny (model prog w) A (call (.builtin "re.Pattern.sub") [.ref P, .str (Str.ofString "\r\n") tr, .str x t]) Q E s := by
  have hr : (Str.ofString "\r\n") = ⟨#[13, 10]⟩ := by decide +kernel
  rw [hr]
  refine call_sub X F N (by decide +kernel) (sub2_all x) (by omega) ?_ h
  have := crlf_len x.cps.toList
  simp at this
  omega
theorem call_sub1 {Q : Value → Shared → Prop} (X : PatAt h₀ P code1) (F : Fr h₀ L s.heap m) (N : News h₀ L s.heap news) (hx : x.cps.size ≤ 40000)
    (h : ∀ h' u tk, Fr h₀ L h' m → News h₀ L h' news → Q (.str (dotsS x) u) { s with heap := h', toks := tk }) :
    wpAny (model prog w) A (call (.builtin "re.Pattern.sub") [.ref P, .str (Str.ofString "..") tr, .str x t]) Q E s := by
  have hr : (Str.ofString "..") = ⟨#[46, 46]⟩ := by decide +kernel
  rw [hr]
  refine call_sub X F N (by decide +kernel) (sub1_all x) (by omega) ?_ h
  have := dots_len x.cps.toList true
  simp at this
  omega
end
end Mine
end
-- part Kit1
section
open PySem PySem.W PyProof.Rows PySem.Calls
set_option Elab.async false
set_option maxRecDepth 100000
set_option maxHeartbeats 400000
set_option linter.unusedVariables false
namespace Mine

/-- what must be shown where a called function leaves: its frame, its own part of the ledger, and what the caller wants of both and the untouched rest -/
def LeaveO (h₀ : Heap) (L : Addr) (m : Str → Option Value) (g : Heap) (rest : List (Addr × Obj)) (R : Result → Shared → Prop) (v : Value) (s' : Shared) : Prop :=
  ∃ L' m' own', Fr g L' s'.heap m' ∧ News g L' s'.heap own' ∧ (Fr h₀ L s'.heap m → News h₀ L s'.heap (own' ++ rest) → (∀ q ∈ own', ∀ r ∈ rest, q.1 ≠ r.1) → R (.ok (.ret v)) s')

section
variable {prog : Program} {w : World} {A A₀ : Around} {s : Shared} {K : Frag} {L : Addr} {h₀ base : Heap} {m mg mb : Str → Option Value} {own rest : List (Addr × Obj)} {p : Program} {loose : List Str} {mean : ExcName → Option Value}
theorem code_own {env : Env} {outer : List Env} {R : Result → Shared → Prop} {name qual : Str} {params : Arguments} {body : List Stmt} {scope : Scope} {dV kV doc pm cdv ct oc : Value} {an od : Option Addr} {osl : Array (Option Value)} {f : Addr} {args : Args} {binds : List (Str × Value)}
    (B : Below A₀ base outer h₀) (F : Fr h₀ L s.heap m) (X₀ : K.In h₀) (N : News h₀ L s.heap (own ++ rest)) (hsep : ∀ q ∈ rest, q.1 ∉ own.map (·.1)) (T : Top p loose mean mg mb h₀) (hA : A.frames = some (env :: outer)) (hf : env.frame = some L) (hke : env.scope.kind = .function)
    (ho : K.lookup f = some ⟨oc, od, .func (fnOf name qual params body scope dV kV doc pm an cdv ct), osl⟩) (hcd : codeIn K cdv qual = true) (hroom : A.depth < recursionLimit)
    (hbind : BindsTo s (fnOf name qual params body scope dV kV doc pm an cdv ct) args binds) (hloc : ∀ y ∈ binds, scope.names.lookup y.1 = some .local)
    (h : ∀ g L' h₁, Fr g L' h₁ (fun y => binds.reverse.lookup y) → News g L' h₁ own → Below A base (env :: outer) g → K.In g → Top p loose mean mg mb g → h₀.StaysIn g → (∀ q ∈ rest, g.get? q.1 = some q.2) → (∀ q ∈ own ++ rest, q.1 < L') →
      wpAny (model prog w) (A.deeper (envOf qual scope L' f cdv)) (execs body (envOf qual scope L' f cdv))
        (fun fl s' => LeaveO h₀ L m g rest R (match fl with | .ret v => v | _ => .none) s')
        (fun _ _ => False)
        { s with heap := h₁, toks := s.toks + binds.length })
    (hco : scope.isCoroutine = false) (hgen : scope.isGenerator = false) (hk : scope.kind = .function)
    (hcell : ∀ x ∈ scope.names, x.2 ≠ .cell) : codeAny (model prog w) A (.call (.ref f) args) R s := by
  have N₁ : News h₀ L s.heap own := fun q hq => N q (List.mem_append_left _ hq)
  obtain ⟨FG, BG, st, lv⟩ := groundX (R := R) B F N₁ hA hf hke
  have hX := X₀.keeps F.keep
  refine codeAny_call_def (fd := fnOf name qual params body scope dV kV doc pm an cdv ct) (body := body) (binds := binds) hroom (hX _ _ ho) rfl (T.nolimit.keeps F.keep) (codeRec_of hX hcd) rfl hbind hcell hloc (fun h₁ hns hk₁ => ?_) hco hgen hk
  have hrest : ∀ q ∈ rest, (hideAll s.heap (own.map (·.1))).get? q.1 = some q.2 := fun q hq => hideAll_get _ (N q (List.mem_append_right _ hq)).1 (hsep q hq)
  refine wpAny_mono (h _ s.heap.objs.size h₁ ⟨hns, fun b o e => hk₁ b o (of_hideAll _ e), Nat.le_of_eq (hideAll_size _ _)⟩
    (fun q hq => ⟨hk₁ _ _ (N₁ q hq).1, Nat.ne_of_lt (Heap.lt_size (N₁ q hq).1), hideAll_none _ (List.mem_map_of_mem hq)⟩) BG (X₀.keeps st) (T.keeps st) st hrest (fun q hq => Heap.lt_size (N q hq).1)) (fun fl s' hl => ?_) fun _ _ y => y.elim
  obtain ⟨L', m', own', F', N', k⟩ := hl
  refine lv _ s' ⟨L', m', own', F', N', fun F₂ N₂ => k F₂ (fun q hq => ?_) fun q hq r hr e => ?_⟩
  · rcases List.mem_append.mp hq with hq | hq
    · exact N₂ q hq
    · exact ⟨F'.keep _ _ (hrest q hq), (N q (List.mem_append_right _ hq)).2⟩
  · have h1 := (N' q hq).2.2
    rw [e, hrest r hr] at h1
    cases h1
end

section
variable {prog : Program} {w : World} {A A₀ : Around} {s : Shared} {K : Frag} {L : Addr} {h₀ base : Heap} {m mg mb : Str → Option Value} {own rest : List (Addr × Obj)} {p : Program} {loose : List Str} {mean : ExcName → Option Value}
/-- the same for a function object that is at hand, with a closure -/
theorem code_ownX {env : Env} {outer : List Env} {R : Result → Shared → Prop} {name qual : Str} {params : Arguments} {body : List Stmt} {scope : Scope} {cl : List (Str × Addr)} {dV kV doc pm cdv ct : Value} {an : Option Addr} {fo : Obj} {f : Addr} {args : Args} {binds : List (Str × Value)}
    (B : Below A₀ base outer h₀) (F : Fr h₀ L s.heap m) (X₀ : K.In h₀) (N : News h₀ L s.heap (own ++ rest)) (hsep : ∀ q ∈ rest, q.1 ∉ own.map (·.1)) (T : Top p loose mean mg mb h₀) (hA : A.frames = some (env :: outer)) (hf : env.frame = some L) (hke : env.scope.kind = .function)
    (ho : s.heap.get? f = some fo) (hd : fo.data = .func (fnX name qual params body scope cl dV kV doc pm an cdv ct)) (hcd : s.heap.CodeRec cdv qual) (hroom : A.depth < recursionLimit)
    (hbind : BindsTo s (fnX name qual params body scope cl dV kV doc pm an cdv ct) args binds) (hloc : ∀ y ∈ binds, scope.names.lookup y.1 = some .local)
    (h : ∀ g L' h₁, Fr g L' h₁ (fun y => binds.reverse.lookup y) → News g L' h₁ own → Below A base (env :: outer) g → K.In g → Top p loose mean mg mb g → h₀.StaysIn g → (∀ q ∈ rest, g.get? q.1 = some q.2) → (∀ q ∈ own ++ rest, q.1 < L') →
      wpAny (model prog w) (A.deeper (envX qual scope L' f cdv cl)) (execs body (envX qual scope L' f cdv cl))
        (fun fl s' => LeaveO h₀ L m g rest R (match fl with | .ret v => v | _ => .none) s')
        (fun _ _ => False)
        { s with heap := h₁, toks := s.toks + binds.length })
    (hco : scope.isCoroutine = false) (hgen : scope.isGenerator = false) (hk : scope.kind = .function)
    (hcell : ∀ x ∈ scope.names, x.2 ≠ .cell) : codeAny (model prog w) A (.call (.ref f) args) R s := by
  have N₁ : News h₀ L s.heap own := fun q hq => N q (List.mem_append_left _ hq)
  obtain ⟨FG, BG, st, lv⟩ := groundX (R := R) B F N₁ hA hf hke
  refine codeAny_call_def (fd := fnX name qual params body scope cl dV kV doc pm an cdv ct) (body := body) (binds := binds) hroom ho hd (T.nolimit.keeps F.keep) hcd rfl hbind hcell hloc (fun h₁ hns hk₁ => ?_) hco hgen hk
  have hrest : ∀ q ∈ rest, (hideAll s.heap (own.map (·.1))).get? q.1 = some q.2 := fun q hq => hideAll_get _ (N q (List.mem_append_right _ hq)).1 (hsep q hq)
  refine wpAny_mono (h _ s.heap.objs.size h₁ ⟨hns, fun b o e => hk₁ b o (of_hideAll _ e), Nat.le_of_eq (hideAll_size _ _)⟩
    (fun q hq => ⟨hk₁ _ _ (N₁ q hq).1, Nat.ne_of_lt (Heap.lt_size (N₁ q hq).1), hideAll_none _ (List.mem_map_of_mem hq)⟩) BG (X₀.keeps st) (T.keeps st) st hrest (fun q hq => Heap.lt_size (N q hq).1)) (fun fl s' hl => ?_) fun _ _ y => y.elim
  obtain ⟨L', m', own', F', N', k⟩ := hl
  refine lv _ s' ⟨L', m', own', F', N', fun F₂ N₂ => k F₂ (fun q hq => ?_) fun q hq r hr e => ?_⟩
  · rcases List.mem_append.mp hq with hq | hq
    · exact N₂ q hq
    · exact ⟨F'.keep _ _ (hrest q hq), (N q (List.mem_append_right _ hq)).2⟩
  · have h1 := (N' q hq).2.2
    rw [e, hrest r hr] at h1
    cases h1
end

/-- a function's contract: what it owns, what it finds, what it leaves -/
def SpecF (prog : Program) (w : World) (K : Frag) (p : Program) (loose : List Str) (mean : ExcName → Option Value) (mg mb : Str → Option Value) (f : Addr) (room : Nat) (vs : List Value) (own : List (Addr × Obj)) (Pre : Heap → Prop) (Post : Value → List (Addr × Obj) → Prop) : Prop :=
  ∀ (dp un : Nat) (gd : Option (List Code)) (cn : Str) (cs : Scope) (a : Addr) (ccd : Value) (cl : List (Str × Addr)) (outer : List Env) (A₀ : Around) (base h₀ : Heap) (L : Addr) (m : Str → Option Value) (s : Shared) (rest : List (Addr × Obj)) (R : Result → Shared → Prop),
    Below A₀ base outer h₀ → Fr h₀ L s.heap m → K.In h₀ → News h₀ L s.heap (own ++ rest) → (∀ q ∈ rest, q.1 ∉ own.map (·.1)) → Top p loose mean mg mb h₀ → cs.kind = .function →
    (∀ g, h₀.StaysIn g → (∀ q ∈ rest, g.get? q.1 = some q.2) → Pre g) → dp + room < recursionLimit → un + 8 * room < cLine →
    (∀ v own' h' tk', Post v own' → (∀ q ∈ own', ∀ r ∈ rest, q.1 ≠ r.1) → Fr h₀ L h' m → News h₀ L h' (own' ++ rest) → R (.ok (.ret v)) { s with heap := h', toks := tk' }) →
    codeAny (model prog w) (ktrTop dp un gd cn cs L a ccd cl outer) (.call (.ref f) ⟨vs, []⟩) R s

section
variable {prog : Program} {w : World} {K : Frag} {p : Program} {loose : List Str} {mean : ExcName → Option Value} {mg mb : Str → Option Value} {f : Addr} {room : Nat} {vs : List Value} {own : List (Addr × Obj)} {Pre : Heap → Prop} {Post : Value → List (Addr × Obj) → Prop}
  {dp un : Nat} {gd : Option (List Code)} {cn : Str} {cs : Scope} {a : Addr} {ccd : Value} {cl : List (Str × Addr)} {outer : List Env} {A₀ : Around} {base h₀ : Heap} {L : Addr} {m : Str → Option Value} {s : Shared} {news : List (Addr × Obj)}
theorem SpecF.code (S : SpecF prog w K p loose mean mg mb f room vs own Pre Post) (rest : List (Addr × Obj)) {R : Result → Shared → Prop}
    (B : Below A₀ base outer h₀) (F : Fr h₀ L s.heap m) (X : K.In h₀) (N : News h₀ L s.heap news) (hin : ∀ q ∈ own ++ rest, q ∈ news) (hsep : ∀ q ∈ rest, q.1 ∉ own.map (·.1)) (T : Top p loose mean mg mb h₀) (hk : cs.kind = .function)
    (hpre : ∀ g, h₀.StaysIn g → (∀ q ∈ rest, g.get? q.1 = some q.2) → Pre g) (hd : dp + room < recursionLimit) (hu : un + 8 * room < cLine)
    (hret : ∀ v own' h' tk', Post v own' → (∀ q ∈ own', ∀ r ∈ rest, q.1 ≠ r.1) → Fr h₀ L h' m → News h₀ L h' (own' ++ rest) → R (.ok (.ret v)) { s with heap := h', toks := tk' }) :
    codeAny (model prog w) (ktrTop dp un gd cn cs L a ccd cl outer) (.call (.ref f) ⟨vs, []⟩) R s :=
  S dp un gd cn cs a ccd cl outer A₀ base h₀ L m s rest R B F X (fun q hq => N q (hin q hq)) hsep T hk hpre hd hu hret
theorem SpecF.call (S : SpecF prog w K p loose mean mg mb f room vs own Pre Post) (rest : List (Addr × Obj)) {Q E : Value → Shared → Prop}
    (B : Below A₀ base outer h₀) (F : Fr h₀ L s.heap m) (X : K.In h₀) (N : News h₀ L s.heap news) (hin : ∀ q ∈ own ++ rest, q ∈ news) (hsep : ∀ q ∈ rest, q.1 ∉ own.map (·.1)) (T : Top p loose mean mg mb h₀) (hk : cs.kind = .function)
    (hpre : ∀ g, h₀.StaysIn g → (∀ q ∈ rest, g.get? q.1 = some q.2) → Pre g) (hd : dp + room < recursionLimit) (hu : un + 8 * room < cLine)
    (hret : ∀ v own' h' tk', Post v own' → (∀ q ∈ own', ∀ r ∈ rest, q.1 ≠ r.1) → Fr h₀ L h' m → News h₀ L h' (own' ++ rest) → Q v { s with heap := h', toks := tk' }) :
    wpAny (model prog w) (ktrTop dp un gd cn cs L a ccd cl outer) (PySem.call (.ref f) vs) Q E s :=
  wpAny_call (S.code rest B F X N hin hsep T hk hpre hd hu hret)
end

theorem nd5 {a b c d e : Nat} (h : List.Nodup [a, b, c, d, e]) : a ≠ b ∧ a ≠ c ∧ a ≠ d ∧ a ≠ e ∧ b ≠ c ∧ b ≠ d ∧ b ≠ e ∧ c ≠ d ∧ c ≠ e ∧ d ≠ e := by
  simp only [List.nodup_cons, List.mem_cons, List.not_mem_nil, or_false, not_or] at h
  exact ⟨h.1.1, h.1.2.1, h.1.2.2.1, h.1.2.2.2, h.2.1.1, h.2.1.2.1, h.2.1.2.2, h.2.2.1.1, h.2.2.1.2, h.2.2.2.1⟩

theorem leaveO_ {h₀ g : Heap} {L L' : Addr} {m m' : Str → Option Value} {rest news' : List (Addr × Obj)} {R : Result → Shared → Prop} {v : Value} {s' : Shared} (own' : List (Addr × Obj)) (F' : Fr g L' s'.heap m') (N' : News g L' s'.heap news') (hin : ∀ q ∈ own', q ∈ news')
    (k : Fr h₀ L s'.heap m → News h₀ L s'.heap (own' ++ rest) → (∀ q ∈ own', ∀ r ∈ rest, q.1 ≠ r.1) → R (.ok (.ret v)) s') : LeaveO h₀ L m g rest R v s' :=
  ⟨L', m', own', F', fun q hq => N' q (hin q hq), k⟩
/-- what a loop's turn must leave -/
def RoundEnd (I : Nat → Shared → Prop) (n : Nat) (Q : Flow → Shared → Prop) (f : Flow) (s : Shared) : Prop :=
  match f with
  | .next => ∃ k, k < n ∧ I k s
  | .cont => ∃ k, k < n ∧ I k s
  | .brk => Q .next s
  | .ret v => Q (.ret v) s
section
variable {prog : Program} {w : World} {A : Around} {s : Shared} {env : Env}
theorem while_inv {test : Expr} {body orelse : List Stmt} {pos : Pos} {Q : Flow → Shared → Prop} (I : Nat → Shared → Prop)
    (turn : ∀ n s, I n s → wpAny (model prog w) A (isTrue test env (eval test env)) (fun b s₂ => WhlIf b (wpAny (model prog w) A (execs body env) (RoundEnd I n Q) (fun _ _ => False) s₂) (wpAny (model prog w) A (execs orelse env) Q (fun _ _ => False) s₂)) (fun _ _ => False) s)
    (n : Nat) (h : I n s) : wpAny (model prog w) A (exec (.While test body orelse pos) env) Q (fun _ _ => False) s := by
  refine whl_start 0 ?_
  induction n using Nat.strongRecOn generalizing s with
  | ind n ih =>
    refine whl_turn (k := 0) PassesOwn.never (wpAny_mono (turn n s h) (fun b s₂ h₂ => ?_) fun _ _ x => x)
    cases b with
    | false => exact h₂
    | true =>
      refine WhlIf.yes rfl ?_
      have h₃ : wpAny (model prog w) A (execs body env) (RoundEnd I n Q) (fun _ _ => False) s₂ := h₂
      refine wpAny_mono h₃ (fun f s₃ h₄ => ?_) fun _ _ x => x
      cases f with
      | next => obtain ⟨k, hk, hI⟩ := h₄; exact ih k hk hI
      | cont => obtain ⟨k, hk, hI⟩ := h₄; exact ih k hk hI
      | brk => exact h₄
      | ret v => exact h₄
theorem for_inv {x : Str} {px : Pos} {it : Value} {body : List Stmt} {Q : Flow → Shared → Prop} (I : Nat → Shared → Prop)
    (turn : ∀ n s, I n s → wpAny (model prog w) A (pyNext it) (fun r s₁ => match r with
      | none => Q .next s₁
      | some v => wpAny (model prog w) A (storeName env x v) (fun _ s₂ => wpAny (model prog w) A (execs body env) (RoundEnd I n Q) (fun _ _ => False) s₂) (fun _ _ => False) s₁) (fun _ _ => False) s)
    (n : Nat) (h : I n s) :
    codeAny (model prog w) A (.forLoop (.Name x px) it body [] env) (fun r s' => match r with | .ok f => Q f s' | .error e => cameBackBy (model prog w) A env (fun _ _ => False) e s') s := by
  refine codeAny_forLoop I (fun n s hI => ?_) n h
  refine wpAny_mono (turn n s hI) (fun r s₁ h₁ => ?_) fun _ _ x => x.elim
  cases r with
  | none => exact wpAny_execs_nil h₁
  | some v =>
    refine wpAny_assign_Name (wpAny_mono h₁ (fun _ s₂ h₂ => ?_) fun _ _ x => x.elim)
    refine wpAny_mono h₂ (fun f s₃ h₃ => ?_) fun _ _ x => x.elim
    cases f <;> exact h₃
end

theorem whl_if {b : Bool} {T F : Prop} (h1 : b = true → T) (h2 : b = false → F) : WhlIf b T F := by
  cases b with
  | true => exact WhlIf.yes rfl (h1 rfl)
  | false => exact WhlIf.no rfl (h2 rfl)
end Mine
end
-- part Kit2
section
open PySem PySem.W PyProof.Rows PySem.Calls
set_option Elab.async false
set_option maxRecDepth 100000
set_option maxHeartbeats 400000
set_option linter.unusedVariables false
namespace Mine
open PySem.Builtin

/-- iter(f, sentinel) -/
abbrev ciO (q : Addr) (x : Str) (t : Tok) : Obj := { cls := .type "callable_iterator", data := .fields #[.ref q, .str x t, .bool false] }
abbrev ciEnd : Obj := { cls := .type "callable_iterator", data := .fields #[.none, .none, .bool true] }

theorem slot_ci_next : Slot "callable_iterator" "__next__" "callable_iterator.__next__" :=
  .of (owner := "callable_iterator") (n := "__next__") (by rw [typeLookup_type, builtinLookup_eq_fast]; kernel_rfl) (by decide +kernel) (by decide +kernel) (by decide +kernel)
    (by first | exact .inl (by decide +kernel) | exact .inr (by decide +kernel)) (by rw [isSubtype_type]; kernel_rfl)
theorem entry_ci_next : entryFor table "callable_iterator.__next__" = some Builtin.«callable_iterator.__next__» := entryFor_of_tree (by kernel_rfl)
theorem args_ci_next (a : Value) : argsOk "callable_iterator.__next__" ⟨[a], []⟩ := by unfold argsOk; kernel_rfl
theorem slot_ci_iter : Slot "callable_iterator" "__iter__" "callable_iterator.__iter__" :=
  .of (owner := "callable_iterator") (n := "__iter__") (by rw [typeLookup_type, builtinLookup_eq_fast]; kernel_rfl) (by decide +kernel) (by decide +kernel) (by decide +kernel)
    (by first | exact .inl (by decide +kernel) | exact .inr (by decide +kernel)) (by rw [isSubtype_type]; kernel_rfl)
theorem entry_ci_iter : entryFor table "callable_iterator.__iter__" = some Builtin.«dict_keyiterator.__iter__» :=
  entryFor_alias (id' := "dict_keyiterator.__iter__") (by kernel_rfl) rfl (by decide +kernel) (by kernel_rfl)
theorem args_ci_iter (a : Value) : argsOk "callable_iterator.__iter__" ⟨[a], []⟩ := by unfold argsOk; kernel_rfl
theorem kind_iter : builtinKind "iter" = none := by decide +kernel
theorem plain_iter : plainId "iter" = true := by decide +kernel
theorem entry_iter : entryFor table "iter" = some Builtin.«iter» := entryFor_of_tree (by kernel_rfl)
theorem args_iter (a b : Value) : argsOk "iter" ⟨[a, b], []⟩ := by unfold argsOk; kernel_rfl
theorem method_callable : typeLookup (.type "method") "__call__" = pure (some (.builtin "method.__call__")) := by rw [typeLookup_type, builtinLookup_eq_fast]; kernel_rfl

section
variable {M : Model} {A : Around} {E : Value → Shared → Prop} {s : Shared}
theorem borrowed_any {f : Value} {pos : List Value} {Q : Value → Shared → Prop}
    (hc : codeAny M A (.call f ⟨pos, []⟩) (fun r s' => match r with | .ok (.ret v) => Q v s' | .ok _ => False | .error e => E e s') s) : wpAny M A (callBorrowed f pos) Q E s := fun Γ p hΓ => by
  unfold callBorrowed
  rw [Sem.wp_call]
  refine wpCode_mono (fun r s' h => ?_) (hc _ p rfl (hΓ.enter _ none p (by intro x; cases x)))
  cases r with
  | error e => exact h
  | ok f => cases f <;> first | exact h | exact h.elim
theorem borrows_any {q f : Addr} {self : Value} {Q : Bool → Shared → Prop} (hq : s.heap.get? q = some (methodObj (.ref f) self)) (hf : FnAt f s.heap) (h : Q true s) : wpAny M A (borrowsExactly (.ref q)) Q E s := by
  obtain ⟨oc, od, fd, sl, ho⟩ := hf
  unfold borrowsExactly
  refine wpAny_bind (wpAny_load hq ?_)
  exact wpAny_bind (wpAny_load ho (wpAny_pure h))
end
section
variable {prog : Program} {w : World} {A : Around} {E : Value → Shared → Prop} {s : Shared} {ci q f : Addr} {self : Value} {x : Str} {t : Tok}
theorem ci_iter {o : Obj} {Q : Value → Shared → Prop} (ho : s.heap.get? ci = some o) (hc : o.cls = .type "callable_iterator") (h : Q (.ref ci) s) : wpAny (model prog w) A (pyIter (.ref ci)) Q E s := by
  have hT : s.TypeIs (.ref ci) "callable_iterator" := ⟨o, ho, hc⟩
  refine wpAny_pyIter_slot hT slot_ci_iter (wpAny_call_entry slot_ci_iter hT entry_ci_iter ?_ (args_ci_iter _))
  show wpAny _ _ (ret (.ref ci)) _ _ s
  exact wpAny_pure ⟨_, rfl, "callable_iterator", _, hT, slot_ci_next.lookup, h⟩
theorem call_iter2 {Q : Value → Shared → Prop} (hq : s.heap.get? q = some (methodObj (.ref f) self))
    (h : Q (.ref s.heap.objs.size) { s with heap := s.heap.push (ciO q x t) }) : wpAny (model prog w) A (call (.builtin "iter") [.ref q, .str x t]) Q E s := by
  refine call_function_entry kind_iter plain_iter entry_iter (args_iter _ _) ?_
  unfold Builtin.«iter»
  refine wpAny_bind (m := someArgs "iter" 1 2 _) (wpAny_pure ?_)
  dsimp only
  refine wpAny_bind (wpAny_specialOf (T := "method") ⟨_, hq, rfl⟩ method_callable ?_)
  rw [if_neg (by simp)]
  refine wpAny_bind (wpAny_rule ?_)
  refine wpAny_bind ?_
  exact wpAny_newObj_type (wpAny_pure ⟨_, rfl, h⟩) (by show (3 : Nat) ≤ sizeLine + 2; decide)
theorem stop_any {α : Type} {M : Model} {s : Shared} {Q : α → Shared → Prop} (hh : A.handled = none) (h : ∀ h' e, (∀ b o, s.heap.get? b = some o → h'.get? b = some o) → (∃ o, h'.get? e = some o ∧ o.cls = .type "StopIteration") → E (.ref e) { s with heap := h' }) :
    wpAny M A (SmallTypes.stopIteration : Sem α) Q E s := by
  show wpAny _ _ (newExc (.type "StopIteration") [] >>= _) _ _ _
  refine wpAny_bind ?_
  simp only [newExc, newTuple]
  refine wpAny_bind (wpAny_newObj_type ?_ (by size_fits))
  refine wpAny_bind (m := firstArgMember _ _) (wpAny_of_eq (a := Value.none) (by first | rfl | (simp only [firstArgMember]; rfl)) ?_)
  refine wpAny_newObj_type ?_ (by size_fits)
  simp only [raiseNew]
  refine wpAny_bind (wpAny_handled ?_)
  rw [hh]
  refine wpAny_bind (wpAny_pure (wpAny_throw ?_))
  exact h _ _ (fun b o e => Heap.get?_push_of_some _ (Heap.get?_push_of_some _ e)) ⟨_, Heap.get?_push_size _ rfl, rfl⟩

theorem ci_next {Q : Option Value → Shared → Prop} (hh : A.handled = none) (hci : s.heap.get? ci = some (ciO q x t)) (hq : s.heap.get? q = some (methodObj (.ref f) self)) (hf : FnAt f s.heap)
    (hc : codeAny (model prog w) A.in1 (.call (.ref f) ⟨[self], []⟩) (fun r s' => ∃ y ty, r = .ok (.ret (.str y ty)) ∧ s'.heap.get? ci = some (ciO q x t) ∧ s'.heap.get? q = some (methodObj (.ref f) self) ∧ FnAt f s'.heap ∧
      (x = y → ∀ h', (∀ b o, b ≠ ci → s'.heap.get? b = some o → h'.get? b = some o) → h'.get? ci = some ciEnd → Q none { s' with heap := h' }) ∧ (x ≠ y → Q (some (.str y ty)) s')) s) :
    wpAny (model prog w) A (pyNext (.ref ci)) Q E s := by
  have hT : s.TypeIs (.ref ci) "callable_iterator" := ⟨_, hci, rfl⟩
  unfold pyNext
  refine wpAny_bind (wpAny_attempt (wpAny_callSpecial?_slot (name := Str.ofString "__next__") hT slot_ci_next (wpAny_call_entry slot_ci_next hT entry_ci_next ?_ (args_ci_next _))))
  unfold «callable_iterator.__next__»
  refine wpAny_bind (m := slotArgs "__next__" 0 _) (wpAny_pure ?_)
  dsimp only
  refine wpAny_bind (wpAny_field hci rfl (x := .bool false) rfl ?_)
  rw [if_neg (by simp)]
  refine wpAny_bind ?_
  refine wpAny_field hci rfl (x := .ref q) rfl ?_
  refine wpAny_bind (wpAny_attempt ?_)
  unfold callOutOfASlot
  refine wpAny_bind (borrows_any hq hf ?_)
  rw [if_pos rfl]
  refine borrowed_any (method_call hq (codeAny_mono hc fun r s' h => ?_))
  obtain ⟨y, ty, rfl, hci', hq', hf', h1, h2⟩ := h
  dsimp only
  refine wpAny_bind (wpAny_field hci' rfl (x := .bool false) rfl ?_)
  rw [if_neg (by simp)]
  refine wpAny_bind ?_
  refine wpAny_field hci' rfl (x := .str x t) rfl ?_
  refine wpAny_bind (wpAny_holding (wpAny_eqBool_str ?_))
  by_cases he : x = y
  · rw [if_neg (by simp [he])]
    refine wpAny_bind (wpAny_rule ?_)
    refine wpAny_bind ?_
    show wpAny _ _ (do slotLetsGo "callable_iterator.__next__" (← field (.ref ci) 0) _; _) _ _ _
    refine wpAny_bind (wpAny_field hci' rfl (x := .ref q) rfl ?_)
    refine wpAny_bind ?_
    unfold slotLetsGo
    refine wpAny_bind (borrows_any hq' hf' ?_)
    rw [if_pos rfl]
    refine wpAny_pure ?_
    refine wpAny_bind (wpAny_setField_rec hci' (by show (0 : Nat) < 3; omega) fun k1 e1 b1 => ?_)
    refine wpAny_bind (wpAny_setField_rec e1 (by show (1 : Nat) < 3; omega) fun k2 e2 b2 => ?_)
    refine wpAny_setField_rec e2 (by show (2 : Nat) < 3; omega) fun k3 e3 b3 => ?_
    refine stop_any hh fun h' e hk hE => ?_
    obtain ⟨oe, he1, he2⟩ := hE
    dsimp only
    refine wpAny_bind (wpAny_isInstance (T := "StopIteration") (b := true) ⟨oe, he1, he2⟩ isSubtype_stop ?_)
    rw [if_pos rfl]
    refine wpAny_pure (h1 he h' (fun b o hb ho => hk b o ?_) (hk _ _ ?_))
    · exact b3.extBut b o hb (b2.extBut b o hb (b1.extBut b o hb ho))
    · exact e3
  · rw [if_pos (by simp [he])]
    exact wpAny_pure ⟨_, rfl, wpAny_pure (h2 he)⟩
theorem ci_ended {Q : Option Value → Shared → Prop} (hh : A.handled = none) (hci : s.heap.get? ci = some ciEnd) (h : ∀ h', (∀ b o, s.heap.get? b = some o → h'.get? b = some o) → Q none { s with heap := h' }) : wpAny (model prog w) A (pyNext (.ref ci)) Q E s := by
  have hT : s.TypeIs (.ref ci) "callable_iterator" := ⟨_, hci, rfl⟩
  unfold pyNext
  refine wpAny_bind (wpAny_attempt (wpAny_callSpecial?_slot (name := Str.ofString "__next__") hT slot_ci_next (wpAny_call_entry slot_ci_next hT entry_ci_next ?_ (args_ci_next _))))
  unfold «callable_iterator.__next__»
  refine wpAny_bind (m := slotArgs "__next__" 0 _) (wpAny_pure ?_)
  dsimp only
  refine wpAny_bind (wpAny_field hci rfl (x := .bool true) rfl ?_)
  rw [if_pos (by rfl)]
  refine wpAny_bind (wpAny_rule ?_)
  refine wpAny_bind (stop_any hh fun h' e hk hE => ?_)
  obtain ⟨oe, he1, he2⟩ := hE
  (try dsimp only)
  refine wpAny_bind (wpAny_isInstance (T := "StopIteration") (b := true) ⟨oe, he1, he2⟩ isSubtype_stop ?_)
  rw [if_pos rfl]
  exact wpAny_pure (h h' hk)
theorem iter_K {Q : Value → Shared → Prop} {h₀ : Heap} {L : Addr} {m : Str → Option Value} {news : List (Addr × Obj)} (F : Fr h₀ L s.heap m) (N : News h₀ L s.heap news) (hq : (q, methodObj (.ref f) self) ∈ news)
    (h : ∀ ci h', Fr h₀ L h' m → News h₀ L h' ((ci, ciO q x t) :: news) → (∀ p ∈ news, p.1 < ci) → Q (.ref ci) { s with heap := h' }) : wpAny (model prog w) A (call (.builtin "iter") [.ref q, .str x t]) Q E s :=
  call_iter2 (N _ hq).1 (h _ _ (F.push _) (N.push F _) fun p hp => Heap.lt_size (N p hp).1)
end
end Mine
end
-- part Kit3
section
open PySem PySem.W PyProof.Rows PySem.Calls
set_option Elab.async false
set_option maxRecDepth 100000
set_option maxHeartbeats 400000
set_option linter.unusedVariables false
namespace Mine

abbrev ent (P : Params) (n : String) (k : Tok) (v : Value) : DictEntry := { hash := PyData.keyHash P (Str.ofString n), key := .str (Str.ofString n) k, val := v }
/-- a machine's dict -/
abbrev lexD (P : Params) (k1 k2 k3 k4 : Tok) (ln : Int) (tl : Tok) (st : Value) (ws : Str) (tw : Tok) (pb : Addr) : Obj :=
  dictOf [ent P "lineno" k1 (.int ln tl), ent P "instream" k2 st, ent P "whitespace" k3 (.str ws tw), ent P "pushback" k4 (.ref pb)] 4
abbrev stD (P : Params) (k1 k2 k3 k4 k5 : Tok) (v1 v2 v3 v4 : Value) (f : Addr) : Obj :=
  dictOf [ent P "lineno" k1 v1, ent P "instream" k2 v2, ent P "whitespace" k3 v3, ent P "pushback" k4 v4, ent P "read" k5 (.ref f)] 5
abbrev atO (p : Nat) (t : Tok) : Obj := listOf #[.int p t] 0
/-- what read(1) gives at p -/
def piece (sent : Str) (p : Nat) : Str := ⟨sent.cps.extract p (p + 1)⟩
/-- the row number at p -/
def lnAt (sent : Str) (p : Nat) : Int := 1 + ((sent.cps.toList.take p).count 10 : Nat)

theorem piece_lt {sent : Str} {p : Nat} (h : p < sent.cps.size) : piece sent p = ⟨#[sent.cps[p]]⟩ := by
  unfold piece
  congr 1
  apply Array.ext'
  simp [List.take_one, h]
theorem piece_ge {sent : Str} {p : Nat} (h : sent.cps.size ≤ p) : piece sent p = ⟨#[]⟩ := by
  unfold piece
  congr 1
  simp
  omega
theorem piece_ne {sent : Str} {p : Nat} (h : p < sent.cps.size) : Str.ofString "" ≠ piece sent p := by
  rw [piece_lt h]
  intro e
  have := congrArg (fun x : Str => x.cps.size) e
  simp at this
  exact absurd this (by decide)
theorem lnAt_step {sent : Str} {p : Nat} : lnAt sent p + (if piece sent p = Str.ofString "\n" then 1 else 0) = lnAt sent (p + (piece sent p).length) := by
  have e10 : Str.ofString "\n" = ⟨#[10]⟩ := by decide +kernel
  rw [e10]
  by_cases h : p < sent.cps.size
  · have hl : (piece sent p).length = 1 := by rw [piece_lt h]; rfl
    rw [hl, piece_lt h]
    unfold lnAt
    rw [List.take_add_one]
    have e : sent.cps.toList[p]? = some sent.cps[p] := by simp [h]
    rw [e]
    simp only [Option.toList_some, List.count_append, Str.mk.injEq]
    by_cases hc : sent.cps[p] = 10
    · rw [if_pos (by rw [hc]), hc]
      simp
      omega
    · rw [if_neg (by intro q; apply hc; simpa using q)]
      have : List.count 10 [sent.cps[p]] = 0 := by rw [List.count_singleton]; simp [hc]
      rw [this]
      omega
  · rw [piece_ge (by omega)]
    rw [if_neg (by intro q; simp at q)]
    show _ = lnAt sent (p + 0)
    rw [Nat.add_zero, Int.add_zero]

/-! what get_token reads, on plain lists -/
def tokQ : List Nat → List Nat × List Nat
  | [] => ([], [])
  | [c] => if c = 34 ∨ c = 92 then ([], []) else ([c], [])
  | c :: d :: r => if c = 34 then ([], d :: r) else if c = 92 then (d :: (tokQ r).1, (tokQ r).2) else (c :: (tokQ (d :: r)).1, (tokQ (d :: r)).2)
def tokP (ws : List Nat) : List Nat → List Nat × List Nat
  | [] => ([], [])
  | [c] => if c ∈ ws ∨ c = 92 then ([], []) else ([c], [])
  | c :: d :: r => if c ∈ ws then ([], d :: r) else if c = 92 then (d :: (tokP ws r).1, (tokP ws r).2) else (c :: (tokP ws (d :: r)).1, (tokP ws (d :: r)).2)
def tok (ws : List Nat) : List Nat → List Nat × List Nat
  | [] => ([], [])
  | c :: r => if c ∈ ws then tok ws r else if c = 34 then tokQ r else if c = 92 then (match r with | [] => ([], []) | d :: r' => (d :: (tokP ws r').1, (tokP ws r').2)) else (c :: (tokP ws r).1, (tokP ws r).2)

/-- a machine over a stream: its parts' places and what stays as it is -/
structure Lx where
  (lex lexd st std f atA pb : Addr)
  (k1 k2 k3 k4 j1 j2 j3 j4 j5 : Tok)
  (v1 v2 v3 v4 : Value)
  ws : Str
  tw : Tok
abbrev Lx.own (x : Lx) (C : Addr) (P : Params) (sent : Str) (p : Nat) (tl ta : Tok) : List (Addr × Obj) :=
  [(x.lex, instObj C x.lexd), (x.lexd, lexD P x.k1 x.k2 x.k3 x.k4 (lnAt sent p) tl (.ref x.st) x.ws x.tw x.pb), (x.st, instObj C x.std), (x.std, stD P x.j1 x.j2 x.j3 x.j4 x.j5 x.v1 x.v2 x.v3 x.v4 x.f), (x.atA, atO p ta)]

theorem nd6 {a b c d e f : Nat} (h : List.Nodup [a, b, c, d, e, f]) : List.Nodup [a, b, c, d, e] ∧ a ≠ f ∧ b ≠ f ∧ c ≠ f ∧ d ≠ f ∧ e ≠ f := by
  simp only [List.nodup_cons, List.mem_cons, List.not_mem_nil, or_false, not_or, not_false_eq_true, true_and] at h ⊢
  exact ⟨⟨⟨h.1.1, h.1.2.1, h.1.2.2.1, h.1.2.2.2.1⟩, ⟨h.2.1.1, h.2.1.2.1, h.2.1.2.2.1⟩, ⟨h.2.2.1.1, h.2.2.1.2.1⟩, h.2.2.2.1.1, List.nodup_nil⟩, h.1.2.2.2.2, h.2.1.2.2.2, h.2.2.1.2.2, h.2.2.2.1.2, h.2.2.2.2.1⟩
/-- the frame of get_token between two steps -/
abbrev gtM (lex ci : Addr) (tkn : List Nat) (t : Tok) (u : Str → Option Value) : Str → Option Value :=
  fun y => if y = Str.ofString "token" then some (.str ⟨tkn.toArray⟩ t) else if y = Str.ofString "fiter" then some (.ref ci) else if y = Str.ofString "self" then some (.ref lex) else u y
theorem gtM_of {g h : Heap} {L lex ci : Addr} {tkn : List Nat} {t : Tok} {y : Str} {m : Str → Option Value} (F : Fr g L h m) (e1 : m (Str.ofString "token") = some (.str y t)) (e2 : m (Str.ofString "fiter") = some (.ref ci)) (e3 : m (Str.ofString "self") = some (.ref lex)) (hy : y = ⟨tkn.toArray⟩) :
    Fr g L h (gtM lex ci tkn t m) := by
  subst hy
  have : gtM lex ci tkn t m = m := by
    funext y
    unfold gtM
    by_cases h1 : y = Str.ofString "token"
    · rw [if_pos h1, h1, e1]
    · rw [if_neg h1]
      by_cases h2 : y = Str.ofString "fiter"
      · rw [if_pos h2, h2, e2]
      · rw [if_neg h2]
        by_cases h3 : y = Str.ofString "self"
        · rw [if_pos h3, h3, e3]
        · rw [if_neg h3]
  rw [this]; exact F

theorem not_in_ws {ws : Str} {c : Nat} (h : (Builtin.Str.occurrences ws ⟨#[c]⟩ 0 ws.length 1).isEmpty = true) : c ∉ ws.cps.toList := by
  have e := StrLaws.found_one ws c
  rw [h] at e
  simpa using e.symm
theorem in_ws {ws : Str} {c : Nat} (h : (Builtin.Str.occurrences ws ⟨#[c]⟩ 0 ws.length 1).isEmpty = false) : c ∈ ws.cps.toList := by
  have e := StrLaws.found_one ws c
  rw [h] at e
  simpa using e.symm
theorem ofQ : Str.ofString "\"" = ⟨#[34]⟩ := by decide +kernel
theorem ofB : Str.ofString "\\" = ⟨#[92]⟩ := by decide +kernel
theorem one34 {c : Nat} (h : ((⟨#[c]⟩ : Str) == Str.ofString "\"") = true) : c = 34 := by
  rw [ofQ] at h
  simpa using h
theorem one34_no {c : Nat} (h : ((⟨#[c]⟩ : Str) == Str.ofString "\"") = false) : c ≠ 34 := by
  rw [ofQ] at h
  simpa using h
theorem one92 {c : Nat} (h : ((⟨#[c]⟩ : Str) == Str.ofString "\\") = true) : c = 92 := by
  rw [ofB] at h
  simpa using h
theorem one92_no {c : Nat} (h : ((⟨#[c]⟩ : Str) == Str.ofString "\\") = false) : c ≠ 92 := by
  rw [ofB] at h
  simpa using h
theorem app_str (a b : Str) : a ++ b = ⟨(a.cps.toList ++ b.cps.toList).toArray⟩ := by
  show Str.append a b = _
  unfold Str.append
  simp
theorem app_lit (a : List Nat) (b : Str) : (⟨a.toArray⟩ : Str) ++ b = ⟨(a ++ b.cps.toList).toArray⟩ := by rw [app_str]

theorem drop_here {sent : Str} {p : Nat} (h : p < sent.cps.size) : sent.cps.toList.drop p = sent.cps[p] :: sent.cps.toList.drop (p + 1) := by
  have h' : p < sent.cps.toList.length := by simpa using h
  rw [List.drop_eq_getElem_cons h']
  simp
theorem drop_end {sent : Str} {p : Nat} (h : sent.cps.size ≤ p) : sent.cps.toList.drop p = [] := by simp; omega

theorem tokQ_q (r : List Nat) : tokQ (34 :: r) = ([], r) := by cases r <;> simp [tokQ]
theorem tokQ_b (d : Nat) (r : List Nat) : tokQ (92 :: d :: r) = (d :: (tokQ r).1, (tokQ r).2) := by simp [tokQ]
theorem tokQ_b0 : tokQ [92] = ([], []) := by simp [tokQ]
theorem tokQ_o {c : Nat} (r : List Nat) (h1 : c ≠ 34) (h2 : c ≠ 92) : tokQ (c :: r) = (c :: (tokQ r).1, (tokQ r).2) := by cases r <;> simp [tokQ, h1, h2]
section
variable {ws : List Nat}
theorem tokP_w {c : Nat} (r : List Nat) (h : c ∈ ws) : tokP ws (c :: r) = ([], r) := by cases r <;> simp [tokP, h]
theorem tokP_b (d : Nat) (r : List Nat) (h : 92 ∉ ws) : tokP ws (92 :: d :: r) = (d :: (tokP ws r).1, (tokP ws r).2) := by simp [tokP, h]
theorem tokP_b0 : tokP ws [92] = ([], []) := by simp [tokP]
theorem tokP_o {c : Nat} (r : List Nat) (h1 : c ∉ ws) (h2 : c ≠ 92) : tokP ws (c :: r) = (c :: (tokP ws r).1, (tokP ws r).2) := by cases r <;> simp [tokP, h1, h2]
theorem tok_w {c : Nat} (r : List Nat) (h : c ∈ ws) : tok ws (c :: r) = tok ws r := by simp [tok, h]
theorem tok_q (r : List Nat) (h : 34 ∉ ws) : tok ws (34 :: r) = tokQ r := by simp [tok, h]
theorem tok_b (d : Nat) (r : List Nat) (h : 92 ∉ ws) : tok ws (92 :: d :: r) = (d :: (tokP ws r).1, (tokP ws r).2) := by simp [tok, h]
theorem tok_b0 (h : 92 ∉ ws) : tok ws [92] = ([], []) := by simp [tok, h]
theorem tok_o {c : Nat} (r : List Nat) (h1 : c ∉ ws) (h2 : c ≠ 34) (h3 : c ≠ 92) : tok ws (c :: r) = (c :: (tokP ws r).1, (tokP ws r).2) := by simp [tok, h1, h2, h3]
end

/-- a backslash at p and what it leaves, plain or quoted -/
theorem tokQ_at_b {sent : Str} {p : Nat} (h : p < sent.cps.size) (hb : sent.cps[p] = 92) :
    (tokQ (sent.cps.toList.drop p)).1 = (piece sent (p + 1)).cps.toList ++ (tokQ (sent.cps.toList.drop (p + 1 + (piece sent (p + 1)).length))).1 ∧ (tokQ (sent.cps.toList.drop p)).2 = (tokQ (sent.cps.toList.drop (p + 1 + (piece sent (p + 1)).length))).2 := by
  by_cases h1 : p + 1 < sent.cps.size
  · rw [piece_lt h1, drop_here h, drop_here h1, hb, tokQ_b]
    exact ⟨rfl, rfl⟩
  · rw [piece_ge (by omega), drop_here h, drop_end (p := p + 1) (by omega), hb, tokQ_b0]
    show _ = [] ++ (tokQ (sent.cps.toList.drop (p + 1 + 0))).1 ∧ _ = (tokQ (sent.cps.toList.drop (p + 1 + 0))).2
    rw [Nat.add_zero, drop_end (p := p + 1) (by omega)]
    exact ⟨rfl, rfl⟩
theorem tokP_at_b {ws : List Nat} {sent : Str} {p : Nat} (h : p < sent.cps.size) (hb : sent.cps[p] = 92) (hw : 92 ∉ ws) :
    (tokP ws (sent.cps.toList.drop p)).1 = (piece sent (p + 1)).cps.toList ++ (tokP ws (sent.cps.toList.drop (p + 1 + (piece sent (p + 1)).length))).1 ∧ (tokP ws (sent.cps.toList.drop p)).2 = (tokP ws (sent.cps.toList.drop (p + 1 + (piece sent (p + 1)).length))).2 := by
  by_cases h1 : p + 1 < sent.cps.size
  · rw [piece_lt h1, drop_here h, drop_here h1, hb, tokP_b _ _ hw]
    exact ⟨rfl, rfl⟩
  · rw [piece_ge (by omega), drop_here h, drop_end (p := p + 1) (by omega), hb, tokP_b0]
    show _ = [] ++ (tokP ws (sent.cps.toList.drop (p + 1 + 0))).1 ∧ _ = (tokP ws (sent.cps.toList.drop (p + 1 + 0))).2
    rw [Nat.add_zero, drop_end (p := p + 1) (by omega)]
    exact ⟨rfl, rfl⟩
theorem tok_at_b {ws : List Nat} {sent : Str} {p : Nat} (h : p < sent.cps.size) (hb : sent.cps[p] = 92) (hw : 92 ∉ ws) :
    (tok ws (sent.cps.toList.drop p)).1 = (piece sent (p + 1)).cps.toList ++ (tokP ws (sent.cps.toList.drop (p + 1 + (piece sent (p + 1)).length))).1 ∧ (tok ws (sent.cps.toList.drop p)).2 = (tokP ws (sent.cps.toList.drop (p + 1 + (piece sent (p + 1)).length))).2 := by
  by_cases h1 : p + 1 < sent.cps.size
  · rw [piece_lt h1, drop_here h, drop_here h1, hb, tok_b _ _ hw]
    exact ⟨rfl, rfl⟩
  · rw [piece_ge (by omega), drop_here h, drop_end (p := p + 1) (by omega), hb, tok_b0 hw]
    show _ = [] ++ (tokP ws (sent.cps.toList.drop (p + 1 + 0))).1 ∧ _ = (tokP ws (sent.cps.toList.drop (p + 1 + 0))).2
    rw [Nat.add_zero, drop_end (p := p + 1) (by omega)]
    exact ⟨rfl, rfl⟩
theorem piece_len {sent : Str} {p : Nat} (h : p ≤ sent.cps.size) : p + (piece sent p).length ≤ sent.cps.size := by
  by_cases h1 : p < sent.cps.size
  · rw [piece_lt h1]; exact h1
  · rw [piece_ge (by omega)]; exact h
theorem drop_len {sent : Str} {p : Nat} (h : p ≤ sent.cps.size) : p = sent.cps.size - (sent.cps.toList.drop p).length := by simp; omega

theorem sep3 {x : Lx} {q ci : Addr} (hnd : List.Nodup [x.lex, x.lexd, x.st, x.std, x.atA, x.pb]) (hq : x.pb < q ∧ x.lex < q ∧ x.lexd < q ∧ x.st < q ∧ x.std < q ∧ x.atA < q) (hci : q < ci) {C : Addr} {P : Params} {sent : Str} {p : Nat} {tl ta : Tok} {o1 o2 o3 : Obj} :
    ∀ r ∈ [(ci, o1), (q, o2), (x.pb, o3)], r.1 ∉ (x.own C P sent p tl ta).map (·.1) := by
  obtain ⟨nd, e1, e2, e3, e4, e5⟩ := nd6 hnd
  obtain ⟨q1, q2, q3, q4, q5, q6⟩ := hq
  have neq : ∀ b : Nat, b < q → b ≠ ci := fun b hb => Nat.ne_of_lt (Nat.lt_trans hb hci)
  intro r hr
  have l1 := neq _ q2; have l2 := neq _ q3; have l3 := neq _ q4; have l4 := neq _ q5; have l5 := neq _ q6
  have m1 := Nat.ne_of_lt q2; have m2 := Nat.ne_of_lt q3; have m3 := Nat.ne_of_lt q4; have m4 := Nat.ne_of_lt q5; have m5 := Nat.ne_of_lt q6
  simp at hr
  rcases hr with rfl | rfl | rfl
  · simp; exact ⟨Ne.symm l1, Ne.symm l2, Ne.symm l3, Ne.symm l4, Ne.symm l5⟩
  · simp; exact ⟨Ne.symm m1, Ne.symm m2, Ne.symm m3, Ne.symm m4, Ne.symm m5⟩
  · simp; exact ⟨Ne.symm e1, Ne.symm e2, Ne.symm e3, Ne.symm e4, Ne.symm e5⟩
theorem fit1 {a : List Nat} {y : Str} (h : a.length ≤ 1000000) (hy : y.length ≤ 1) : Str.length ⟨a.toArray⟩ + y.length ≤ sizeLine := by
  have e24 : sizeLine = 16777216 := by decide
  have : Str.length ⟨a.toArray⟩ = a.length := by simp [Str.length]
  omega
theorem piece_le1 (sent : Str) (p : Nat) : (piece sent p).length ≤ 1 := by
  by_cases h1 : p < sent.cps.size
  · rw [piece_lt h1]; exact Nat.le_refl 1
  · rw [piece_ge (by omega)]; exact Nat.zero_le 1
theorem tokQ_len : ∀ l : List Nat, (tokQ l).1.length ≤ l.length
  | [] => by simp [tokQ]
  | [c] => by by_cases h : c = 34 ∨ c = 92 <;> simp [tokQ, h]
  | c :: d :: r => by
    have h1 := tokQ_len r
    have h2 := tokQ_len (d :: r)
    unfold tokQ
    by_cases a : c = 34
    · simp [a]
    · by_cases b : c = 92
      · simp [b]; omega
      · simp [a, b] at h2 ⊢; exact h2
theorem tokP_len (ws : List Nat) : ∀ l : List Nat, (tokP ws l).1.length ≤ l.length
  | [] => by simp [tokP]
  | [c] => by by_cases h : c ∈ ws ∨ c = 92 <;> simp [tokP, h]
  | c :: d :: r => by
    have h1 := tokP_len ws r
    have h2 := tokP_len ws (d :: r)
    unfold tokP
    by_cases a : c ∈ ws
    · simp [a]
    · by_cases b : c = 92
      · subst b; simp [a]; omega
      · simp [a, b] at h2 ⊢; exact h2
theorem tok_len (ws : List Nat) : ∀ l : List Nat, (tok ws l).1.length ≤ l.length
  | [] => by simp [tok]
  | c :: r => by
    have h1 := tok_len ws r
    have h2 := tokQ_len r
    have h3 := tokP_len ws r
    unfold tok
    by_cases a : c ∈ ws
    · simp [a]; omega
    · by_cases b : c = 34
      · subst b; simp [a]; omega
      · by_cases d : c = 92
        · subst d
          cases r with
          | nil => simp [a]
          | cons e r' => have := tokP_len ws r'; simp [a]; omega
        · simp [a, b, d]; exact h3
end Mine
end
-- part Kit4
section
open PySem PySem.W PyProof.Rows PySem.Calls
set_option Elab.async false
set_option maxRecDepth 100000
set_option maxHeartbeats 400000
set_option linter.unusedVariables false
namespace Mine
open Builtin Builtin.Str
theorem idx_clip (a b n : Nat) : strSliceIndices (some (a : Int)) (some (b : Int)) 1 n = strSliceIndices (some ((min a n : Nat) : Int)) (some ((min b n : Nat) : Int)) 1 n := by
  unfold strSliceIndices
  have h1 : ¬ ((a : Int) < 0) := by omega
  have h2 : ¬ ((b : Int) < 0) := by omega
  have h3 : ¬ (((min a n : Nat) : Int) < 0) := by omega
  have h4 : ¬ (((min b n : Nat) : Int) < 0) := by omega
  simp only [h1, h2, h3, h4, if_false, show (1 : Int) > 0 by decide, if_true]
  congr 1
  · omega
  · omega
theorem idx_empty {a b n : Nat} (h : b ≤ a) : strSliceIndices (some (a : Int)) (some (b : Int)) 1 n = [] := by
  unfold strSliceIndices sliceRange
  have h1 : ¬ ((a : Int) < 0) := by omega
  have h2 : ¬ ((b : Int) < 0) := by omega
  simp only [h1, h2, if_false, show (1 : Int) > 0 by decide, if_true]
  rw [if_neg (by omega)]
  rfl
theorem slice_nat (x : PySem.Str) (a b : Nat) : Txt.slice x (some (a : Int)) (some (b : Int)) = ⟨((x.cps.toList.drop a).take (b - a)).toArray⟩ := by
  show StrLaws.sliceText x _ _ = _
  by_cases h : a ≤ b
  · have e : StrLaws.sliceText x (some (a : Int)) (some (b : Int)) = StrLaws.sliceText x (some ((min a x.length : Nat) : Int)) (some ((min b x.length : Nat) : Int)) := by
      unfold StrLaws.sliceText; rw [idx_clip]
    rw [e, StrLaws.sliceText_nat x (by omega) (by omega)]
    have hl : x.length = x.cps.toList.length := by simp [PySem.Str.length]
    congr 2
    rw [hl]
    generalize x.cps.toList = l
    by_cases h1 : a ≤ l.length
    · rw [Nat.min_eq_left h1]
      by_cases h2 : b ≤ l.length
      · rw [Nat.min_eq_left h2]
      · rw [show min b l.length = l.length by omega, List.take_of_length_le (by simp), List.take_of_length_le (by simp; omega)]
    · rw [show min a l.length = l.length by omega, List.drop_of_length_le (Nat.le_refl _), List.drop_of_length_le (by omega)]
      simp
  · unfold StrLaws.sliceText
    rw [idx_empty (by omega), show b - a = 0 by omega, List.take_zero]
    by_cases h0 : x.length = 0
    · rw [if_pos (by simp [h0])]
      cases x with | mk c => have : c = #[] := by simpa [PySem.Str.length] using h0
                             rw [this]
    · rw [if_neg (by simp; omega)]
      rfl
theorem slice_piece (sent : PySem.Str) (n : Nat) : Txt.slice sent (some (n : Int)) (some ((n : Int) + 1)) = piece sent n := by
  have := slice_nat sent n (n + 1)
  rw [show ((n + 1 : Nat) : Int) = (n : Int) + 1 by omega] at this
  rw [this]
  unfold piece
  congr 1
  apply Array.ext'
  simp
theorem slice_to (x : PySem.Str) (b : Nat) : Txt.slice x none (some (b : Int)) = ⟨(x.cps.toList.take b).toArray⟩ := by
  have e : Txt.slice x none (some (b : Int)) = Txt.slice x (some ((0 : Nat) : Int)) (some (b : Int)) := by
    show StrLaws.sliceText x _ _ = StrLaws.sliceText x _ _
    unfold StrLaws.sliceText; rw [StrLaws.sliceIdx_none_lo]; rfl
  rw [e, slice_nat]
  simp
end Mine
end
-- part Kit5
section
open PySem PySem.W PyProof.Rows PySem.Calls
set_option Elab.async false
set_option maxRecDepth 100000
set_option maxHeartbeats 400000
set_option linter.unusedVariables false
namespace Mine
abbrev liO (D : Addr) (i : Nat) : Obj := { cls := .type "list_iterator", data := .fields #[.ref D, .int i 0] }
abbrev riO (x left step : Int) : Obj := { cls := .type "range_iterator", data := .fields #[rawInt x, rawInt left, rawInt step] }
section
variable {prog : Program} {w : World} {A : Around} {E : Value → Shared → Prop} {s : Shared} {h₀ : Heap} {L it D : Addr} {m : Str → Option Value} {news : List (Addr × Obj)} {its : Array Value} {i : Nat}
theorem fr_sameBut {h' : Heap} (F : Fr h₀ L s.heap m) (hit : h₀.get? it = none) (hL : it ≠ L) (hs : Heap.SameBut it s.heap h') : Fr h₀ L h' m := by
  obtain ⟨oL, es, ep, hL', rL⟩ := F.ns
  exact ⟨⟨oL, es, ep, (hs.2 _ (Ne.symm hL)).trans hL', rL⟩, fun b o e => (hs.2 b (fun z => by rw [z, hit] at e; cases e)).trans (F.keep b o e), F.above⟩
theorem fr_extBut {h' : Heap} (F : Fr h₀ L s.heap m) (hit : h₀.get? it = none) (hL : it ≠ L) (hs : Heap.ExtBut it s.heap h') : Fr h₀ L h' m := by
  obtain ⟨oL, es, ep, hL', rL⟩ := F.ns
  exact ⟨⟨oL, es, ep, hs _ _ (Ne.symm hL) hL', rL⟩, fun b o e => hs b o (fun z => by rw [z, hit] at e; cases e) (F.keep b o e), F.above⟩
theorem liter_K {Q : Value → Shared → Prop} (F : Fr h₀ L s.heap m) (N : News h₀ L s.heap news) (hD : s.heap.IsList D its)
    (h : ∀ it h', Fr h₀ L h' m → News h₀ L h' ((it, liO D 0) :: news) → (∀ p ∈ news, p.1 < it) → Q (.ref it) { s with heap := h' }) : wpAny (model prog w) A (pyIter (.ref D)) Q E s :=
  wpAny_pyIter_list hD (h _ _ (F.push _) (N.push F _) fun p hp => Heap.lt_size (N p hp).1)
theorem lnext_K {Q : Option Value → Shared → Prop} (hh : A.handled = none) (F : Fr h₀ L s.heap m) (N : News h₀ L s.heap ((it, liO D i) :: news)) (hD : s.heap.IsList D its) (hne : ∀ p ∈ news, p.1 ≠ it)
    (h1 : ∀ v, its[i]? = some v → ∀ h', Fr h₀ L h' m → News h₀ L h' ((it, liO D (i + 1)) :: news) → Q (some v) { s with heap := h' })
    (h2 : its[i]? = none → ∀ h', Fr h₀ L h' m → News h₀ L h' news → Q none { s with heap := h' }) : wpAny (model prog w) A (pyNext (.ref it)) Q E s := by
  obtain ⟨hit, hL, h0⟩ := N _ (.head _)
  have hI : s.heap.IsListIter it D i := ⟨_, hit, rfl, rfl⟩
  cases hx : its[i]? with
  | none => exact wpAny_pyNext_list_end hh hI hD hx fun h' hs => h2 hx h' (fr_extBut F h0 hL hs) fun p hp => ⟨hs _ _ (hne p hp) (N p (.tail _ hp)).1, (N p (.tail _ hp)).2⟩
  | some v =>
    obtain ⟨ol, hol, _, nl, hdl⟩ := hD
    unfold pyNext
    refine wpAny_bind (wpAny_attempt (wpAny_callSpecial?_slot (name := Str.ofString "__next__") hI.typeIs slot_listiter_next
      (wpAny_call_entry slot_listiter_next hI.typeIs entry_listiter_next ?_ (args_listiter_next _))))
    show wpAny _ _ (field (.ref it) 0 >>= _) _ _ s
    refine wpAny_bind (wpAny_field hit rfl (x := .ref D) rfl ?_)
    show wpAny _ _ (if (Value.ref D == Value.none) = true then _ else _) _ _ s
    rw [if_neg (show ¬ ((Value.ref D == Value.none) = true) from Bool.false_ne_true)]
    show wpAny _ _ (field (.ref it) 1 >>= _) _ _ s
    refine wpAny_bind (wpAny_field hit rfl (x := .int i 0) rfl ?_)
    show wpAny _ _ (seqItems? (.ref D) >>= _) _ _ s
    refine wpAny_bind (wpAny_seqItems hol hdl ?_)
    simp only [Int.toNat_natCast, hx]
    refine wpAny_bind (wpAny_setField_rec hit (by show (1 : Nat) < 2; omega) fun h' e1 b1 => wpAny_pure ⟨v, rfl, wpAny_pure ?_⟩)
    refine h1 v hx h' (fr_sameBut F h0 hL b1) fun p hp => ?_
    rcases List.mem_cons.mp hp with rfl | hp
    · exact ⟨e1, hL, h0⟩
    · exact ⟨(b1.2 _ (hne p hp)).trans (N p (.tail _ hp)).1, (N p (.tail _ hp)).2⟩
theorem rnext_K {x left step : Int} {Q : Option Value → Shared → Prop} (hh : A.handled = none) (F : Fr h₀ L s.heap m) (N : News h₀ L s.heap ((it, riO x left step) :: news)) (hne : ∀ p ∈ news, p.1 ≠ it)
    (h1 : 0 < left → ∀ h' t tk, Fr h₀ L h' m → News h₀ L h' ((it, riO (x + step) (left - 1) step) :: news) → Q (some (.int x t)) { s with heap := h', toks := tk })
    (h2 : left ≤ 0 → ∀ h', Fr h₀ L h' m → News h₀ L h' news → Q none { s with heap := h' }) : wpAny (model prog w) A (pyNext (.ref it)) Q E s := by
  obtain ⟨hit, hL, h0⟩ := N _ (.head _)
  by_cases hl : 0 < left
  · refine wpAny_pyNext_range_item hit hl fun h' hi' hs => h1 hl h' _ _ (fr_sameBut F h0 hL hs) fun p hp => ?_
    rcases List.mem_cons.mp hp with rfl | hp
    · exact ⟨hi', hL, h0⟩
    · exact ⟨(hs.2 _ (hne p hp)).trans (N p (.tail _ hp)).1, (N p (.tail _ hp)).2⟩
  · exact wpAny_pyNext_range_end hh hit (by omega) fun h' hs => h2 (by omega) h' (fr_extBut F h0 hL hs) fun p hp => ⟨hs _ _ (hne p hp) (N p (.tail _ hp)).1, (N p (.tail _ hp)).2⟩
end

section
variable {prog : Program} {w : World} {A : Around} {E : Value → Shared → Prop} {s : Shared} {h₀ : Heap} {L r : Addr} {m : Str → Option Value} {news : List (Addr × Obj)}
theorem riter_K {n : Nat} {t u v : Tok} {Q : Value → Shared → Prop} (F : Fr h₀ L s.heap m) (N : News h₀ L s.heap news) (hr : IsRange s.heap r 0 (n : Int) 1 t u v) (hn : n ≤ 1000000)
    (h : ∀ it h', Fr h₀ L h' m → News h₀ L h' ((it, riO 0 n 1) :: news) → (∀ p ∈ news, p.1 < it) → Q (.ref it) { s with heap := h' }) : wpAny (model prog w) A (pyIter (.ref r)) Q E s := by
  have e : Builtin.Range.rangeSize 0 (n : Int) 1 = (n : Int) := by
    unfold Builtin.Range.rangeSize
    simp
    omega
  refine wpAny_pyIter_range hr ?_ ?_
  · unfold Builtin.Range.small Builtin.Range.rangeFitsLong
    simp
    omega
  · rw [e]
    exact h _ _ (F.push _) (N.push F _) fun p hp => Heap.lt_size (N p hp).1
end
section
variable {g h : Heap} {L : Addr} {m : Str → Option Value}
theorem canon1 (F : Fr g L h m) (a : Str) {v : Value} (e : m a = some v) : Fr g L h (fun y => if y = a then some v else m y) := by
  have : (fun y => if y = a then some v else m y) = m := by
    funext y
    by_cases h1 : y = a
    · rw [if_pos h1, h1, e]
    · rw [if_neg h1]
  rw [this]; exact F
theorem canon2 (F : Fr g L h m) (a b : Str) {v v2 : Value} (e : m a = some v) (e2 : m b = some v2) : Fr g L h (fun y => if y = a then some v else if y = b then some v2 else m y) := by
  have F2 := canon1 (canon1 F b e2) a (v := v) (by by_cases q : a = b; · { subst q; rw [e2] at e; cases e; simp } ; · { rw [if_neg q]; exact e })
  exact F2
theorem canon3 (F : Fr g L h m) (a b c : Str) {v v2 v3 : Value} (e : m a = some v) (e2 : m b = some v2) (e3 : m c = some v3) : Fr g L h (fun y => if y = a then some v else if y = b then some v2 else if y = c then some v3 else m y) := by
  have F2 := canon1 (canon2 F b c e2 e3) a (v := v) (by by_cases q : a = b; · { subst q; rw [e2] at e; cases e; simp } ; · { rw [if_neg q]; by_cases q2 : a = c; · { subst q2; rw [e3] at e; cases e; simp }; · { rw [if_neg q2]; exact e } })
  exact F2
end
end Mine
end
-- part Kit6
section
open PySem PySem.W PyProof.Rows PySem.Calls
set_option Elab.async false
set_option maxRecDepth 100000
set_option maxHeartbeats 400000
set_option linter.unusedVariables false
namespace Mine
/-- the pieces of a text -/
def pcs : Option Nat → List Nat → List (List Nat)
  | _, [] => []
  | a, c :: r => if c = 13 ∨ c = 10 then (if c = 13 ∨ a ≠ some 13 then [13, 10] :: pcs (some c) r else pcs (some c) r) else if c = 46 ∧ (a = none ∨ a = some 13 ∨ a = some 10) then [46, 46] :: pcs (some c) r else [c] :: pcs (some c) r
abbrev strsO (l : List (Str × Tok)) (n : Nat) : Obj := listOf (strValues l).toArray n
abbrev lists (l : List (Str × Tok)) : List (List Nat) := l.map fun q => q.1.cps.toList

def prevAt (x : Str) (i : Nat) : Option Nat := if i = 0 then none else x.cps[i - 1]?
def aheadS : Option Nat → Str
  | none => ⟨#[]⟩
  | some a => ⟨#[a]⟩
theorem item_at {x : Str} {i : Nat} (h : i < x.cps.size) : Txt.item x (i : Int) = ⟨#[x.cps[i]]⟩ := by
  unfold Txt.item Txt.charAt seqIndex?
  have h1 : ¬ ((i : Int) < 0) := by omega
  have h2 : ((0 : Int) ≤ (i : Int) && decide ((i : Int) < (x.length : Int))) = true := by
    have : i < x.length := h
    simp; omega
  simp only [h1, if_false]
  simp [Str.length, h]
theorem push_strs (l : List (Str × Tok)) (q : Str) (tq : Tok) : (strValues l).toArray.push (.str q tq) = (strValues (l ++ [(q, tq)])).toArray := by simp [strValues]
theorem ofCRLF : (Str.ofString "\r\n").cps.toList = [13, 10] := by decide +kernel
theorem ofCR : Str.ofString "\r" = ⟨#[13]⟩ := by decide +kernel
theorem ofLF : Str.ofString "\n" = ⟨#[10]⟩ := by decide +kernel
theorem ofDot : Str.ofString "." = ⟨#[46]⟩ := by decide +kernel
theorem ofNil : Str.ofString "" = ⟨#[]⟩ := by decide +kernel
end Mine
end
-- part Kit7
section
open PySem PySem.W PyProof.Rows PySem.Calls
set_option Elab.async false
set_option maxRecDepth 100000
set_option maxHeartbeats 400000
set_option linter.unusedVariables false
namespace Mine
section
variable {prog : Program} {w : World} {A : Around} {E : Value → Shared → Prop} {s : Shared} {g : Heap} {L P : Addr} {m : Str → Option Value} {news : List (Addr × Obj)} {l : List (Str × Tok)} {value slice : Expr} {k : Nat} {u : Tok} {Q : Value → Shared → Prop}
theorem strVals_at (h : k < l.length) : (strValues l)[k]? = some (.str l[k].1 l[k].2) := by simp [strValues, h]
theorem strs_item (hP : s.heap.IsList P (strValues l).toArray) (hl : l.length ≤ 1000000) (hk : k < l.length) (h : Q (.str l[k].1 l[k].2) s)
    (hs : subscripted slice false (.ref P) (.int (k : Int) u) = operate [.ref P, .int (k : Int) u] (getItem (.ref P) (.int (k : Int) u)) := by with_unfolding_all rfl) :
    wpAny (model prog w) A (subscriptTail value slice (.ref P) (.int (k : Int) u)) Q E s :=
  tail_any hP.typeIs slot_list_getitem.lookup (wpAny_getItem_list hP (by omega) (by omega) (by simpa using strVals_at hk) h) hs
theorem strs_len (hP : s.heap.IsList P (strValues l).toArray) (hl : l.length ≤ 1000000) (h : ∀ t tk, Q (.int (l.length : Int) t) { s with toks := tk }) : wpAny (model prog w) A (call (.builtin "len") [.ref P]) Q E s := by
  have e : (strValues l).toArray.size = l.length := by simp [strValues]
  refine call_len_list hP (by rw [e]; omega) ?_
  rw [e]
  exact h _ _
end
end Mine
end
-- part Kit8
section
open PySem PySem.W PyProof.Rows PySem.Calls PySem.SeqAt
set_option Elab.async false
set_option maxRecDepth 100000
set_option maxHeartbeats 400000
set_option linter.unusedVariables false
namespace Mine
/-- do two lists agree at j -/
def eqAtJ (xs ys : List Str) (j : Nat) : Bool := xs.getD j ⟨#[]⟩ == ys.getD j ⟨#[]⟩
theorem getD_at {α : Type} {xs : List α} {j : Nat} {d : α} (h : j < xs.length) : xs.getD j d = xs[j] := by simp [List.getD_eq_getElem?_getD, h]
theorem all_eqAtJ : ∀ {xs ys : List Str}, xs.length = ys.length → (List.range xs.length).all (eqAtJ xs ys) = decide (xs = ys) := by
  intro xs ys h
  rw [Bool.eq_iff_iff, List.all_eq_true, decide_eq_true_iff]
  constructor
  · intro q
    refine List.ext_getElem h fun i h1 h2 => ?_
    have := q i (List.mem_range.mpr h1)
    unfold eqAtJ at this
    rw [beq_iff_eq, getD_at h1, getD_at h2] at this
    exact this
  · rintro rfl i _
    exact beq_self_eq_true _
section
variable {prog : Program} {w : World} {A : Around} {E : Value → Shared → Prop} {s : Shared} {a b : Addr} {l l2 : List (Str × Tok)} {Q : Value → Shared → Prop}
theorem strs_eqAt (j : Nat) (h1 : j < (strValues l).toArray.size) (h2 : j < (strValues l2).toArray.size) : EqAt A s (strValues l).toArray[j] (strValues l2).toArray[j] (eqAtJ (l.map (·.1)) (l2.map (·.1)) j) := by
  have g1 : j < l.length := by simpa [strValues] using h1
  have g2 : j < l2.length := by simpa [strValues] using h2
  have e1 : (strValues l).toArray[j] = .str l[j].1 l[j].2 := by simp [strValues]
  have e2 : (strValues l2).toArray[j] = .str l2[j].1 l2[j].2 := by simp [strValues]
  rw [e1, e2]
  have e3 : eqAtJ (l.map (·.1)) (l2.map (·.1)) j = (l[j].1 == l2[j].1) := by
    unfold eqAtJ
    rw [getD_at (by simpa using g1), getD_at (by simpa using g2)]
    simp
  rw [e3]
  exact EqAt.str_str _ _ _ _
theorem strs_size : (strValues l).toArray.size = (l.map (·.1)).length := by simp [strValues]
theorem strs_ne (ha : s.heap.IsList a (strValues l).toArray) (hb : s.heap.IsList b (strValues l2).toArray) (hu : A.units < cLine) (h : Q (.bool (!decide (l.map (·.1) = l2.map (·.1)))) s) :
    wpAny (model prog w) A (compareOp .NotEq (.ref a) (.ref b)) Q E s := by
  by_cases hs : (l.map (·.1)).length = (l2.map (·.1)).length
  · have := RcNeAt.lists (A := A) ha hb (by rw [strs_size, strs_size, hs]) hu (fun j h1 h2 => strs_eqAt j h1 h2)
    rw [strs_size, all_eqAtJ hs] at this
    exact this prog w E Q h
  · have e : decide (l.map (·.1) = l2.map (·.1)) = false := decide_eq_false fun q => hs (by rw [q])
    rw [e] at h
    exact RcNeAt.lists_lengths (A := A) ha hb (by rw [strs_size, strs_size]; simpa using hs) hu prog w E Q h
end
section
variable {prog : Program} {w : World} {A : Around} {E : Value → Shared → Prop} {s : Shared} {D : Addr} {Q : Value → Shared → Prop}
end
theorem canon4 {g h : Heap} {L : Addr} {m : Str → Option Value} (F : Fr g L h m) (a1 a2 a3 a4 : Str) {v1 v2 v3 v4 : Value} (e1 : m a1 = some v1) (e2 : m a2 = some v2) (e3 : m a3 = some v3) (e4 : m a4 = some v4) : Fr g L h (fun y => if y = a1 then some v1 else if y = a2 then some v2 else if y = a3 then some v3 else if y = a4 then some v4 else m y) := by
  have : (fun y => if y = a1 then some v1 else if y = a2 then some v2 else if y = a3 then some v3 else if y = a4 then some v4 else m y) = m := by
    funext y
    by_cases h1 : y = a1
    · rw [if_pos h1, h1, e1]
    rw [if_neg h1]
    by_cases h2 : y = a2
    · rw [if_pos h2, h2, e2]
    rw [if_neg h2]
    by_cases h3 : y = a3
    · rw [if_pos h3, h3, e3]
    rw [if_neg h3]
    by_cases h4 : y = a4
    · rw [if_pos h4, h4, e4]
    rw [if_neg h4]
  rw [this]; exact F
theorem canon5 {g h : Heap} {L : Addr} {m : Str → Option Value} (F : Fr g L h m) (a1 a2 a3 a4 a5 : Str) {v1 v2 v3 v4 v5 : Value} (e1 : m a1 = some v1) (e2 : m a2 = some v2) (e3 : m a3 = some v3) (e4 : m a4 = some v4) (e5 : m a5 = some v5) : Fr g L h (fun y => if y = a1 then some v1 else if y = a2 then some v2 else if y = a3 then some v3 else if y = a4 then some v4 else if y = a5 then some v5 else m y) := by
  have : (fun y => if y = a1 then some v1 else if y = a2 then some v2 else if y = a3 then some v3 else if y = a4 then some v4 else if y = a5 then some v5 else m y) = m := by
    funext y
    by_cases h1 : y = a1
    · rw [if_pos h1, h1, e1]
    rw [if_neg h1]
    by_cases h2 : y = a2
    · rw [if_pos h2, h2, e2]
    rw [if_neg h2]
    by_cases h3 : y = a3
    · rw [if_pos h3, h3, e3]
    rw [if_neg h3]
    by_cases h4 : y = a4
    · rw [if_pos h4, h4, e4]
    rw [if_neg h4]
    by_cases h5 : y = a5
    · rw [if_pos h5, h5, e5]
    rw [if_neg h5]
  rw [this]; exact F
end Mine
end
-- part Kit9
section
open PySem PySem.W PyProof.Rows PySem.Calls
set_option Elab.async false
set_option maxRecDepth 100000
set_option maxHeartbeats 400000
set_option linter.unusedVariables false
namespace Mine
theorem carried_snoc {y : Value} {d : PyData} (h : Carried y d) : ∀ {ys : List Value} {ds : List PyData}, CarriedAll ys ds → CarriedAll (ys ++ [y]) (ds ++ [d])
  | _, _, .nil => .cons h .nil
  | _, _, .cons a r => .cons a (carried_snoc h r)
/-- what a comprehension's turn must leave -/
def CompTurn (d : PyData) (s : Shared) (h : Heap) (y : Value) (s' : Shared) : Prop := Carried y d ∧ ∃ tk', s' = { s with heap := h, toks := tk' }
section
variable {prog : Program} {w : World} {A : Around} {s : Shared} {h₀ : Heap} {L : Addr} {m : Str → Option Value} {env : Env} {elt : Expr} {x : Str} {scope : Scope} {cl : List (Str × Addr)} {S : List (Addr × Obj) → Prop} {Fin : List Value → List (Addr × Obj) → Prop} {news : List (Addr × Obj)} {l : List (Str × Tok)}
end
section
variable {prog : Program} {w : World} {A : Around} {E : Value → Shared → Prop} {s : Shared} {D : Addr} {l : List (Str × Tok)} {Q : Value → Shared → Prop}
end
end Mine
end
-- part Kit10
section
open PySem PySem.W PyProof.Rows PySem.Calls
set_option Elab.async false
set_option maxRecDepth 100000
set_option maxHeartbeats 400000
set_option linter.unusedVariables false
namespace Mine
open Builtin Builtin.Str StrLaws
/-- replace, on plain lists -/
def rep (y z : List Nat) : Nat → List Nat → List Nat
  | _, [] => []
  | k + 1, _ :: r => rep y z k r
  | 0, c :: r => if y.isPrefixOf (c :: r) = true then z ++ rep y z (y.length - 1) r else c :: rep y z 0 r
def occL (y : List Nat) : Nat → Nat → List Nat → List Nat
  | _, _, [] => []
  | i, f, c :: r => if f ≤ i ∧ y.isPrefixOf (c :: r) = true then i :: occL y (i + 1) (i + y.length) r else occL y (i + 1) f r
def joinL (z : List Nat) : List (List Nat) → List Nat
  | [] => []
  | [p] => p
  | p :: q :: r => p ++ z ++ joinL z (q :: r)
theorem join_toList (z : PySem.Str) : ∀ ps : List PySem.Str, (PySem.Str.join z ps).cps.toList = joinL z.cps.toList (ps.map fun p => p.cps.toList)
  | [] => rfl
  | [p] => rfl
  | p :: q :: r => by
    have ih := join_toList z (q :: r)
    show (p ++ z ++ PySem.Str.join z (q :: r)).cps.toList = _
    simp only [PySem.Str.cps_append, Array.toList_append, ih]
    rfl
theorem prefix_take {y l : List Nat} : y.isPrefixOf l = true ↔ l.take y.length = y := by
  rw [List.isPrefixOf_iff_prefix]
  constructor
  · rintro ⟨t, rfl⟩; simp
  · intro h
    have e := List.take_append_drop y.length l
    rw [h] at e
    exact ⟨_, e⟩
theorem occ_list (x y : PySem.Str) (hy : 1 ≤ y.length) (limit : Nat) : ∀ (k i f : Nat) (arr : Array Nat), i + k = x.length + 1 → arr.size + k ≤ limit →
    (forIn (List.range' i k) (arr, f) (occBody x y x.length limit)).run.fst.toList = arr.toList ++ occL y.cps.toList i f (x.cps.toList.drop i) := by
  have hn : x.cps.toList.length = x.length := by simp [PySem.Str.length]
  have hyl : y.cps.toList.length = y.length := by simp [PySem.Str.length]
  intro k
  induction k with
  | zero =>
    intro i f arr hi hl
    have e : x.cps.toList.drop i = [] := List.drop_of_length_le (by omega)
    rw [e]
    show arr.toList = _
    simp [occL]
  | succ k ih =>
    intro i f arr hi hl
    rw [List.range'_succ, List.forIn_cons]
    unfold occBody
    by_cases hlt : i < x.length
    · have hi' : i < x.cps.toList.length := by omega
      rw [List.drop_eq_getElem_cons hi']
      by_cases hc : f ≤ i ∧ y.cps.toList.isPrefixOf (x.cps.toList.drop i) = true
      · have ht := prefix_take.mp hc.2
        have hle : i + y.length ≤ x.length := by
          have := congrArg List.length ht
          simp only [List.length_take, List.length_drop] at this
          omega
        have hs : subAt x y i = true := by rw [subAt_eq, ← hyl, ht]; exact beq_self_eq_true _
        rw [if_pos ⟨⟨⟨by show arr.size < limit; omega, hc.1⟩, hle⟩, hs⟩]
        have := ih (i + 1) (i + y.length) (arr.push i) (by omega) (by simp; omega)
        unfold occBody at this
        show _ = arr.toList ++ occL y.cps.toList i f (x.cps.toList[i] :: x.cps.toList.drop (i + 1))
        rw [occL, if_pos (by rw [← List.drop_eq_getElem_cons hi']; exact hc)]
        rw [hyl]
        have e2 : arr.toList ++ i :: occL y.cps.toList (i + 1) (i + y.length) (x.cps.toList.drop (i + 1)) = (arr.push i).toList ++ occL y.cps.toList (i + 1) (i + y.length) (x.cps.toList.drop (i + 1)) := by simp
        rw [e2]
        exact this
      · rw [if_neg (fun q => hc ⟨q.1.1.2, by
          have q2 := q.2
          rw [subAt_eq, beq_iff_eq, ← hyl] at q2
          exact prefix_take.mpr q2⟩)]
        have := ih (i + 1) f arr (by omega) (by omega)
        unfold occBody at this
        show _ = arr.toList ++ occL y.cps.toList i f (x.cps.toList[i] :: x.cps.toList.drop (i + 1))
        rw [occL, if_neg (by rw [← List.drop_eq_getElem_cons hi']; exact hc)]
        exact this
    · rw [if_neg (fun q => by have := q.1.2; omega)]
      have := ih (i + 1) f arr (by omega) (by omega)
      unfold occBody at this
      have e : x.cps.toList.drop i = [] := List.drop_of_length_le (by omega)
      have e' : x.cps.toList.drop (i + 1) = [] := List.drop_of_length_le (by omega)
      rw [e]
      rw [e'] at this
      simp only [occL] at this ⊢
      exact this
theorem occs_list (x y : PySem.Str) (hy : 1 ≤ y.length) : occurrences x y 0 x.length (x.length + 1) = occL y.cps.toList 0 0 x.cps.toList := by
  rw [occ_eq]
  have := occ_list x y hy (x.length + 1) (x.length + 1) 0 0 #[] (by omega) (by simp)
  rw [List.drop_zero] at this
  simpa using this
theorem join_parts (x y z : PySem.Str) (hy : 1 ≤ y.length) : ∀ (k i a : Nat), i + k = x.length → 
    (PySem.Str.join z (partsFrom x y.length a (occL y.cps.toList i a (x.cps.toList.drop i)))).cps.toList = (x.cps.toList.drop a).take (i - a) ++ rep y.cps.toList z.cps.toList (a - i) (x.cps.toList.drop i) := by
  have hn : x.cps.toList.length = x.length := by simp [PySem.Str.length]
  have hyl : y.cps.toList.length = y.length := by simp [PySem.Str.length]
  intro k
  induction k with
  | zero =>
    intro i a hi
    have e : x.cps.toList.drop i = [] := List.drop_of_length_le (by omega)
    rw [e]
    have e2 : rep y.cps.toList z.cps.toList (a - i) [] = [] := by cases (a - i) <;> rfl
    rw [e2, List.append_nil]
    show (strSub x a x.length).cps.toList = _
    rw [strSub_toList, show x.length = i by omega]
  | succ k ih =>
    intro i a hi
    have hi' : i < x.cps.toList.length := by omega
    rw [List.drop_eq_getElem_cons hi']
    by_cases ha : a ≤ i
    · by_cases hp : y.cps.toList.isPrefixOf (x.cps.toList[i] :: x.cps.toList.drop (i + 1)) = true
      · rw [occL, if_pos ⟨ha, hp⟩, hyl]
        have h1 := ih (i + 1) (i + y.length) (by omega)
        obtain ⟨p, r, e⟩ := partsFrom_ne x y.length (i + y.length) (occL y.cps.toList (i + 1) (i + y.length) (x.cps.toList.drop (i + 1)))
        show (PySem.Str.join z (strSub x a i :: partsFrom x y.length (i + y.length) _)).cps.toList = _
        rw [e] at h1 ⊢
        show (strSub x a i ++ z ++ PySem.Str.join z (p :: r)).cps.toList = _
        simp only [PySem.Str.cps_append, Array.toList_append, h1, strSub_toList]
        rw [show i + 1 - (i + y.length) = 0 by omega, List.take_zero, List.nil_append, show a - i = 0 by omega, rep, if_pos hp, hyl, show i + y.length - (i + 1) = y.length - 1 by omega, List.append_assoc]
      · rw [occL, if_neg (fun q => hp q.2), ih (i + 1) a (by omega), show a - i = 0 by omega, show a - (i + 1) = 0 by omega, rep, if_neg hp]
        have e3 : (x.cps.toList.drop a).take (i + 1 - a) = (x.cps.toList.drop a).take (i - a) ++ [x.cps.toList[i]] := by
          rw [show i + 1 - a = (i - a) + 1 by omega, List.take_add_one, List.getElem?_drop, show a + (i - a) = i by omega, List.getElem?_eq_getElem hi']
          rfl
        rw [e3, List.append_assoc]
        rfl
    · rw [occL, if_neg (fun q => ha q.1), ih (i + 1) a (by omega)]
      obtain ⟨j, hj⟩ : ∃ j, a - i = j + 1 := ⟨a - i - 1, by omega⟩
      rw [hj, rep, show a - (i + 1) = j by omega, show i + 1 - a = 0 by omega, show i - a = 0 by omega]
theorem replace_rep (x y z : PySem.Str) (hy : 1 ≤ y.length) : (Txt.replace x y z).cps.toList = rep y.cps.toList z.cps.toList 0 x.cps.toList := by
  have key := join_parts x y z hy x.length 0 0 (by omega)
  rw [List.drop_zero, ← occs_list x y hy, ← partsBetween_eq, ← glued_eq_join] at key
  simp only [Nat.sub_self, List.take_zero, List.nil_append, List.drop_zero] at key
  unfold Txt.replace
  have e0 : (y.length == 0) = false := by rw [beq_eq_false_iff_ne]; omega
  rw [e0, Bool.false_and, Bool.or_false]
  cases he : (occurrences x y 0 x.length (x.length + 1)).isEmpty
  · rw [if_neg (by simp)]; exact key
  · rw [if_pos rfl, ← key]
    rw [List.isEmpty_iff.mp he, glued_eq_join, partsBetween_eq]
    show _ = (strSub x 0 x.length).cps.toList
    rw [sub_whole]
/-- one sign replaced -/
def subs1 (c : Nat) (z : List Nat) (l : List Nat) : List Nat := l.flatMap fun k => if k = c then z else [k]
theorem rep_one (c : Nat) (z : List Nat) : ∀ l : List Nat, rep [c] z 0 l = subs1 c z l
  | [] => rfl
  | k :: r => by
    have ih := rep_one c z r
    rw [rep]
    show (if (c == k && List.isPrefixOf [] r) = true then z ++ rep [c] z 0 r else k :: rep [c] z 0 r) = (if k = c then z else [k]) ++ subs1 c z r
    rw [ih]
    by_cases h : k = c
    · subst h; simp
    · have : (c == k) = false := by rw [beq_eq_false_iff_ne]; exact fun q => h q.symm
      simp [this, h]
/-- CRLF made a feed -/
def unCR : List Nat → List Nat
  | [] => []
  | [c] => [c]
  | c :: d :: r => if c = 13 ∧ d = 10 then 10 :: unCR r else c :: unCR (d :: r)
theorem rep_crlf : ∀ (n : Nat) (l : List Nat), l.length ≤ n → rep [13, 10] [10] 0 l = unCR l := by
  intro n
  induction n with
  | zero => intro l h; have : l = [] := List.length_eq_zero_iff.mp (by omega); subst this; rfl
  | succ n ih =>
    intro l h
    match l with
    | [] => rfl
    | [c] =>
      rw [rep]
      show (if (13 == c && List.isPrefixOf [10] []) = true then _ else c :: rep _ _ 0 []) = _
      simp [List.isPrefixOf, rep, unCR]
    | c :: d :: r =>
      have h1 := ih (d :: r) (by simp at h ⊢; omega)
      have h2 := ih r (by simp at h; omega)
      rw [rep, unCR]
      show (if (13 == c && (10 == d && List.isPrefixOf [] r)) = true then [10] ++ rep [13, 10] [10] 1 (d :: r) else c :: rep _ _ 0 (d :: r)) = _
      rw [h1, show rep [13, 10] [10] 1 (d :: r) = rep [13, 10] [10] 0 r by rw [rep], h2]
      by_cases hc : c = 13 ∧ d = 10
      · obtain ⟨rfl, rfl⟩ := hc
        simp
      · rw [if_neg hc, if_neg (by
          intro q
          apply hc
          simp at q
          exact ⟨q.1.symm, q.2.symm⟩)]
def spl (c : Nat) : List Nat → List (List Nat)
  | [] => [[]]
  | k :: r => if k = c then [] :: spl c r else (match spl c r with | [] => [[k]] | p :: ps => (k :: p) :: ps)
theorem spl_free (c : Nat) : ∀ p : List Nat, c ∉ p → spl c p = [p]
  | [], _ => rfl
  | k :: r, h => by
    have h1 : k ≠ c := fun e => h (e ▸ List.mem_cons_self ..)
    rw [spl, if_neg h1, spl_free c r (fun m => h (List.mem_cons_of_mem _ m))]
theorem spl_app (c : Nat) (r : List Nat) : ∀ p : List Nat, c ∉ p → spl c (p ++ c :: r) = p :: spl c r
  | [], _ => by show spl c (c :: r) = _; rw [spl, if_pos rfl]
  | k :: q, h => by
    have h1 : k ≠ c := fun e => h (e ▸ List.mem_cons_self ..)
    show spl c (k :: (q ++ c :: r)) = _
    rw [spl, if_neg h1, spl_app c r q (fun m => h (List.mem_cons_of_mem _ m))]
theorem spl_join (c : Nat) : ∀ ps : List (List Nat), ps ≠ [] → (∀ p ∈ ps, c ∉ p) → spl c (joinL [c] ps) = ps
  | [], h, _ => absurd rfl h
  | [p], _, h => spl_free c p (h p (List.mem_singleton.mpr rfl))
  | p :: q :: r, _, h => by
    have ih := spl_join c (q :: r) (by simp) fun a ha => h a (List.mem_cons_of_mem _ ha)
    show spl c (p ++ [c] ++ joinL [c] (q :: r)) = _
    rw [List.append_assoc, List.singleton_append, spl_app c _ p (h p (List.mem_cons_self ..)), ih]
theorem split_ne (x y : PySem.Str) : Txt.split x y ≠ [] := by
  unfold Txt.split
  split
  · simp
  · split
    · simp
    · rw [partsBetween_eq]
      obtain ⟨p, r, e⟩ := partsFrom_ne x y.length 0 (occurrences x y 0 x.length (x.length + 1))
      rw [e]; simp
theorem split_spl (x : PySem.Str) (c : Nat) : (Txt.split x ⟨#[c]⟩).map (fun p => p.cps.toList) = spl c x.cps.toList := by
  have h1 := join_split x ⟨#[c]⟩
  have h2 := congrArg (fun s : PySem.Str => s.cps.toList) h1
  simp only [join_toList] at h2
  rw [← h2]
  refine (spl_join c _ ?_ ?_).symm
  · simpa using split_ne x ⟨#[c]⟩
  · intro p hp
    obtain ⟨q, hq, rfl⟩ := List.mem_map.mp hp
    exact split_free x c q hq
/-- the rows of a text -/
def rowsOf (l : List Nat) : List (List Nat) := spl 10 (subs1 13 [10] (unCR l))
end Mine
end
-- part KitU
section
open PySem PySem.W PyProof.Rows PySem.Calls
set_option Elab.async false
set_option maxRecDepth 100000
set_option maxHeartbeats 400000
set_option linter.unusedVariables false
namespace Mine
/-- numbers for texts are handed out upwards alone -/
theorem runs_up {M : Model} {Γ : Ctx} {p : Pos} {t : Sem Fin} {fs : List Frame} {s : Shared} {e : End} {s' : Shared} (h : Runs M Γ p t fs s e s') : s.toks ≤ s'.toks := by
  induction h with
  | fresh _ ih => simp only at ih; omega
  | call _ _ ih1 ih2 => exact Nat.le_trans ih1 ih2
  | resumeFresh _ _ _ _ ih1 ih2 => exact Nat.le_trans ih1 ih2
  | resumeSuspended _ _ _ _ ih1 ih2 => exact Nat.le_trans ih1 ih2
  | segRet _ _ ih1 ih2 => exact Nat.le_trans ih1 ih2
  | segGen _ _ ih1 ih2 => exact Nat.le_trans ih1 ih2
  | segSuspGen _ _ _ _ ih1 ih2 => exact Nat.le_trans ih1 ih2
  | _ => first | exact Nat.le_refl _ | assumption
theorem wakes_up {M : Model} {Γ : Ctx} {p : Pos} {g : Nat} {r : Resume} {s : Shared} {res : GenResult} {s' : Shared} (h : Wakes M Γ p g r s res s') : s.toks ≤ s'.toks := by
  unfold Wakes at h
  split at h
  · exact h.elim
  · split at h
    · obtain ⟨e₁, s₁, h1, _, _, rfl⟩ := h; have h2 := runs_up h1; exact h2
    · rw [h.2]; exact Nat.le_refl _
    · rw [h.2]; exact Nat.le_refl _
  · obtain ⟨e₁, s₁, h1, _, _, rfl⟩ := h; have h2 := runs_up h1; exact h2
  · rw [h.2]; exact Nat.le_refl _
  · rw [h.2]; exact Nat.le_refl _
theorem wp_up {α : Type} (M : Model) (Γ : Ctx) (n : Nat) (t : Sem α) : ∀ (Q : α → Pos → Shared → Prop) (E : Value → Pos → Shared → Prop) (p : Pos) (s : Shared), n ≤ s.toks →
    Sem.wp M Γ t (fun a p s' => n ≤ s'.toks → Q a p s') (fun e p s' => n ≤ s'.toks → E e p s') p s → Sem.wp M Γ t Q E p s := by
  induction t with
  | pure a => intro Q E p s hn h; exact h hn
  | raise e => intro Q E p s hn h; exact h hn
  | fresh k ih => intro Q E p s hn h; exact ih _ Q E p _ (Nat.le_succ_of_le hn) h
  | load a part k ih => intro Q E p s hn h; obtain ⟨o, ho, h⟩ := h; exact ⟨o, ho, ih _ Q E p _ hn h⟩
  | genState g k ih => intro Q E p s hn h; obtain ⟨o, ho, h⟩ := h; exact ⟨o, ho, ih _ Q E p _ hn h⟩
  | update a part f k ih => intro Q E p s hn h; exact ⟨h.1, ih _ Q E p _ hn h.2⟩
  | choose src m k ih => intro Q E p s hn h; exact ⟨h.1, ih _ Q E p _ hn h.2⟩
  | call c hd g l k ih => intro Q E p s hn h; obtain ⟨r, s', hr, h⟩ := h; exact ⟨r, s', hr, ih _ Q E p _ (Nat.le_trans hn (runs_up hr)) h⟩
  | resume g r l k ih => intro Q E p s hn h; obtain ⟨r, s', hr, h⟩ := h; exact ⟨r, s', hr, ih _ Q E p _ (Nat.le_trans hn (wakes_up hr)) h⟩
  | _ => intro Q E p s hn h; first | exact h.elim | (rename_i ih; exact ih _ Q E _ _ hn h)
section
variable {α : Type} {M : Model} {A : Around} {s : Shared}
theorem wpAny_up {t : Sem α} {Q : α → Shared → Prop} {E : Value → Shared → Prop} (n : Nat) (hn : n ≤ s.toks) (h : wpAny M A t (fun a s' => n ≤ s'.toks → Q a s') (fun e s' => n ≤ s'.toks → E e s') s) : wpAny M A t Q E s :=
  fun Γ p hΓ => wp_up M Γ n t _ _ p s hn (h Γ p hΓ)
end
end Mine
end
-- part Kit11
section
open PySem PySem.W PyProof.Rows PySem.Calls
set_option Elab.async false
set_option maxRecDepth 100000
set_option maxHeartbeats 400000
set_option linter.unusedVariables false
namespace Mine
/-- signs put ahead of the first row -/
def prep (a : List Nat) : List (List Nat) → List (List Nat)
  | [] => []
  | p :: ps => (a ++ p) :: ps
theorem unCR_o {c : Nat} (r : List Nat) (h : ¬ (c = 13 ∧ r.head? = some 10)) : unCR (c :: r) = c :: unCR r := by
  cases r with
  | nil => rfl
  | cons d r => rw [unCR, if_neg (by simpa using h)]
theorem spl_ne (c : Nat) : ∀ l : List Nat, spl c l ≠ []
  | [] => by simp [spl]
  | k :: r => by
    rw [spl]
    split
    · simp
    · split <;> simp
theorem spl_o {c k : Nat} (r : List Nat) (h : k ≠ c) : spl c (k :: r) = prep [k] (spl c r) := by
  rw [spl, if_neg h]
  have := spl_ne c r
  split
  · rename_i e; exact absurd e this
  · rename_i e; rw [e]; rfl
theorem rows_nil : rowsOf [] = [[]] := rfl
theorem subs1_cons (c k : Nat) (z r : List Nat) : subs1 c z (k :: r) = (if k = c then z else [k]) ++ subs1 c z r := by simp [subs1]
theorem rows_crlf (r : List Nat) : rowsOf (13 :: 10 :: r) = [] :: rowsOf r := by
  unfold rowsOf
  rw [unCR, if_pos ⟨rfl, rfl⟩, subs1_cons, if_neg (by decide)]
  show spl 10 (10 :: _) = _
  rw [spl, if_pos rfl]; rfl
theorem rows_cr (r : List Nat) (h : r.head? ≠ some 10) : rowsOf (13 :: r) = [] :: rowsOf r := by
  unfold rowsOf
  rw [unCR_o _ (fun q => h q.2), subs1_cons, if_pos rfl]
  show spl 10 (10 :: _) = _
  rw [spl, if_pos rfl]; rfl
theorem rows_lf (r : List Nat) : rowsOf (10 :: r) = [] :: rowsOf r := by
  unfold rowsOf
  rw [unCR_o _ (fun q => absurd q.1 (by decide)), subs1_cons, if_neg (by decide)]
  show spl 10 (10 :: _) = _
  rw [spl, if_pos rfl]; rfl
theorem rows_o {c : Nat} (r : List Nat) (h1 : c ≠ 10) (h2 : c ≠ 13) : rowsOf (c :: r) = prep [c] (rowsOf r) := by
  unfold rowsOf
  rw [unCR_o _ (fun q => h2 q.1), subs1_cons, if_neg h2]
  show spl 10 (c :: _) = _
  rw [spl_o _ h1]; rfl
theorem rows_ne (l : List Nat) : rowsOf l ≠ [] := spl_ne _ _
theorem prep_len {a : List Nat} {ps : List (List Nat)} : (prep a ps).length = ps.length := by cases ps <;> rfl
theorem joinL_prep (z a : List Nat) {ps : List (List Nat)} (h : ps ≠ []) : joinL z (prep a ps) = a ++ joinL z ps := by
  cases ps with
  | nil => exact absurd rfl h
  | cons p r => cases r with
    | nil => rfl
    | cons q r => simp [prep, joinL]
theorem joinL_cons (z p : List Nat) {ps : List (List Nat)} (h : ps ≠ []) : joinL z (p :: ps) = p ++ z ++ joinL z ps := by
  cases ps with
  | nil => exact absurd rfl h
  | cons q r => rfl
/-- a proof by the shape of a text: its end, its three line ends, another sign -/
theorem rows_ind {P : List Nat → Prop} (h0 : P []) (h1 : ∀ r, P r → P (13 :: 10 :: r)) (h2 : ∀ r, r.head? ≠ some 10 → P r → P (13 :: r)) (h3 : ∀ r, P r → P (10 :: r)) (h4 : ∀ c r, c ≠ 10 → c ≠ 13 → P r → P (c :: r)) (l : List Nat) : P l := by
  have : ∀ n (l : List Nat), l.length ≤ n → P l := by
    intro n
    induction n with
    | zero => intro l h; have : l = [] := List.length_eq_zero_iff.mp (by omega); subst this; exact h0
    | succ n ih =>
      intro l h
      cases l with
      | nil => exact h0
      | cons c r =>
        have hr := ih r (by simp at h; omega)
        by_cases c13 : c = 13
        · subst c13
          cases r with
          | nil => exact h2 _ (by simp) hr
          | cons d r' =>
            by_cases d10 : d = 10
            · subst d10; exact h1 _ (ih r' (by simp at h; omega))
            · exact h2 _ (by simpa using d10) hr
        · by_cases c10 : c = 10
          · subst c10; exact h3 _ hr
          · exact h4 _ _ c10 c13 hr
  exact this _ l (Nat.le_refl _)
theorem rows_free (l : List Nat) : ∀ p ∈ rowsOf l, 10 ∉ p ∧ 13 ∉ p := by
  induction l using rows_ind with
  | h0 => intro p hp; rw [rows_nil] at hp; simp at hp; subst hp; simp
  | h1 r ih => rw [rows_crlf]; intro p hp; rcases List.mem_cons.mp hp with rfl | hp; · simp
               · exact ih p hp
  | h2 r hr ih => rw [rows_cr _ hr]; intro p hp; rcases List.mem_cons.mp hp with rfl | hp; · simp
                  · exact ih p hp
  | h3 r ih => rw [rows_lf]; intro p hp; rcases List.mem_cons.mp hp with rfl | hp; · simp
               · exact ih p hp
  | h4 c r h1 h2 ih =>
    rw [rows_o _ h1 h2]
    have hne := rows_ne r
    cases hr : rowsOf r with
    | nil => exact absurd hr hne
    | cons p ps =>
      rw [hr] at ih
      intro q hq
      rcases List.mem_cons.mp hq with rfl | hq
      · have := ih p (.head _)
        simp only [List.singleton_append, List.mem_cons, not_or]
        exact ⟨⟨Ne.symm h1, this.1⟩, ⟨Ne.symm h2, this.2⟩⟩
      · exact ih q (.tail _ hq)
theorem crlf13 (r : List Nat) (h : r.head? ≠ some 10) : crlf (13 :: r) = 13 :: 10 :: crlf r := by
  cases r with
  | nil => rfl
  | cons d r => rw [crlf, if_neg (by simpa using h), if_pos (.inr rfl)]
theorem crlf10 (r : List Nat) : crlf (10 :: r) = 13 :: 10 :: crlf r := by
  cases r with
  | nil => rfl
  | cons d r => rw [crlf, if_neg (by simp), if_pos (.inl rfl)]
theorem crlf_rows (l : List Nat) : crlf l = joinL [13, 10] (rowsOf l) := by
  induction l using rows_ind with
  | h0 => rfl
  | h1 r ih => rw [rows_crlf, joinL_cons _ _ (rows_ne r), crlf, if_pos ⟨rfl, rfl⟩, ih]; rfl
  | h2 r hr ih => rw [rows_cr _ hr, joinL_cons _ _ (rows_ne r), crlf13 _ hr, ih]; rfl
  | h3 r ih => rw [rows_lf, joinL_cons _ _ (rows_ne r), crlf10, ih]; rfl
  | h4 c r h1 h2 ih => rw [rows_o _ h1 h2, joinL_prep _ _ (rows_ne r), crlf_other _ (by unfold is2; omega), ih]; rfl
def dotRow (p : List Nat) : List Nat := if p.head? = some 46 then 46 :: p else p
theorem dots_mid : ∀ (p r : List Nat), 10 ∉ p → dots false (p ++ r) = p ++ dots false r
  | [], _, _ => rfl
  | c :: p, r, h => by
    have h1 : c ≠ 10 := fun e => h (e ▸ List.mem_cons_self ..)
    show dots false (c :: (p ++ r)) = _
    rw [dots, if_neg (by simp), show (c == 10) = false by simpa using h1, dots_mid p r (fun m => h (List.mem_cons_of_mem _ m))]
    rfl
theorem dots_head (p r : List Nat) (h : 10 ∉ p) (hp : p ≠ []) : dots true (p ++ r) = dotRow p ++ dots false r := by
  cases p with
  | nil => exact absurd rfl hp
  | cons c p =>
    have h1 : c ≠ 10 := fun e => h (e ▸ List.mem_cons_self ..)
    have h2 : 10 ∉ p := fun m => h (List.mem_cons_of_mem _ m)
    show dots true (c :: (p ++ r)) = _
    unfold dotRow
    by_cases hc : c = 46
    · subst hc
      rw [dots, if_pos ⟨rfl, rfl⟩, dots_mid p r h2]
      rfl
    · rw [dots, if_neg (fun q => hc q.2), show (c == 10) = false by simpa using h1, dots_mid p r h2, if_neg (by simpa using hc)]
      rfl
theorem dots_row (p r : List Nat) (h : 10 ∉ p) : dots true (p ++ [13, 10] ++ r) = dotRow p ++ [13, 10] ++ dots true r := by
  have key : dots false ([13, 10] ++ r) = [13, 10] ++ dots true r := by
    show dots false (13 :: 10 :: r) = _
    rw [dots, if_neg (by simp), dots, if_neg (by simp)]
    rfl
  cases p with
  | nil =>
    show dots true (13 :: 10 :: r) = _
    rw [dots, if_neg (by simp), dots, if_neg (by simp)]
    rfl
  | cons c p =>
    rw [List.append_assoc, dots_head _ _ h (by simp), key, List.append_assoc]
theorem dots_one (p : List Nat) (h : 10 ∉ p) : dots true p = dotRow p := by
  cases p with
  | nil => rfl
  | cons c p =>
    have := dots_head (c :: p) [] h (by simp)
    rw [List.append_nil] at this
    rw [this]
    simp [dots]
theorem dots_rows : ∀ ps : List (List Nat), (∀ p ∈ ps, 10 ∉ p) → dots true (joinL [13, 10] ps) = joinL [13, 10] (ps.map dotRow)
  | [], _ => rfl
  | [p], h => dots_one p (h p (List.mem_singleton.mpr rfl))
  | p :: q :: r, h => by
    have ih := dots_rows (q :: r) fun a ha => h a (List.mem_cons_of_mem _ ha)
    show dots true (p ++ [13, 10] ++ joinL [13, 10] (q :: r)) = dotRow p ++ [13, 10] ++ joinL [13, 10] ((q :: r).map dotRow)
    rw [dots_row _ _ (h p (List.mem_cons_self ..)), ih]
theorem quoted_rows (x : Str) : (quoted x).cps.toList = joinL [13, 10] ((rowsOf x.cps.toList).map dotRow) := by
  show (dots true (crlf x.cps.toList).toArray.toList).toArray.toList = _
  rw [← dots_rows _ (fun p hp => (rows_free _ p hp).1), ← crlf_rows]
/-- signs written out by a map that leaves line ends alone -/
structure EscOk (f : Nat → List Nat) : Prop where
  lf : f 10 = [10]
  cr : f 13 = [13]
  free : ∀ c, c ≠ 10 → c ≠ 13 → 10 ∉ f c ∧ 13 ∉ f c
  ne : ∀ c, f c ≠ []
theorem rows_app : ∀ (a r : List Nat), 10 ∉ a → 13 ∉ a → rowsOf (a ++ r) = prep a (rowsOf r)
  | [], r, _, _ => by
    have := rows_ne r
    cases hr : rowsOf r with
    | nil => exact absurd hr this
    | cons p ps => show rowsOf r = _; rw [hr]; rfl
  | c :: a, r, h1, h2 => by
    have c10 : c ≠ 10 := fun e => h1 (e ▸ List.mem_cons_self ..)
    have c13 : c ≠ 13 := fun e => h2 (e ▸ List.mem_cons_self ..)
    show rowsOf (c :: (a ++ r)) = _
    rw [rows_o _ c10 c13, rows_app a r (fun m => h1 (List.mem_cons_of_mem _ m)) (fun m => h2 (List.mem_cons_of_mem _ m))]
    cases rowsOf r <;> rfl
/-- a backslash ahead of each quote and backslash -/
def escF (c : Nat) : List Nat := if c = 92 then [92, 92] else if c = 34 then [92, 34] else [c]
abbrev esc (l : List Nat) : List Nat := l.flatMap escF
end Mine
end
-- part Kit12
section
open PySem PySem.W PyProof.Rows PySem.Calls PySem.SeqAt
set_option Elab.async false
set_option maxRecDepth 100000
set_option maxHeartbeats 400000
set_option linter.unusedVariables false
namespace Mine
section
variable {prog : Program} {w : World} {K : Frag} {p : Program} {loose : List Str} {mean : ExcName → Option Value} {mg mb : Str → Option Value} {f : Addr} {room : Nat} {vs : List Value} {own : List (Addr × Obj)} {Pre : Heap → Prop} {Post : Value → List (Addr × Obj) → Prop}
  {dp un : Nat} {gd : Option (List Code)} {cn : Str} {cs : Scope} {a : Addr} {ccd : Value} {cl : List (Str × Addr)} {outer : List Env} {A₀ : Around} {base h₀ : Heap} {L : Addr} {m : Str → Option Value} {s : Shared} {news : List (Addr × Obj)}
end
section
variable {prog : Program} {w : World} {A : Around} {s : Shared} {env : Env}
end
abbrev tiO (t : Addr) (i : Nat) : Obj := { cls := .type "tuple_iterator", data := .fields #[.ref t, .int i 0] }
abbrev tupO (vs : Array Value) : Obj := { cls := .type "tuple", data := .seq vs }
section
variable {prog : Program} {w : World} {A : Around} {E : Value → Shared → Prop} {s : Shared} {h₀ : Heap} {L it D : Addr} {m : Str → Option Value} {news : List (Addr × Obj)} {its : Array Value} {i : Nat}
end
section
variable {prog : Program} {w : World} {A : Around} {E : Value → Shared → Prop} {s : Shared} {a b : Addr} {Q : Value → Shared → Prop}
theorem replU {x y z : Str} {t u v : Tok} (hu : u ≠ 0) (hv : v ≠ 0) (huv : u ≠ v) (hyz : (y == z) = false) (hx : x.length ≤ 1048576) (hz : z.length ≤ 14) (hy : 1 ≤ y.length)
    (hq : ∀ r t' k, s.toks ≤ k → r.cps.toList = rep y.cps.toList z.cps.toList 0 x.cps.toList → Q (.str r t') { s with toks := k }) : wpAny (model prog w) A (call (.builtin "str.replace") [.str x t, .str y u, .str z v]) Q E s :=
  wpAny_up s.toks (Nat.le_refl _) (SC.replaceW hu hv huv hyz hx hz fun t' k hk => hq _ t' k hk (replace_rep x y z hy))
end
/-- places, texts and numbers of a list of pairs -/
abbrev DT := Addr × (Str × Tok) × (Nat × Tok)
abbrev dtO (q : DT) : Obj := tupO #[.str q.2.1.1 q.2.1.2, .int (q.2.2.1 : Int) q.2.2.2]
def dtRefs (l : List DT) : List Value := l.map fun q => .ref q.1
def dtObjs (l : List DT) : List (Addr × Obj) := l.map fun q => (q.1, dtO q)
def dtData (l : List DT) : List (List Nat × Nat) := l.map fun q => (q.2.1.1.cps.toList, q.2.2.1)
end Mine
end
-- part Kit13
section
open PySem PySem.W PyProof.Rows PySem.Calls PySem.SeqAt
set_option Elab.async false
set_option maxRecDepth 100000
set_option maxHeartbeats 400000
set_option linter.unusedVariables false
namespace Mine
/-- shut against the walk: what is to be shown once the number is known to be n or more -/
def TokGe (n : Nat) (s : Shared) (P : Prop) : Prop := n ≤ s.toks → P
theorem wpAny_upO {α : Type} {M : Model} {A : Around} {s : Shared} {t : Sem α} {Q : α → Shared → Prop} {E : Value → Shared → Prop} (n : Nat) (hn : n ≤ s.toks) (h : wpAny M A t (fun a s' => TokGe n s' (Q a s')) (fun e s' => TokGe n s' (E e s')) s) : wpAny M A t Q E s :=
  wpAny_up n hn h
theorem rep_len (y z : List Nat) : ∀ (l : List Nat) (k : Nat), (rep y z k l).length ≤ l.length * (z.length + 1)
  | [], k => by cases k <;> simp [rep]
  | c :: r, 0 => by
    have h1 := rep_len y z r (y.length - 1)
    have h2 := rep_len y z r 0
    rw [rep]
    split
    · simp only [List.length_append, List.length_cons, Nat.add_mul]
      simp only [Nat.mul_add] at h1 ⊢
      omega
    · simp only [List.length_cons, Nat.add_mul]
      simp only [Nat.mul_add] at h2 ⊢
      omega
  | c :: r, k + 1 => by
    have h1 := rep_len y z r k
    rw [rep]
    simp only [List.length_cons, Nat.add_mul]
    omega
theorem rows_cnt (l : List Nat) : (rowsOf l).length ≤ l.length + 1 := by
  induction l using rows_ind with
  | h0 => exact Nat.le_refl _
  | h1 r ih => rw [rows_crlf]; simp only [List.length_cons] at ih ⊢; omega
  | h2 r hr ih => rw [rows_cr _ hr]; simp only [List.length_cons] at ih ⊢; omega
  | h3 r ih => rw [rows_lf]; simp only [List.length_cons] at ih ⊢; omega
  | h4 c r h1 h2 ih => rw [rows_o _ h1 h2, prep_len]; simp only [List.length_cons] at ih ⊢; omega
theorem rows_each (l : List Nat) : ∀ p ∈ rowsOf l, p.length ≤ l.length := by
  induction l using rows_ind with
  | h0 => intro p hp; rw [rows_nil] at hp; simp at hp; subst hp; exact Nat.le_refl _
  | h1 r ih => rw [rows_crlf]; intro p hp; rcases List.mem_cons.mp hp with rfl | hp; · simp
               · have := ih p hp; simp only [List.length_cons]; omega
  | h2 r hr ih => rw [rows_cr _ hr]; intro p hp; rcases List.mem_cons.mp hp with rfl | hp; · simp
                  · have := ih p hp; simp only [List.length_cons]; omega
  | h3 r ih => rw [rows_lf]; intro p hp; rcases List.mem_cons.mp hp with rfl | hp; · simp
               · have := ih p hp; simp only [List.length_cons]; omega
  | h4 c r h1 h2 ih =>
    rw [rows_o _ h1 h2]
    cases hr : rowsOf r with
    | nil => exact absurd hr (rows_ne r)
    | cons p ps =>
      rw [hr] at ih
      intro q hq
      rcases List.mem_cons.mp hq with rfl | hq
      · have := ih p (.head _)
        simp only [List.length_append, List.length_cons, List.length_nil]
        omega
      · have := ih q (.tail _ hq)
        simp only [List.length_cons]
        omega
theorem len_list (x : Str) : x.length = x.cps.toList.length := by simp [Str.length]
/-- a comprehension's texts as a list of texts -/
theorem strs_of_carried {f : Str → Str} : ∀ {l : List (Str × Tok)} {ys : List Value}, CarriedAll ys (l.map fun q => PyData.str (f q.1)) → ∃ l2 : List (Str × Tok), ys = strValues l2 ∧ l2.map (·.1) = l.map fun q => f q.1
  | [], _, h => by cases h; exact ⟨[], rfl, rfl⟩
  | q :: r, _, h => by
    cases h with
    | cons a b =>
      obtain ⟨l2, rfl, h2⟩ := strs_of_carried b
      cases a
      exact ⟨(_, _) :: l2, rfl, by rw [List.map_cons, List.map_cons, h2]⟩
theorem rows_split {y r1 r2 : Str} {l : List (Str × Tok)} (h1 : r1.cps.toList = rep (Str.ofString "\r\n").cps.toList (Str.ofString "\n").cps.toList 0 y.cps.toList) (h2 : r2.cps.toList = rep (Str.ofString "\r").cps.toList (Str.ofString "\n").cps.toList 0 r1.cps.toList)
    (h3 : l.map (·.1) = Txt.split r2 (Str.ofString "\n")) : lists l = rowsOf y.cps.toList := by
  have e : lists l = (l.map (·.1)).map fun p => p.cps.toList := by simp [lists]
  have eCR : (Str.ofString "\r").cps.toList = [13] := by rw [ofCR]
  have eLF : (Str.ofString "\n").cps.toList = [10] := by rw [ofLF]
  rw [e, h3, ofLF, split_spl, h2, eCR, eLF, rep_one, h1, ofCRLF, eLF, rep_crlf _ _ (Nat.le_refl _)]
  rfl
/-- a dot more at a row that begins with one -/
def dotS (q : Str) : Str := ⟨(dotRow q.cps.toList).toArray⟩
/-- what a comprehension's turn must leave, where it makes things that it drops -/
def CompTurnH (d : PyData) (s : Shared) (h₀ : Heap) (L : Addr) (m : Str → Option Value) (news : List (Addr × Obj)) (y : Value) (s' : Shared) : Prop := Carried y d ∧ ∃ h' tk', s' = { s with heap := h', toks := tk' } ∧ Fr h₀ L h' m ∧ News h₀ L h' news
section
variable {prog : Program} {w : World} {A : Around} {s : Shared} {h₀ : Heap} {L : Addr} {m : Str → Option Value} {env : Env} {elt : Expr} {x : Str} {scope : Scope} {cl : List (Str × Addr)} {S : List (Addr × Obj) → Prop} {Fin : List Value → List (Addr × Obj) → Prop} {news : List (Addr × Obj)} {l : List (Str × Tok)}
theorem strs_restH (d : Str → PyData)
    (turn : ∀ q t I oI C oC D m₂ ys h tk (E' : Value → Shared → Prop), (q, t) ∈ l → LCg.NsObj oC m₂ → m₂ x = some (.str q t) → Fr h₀ L h m → News h₀ L h ((I, oI) :: (C, oC) :: (D, LCg.lst ys) :: news) → LCg.Off3 I C D news → ((@Ne Nat I C) ∧ (@Ne Nat I D) ∧ (@Ne Nat C D)) →
      wpAny (model prog w) A (eval elt (compEnvC scope cl C env)) (CompTurnH (d q) s h₀ L m ((I, oI) :: (C, oC) :: (D, LCg.lst ys) :: news)) E' { s with heap := h, toks := tk })
    (hS : S news) (fin : ∀ ys, CarriedAll ys (l.map fun q => d q.1) → Fin ys news) : LCg.CompRest prog w A h₀ L m env elt x scope cl s S (fun i v => (strValues l).toArray[i]? = some v) Fin (strValues l).toArray.size 0 [] news := by
  have key : ∀ (j i : Nat) (ys : List Value), i + j = l.length → CarriedAll ys ((l.take i).map fun q => d q.1) → LCg.CompRest prog w A h₀ L m env elt x scope cl s S (fun i v => (strValues l).toArray[i]? = some v) Fin j i ys news := by
    intro j
    induction j with
    | zero =>
      intro i ys hi hy
      have e : i = l.length := by omega
      subst e
      rw [List.take_length] at hy
      exact LCg.CompRest.zero (fin ys hy)
    | succ j ih =>
      intro i ys hi hy
      refine LCg.CompRest.succ ?_
      intro v I oI C oC D m₂ h tk E' hv hC hx F N off ne
      have hil : i < l.length := by omega
      have hv' : v = .str l[i].1 l[i].2 := by
        have := strVals_at hil
        rw [List.getElem?_toArray] at hv
        rw [this] at hv
        exact (Option.some.inj hv).symm
      rw [hv'] at hx
      refine wpAny_mono (turn l[i].1 l[i].2 I oI C oC D m₂ ys h tk E' (List.getElem_mem hil) hC hx F N off ne) (fun y s₂ hq => ?_) fun _ _ e => e
      obtain ⟨hc, h', tk', rfl, F', N'⟩ := hq
      refine ⟨h', tk', news, rfl, F', N', off, hS, ?_⟩
      refine ih (i + 1) _ (by omega) ?_
      rw [List.take_add_one, List.getElem?_eq_getElem hil, List.map_append]
      exact carried_snoc hc hy
  have e : (strValues l).toArray.size = l.length := by simp [strValues]
  rw [e]
  exact key l.length 0 [] (by omega) (by simp only [List.take_zero, List.map_nil]; exact .nil)
end
end Mine
end
-- part Kit14
section
open PySem PySem.W PyProof.Rows PySem.Calls PySem.SeqAt
set_option Elab.async false
set_option maxRecDepth 100000
set_option maxHeartbeats 400000
set_option linter.unusedVariables false
namespace Mine
/-- a list of numbers from nought up -/
def natValues (l : List (Nat × Tok)) : List Value := l.map fun q => .int (q.1 : Int) q.2
abbrev natsO (l : List (Nat × Tok)) (n : Nat) : Obj := listOf (natValues l).toArray n
abbrev nats (l : List (Nat × Tok)) : List Nat := l.map (·.1)
theorem push_nats (l : List (Nat × Tok)) (q : Nat) (tq : Tok) : (natValues l).toArray.push (.int (q : Int) tq) = (natValues (l ++ [(q, tq)])).toArray := by simp [natValues]
section
variable {prog : Program} {w : World} {A : Around} {E : Value → Shared → Prop} {s : Shared} {g : Heap} {L P a b : Addr} {m : Str → Option Value} {news : List (Addr × Obj)} {l : List (Nat × Tok)} {value slice : Expr} {k : Nat} {u : Tok} {Q : Value → Shared → Prop}
theorem natVals_at (h : k < l.length) : (natValues l)[k]? = some (.int (l[k].1 : Int) l[k].2) := by simp [natValues, h]
theorem nats_item (hP : s.heap.IsList P (natValues l).toArray) (hl : l.length ≤ 1000000) (hk : k < l.length) (h : Q (.int (l[k].1 : Int) l[k].2) s)
    (hs : subscripted slice false (.ref P) (.int (k : Int) u) = operate [.ref P, .int (k : Int) u] (getItem (.ref P) (.int (k : Int) u)) := by with_unfolding_all rfl) :
    wpAny (model prog w) A (subscriptTail value slice (.ref P) (.int (k : Int) u)) Q E s :=
  tail_any hP.typeIs slot_list_getitem.lookup (wpAny_getItem_list hP (by omega) (by omega) (by simpa using natVals_at hk) h) hs
theorem nats_len (hP : s.heap.IsList P (natValues l).toArray) (hl : l.length ≤ 1000000) (h : ∀ t tk, Q (.int (l.length : Int) t) { s with toks := tk }) : wpAny (model prog w) A (call (.builtin "len") [.ref P]) Q E s := by
  have e : (natValues l).toArray.size = l.length := by simp [natValues]
  refine call_len_list hP (by rw [e]; omega) ?_
  rw [e]
  exact h _ _
/-- is a list empty -/
theorem ne_nil {vs : Array Value} (ha : s.heap.IsList a vs) (hb : s.heap.IsList b #[]) (hu : A.units < cLine) (h1 : vs = #[] → Q (.bool false) s) (h2 : vs ≠ #[] → Q (.bool true) s) : wpAny (model prog w) A (compareOp .NotEq (.ref a) (.ref b)) Q E s := by
  by_cases e : vs = #[]
  · subst e
    exact strs_ne (l := []) (l2 := []) ha hb hu (h1 rfl)
  · refine RcNeAt.lists_lengths (A := A) ha hb ?_ hu prog w E Q (h2 e)
    have : vs.size ≠ 0 := fun q => e (Array.eq_empty_of_size_eq_zero q)
    simpa using this
theorem nats_ints (l : List (Nat × Tok)) : IntsAre (natValues l) (l.map fun q => (q.1 : Int)) := by
  induction l with
  | nil => exact .nil
  | cons q r ih => exact .cons _ _ ih
end
end Mine
end
-- part Kit15
section
open PySem PySem.W PyProof.Rows PySem.Calls PySem.SeqAt
set_option Elab.async false
set_option maxRecDepth 100000
set_option maxHeartbeats 400000
set_option linter.unusedVariables false
namespace Mine
section
variable {prog : Program} {w : World} {K : Frag} {p : Program} {loose : List Str} {mean : ExcName → Option Value} {mg mb : Str → Option Value} {f : Addr} {room : Nat} {vs : List Value} {Pre : Heap → Prop} {Post : Value → List (Addr × Obj) → Prop}
  {dp un : Nat} {gd : Option (List Code)} {cn : Str} {cs : Scope} {a : Addr} {ccd : Value} {cl : List (Str × Addr)} {outer : List Env} {A₀ : Around} {base h₀ : Heap} {L : Addr} {m : Str → Option Value} {s : Shared} {news : List (Addr × Obj)}
theorem SpecF.call0 (S : SpecF prog w K p loose mean mg mb f room vs [] Pre Post) {Q E : Value → Shared → Prop}
    (B : Below A₀ base outer h₀) (F : Fr h₀ L s.heap m) (X : K.In h₀) (N : News h₀ L s.heap news) (T : Top p loose mean mg mb h₀) (hk : cs.kind = .function)
    (hpre : ∀ g, h₀.StaysIn g → (∀ q ∈ news, g.get? q.1 = some q.2) → Pre g) (hd : dp + room < recursionLimit) (hu : un + 8 * room < cLine)
    (hret : ∀ v own' h' tk', Post v own' → (∀ q ∈ own', ∀ r ∈ news, q.1 ≠ r.1) → Fr h₀ L h' m → News h₀ L h' (own' ++ news) → Q v { s with heap := h', toks := tk' }) :
    wpAny (model prog w) (ktrTop dp un gd cn cs L a ccd cl outer) (PySem.call (.ref f) vs) Q E s :=
  S.call news B F X N (fun q hq => hq) (fun _ _ h => nomatch h) T hk hpre hd hu hret
end
end Mine
end
-- part Kit16
section
open PySem PySem.W PyProof.Rows PySem.Calls PySem.SeqAt
set_option Elab.async false
set_option maxRecDepth 100000
set_option maxHeartbeats 400000
set_option linter.unusedVariables false
namespace Mine
abbrev zipO (TI TO : Addr) (f0 : Value) : Obj := { cls := .type "zip", dict := none, data := .fields #[f0, .bool false, .bool false, .ref TI, .ref TO], slots := #[] }
/-- the object of a list's iterator -/
def ItO (o : Obj) (l : Addr) (k : Nat) : Prop := o.cls = .type "list_iterator" ∧ o.data = .fields #[.ref l, .int k 0]
/-- the parts of a zip over two lists, k items taken -/
structure ZipAt (g h : Heap) (L z TI TO i1 i2 l1 l2 : Addr) (k : Nat) : Prop where
  hz : h.get? z = some (zipO TI TO .none)
  hTI : h.get? TI = some (tupO #[.ref i1, .ref i2])
  hTO : ∃ a b, h.get? TO = some (tupO #[a, b])
  h1 : h.IsListIter i1 l1 k
  h2 : h.IsListIter i2 l2 k
  gz : g.get? z = none
  gTI : g.get? TI = none
  gTO : g.get? TO = none
  g1 : g.get? i1 = none
  g2 : g.get? i2 = none
  nz : z ≠ L
  nTI : TI ≠ L
  nTO : TO ≠ L
  n1 : i1 ≠ L
  n2 : i2 ≠ L
  ap : ZipApart z TI TO i1 i2 l1 l2
section
variable {prog : Program} {w : World} {A : Around} {E : Value → Shared → Prop} {s : Shared} {h₀ : Heap} {L z TI TO i1 i2 l1 l2 : Addr} {m : Str → Option Value} {news : List (Addr × Obj)} {xs ys : Array Value} {k : Nat}
end
end Mine
end
-- part Kit17
section
open PySem PySem.W PyProof.Rows PySem.Calls PySem.SeqAt
set_option Elab.async false
set_option maxRecDepth 100000
set_option maxHeartbeats 400000
set_option linter.unusedVariables false
namespace Mine
abbrev zipL (z TI TO i1 i2 : Addr) (a b : Value) (o1 o2 : Obj) : List (Addr × Obj) := [(z, zipO TI TO .none), (TI, tupO #[.ref i1, .ref i2]), (TO, tupO #[a, b]), (i1, o1), (i2, o2)]
/-- the object of a text's iterator -/
def SItO (o : Obj) (x : Str) (t : Tok) (i : Nat) : Prop := o.cls = .type (strIterType x) ∧ o.data = .fields #[.str x t, .int i 0]
section
variable {prog : Program} {w : World} {A : Around} {E : Value → Shared → Prop} {s : Shared} {h₀ : Heap} {L it : Addr} {m : Str → Option Value} {news : List (Addr × Obj)} {x : Str} {t : Tok} {i : Nat} {o : Obj}
end
end Mine
end
-- part Kit18
section
open PySem PySem.W PyProof.Rows PySem.Calls PySem.SeqAt
set_option Elab.async false
set_option maxRecDepth 100000
set_option maxHeartbeats 400000
set_option linter.unusedVariables false
namespace Mine
section
variable {prog : Program} {w : World} {A : Around} {E : Value → Shared → Prop} {s : Shared} {h₀ : Heap} {L r : Addr} {m : Str → Option Value} {news : List (Addr × Obj)}
end
/-- what a comprehension's turn must leave where the ledger changes -/
def CompTurnJ (J : Nat → List Value → List (Addr × Obj) → Prop) (S : List (Addr × Obj) → Prop) (k : Nat) (s : Shared) (h₀ : Heap) (L : Addr) (m : Str → Option Value) (I : Addr) (oI : Obj) (C : Addr) (oC : Obj) (D : Addr) (ys : List Value) (y : Value) (s' : Shared) : Prop :=
  ∃ h' tk' news', s' = { s with heap := h', toks := tk' } ∧ Fr h₀ L h' m ∧ News h₀ L h' ((I, oI) :: (C, oC) :: (D, LCg.lst ys) :: news') ∧ LCg.Off3 I C D news' ∧ S news' ∧ J k (ys ++ [y]) news'
section
variable {prog : Program} {w : World} {A : Around} {s : Shared} {h₀ : Heap} {L : Addr} {m : Str → Option Value} {env : Env} {elt : Expr} {x : Str} {scope : Scope} {cl : List (Str × Addr)} {S : List (Addr × Obj) → Prop} {Fin : List Value → List (Addr × Obj) → Prop} {news : List (Addr × Obj)} {l : List (Str × Tok)}
theorem strs_restJ (J : Nat → List Value → List (Addr × Obj) → Prop)
    (turn : ∀ i (hi : i < l.length) q t I oI C oC D m₂ ys news h tk (E' : Value → Shared → Prop), J i ys news → LCg.NsObj oC m₂ → m₂ x = some (.str q t) → Fr h₀ L h m → News h₀ L h ((I, oI) :: (C, oC) :: (D, LCg.lst ys) :: news) → LCg.Off3 I C D news → ((@Ne Nat I C) ∧ (@Ne Nat I D) ∧ (@Ne Nat C D)) →
      wpAny (model prog w) A (eval elt (compEnvC scope cl C env)) (CompTurnJ J S (i + 1) s h₀ L m I oI C oC D ys) E' { s with heap := h, toks := tk })
    (hJ : J 0 [] news) (fin : ∀ ys news, J l.length ys news → Fin ys news) : LCg.CompRest prog w A h₀ L m env elt x scope cl s S (fun i v => (strValues l).toArray[i]? = some v) Fin (strValues l).toArray.size 0 [] news := by
  have key : ∀ (j i : Nat) (ys : List Value) (news : List (Addr × Obj)), i + j = l.length → J i ys news → LCg.CompRest prog w A h₀ L m env elt x scope cl s S (fun i v => (strValues l).toArray[i]? = some v) Fin j i ys news := by
    intro j
    induction j with
    | zero =>
      intro i ys news hi hy
      have e : i = l.length := by omega
      subst e
      exact LCg.CompRest.zero (fin ys news hy)
    | succ j ih =>
      intro i ys news hi hy
      refine LCg.CompRest.succ ?_
      intro v I oI C oC D m₂ h tk E' hv hC hx F N off ne
      have hil : i < l.length := by omega
      have hv' : v = .str l[i].1 l[i].2 := by
        have := strVals_at hil
        rw [List.getElem?_toArray] at hv
        rw [this] at hv
        exact (Option.some.inj hv).symm
      rw [hv'] at hx
      refine wpAny_mono (turn i hil l[i].1 l[i].2 I oI C oC D m₂ ys news h tk E' hy hC hx F N off ne) (fun y s₂ hq => ?_) fun _ _ e => e
      obtain ⟨h', tk', news', rfl, F', N', off', hS', hJ'⟩ := hq
      exact ⟨h', tk', news', rfl, F', N', off', hS', ih (i + 1) _ _ (by omega) hJ'⟩
  have e : (strValues l).toArray.size = l.length := by simp [strValues]
  rw [e]
  exact key l.length 0 [] news (by omega) hJ
end
theorem lists_inj {a b : List (Str × Tok)} (h : lists a = lists b) : a.map (·.1) = b.map (·.1) := by
  induction a generalizing b with
  | nil => cases b with
    | nil => rfl
    | cons q r => cases h
  | cons p a ih => cases b with
    | nil => cases h
    | cons q b =>
      have h : p.1.cps.toList :: lists a = q.1.cps.toList :: lists b := h
      obtain ⟨h1, h2⟩ := List.cons.inj h
      rw [List.map_cons, List.map_cons, ih h2]
      congr 1
      obtain ⟨⟨⟨x⟩⟩, t⟩ := p
      obtain ⟨⟨⟨y⟩⟩, u⟩ := q
      simp only at h1
      rw [h1]
theorem off3_keep {I C D : Addr} {a b : List (Addr × Obj)} (h : LCg.Off3 I C D a) (hs : ∀ q ∈ b, ∃ o, (q.1, o) ∈ a) : LCg.Off3 I C D b :=
  LCg.Off3.of fun p hp => by
    obtain ⟨o, ho⟩ := hs p hp
    have := h.mem _ ho
    exact this
end Mine
end
-- part Kit19
section
open PySem PySem.W PyProof.Rows PySem.Calls PySem.SeqAt
set_option Elab.async false
set_option maxRecDepth 100000
set_option maxHeartbeats 400000
set_option linter.unusedVariables false
namespace Mine
section
variable {prog : Program} {w : World} {A A₀ : Around} {s : Shared} {K : Frag} {L : Addr} {h₀ base : Heap} {m mg mb : Str → Option Value} {rest : List (Addr × Obj)} {p : Program} {loose : List Str} {mean : ExcName → Option Value}
/-- a call of a function some of whose names are cells; it owns nothing -/
theorem code_ownC {env : Env} {outer : List Env} {R : Result → Shared → Prop} {name qual : Str} {params : Arguments} {body : List Stmt} {scope : Scope} {dV kV doc pm cdv ct oc : Value} {an od : Option Addr} {osl : Array (Option Value)} {f : Addr} {args : Args} {binds : List (Str × Value)}
    (B : Below A₀ base outer h₀) (F : Fr h₀ L s.heap m) (X₀ : K.In h₀) (N : News h₀ L s.heap rest) (T : Top p loose mean mg mb h₀) (hA : A.frames = some (env :: outer)) (hf : env.frame = some L) (hke : env.scope.kind = .function)
    (ho : K.lookup f = some ⟨oc, od, .func (fnOf name qual params body scope dV kV doc pm an cdv ct), osl⟩) (hcd : codeIn K cdv qual = true) (hroom : A.depth < recursionLimit)
    (hbind : BindsTo s (fnOf name qual params body scope dV kV doc pm an cdv ct) args binds) (hkind : (binds.all fun y => scope.names.lookup y.1 == some .local || scope.names.lookup y.1 == some .cell) = true)
    (hnd : ((cellsFrom 0 scope.names []).map (·.1)).Nodup)
    (h : ∀ g L' h₁ tk cells, Fr g L' h₁ (bindL (envOfC qual scope L' f cdv).kindOf binds fun _ => none) → News g L' h₁ cells → CellsAre (bindC (envOfC qual scope L' f cdv).kindOf binds fun _ => none) (cellsFrom (L' + 1) scope.names []) cells →
      Below A base (env :: outer) g → K.In g → Top p loose mean mg mb g → h₀.StaysIn g → (∀ q ∈ rest, g.get? q.1 = some q.2) → (∀ q ∈ rest, q.1 < L') →
      wpAny (model prog w) (A.deeper (envOfC qual scope L' f cdv)) (execs body (envOfC qual scope L' f cdv))
        (fun fl s' => LeaveO h₀ L m g rest R (match fl with | .ret v => v | _ => .none) s')
        (fun _ _ => False)
        { s with heap := h₁, toks := tk })
    (hco : scope.isCoroutine = false) (hgen : scope.isGenerator = false) (hk : scope.kind = .function) : codeAny (model prog w) A (.call (.ref f) args) R s := by
  have N₁ : News h₀ L s.heap [] := fun q hq => nomatch hq
  obtain ⟨FG, BG, st, lv⟩ := groundX (R := R) B F N₁ hA hf hke
  have hX := X₀.keeps F.keep
  have hrest : ∀ q ∈ rest, (hideAll s.heap (([] : List (Addr × Obj)).map (·.1))).get? q.1 = some q.2 := fun q hq => hideAll_get _ (N q hq).1 (fun h => nomatch h)
  refine codeAny_call_function hroom (hX _ _ ho) rfl hco hgen rfl (codeRec_of hX hcd) (hbind _ _ _ _ ?_)
  refine wpAny_newFunctionEnv_cells hk (kindsX hkind _) fun env' he s' x => ?_
  subst he
  refine ⟨(T.nolimit.keeps F.keep).keeps x.toInCall.keep, codeAny_func ?_⟩
  obtain ⟨h₁, tk, rfl, _⟩ := x.done
  have hk₁ := x.toInCall.keep
  obtain ⟨cells, NC, Y⟩ := Cl.news (h₀ := s.heap) (Nat.le_refl _) fun n c hm => ⟨x.cell n c (lookup_of_mem_nodup (cellsFrom_names scope.names 0 (s.heap.objs.size + 1) [] [] rfl ▸ hnd) hm), x.above n c hm⟩
  refine wpAny_mono (h _ s.heap.objs.size h₁ tk cells ⟨x.toInCall.ns, fun b o e => hk₁ b o (of_hideAll _ e), Nat.le_of_eq (hideAll_size _ _)⟩ (fun q hq => ?_) Y BG (X₀.keeps st) (T.keeps st) st hrest (fun q hq => Heap.lt_size (N q hq).1)) (fun fl s' hl => ?_) fun _ _ y => y.elim
  · refine ⟨(NC q hq).1, (NC q hq).2.1, ?_⟩
    cases e : (hideAll s.heap (([] : List (Addr × Obj)).map (·.1))).get? q.1 with
    | none => rfl
    | some o => have := of_hideAll _ e; rw [(NC q hq).2.2] at this; cases this
  · obtain ⟨L', m', own', F', N', k⟩ := hl
    refine lv _ s' ⟨L', m', own', F', N', fun F₂ N₂ => k F₂ (fun q hq => ?_) fun q hq r hr e => ?_⟩
    · rcases List.mem_append.mp hq with hq | hq
      · exact N₂ q hq
      · exact ⟨F'.keep _ _ (hrest q hq), (N q hq).2⟩
    · have h1 := (N' q hq).2.2
      rw [e, hrest r hr] at h1
      cases h1
end
end Mine
end
-- part H04
section
open PySem PySem.W PyProof.Rows
set_option Elab.async false
set_option maxRecDepth 100000
set_option maxHeartbeats 8000000
namespace Mine
open_top hd04 for PySem.Challenge.rw_ny0034_04
end Mine
end
-- part Q04
section
open PySem PySem.W PyProof.Rows PySem.Calls
set_option Elab.async false
set_option maxRecDepth 100000
set_option maxHeartbeats 8000000
set_option linter.unusedVariables false
namespace Mine

abbrev Sp04 (w : World) (p : Program) (loose : List Str) (mean : ExcName → Option Value) (mg mb : Str → Option Value) := SpecF PySem.Challenge.rw_ny0034_04.row.prog w (hd04.heap_39 w.params) p loose mean mg mb

local macro_rules | `(tactic| walk_at "getMethod ref") => `(tactic| (k_here; (with_reducible show wpAny _ _ (getMethod (Value.ref _) (Str.ofString "sub") _) _ _ _); refine sub_method (PatAt.keeps (by assumption) (Fr.keep (by k_asm))) ?_))
theorem quotedata04 (w : World) (p : Program) (loose : List Str) (mean : ExcName → Option Value) (mg mb : Str → Option Value) (x : Str) (t : Tok) (hx : x.cps.size ≤ 20000) :
    SpecF PySem.Challenge.rw_ny0034_04.row.prog w (hd04.heap_39 w.params) p loose mean mg mb 90 1 [.str x t] [] (fun _ => True) (fun v own' => own' = [] ∧ ∃ t', v = .str (quoted x) t') := by
  w_top off
  k_fill
  intro dp un gd cn cs a ccd cl outer A₀ base h₀ L m s rest R B F X N hsep T hk _ hd hu hret
  k_dflt (refine' code_own (own := []) (rest := rest) ?k1 ?k2 ?k3 ?k4 ?kS ?k5 ?kA ?kF ?kK ?k6 ?k7 ?k8 ?k9 ?kB ?_ ?c2 ?c3 ?c4 ?c5; (case kA => exact rfl); (case kF => exact rfl); (case kK => assumption); (case kS => assumption); (case k1 => k_asm); (case k2 => k_asm); (case k3 => k_asm); (case k4 => k_asm); (case k5 => k_asm); (case k6 => k_is); (case k7 => k_is); (case k8 => ktr_room); (case k9 => exact BindsTo.of_eq rfl); (case c5 => decide); (case kB => exact locs rfl); (case c2 => exact rfl); (case c3 => exact rfl); (case c4 => exact rfl); k_whole)
  intro g L' h₁ F' N' B' X' T' hst hrest hlt
  clear B F X T
  dsimp only
  have P1 : PatAt g 78 code1 := ⟨_, _, _, _, _, _, X' _ _ (by k_is), rfl, rfl, rfl, rfl, rfl, rfl, X' _ _ (by k_is), rfl, by decide +kernel⟩
  have P2 : PatAt g 83 code2 := ⟨_, _, _, _, _, _, X' _ _ (by k_is), rfl, rfl, rfl, rfl, rfl, rfl, X' _ _ (by k_is), rfl, by decide +kernel⟩
  k_steps
  refine' call_sub2 P2 ?f ?n hx ?_; (case f => k_asm); (case n => k_asm)
  intro h' u tk' F2 N2
  (try dsimp only)
  k_steps
  refine' call_sub1 P1 ?f ?n ?s ?_; (case f => k_asm); (case n => k_asm); (case s => have := crlfS_size x; omega)
  intro h'' u' tk'' F3 N3
  (try dsimp only)
  k_steps
  exact ⟨L', _, [], F3, N3, fun F4 N4 H4 => hret _ [] _ _ ⟨rfl, _, rfl⟩ H4 F4 N4⟩
end Mine
end
-- part R04
section
open PySem PySem.W PyProof.Rows PySem.Calls
set_option Elab.async false
set_option maxRecDepth 100000
set_option maxHeartbeats 8000000
set_option linter.unusedVariables false
namespace Mine
local macro_rules | `(tactic| k_room) => `(tactic| ktr_room)
local macro_rules | `(tactic| k_units) => `(tactic| ktr_units)
/-- the contract of a stream's read(1) -/
abbrev ReadOk04 (w : World) (p : Program) (loose : List Str) (mean : ExcName → Option Value) (mg mb : Str → Option Value) (sent : Str) (f atA : Addr) (rd : List (Addr × Obj)) : Prop :=
  ∀ (n : Nat) (t t1 : Tok), n ≤ sent.cps.size → SpecF PySem.Challenge.rw_ny0034_04.row.prog w (hd04.heap_39 w.params) p loose mean mg mb f 1 [.int 1 t1] [(atA, atO n t)] (fun g => ∀ q ∈ rd, g.get? q.1 = some q.2) (fun v own' => ∃ t1 t2, v = .str (piece sent n) t1 ∧ own' = [(atA, atO (n + (piece sent n).length) t2)])

theorem read04 (w : World) (p : Program) (loose : List Str) (mean : ExcName → Option Value) (mg mb : Str → Option Value) (sent : Str) (x : Lx) (rd : List (Addr × Obj)) (hfn : ∃ fo, (x.f, fo) ∈ rd ∧ ∃ oc od fd sl, fo = ⟨oc, od, .func fd, sl⟩)
    (hR : ReadOk04 w p loose mean mg mb sent x.f x.atA rd) (hnd : List.Nodup [x.lex, x.lexd, x.st, x.std, x.atA]) (ps : Nat) (hps : ps ≤ sent.cps.size) (ta tl : Tok) :
    SpecF PySem.Challenge.rw_ny0034_04.row.prog w (hd04.heap_39 w.params) p loose mean mg mb 52 2 [.ref x.lex] (x.own 69 w.params sent ps tl ta) (fun g => ∀ q ∈ rd, g.get? q.1 = some q.2)
      (fun v own' => ∃ t1 ta' tl', v = .str (piece sent ps) t1 ∧ own' = x.own 69 w.params sent (ps + (piece sent ps).length) tl' ta') := by
  w_top off
  k_fill
  intro dp un gd cn cs a ccd cl outer A₀ base h₀ L m s rest R B F X N hsep T hk hpre hd hu hret
  k_dflt (refine' code_own (rest := rest) ?k1 ?k2 ?k3 ?k4 ?kS ?k5 ?kA ?kF ?kK ?k6 ?k7 ?k8 ?k9 ?kB ?_ ?c2 ?c3 ?c4 ?c5; (case kA => exact rfl); (case kF => exact rfl); (case kK => assumption); (case kS => assumption); (case k1 => k_asm); (case k2 => k_asm); (case k3 => k_asm); (case k4 => k_asm); (case k5 => k_asm); (case k6 => k_is); (case k7 => k_is); (case k8 => ktr_room); (case k9 => exact BindsTo.of_eq rfl); (case c5 => decide); (case kB => exact locs rfl); (case c2 => exact rfl); (case c3 => exact rfl); (case c4 => exact rfl); k_whole)
  intro g L' h₁ F' N' B' X' T' hst hrest hlt
  have hrd := hpre g hst hrest
  clear B F X T N
  (try dsimp only)
  have hFn : ∀ h, (∀ b o, g.get? b = some o → h.get? b = some o) → FnAt x.f h := fun h hk => by
    obtain ⟨fo, hm, oc, od, fd, sl, rfl⟩ := hfn
    exact ⟨oc, od, fd, sl, hk _ _ (hrd _ hm)⟩
  walk1; walk1; walk1; walk1; walk1; walk1; walk1; walk1; (try dsimp only)
  refine callWith_F (hFn _ F'.keep) ?_
  walk1; walk1; walk1; (try dsimp only)
  refine ⟨hFn _ (Fr.keep (by k_asm)), ?_⟩
  obtain ⟨n1, n2, n3, n4, n5, n6, n7, n8, n9, n10⟩ := nd5 hnd
  k_dflt (refine' (hR ps ta _ hps).call [(x.lex, instObj 69 x.lexd), (x.lexd, lexD w.params x.k1 x.k2 x.k3 x.k4 (lnAt sent ps) tl (.ref x.st) x.ws x.tw x.pb), (x.st, instObj 69 x.std), (x.std, stD w.params x.j1 x.j2 x.j3 x.j4 x.j5 x.v1 x.v2 x.v3 x.v4 x.f)] ?k1 ?k2 ?k3 ?k4 ?hin ?hsep ?k5 ?kK ?hpre ?kd ?ku ?_; (case k1 => k_asm); (case k2 => k_asm); (case k3 => k_asm); (case k4 => k_asm); (case k5 => k_asm); (case kK => exact rfl); (case kd => ktr_room); (case ku => ktr_units); k_whole)
  case hin => kcj_all
  case hsep => intro q hq; simp at hq; rcases hq with rfl | rfl | rfl | rfl <;> simp <;> assumption
  case hpre => exact fun g' hg' _ q hq => hg' _ _ (hrd q hq)
  rintro v own' h' tk' ⟨t1, t2, rfl, rfl⟩ _ F2 N2
  simp only [List.cons_append, List.nil_append] at N2
  (try dsimp only)
  k_steps
  all_goals (try dsimp only)
  all_goals k_steps
  · rename_i hb _ _ _
    have e : (if piece sent ps = Str.ofString "\n" then (1 : Int) else 0) = 1 := if_pos (eq_of_beq hb)
    have e2 := lnAt_step (sent := sent) (p := ps)
    rw [e] at e2
    refine' leaveO_ [(x.lex, instObj 69 x.lexd), (x.lexd, lexD w.params x.k1 x.k2 x.k3 x.k4 (lnAt sent ps + 1) ?tl (.ref x.st) x.ws x.tw x.pb), (x.st, instObj 69 x.std), (x.std, stD w.params x.j1 x.j2 x.j3 x.j4 x.j5 x.v1 x.v2 x.v3 x.v4 x.f), (x.atA, atO (ps + (piece sent ps).length) t2)] ?f ?n ?i ?k
    case f => k_asm
    case n => k_asm
    case i => kcj_all
    case k => rw [e2]; exact fun F4 N4 H4 => hret _ _ _ _ ⟨_, _, _, rfl, rfl⟩ H4 F4 N4
  · rename_i hb
    have e : (if piece sent ps = Str.ofString "\n" then (1 : Int) else 0) = 0 := if_neg (fun q => by rw [q] at hb; simp at hb)
    have e2 := lnAt_step (sent := sent) (p := ps)
    rw [e, Int.add_zero] at e2
    refine' leaveO_ [(x.lex, instObj 69 x.lexd), (x.lexd, lexD w.params x.k1 x.k2 x.k3 x.k4 (lnAt sent ps) tl (.ref x.st) x.ws x.tw x.pb), (x.st, instObj 69 x.std), (x.std, stD w.params x.j1 x.j2 x.j3 x.j4 x.j5 x.v1 x.v2 x.v3 x.v4 x.f), (x.atA, atO (ps + (piece sent ps).length) t2)] ?f ?n ?i ?k
    case f => k_asm
    case n => k_asm
    case i => kcj_all
    case k => rw [e2]; exact fun F4 N4 H4 => hret _ _ _ _ ⟨_, _, _, rfl, rfl⟩ H4 F4 N4
end Mine
end
-- part G04
section
open PySem PySem.W PyProof.Rows PySem.Calls
set_option Elab.async false
set_option maxRecDepth 100000
set_option maxHeartbeats 8000000
set_option linter.unusedVariables false
namespace Mine
local macro_rules | `(tactic| k_room) => `(tactic| ktr_room)
local macro_rules | `(tactic| k_units) => `(tactic| ktr_units)


/-- one step of the iterator, in get_token's frame -/
theorem nx04 {w : World} {p : Program} {loose : List Str} {mean : ExcName → Option Value} {mg mb : Str → Option Value} {sent : Str} {x : Lx} {rd : List (Addr × Obj)} (hfn : ∃ fo, (x.f, fo) ∈ rd ∧ ∃ oc od fd sl, fo = ⟨oc, od, .func fd, sl⟩)
    (hR : ReadOk04 w p loose mean mg mb sent x.f x.atA rd) (hnd : List.Nodup [x.lex, x.lexd, x.st, x.std, x.atA, x.pb]) {ps : Nat} (hps : ps ≤ sent.cps.size) {ta tl : Tok} {nb : Nat} {dp un : Nat} {gd : Option (List Code)} {cn : Str} {cs : Scope} {a : Addr} {ccd : Value} {cl : List (Str × Addr)} {outer : List Env} {A₀ : Around} {base g : Heap} {L : Addr} {m : Str → Option Value} {s : Shared} {q ci : Addr} {t0 : Tok} {Q : Option Value → Shared → Prop} {E : Value → Shared → Prop}
    (B : Below A₀ base outer g) (F : Fr g L s.heap m) (X : (hd04.heap_39 w.params).In g) (N : News g L s.heap ((ci, ciO q (Str.ofString "") t0) :: (q, methodObj (.ref 52) (.ref x.lex)) :: (x.pb, listOf #[] nb) :: x.own 69 w.params sent ps tl ta)) (T : Top p loose mean mg mb g) (hk : cs.kind = .function)
    (hq : x.pb < q ∧ x.lex < q ∧ x.lexd < q ∧ x.st < q ∧ x.std < q ∧ x.atA < q) (hci : q < ci) (hrd : ∀ q ∈ rd, g.get? q.1 = some q.2) (hd : dp + 2 < recursionLimit) (hu : un + 20 < cLine)
    (h1 : ∀ (hlt : ps < sent.cps.size) h' tk' tl' ta' ty, Fr g L h' m → News g L h' ((ci, ciO q (Str.ofString "") t0) :: (q, methodObj (.ref 52) (.ref x.lex)) :: (x.pb, listOf #[] nb) :: x.own 69 w.params sent (ps + 1) tl' ta') → Q (some (.str ⟨#[sent.cps[ps]]⟩ ty)) { s with heap := h', toks := tk' })
    (h2 : sent.cps.size ≤ ps → ∀ h' tk' tl' ta', Fr g L h' m → News g L h' ((ci, ciEnd) :: (q, methodObj (.ref 52) (.ref x.lex)) :: (x.pb, listOf #[] nb) :: x.own 69 w.params sent ps tl' ta') → Q none { s with heap := h', toks := tk' }) :
    wpAny (model PySem.Challenge.rw_ny0034_04.row.prog w) (ktrTop dp un gd cn cs L a ccd cl outer) (pyNext (.ref ci)) Q E s := by
  revert X
  w_top off
  k_fill
  intro X
  have hF59 : ∀ h, (∀ b o, g.get? b = some o → h.get? b = some o) → FnAt 52 h := fun h hk => ⟨_, _, _, _, hk _ _ (X _ _ (by k_is))⟩
  obtain ⟨nd, e1, e2, e3, e4, e5⟩ := nd6 hnd
  obtain ⟨q1, q2, q3, q4, q5, q6⟩ := hq
  have S := read04 w p loose mean mg mb sent x rd hfn hR nd ps hps ta tl
  refine ci_next rfl (N _ (.head _)).1 (N _ (.tail _ (.head _))).1 (hF59 _ F.keep) ?_
  show codeAny _ (ktrTop dp (un + 1) gd cn cs L a ccd cl outer) _ _ _
  have neq : ∀ b : Nat, b < q → b ≠ ci := fun b hb => Nat.ne_of_lt (Nat.lt_trans hb hci)
  refine S.code [(ci, ciO q (Str.ofString "") t0), (q, methodObj (.ref 52) (.ref x.lex)), (x.pb, listOf #[] nb)] B F X N (by kcj_all) ?_ T hk (fun g' hg' _ r hr => hg' _ _ (hrd r hr)) (by omega) (by omega) ?_
  · intro r hr
    have l1 := neq _ q2; have l2 := neq _ q3; have l3 := neq _ q4; have l4 := neq _ q5; have l5 := neq _ q6
    have m1 := Nat.ne_of_lt q2; have m2 := Nat.ne_of_lt q3; have m3 := Nat.ne_of_lt q4; have m4 := Nat.ne_of_lt q5; have m5 := Nat.ne_of_lt q6
    simp at hr
    rcases hr with rfl | rfl | rfl
    · simp; exact ⟨Ne.symm l1, Ne.symm l2, Ne.symm l3, Ne.symm l4, Ne.symm l5⟩
    · simp; exact ⟨Ne.symm m1, Ne.symm m2, Ne.symm m3, Ne.symm m4, Ne.symm m5⟩
    · simp; exact ⟨Ne.symm e1, Ne.symm e2, Ne.symm e3, Ne.symm e4, Ne.symm e5⟩
  · rintro v own' h' tk' ⟨t1, ta', tl', rfl, rfl⟩ _ F2 N2
    have N3 : News g L h' ((ci, ciO q (Str.ofString "") t0) :: (q, methodObj (.ref 52) (.ref x.lex)) :: (x.pb, listOf #[] nb) :: x.own 69 w.params sent (ps + (piece sent ps).length) tl' ta') := cb_drop N2 (by kcj_all)
    refine ⟨_, _, rfl, (N3 _ (.head _)).1, (N3 _ (.tail _ (.head _))).1, hF59 _ F2.keep, fun hy h'' hk'' hc'' => ?_, fun hy => ?_⟩
    · have hge : sent.cps.size ≤ ps := by
        refine Nat.le_of_not_lt fun hlt => ?_
        exact piece_ne hlt hy
      have hl : (piece sent ps).length = 0 := by rw [piece_ge hge]; rfl
      rw [hl, Nat.add_zero] at N3
      obtain ⟨oL, es, ep, hL, rL⟩ := F2.ns
      have hgc : g.get? ci = none := (N3 _ (.head _)).2.2
      refine h2 hge h'' tk' tl' ta' ⟨⟨oL, es, ep, hk'' _ _ (Ne.symm (N3 _ (.head _)).2.1) hL, rL⟩, fun b o e => hk'' b o (fun z => by rw [z, hgc] at e; cases e) (F2.keep b o e), F2.above⟩ fun r hr => ?_
      rcases List.mem_cons.mp hr with rfl | hr
      · exact ⟨hc'', (N3 _ (.head _)).2⟩
      · have hn := N3 r (.tail _ hr)
        refine ⟨hk'' _ _ ?_ hn.1, hn.2⟩
        simp at hr
        rcases hr with rfl | rfl | rfl | rfl | rfl | rfl | rfl
        · exact Nat.ne_of_lt hci
        all_goals exact neq _ (by assumption)
    · have hlt : ps < sent.cps.size := by
        refine Nat.lt_of_not_le fun hge => hy ?_
        rw [piece_ge hge]
        decide +kernel
      have hl : (piece sent ps).length = 1 := by rw [piece_lt hlt]; rfl
      rw [hl] at N3
      rw [piece_lt hlt]
      exact h1 hlt h' tk' tl' ta' t1 F2 N3

end Mine
end
-- part G04b
section
open PySem PySem.W PyProof.Rows PySem.Calls
set_option Elab.async false
set_option maxRecDepth 100000
set_option maxHeartbeats 8000000
set_option linter.unusedVariables false
namespace Mine
local macro_rules | `(tactic| walk_at "pad0") => `(tactic| skip)
local macro_rules | `(tactic| walk_at "pad1") => `(tactic| skip)
local macro_rules | `(tactic| k_room) => `(tactic| ktr_room)
local macro_rules | `(tactic| k_units) => `(tactic| ktr_units)


local macro_rules | `(tactic| walk_at "inplaceOp Add str str") => `(tactic| (refine PyProof.Rows.iadd_str ?_ (fit1 (by assumption) (by first | exact Nat.le_refl 1 | exact piece_le1 _ _)); intro _ _))
theorem token04 (w : World) (p : Program) (loose : List Str) (mean : ExcName → Option Value) (mg mb : Str → Option Value) (sent : Str) (x : Lx) (rd : List (Addr × Obj)) (hfn : ∃ fo, (x.f, fo) ∈ rd ∧ ∃ oc od fd sl, fo = ⟨oc, od, .func fd, sl⟩)
    (hR : ReadOk04 w p loose mean mg mb sent x.f x.atA rd) (hnd : List.Nodup [x.lex, x.lexd, x.st, x.std, x.atA, x.pb]) (ps : Nat) (hps : ps ≤ sent.cps.size) (hsz : sent.cps.size ≤ 1000000) (ta tl : Tok) (nb : Nat) :
    SpecF PySem.Challenge.rw_ny0034_04.row.prog w (hd04.heap_39 w.params) p loose mean mg mb 59 4 [.ref x.lex] ((x.pb, listOf #[] nb) :: x.own 69 w.params sent ps tl ta) (fun g => ∀ q ∈ rd, g.get? q.1 = some q.2)
      (fun v own' => ∃ t1 ta' tl', v = .str ⟨(tok x.ws.cps.toList (sent.cps.toList.drop ps)).1.toArray⟩ t1 ∧ own' = (x.pb, listOf #[] nb) :: x.own 69 w.params sent (sent.cps.size - (tok x.ws.cps.toList (sent.cps.toList.drop ps)).2.length) tl' ta') := by
  w_top off
  k_fill
  intro dp un gd cn cs a ccd cl outer A₀ base h₀ L m s rest R B F X N hsep T hk hpre hd hu hret
  k_dflt (refine' code_own (rest := rest) ?k1 ?k2 ?k3 ?k4 ?kS ?k5 ?kA ?kF ?kK ?k6 ?k7 ?k8 ?k9 ?kB ?_ ?c2 ?c3 ?c4 ?c5; (case kA => exact rfl); (case kF => exact rfl); (case kK => assumption); (case kS => assumption); (case k1 => k_asm); (case k2 => k_asm); (case k3 => k_asm); (case k4 => k_asm); (case k5 => k_asm); (case k6 => k_is); (case k7 => k_is); (case k8 => ktr_room); (case k9 => exact BindsTo.of_eq rfl); (case c5 => decide); (case kB => exact locs rfl); (case c2 => exact rfl); (case c3 => exact rfl); (case c4 => exact rfl); k_whole)
  intro g L' h₁ F' N' B' X' T' hst hrest hlt
  have hrd := hpre g hst hrest
  clear B F X T N
  (try dsimp only)
  walk_at "drv0"
  (rename Fr _ _ _ _ => Fq)
  (rename News _ _ _ _ => Nq)
  rename_i q0 hq0 lq
  refine iter_K Fq Nq (by k_mem) ?_
  intro ci h2 F2 N2 lci
  k_lt lci
  dsimp only
  clear Fq Nq
  walk_at "drv0"
  (try clear F2); (try clear N2)
  (rename Fr _ _ _ _ => Fq)
  (rename News _ _ _ _ => Nq)
  refine wpAny_For ?_
  walk1
  refine ci_iter (Nq _ (.head _)).1 rfl ?_
  generalize hTT : tok x.ws.cps.toList (sent.cps.toList.drop ps) = TT at hret
  have fin : ∀ (pp : Nat) (tl' ta' t : Tok) (h : Heap) (tk : Nat) (m' : Str → Option Value) (news' : List (Addr × Obj)) (y : Str), Fr g L' h m' → News g L' h news' → (∀ q ∈ (x.pb, listOf #[] nb) :: x.own 69 w.params sent pp tl' ta', q ∈ news') → pp = sent.cps.size - TT.2.length → y = ⟨TT.1.toArray⟩ →
      LeaveO h₀ L m g rest R (.str y t) { s with heap := h, toks := tk } := by
    intro pp tl' ta' t h tk m' news' y F4 N4 hin hpp hy
    subst hy
    subst hpp
    exact leaveO_ _ F4 N4 hin fun F5 N5 H5 => hret _ _ _ _ ⟨_, _, _, rfl, rfl⟩ H5 F5 N5
  refine for_inv (fun n s' => ∃ (pp : Nat) (tkn : List Nat) (t t0 tl ta : Tok) (u : Str → Option Value) (h : Heap) (tk : Nat), s' = { s with heap := h, toks := tk } ∧ Fr g L' h (gtM x.lex ci tkn t u) ∧
    ((News g L' h ((ci, ciO q0 (Str.ofString "") t0) :: (q0, methodObj (.ref 52) (.ref x.lex)) :: (x.pb, listOf #[] nb) :: x.own 69 w.params sent pp tl ta) ∧ tkn = [] ∧ pp ≤ sent.cps.size ∧ tok x.ws.cps.toList (sent.cps.toList.drop pp) = TT ∧ n = sent.cps.size - pp + 1) ∨
     (News g L' h ((ci, ciEnd) :: (q0, methodObj (.ref 52) (.ref x.lex)) :: (x.pb, listOf #[] nb) :: x.own 69 w.params sent pp tl ta) ∧ tkn = TT.1 ∧ pp = sent.cps.size ∧ TT.2 = [] ∧ n = 0))) ?turn (sent.cps.size - ps + 1)
    ⟨ps, [], _, _, tl, ta, _, _, _, rfl, gtM_of Fq rfl rfl rfl (by decide +kernel), .inl ⟨Nq, rfl, hps, hTT, rfl⟩⟩
  case turn =>
    clear Fq Nq
    rintro n s' ⟨pp, tkn, t, t0, tl1, ta1, u, h, tk, rfl, Fh, (⟨Nh, rfl, hpp, hT, rfl⟩ | ⟨Nh, rfl, rfl, hT2, rfl⟩)⟩
    · k_dflt (refine' nx04 hfn hR hnd (by assumption) ?B Fh X' Nh T' ?K lq lci.1 hrd ?d ?u ?_ ?_; (case B => exact B'); (case K => exact rfl); (case d => ktr_room); (case u => ktr_units))
      · intro hlt1 h' tk' tl' ta' ty F2 N2
        dsimp only
        rw [drop_here hlt1] at hT
        have h0 : ([] : List Nat).length ≤ 1000000 := by decide
        walk_at "drv0"
        -- a quote
        · (rename Fr _ _ _ _ => F3); (rename News _ _ _ _ => N3)
          (rename (Builtin.Str.occurrences _ _ _ _ _).isEmpty = _ => hw); (rename (_ == Str.ofString "\"") = _ => hq)
          have hw := not_in_ws hw
          have hq := one34 hq
          rw [hq] at hT hw
          rw [tok_q _ hw] at hT
          refine wpAny_For ?_
          walk1
          refine ci_iter (N3 _ (.head _)).1 rfl ?_
          refine for_inv (fun n s' => ∃ (pp : Nat) (tkn : List Nat) (t t0 tl ta : Tok) (u : Str → Option Value) (h : Heap) (tk : Nat), s' = { s with heap := h, toks := tk } ∧ Fr g L' h (gtM x.lex ci tkn t u) ∧ News g L' h ((ci, ciO q0 (Str.ofString "") t0) :: (q0, methodObj (.ref 52) (.ref x.lex)) :: (x.pb, listOf #[] nb) :: x.own 69 w.params sent pp tl ta) ∧ pp ≤ sent.cps.size ∧ tkn ++ (tokQ (sent.cps.toList.drop pp)).1 = TT.1 ∧ (tokQ (sent.cps.toList.drop pp)).2 = TT.2 ∧ n = sent.cps.size - pp + 1) ?_ _
            ⟨pp + 1, [], _, _, _, _, _, _, _, rfl, gtM_of F3 rfl rfl rfl rfl, N3, hlt1, by rw [hT]; rfl, by rw [hT], rfl⟩
          (try clear Fh); (try clear Nh); (try clear F2); (try clear N2); (try clear F3); (try clear N3)
          rintro n s' ⟨pp2, tkn, t, t0, tl1, ta1, u, h, tk, rfl, Fh, Nh, hpp2, hT1, hT2, rfl⟩
          k_dflt (refine' nx04 hfn hR hnd (by assumption) ?B Fh X' Nh T' ?K lq lci.1 hrd ?d ?u ?_ ?_; (case B => exact B'); (case K => exact rfl); (case d => ktr_room); (case u => ktr_units))
          · intro hlt2 h' tk' tl' ta' ty F2 N2
            dsimp only
            have hle : tkn.length ≤ 1000000 := by
              have := tok_len x.ws.cps.toList (sent.cps.toList.drop ps)
              rw [hTT, ← hT1] at this
              simp at this
              omega
            walk_at "drv0"
            -- the closing quote
            · (rename Fr _ _ _ _ => F3); (rename News _ _ _ _ => N3); (rename (_ == Str.ofString "\"") = _ => hq2)
              have hq2 := one34 hq2
              rw [drop_here hlt2, hq2, tokQ_q] at hT1 hT2
              refine fin _ _ _ _ _ _ _ _ _ F3 N3 (by kcj_all) ?_ ?_
              · rw [← hT2]; exact drop_len hlt2
              · rw [← hT1]; simp
            -- an escape
            · (rename Fr _ _ _ _ => F3); (rename News _ _ _ _ => N3); (rename (_ == Str.ofString "\\") = _ => hb2)
              have hb2 := one92 hb2
              obtain ⟨b1, b2⟩ := tokQ_at_b hlt2 hb2
              k_dflt (refine' (read04 w p loose mean mg mb sent x rd hfn hR (nd6 hnd).1 _ (by assumption) _ _).call [(ci, ciO q0 (Str.ofString "") t0), (q0, methodObj (.ref 52) (.ref x.lex)), (x.pb, listOf #[] nb)] ?k1 ?k2 ?k3 N3 ?hin ?hsep ?k5 ?kK ?hpre ?kd ?ku ?_; (case k1 => k_asm); (case k2 => k_asm); (case k3 => k_asm); (case k5 => k_asm); (case kK => exact rfl); (case kd => ktr_room); (case ku => ktr_units))
              case hin => kcj_all
              case hsep => exact sep3 hnd lq lci.1
              case hpre => exact fun g' hg' _ q hq => hg' _ _ (hrd q hq)
              rintro v own' h' tk' ⟨t1, t2, t3, rfl, rfl⟩ _ F4 N4
              (try clear F3); (try clear N3)
              simp only [List.cons_append, List.nil_append] at N4
              (try dsimp only)
              walk_at "drv0"
              (rename Fr _ _ _ _ => F5); (rename News _ _ _ _ => N5)
              refine ⟨sent.cps.size - (pp2 + 1 + (piece sent (pp2 + 1)).length) + 1, by omega, _, tkn ++ (piece sent (pp2 + 1)).cps.toList, _, _, _, _, _, _, _, rfl, gtM_of F5 rfl rfl rfl (app_lit _ _), cb_drop N5 (by kcj_all), piece_len hlt2, ?_, ?_, rfl⟩
              · rw [List.append_assoc, ← b1]; exact hT1
              · rw [← b2]; exact hT2
            -- any other sign
            · (rename Fr _ _ _ _ => F3); (rename News _ _ _ _ => N3); (rename (_ == Str.ofString "\\") = _ => hb2); (rename (_ == Str.ofString "\"") = _ => hq2)
              have hb2 := one92_no hb2
              have hq2 := one34_no hq2
              rw [drop_here hlt2, tokQ_o _ hq2 hb2] at hT1 hT2
              refine ⟨sent.cps.size - (pp2 + 1) + 1, by omega, pp2 + 1, tkn ++ [sent.cps[pp2]], _, _, _, _, _, _, _, rfl, gtM_of F3 rfl rfl rfl (app_lit _ _), N3, hlt2, ?_, hT2, rfl⟩
              rw [List.append_assoc]; exact hT1
          · intro hge h' tk' tl' ta' F2 N2
            dsimp only
            rw [drop_end hge] at hT1 hT2
            walk_at "drv0"
            refine ⟨0, by omega, pp2, tkn, _, 0, _, _, _, _, _, rfl, F2, .inr ⟨N2, ?_, by omega, hT2.symm, rfl⟩⟩
            rw [← hT1]; simp [tokQ]
        -- an escape ahead of a plain word
        · (rename Fr _ _ _ _ => F3); (rename News _ _ _ _ => N3)
          (rename (Builtin.Str.occurrences _ _ _ _ _).isEmpty = _ => hw); (rename (_ == Str.ofString "\\") = _ => hb)
          have hw := not_in_ws hw
          have hb := one92 hb
          rw [hb] at hw
          rw [← drop_here hlt1] at hT
          obtain ⟨b1, b2⟩ := tok_at_b (ws := x.ws.cps.toList) hlt1 hb hw
          rw [hT] at b1 b2
          k_dflt (refine' (read04 w p loose mean mg mb sent x rd hfn hR (nd6 hnd).1 _ (by assumption) _ _).call [(ci, ciO q0 (Str.ofString "") t0), (q0, methodObj (.ref 52) (.ref x.lex)), (x.pb, listOf #[] nb)] ?k1 ?k2 ?k3 N3 ?hin ?hsep ?k5 ?kK ?hpre ?kd ?ku ?_; (case k1 => k_asm); (case k2 => k_asm); (case k3 => k_asm); (case k5 => k_asm); (case kK => exact rfl); (case kd => ktr_room); (case ku => ktr_units))
          case hin => kcj_all
          case hsep => exact sep3 hnd lq lci.1
          case hpre => exact fun g' hg' _ q hq => hg' _ _ (hrd q hq)
          rintro v own' h' tk' ⟨t1, t2, t3, rfl, rfl⟩ _ F4 N4
          (try clear F3); (try clear N3)
          have N5 : News g L' h' ((ci, ciO q0 (Str.ofString "") t0) :: (q0, methodObj (.ref 52) (.ref x.lex)) :: (x.pb, listOf #[] nb) :: x.own 69 w.params sent (pp + 1 + (piece sent (pp + 1)).length) t3 t2) := cb_drop N4 (by kcj_all)
          clear N4
          (try dsimp only)
          walk_at "drv0"
          (rename Fr _ _ _ _ => F3); (rename News _ _ _ _ => N3)
          refine wpAny_For ?_
          walk1
          refine ci_iter (N3 _ (.head _)).1 rfl ?_
          refine for_inv (fun n s' => ∃ (pp : Nat) (tkn : List Nat) (t t0 tl ta : Tok) (u : Str → Option Value) (h : Heap) (tk : Nat), s' = { s with heap := h, toks := tk } ∧ Fr g L' h (gtM x.lex ci tkn t u) ∧ News g L' h ((ci, ciO q0 (Str.ofString "") t0) :: (q0, methodObj (.ref 52) (.ref x.lex)) :: (x.pb, listOf #[] nb) :: x.own 69 w.params sent pp tl ta) ∧ pp ≤ sent.cps.size ∧ tkn ++ (tokP x.ws.cps.toList (sent.cps.toList.drop pp)).1 = TT.1 ∧ (tokP x.ws.cps.toList (sent.cps.toList.drop pp)).2 = TT.2 ∧ n = sent.cps.size - pp + 1) ?_ _
            ⟨_, (piece sent (pp + 1)).cps.toList, _, _, _, _, _, _, _, rfl, gtM_of F3 rfl rfl rfl (app_lit [] _), N3, piece_len hlt1, b1.symm, b2.symm, rfl⟩
          (try clear Fh); (try clear Nh); (try clear F2); (try clear N2); (try clear F3); (try clear N3)
          rintro n s' ⟨pp2, tkn, t, t0, tl1, ta1, u, h, tk, rfl, Fh, Nh, hpp2, hT1, hT2, rfl⟩
          k_dflt (refine' nx04 hfn hR hnd (by assumption) ?B Fh X' Nh T' ?K lq lci.1 hrd ?d ?u ?_ ?_; (case B => exact B'); (case K => exact rfl); (case d => ktr_room); (case u => ktr_units))
          · intro hlt2 h' tk' tl' ta' ty F2 N2
            dsimp only
            have hle : tkn.length ≤ 1000000 := by
              have := tok_len x.ws.cps.toList (sent.cps.toList.drop ps)
              rw [hTT, ← hT1] at this
              simp at this
              omega
            walk_at "drv0"
            -- an escape
            · (rename Fr _ _ _ _ => F3); (rename News _ _ _ _ => N3); (rename (_ == Str.ofString "\\") = _ => hb2); (rename (Builtin.Str.occurrences _ _ _ _ _).isEmpty = _ => hw2)
              have hb2 := one92 hb2
              have hw2 := not_in_ws hw2
              rw [hb2] at hw2
              obtain ⟨b1, b2⟩ := tokP_at_b (ws := x.ws.cps.toList) hlt2 hb2 hw2
              k_dflt (refine' (read04 w p loose mean mg mb sent x rd hfn hR (nd6 hnd).1 _ (by assumption) _ _).call [(ci, ciO q0 (Str.ofString "") t0), (q0, methodObj (.ref 52) (.ref x.lex)), (x.pb, listOf #[] nb)] ?k1 ?k2 ?k3 N3 ?hin ?hsep ?k5 ?kK ?hpre ?kd ?ku ?_; (case k1 => k_asm); (case k2 => k_asm); (case k3 => k_asm); (case k5 => k_asm); (case kK => exact rfl); (case kd => ktr_room); (case ku => ktr_units))
              case hin => kcj_all
              case hsep => exact sep3 hnd lq lci.1
              case hpre => exact fun g' hg' _ q hq => hg' _ _ (hrd q hq)
              rintro v own' h' tk' ⟨t1, t2, t3, rfl, rfl⟩ _ F4 N4
              (try clear F3); (try clear N3)
              simp only [List.cons_append, List.nil_append] at N4
              (try dsimp only)
              walk_at "drv0"
              (rename Fr _ _ _ _ => F5); (rename News _ _ _ _ => N5)
              refine ⟨sent.cps.size - (pp2 + 1 + (piece sent (pp2 + 1)).length) + 1, by omega, _, tkn ++ (piece sent (pp2 + 1)).cps.toList, _, _, _, _, _, _, _, rfl, gtM_of F5 rfl rfl rfl (app_lit _ _), cb_drop N5 (by kcj_all), piece_len hlt2, ?_, ?_, rfl⟩
              · rw [List.append_assoc, ← b1]; exact hT1
              · rw [← b2]; exact hT2
            -- any other sign
            · (rename Fr _ _ _ _ => F3); (rename News _ _ _ _ => N3); (rename (_ == Str.ofString "\\") = _ => hb2); (rename (Builtin.Str.occurrences _ _ _ _ _).isEmpty = _ => hw2)
              have hb2 := one92_no hb2
              have hw2 := not_in_ws hw2
              rw [drop_here hlt2, tokP_o _ hw2 hb2] at hT1 hT2
              refine ⟨sent.cps.size - (pp2 + 1) + 1, by omega, pp2 + 1, tkn ++ [sent.cps[pp2]], _, _, _, _, _, _, _, rfl, gtM_of F3 rfl rfl rfl (app_lit _ _), N3, hlt2, ?_, hT2, rfl⟩
              rw [List.append_assoc]; exact hT1
            -- white space
            · (rename Fr _ _ _ _ => F3); (rename News _ _ _ _ => N3); (rename (Builtin.Str.occurrences _ _ _ _ _).isEmpty = _ => hw2)
              rw [drop_here hlt2, tokP_w _ (in_ws hw2)] at hT1 hT2
              refine fin _ _ _ _ _ _ _ _ _ F3 N3 (by kcj_all) ?_ ?_
              · rw [← hT2]; exact drop_len hlt2
              · rw [← hT1]; simp
          · intro hge h' tk' tl' ta' F2 N2
            dsimp only
            rw [drop_end hge] at hT1 hT2
            walk_at "drv0"
            refine ⟨0, by omega, pp2, tkn, _, 0, _, _, _, _, _, rfl, F2, .inr ⟨N2, ?_, by omega, hT2.symm, rfl⟩⟩
            rw [← hT1]; simp [tokP]
        -- a plain word
        · (rename Fr _ _ _ _ => F3); (rename News _ _ _ _ => N3)
          (rename (Builtin.Str.occurrences _ _ _ _ _).isEmpty = _ => hw); (rename (_ == Str.ofString "\\") = _ => hb); (rename (_ == Str.ofString "\"") = _ => hq)
          have hw := not_in_ws hw
          have hb := one92_no hb
          have hq := one34_no hq
          rw [tok_o _ hw hq hb] at hT
          refine wpAny_For ?_
          walk1
          refine ci_iter (N3 _ (.head _)).1 rfl ?_
          refine for_inv (fun n s' => ∃ (pp : Nat) (tkn : List Nat) (t t0 tl ta : Tok) (u : Str → Option Value) (h : Heap) (tk : Nat), s' = { s with heap := h, toks := tk } ∧ Fr g L' h (gtM x.lex ci tkn t u) ∧ News g L' h ((ci, ciO q0 (Str.ofString "") t0) :: (q0, methodObj (.ref 52) (.ref x.lex)) :: (x.pb, listOf #[] nb) :: x.own 69 w.params sent pp tl ta) ∧ pp ≤ sent.cps.size ∧ tkn ++ (tokP x.ws.cps.toList (sent.cps.toList.drop pp)).1 = TT.1 ∧ (tokP x.ws.cps.toList (sent.cps.toList.drop pp)).2 = TT.2 ∧ n = sent.cps.size - pp + 1) ?_ _
            ⟨pp + 1, [sent.cps[pp]], _, _, _, _, _, _, _, rfl, gtM_of F3 rfl rfl rfl (app_lit [] _), N3, hlt1, by rw [← hT]; rfl, by rw [← hT], rfl⟩
          (try clear Fh); (try clear Nh); (try clear F2); (try clear N2); (try clear F3); (try clear N3)
          rintro n s' ⟨pp2, tkn, t, t0, tl1, ta1, u, h, tk, rfl, Fh, Nh, hpp2, hT1, hT2, rfl⟩
          k_dflt (refine' nx04 hfn hR hnd (by assumption) ?B Fh X' Nh T' ?K lq lci.1 hrd ?d ?u ?_ ?_; (case B => exact B'); (case K => exact rfl); (case d => ktr_room); (case u => ktr_units))
          · intro hlt2 h' tk' tl' ta' ty F2 N2
            dsimp only
            have hle : tkn.length ≤ 1000000 := by
              have := tok_len x.ws.cps.toList (sent.cps.toList.drop ps)
              rw [hTT, ← hT1] at this
              simp at this
              omega
            walk_at "drv0"
            -- an escape
            · (rename Fr _ _ _ _ => F3); (rename News _ _ _ _ => N3); (rename (_ == Str.ofString "\\") = _ => hb2); (rename (Builtin.Str.occurrences _ _ _ _ _).isEmpty = _ => hw2)
              have hb2 := one92 hb2
              have hw2 := not_in_ws hw2
              rw [hb2] at hw2
              obtain ⟨b1, b2⟩ := tokP_at_b (ws := x.ws.cps.toList) hlt2 hb2 hw2
              k_dflt (refine' (read04 w p loose mean mg mb sent x rd hfn hR (nd6 hnd).1 _ (by assumption) _ _).call [(ci, ciO q0 (Str.ofString "") t0), (q0, methodObj (.ref 52) (.ref x.lex)), (x.pb, listOf #[] nb)] ?k1 ?k2 ?k3 N3 ?hin ?hsep ?k5 ?kK ?hpre ?kd ?ku ?_; (case k1 => k_asm); (case k2 => k_asm); (case k3 => k_asm); (case k5 => k_asm); (case kK => exact rfl); (case kd => ktr_room); (case ku => ktr_units))
              case hin => kcj_all
              case hsep => exact sep3 hnd lq lci.1
              case hpre => exact fun g' hg' _ q hq => hg' _ _ (hrd q hq)
              rintro v own' h' tk' ⟨t1, t2, t3, rfl, rfl⟩ _ F4 N4
              (try clear F3); (try clear N3)
              simp only [List.cons_append, List.nil_append] at N4
              (try dsimp only)
              walk_at "drv0"
              (rename Fr _ _ _ _ => F5); (rename News _ _ _ _ => N5)
              refine ⟨sent.cps.size - (pp2 + 1 + (piece sent (pp2 + 1)).length) + 1, by omega, _, tkn ++ (piece sent (pp2 + 1)).cps.toList, _, _, _, _, _, _, _, rfl, gtM_of F5 rfl rfl rfl (app_lit _ _), cb_drop N5 (by kcj_all), piece_len hlt2, ?_, ?_, rfl⟩
              · rw [List.append_assoc, ← b1]; exact hT1
              · rw [← b2]; exact hT2
            -- any other sign
            · (rename Fr _ _ _ _ => F3); (rename News _ _ _ _ => N3); (rename (_ == Str.ofString "\\") = _ => hb2); (rename (Builtin.Str.occurrences _ _ _ _ _).isEmpty = _ => hw2)
              have hb2 := one92_no hb2
              have hw2 := not_in_ws hw2
              rw [drop_here hlt2, tokP_o _ hw2 hb2] at hT1 hT2
              refine ⟨sent.cps.size - (pp2 + 1) + 1, by omega, pp2 + 1, tkn ++ [sent.cps[pp2]], _, _, _, _, _, _, _, rfl, gtM_of F3 rfl rfl rfl (app_lit _ _), N3, hlt2, ?_, hT2, rfl⟩
              rw [List.append_assoc]; exact hT1
            -- white space
            · (rename Fr _ _ _ _ => F3); (rename News _ _ _ _ => N3); (rename (Builtin.Str.occurrences _ _ _ _ _).isEmpty = _ => hw2)
              rw [drop_here hlt2, tokP_w _ (in_ws hw2)] at hT1 hT2
              refine fin _ _ _ _ _ _ _ _ _ F3 N3 (by kcj_all) ?_ ?_
              · rw [← hT2]; exact drop_len hlt2
              · rw [← hT1]; simp
          · intro hge h' tk' tl' ta' F2 N2
            dsimp only
            rw [drop_end hge] at hT1 hT2
            walk_at "drv0"
            refine ⟨0, by omega, pp2, tkn, _, 0, _, _, _, _, _, rfl, F2, .inr ⟨N2, ?_, by omega, hT2.symm, rfl⟩⟩
            rw [← hT1]; simp [tokP]
        -- white space
        · (rename Fr _ _ _ _ => F3); (rename News _ _ _ _ => N3); (rename (Builtin.Str.occurrences _ _ _ _ _).isEmpty = _ => hw)
          rw [tok_w _ (in_ws hw)] at hT
          exact ⟨sent.cps.size - (pp + 1) + 1, by omega, pp + 1, [], _, _, _, _, _, _, _, rfl, gtM_of F3 rfl rfl rfl rfl, .inl ⟨N3, rfl, hlt1, hT, rfl⟩⟩
      · intro hge h' tk' tl' ta' F2 N2
        dsimp only
        walk_at "drv0"
        rw [drop_end hge] at hT
        (rename Fr _ _ _ _ => F3); (rename News _ _ _ _ => N3)
        exact fin _ _ _ _ _ _ _ _ _ F3 N3 (by kcj_all) (by rw [← hT]; simp [tok]; omega) (by rw [← hT]; rfl)
    · refine ci_ended rfl (Nh _ (.head _)).1 fun h' hk' => ?_
      dsimp only
      have F3 : Fr g L' h' (gtM x.lex ci TT.1 t u) := by
        obtain ⟨oL, es, ep, hL, rL⟩ := Fh.ns
        exact ⟨⟨oL, es, ep, hk' _ _ hL, rL⟩, fun b o e => hk' _ _ (Fh.keep b o e), Fh.above⟩
      have N3 : News g L' h' _ := fun q hq => ⟨hk' _ _ (Nh q hq).1, (Nh q hq).2⟩
      clear Fh Nh
      walk_at "drv0"
      exact fin _ _ _ _ _ _ _ _ _ F3 N3 (by kcj_all) (by rw [hT2]; simp) rfl
end Mine
end
-- part V04
section
open PySem PySem.W PyProof.Rows PySem.Calls
set_option Elab.async false
set_option maxRecDepth 100000
set_option maxHeartbeats 8000000
set_option linter.unusedVariables false
namespace Mine
local macro_rules | `(tactic| k_room) => `(tactic| ktr_room)
local macro_rules | `(tactic| k_units) => `(tactic| ktr_units)
section
variable {M : Model} {A : Around} {E : Value → Shared → Prop} {s : Shared} {h₀ : Heap} {L a : Addr} {m : Str → Option Value} {cn : Str} {cs : Scope} {ccd : Value} {cl : List (Str × Addr)} {x : Str} {pos : Pos} {v : Value} {o : Obj} {Q : Value → Shared → Prop} {c : Addr}
theorem nameX_FG (F : Fr h₀ L s.heap m) (hc : cl.lookup x = some c) (hm : h₀.get? c = some o) (hd : o.data = .cell (some v)) (h : Q v s)
    (hk : cs.kind = .function := by rfl) (hx : (envX cn cs L a ccd cl).kindOf x = some .free := by rfl) (hb : (x == ("__debug__" : Str)) = false := by decide) (hn : (x == ("__classdict__" : Str)) = false := by decide) :
    wpAny M A (eval (.Name x pos) (envX cn cs L a ccd cl)) Q E s := wpAny_Name (wpAny_loadName_free hk hx hc ⟨o, F.keep _ _ hm, hd⟩ h hn) hb
end
local macro_rules | `(tactic| walk_at "eval Name") => `(tactic| (k_here; k_dflt (refine' nameX_FG ?F ?c ?m ?d ?_ ?a ?b; (case a => rfl); (case b => rfl); (case F => k_asm); (case c => assumption); (case m => assumption); (case d => assumption); k_whole)))
/-- the inner def of the stream's maker -/
abbrev giveD04 : Stmt := match PySem.Challenge.pw_ny0034_04.main.body with
  | _ :: _ :: _ :: _ :: _ :: _ :: _ :: _ :: _ :: _ :: .FunctionDef _ _ (_ :: d :: _) _ _ _ _ _ _ _ :: _ => d
  | _ => .Pass ⟨0, 0, 0, 0⟩
theorem give04 (w : World) (p : Program) (loose : List Str) (mean : ExcName → Option Value) (mg mb : Str → Option Value) (sent : Str) (tS : Tok) (f c' cT cA atA : Addr) (name qual : Str) (params : Arguments) (body : List Stmt) (scope : Scope) (cl : List (Str × Addr)) (doc pm ctv : Value) (oc oT oA : Obj) (vs : Array Value) (tq : Tok)
    (hast : ∃ n ds r tp ts b ps, giveD04 = .FunctionDef n params body ds r tp scope ts b ps) (hoc : oc.data = .fields vs) (hvs : vs[1]? = some (.str qual tq)) (hcT : cl.lookup (Str.ofString "text") = some cT) (hcA : cl.lookup (Str.ofString "at") = some cA)
    (hoT : oT.data = .cell (some (.str sent tS))) (hoA : oA.data = .cell (some (.ref atA))) (hsz : sent.cps.size ≤ 1000000) :
    ∀ (n : Nat) (t t1 : Tok), n ≤ sent.cps.size → SpecF PySem.Challenge.rw_ny0034_04.row.prog w (hd04.heap_39 w.params) p loose mean mg mb f 1 [.int 1 t1] [(atA, atO n t)] (fun g => ∀ q ∈ [(f, fnMade name qual params body scope cl doc pm c' ctv), (c', oc), (cT, oT), (cA, oA)], g.get? q.1 = some q.2) (fun v own' => ∃ t1 t2, v = .str (piece sent n) t1 ∧ own' = [(atA, atO (n + (piece sent n).length) t2)]) := by
  w_top off
  k_fill
  obtain ⟨n0, ds, r, tp, ts, b, ps0, e⟩ := hast
  dsimp only [giveD04, PySem.Challenge.pw_ny0034_04] at e
  cases e
  intro n t t1 hn dp un gd cn cs a ccd cl' outer A₀ base h₀ L m s rest R B F X N hsep T hk hpre hd hu hret
  have hs := hpre s.heap F.keep (fun q hq => (N q (List.mem_append_right _ hq)).1)
  have hcode : s.heap.CodeRec (.ref c') qual := ⟨c', oc, vs, tq, rfl, hs (c', oc) (by simp), hoc, hvs⟩
  k_dflt (refine' code_ownX (rest := rest) ?k1 ?k2 ?k3 ?k4 ?kS ?k5 ?kA ?kF ?kK (hs _ (.head _)) rfl hcode ?k8 ?k9 ?kB ?_ ?c2 ?c3 ?c4 ?c5; (case kA => exact rfl); (case kF => exact rfl); (case kK => assumption); (case kS => assumption); (case k1 => k_asm); (case k2 => k_asm); (case k3 => k_asm); (case k4 => k_asm); (case k5 => k_asm); (case k8 => ktr_room); (case k9 => exact BindsTo.of_eq rfl); (case c5 => decide); (case kB => exact locs rfl); (case c2 => exact rfl); (case c3 => exact rfl); (case c4 => exact rfl); k_whole)
  intro g L' h₁ F' N' B' X' T' hst hrest hlt
  have hrd := hpre g hst hrest
  have g1 : g.get? cT = some oT := hrd (cT, oT) (by simp)
  have g2 : g.get? cA = some oA := hrd (cA, oA) (by simp)
  clear B F X T N hs
  (try dsimp only)
  have hl0 : sent.length ≤ 1000000 := hsz
  k_steps
  have hg0 : ([(n : Int)].getD (Int.toNat 0) 0) = (n : Int) := rfl
  simp only [hg0, slice_piece] at *
  k_steps
  (rename Fr _ _ _ _ => F3); (rename News _ _ _ _ => N3)
  rw [← Int.natCast_add] at N3
  exact leaveO_ _ F3 N3 (fun q hq => hq) fun F5 N5 H5 => hret _ _ _ _ ⟨_, _, rfl, rfl⟩ H5 F5 N5
end Mine
end
-- part F04
section
open PySem PySem.W PyProof.Rows PySem.Calls
set_option Elab.async false
set_option maxRecDepth 100000
set_option maxHeartbeats 8000000
set_option linter.unusedVariables false
namespace Mine
local macro_rules | `(tactic| walk_at "pad0") => `(tactic| skip)
local macro_rules | `(tactic| walk_at "pad1") => `(tactic| skip)
local macro_rules | `(tactic| k_room) => `(tactic| ktr_room)
local macro_rules | `(tactic| k_units) => `(tactic| ktr_units)
local macro_rules | `(tactic| walk_at "call builtin:len") => `(tactic| (k_here; (with_reducible show wpAny _ _ (PySem.call (Value.builtin "len") [Value.ref _]) _ _ _); (refine nats_len (News.isList (by k_asm) (by k_mem)) (by omega) ?_); intro _ _))
theorem intsAre_some {vs : List Value} {ns : List Int} (h : IntsAre vs ns) {i : Nat} {v : Value} (hv : vs[i]? = some v) : ∃ z t, v = .int z t := by
  have hl := h.length
  have hi : i < ns.length := by
    rcases Nat.lt_or_ge i vs.length with q | q
    · omega
    · rw [List.getElem?_eq_none q] at hv; cases hv
  obtain ⟨t, e⟩ := h.get i ns[i] (by simp [hi])
  rw [hv] at e
  exact ⟨_, _, Option.some.inj e⟩
theorem nat_push {l : List (Nat × Tok)} {z : Int} {t : Tok} (h : 0 ≤ z) : (natValues l).toArray.push (.int z t) = (natValues (l ++ [(z.toNat, t)])).toArray := by
  rw [← push_nats, Int.toNat_of_nonneg h]
theorem fig_all {l : List (Nat × Tok)} {z : Int} {t : Tok} {B : Nat} (h : ∀ q ∈ l, q.1 < B) (h0 : 0 ≤ z) (h1 : z < (B : Int)) : ∀ q ∈ l ++ [(z.toNat, t)], q.1 < B := by
  intro q hq
  rcases List.mem_append.mp hq with hq | hq
  · exact h q hq
  · rw [List.mem_singleton.mp hq]
    show z.toNat < B
    omega
/-- the state between two numbers of the script -/
def FigI (g : Heap) (L : Addr) (s : Shared) (D it : Nat) (ws : List Value) (nn : Nat) (s' : Shared) : Prop :=
  ∃ (i P : Nat) (l : List (Nat × Tok)) (ep : Nat) (u : Str → Option Value) (h : Heap) (tk : Nat), s' = { s with heap := h, toks := tk } ∧ Fr g L h (fun z => if z = Str.ofString "figures" then some (.ref P) else u z) ∧
    News g L h [(it, liO D i), (D, listOf ws.toArray 0), (P, natsO l ep)] ∧ P < D ∧ P < it ∧ l.length ≤ 7 ∧ (∀ q ∈ l, q.1 < 18) ∧ nn = ws.length - i
/-- the state between two figures of a number -/
def FigW (g : Heap) (L : Addr) (s : Shared) (D it P : Nat) (ws : List Value) (i : Nat) (nn : Nat) (s' : Shared) : Prop :=
  ∃ (l : List (Nat × Tok)) (ep : Nat) (r : Int) (tr : Tok) (u : Str → Option Value) (h : Heap) (tk : Nat), s' = { s with heap := h, toks := tk } ∧ Fr g L h (fun z => if z = Str.ofString "figures" then some (.ref P) else if z = Str.ofString "rest" then some (.int r tr) else u z) ∧
    News g L h [(it, liO D i), (D, listOf ws.toArray 0), (P, natsO l ep)] ∧ l.length ≤ 7 ∧ (∀ q ∈ l, q.1 < 18) ∧ 0 ≤ r ∧ nn = 7 - l.length
theorem figures04 (w : World) (p : Program) (loose : List Str) (mean : ExcName → Option Value) (mg mb : Str → Option Value) (scr : Addr) (vs : List Value) (ns : List Int) (hI : IntsAre vs ns) (hn : ns.length ≤ 63) :
    SpecF PySem.Challenge.rw_ny0034_04.row.prog w (hd04.heap_39 w.params) p loose mean mg mb 97 1 [.ref scr] [] (fun g => g.IsList scr vs.toArray) (fun v own' => ∃ D l n, v = .ref D ∧ own' = [(D, natsO l n)] ∧ l.length ≤ 7 ∧ ∀ q ∈ l, q.1 < 18) := by
  w_top off
  k_fill
  intro dp un gd cn cs a ccd cl outer A₀ base h₀ L m s rest R B F X N hsep T hk hpre hd hu hret
  k_dflt (refine' code_own (own := []) (rest := rest) ?k1 ?k2 ?k3 ?k4 ?kS ?k5 ?kA ?kF ?kK ?k6 ?k7 ?k8 ?k9 ?kB ?_ ?c2 ?c3 ?c4 ?c5; (case kA => exact rfl); (case kF => exact rfl); (case kK => assumption); (case kS => assumption); (case k1 => k_asm); (case k2 => k_asm); (case k3 => k_asm); (case k4 => k_asm); (case k5 => k_asm); (case k6 => k_is); (case k7 => k_is); (case k8 => ktr_room); (case k9 => exact BindsTo.of_eq rfl); (case c5 => decide); (case kB => exact locs rfl); (case c2 => exact rfl); (case c3 => exact rfl); (case c4 => exact rfl); k_whole)
  intro g L' h₁ F' N' B' X' T' hst hrest hlt
  have hsc := hpre g hst hrest
  clear B F X T N
  (try dsimp only at hsc)
  (try dsimp only)
  walk_at "drv1"
  refine wpAny_For ?_
  walk_at "drv1"
  (rename Fr _ _ _ _ => F2); (rename News _ _ _ _ => N2)
  (rename IntsAre _ (List.take _ _) => hI2)
  refine liter_K F2 N2 (News.isList N2 (.head _)) ?_
  intro it h3 F3 N3 l3
  k_lt l3
  clear F2 N2
  rename_i D ws _ _ _ l1D
  dsimp only
  refine for_inv (FigI g L' s _ it _) ?turn _ ⟨0, _, [], _, _, _, _, rfl, canon1 F3 _ rfl, N3, l1D, l3.2, Nat.zero_le _, (fun _ h => nomatch h), rfl⟩
  case turn =>
    (try clear F3); (try clear N3)
    rintro n s' ⟨i, P, l, ep, u, h, tk, rfl, Fh, Nh, lD, l4, hl, h16, rfl⟩
    refine lnext_K rfl Fh Nh (News.isList Nh (.tail _ (.head _))) ?ne ?_ ?_
    case ne => intro p hp; simp at hp; rcases hp with rfl | rfl; · exact Nat.ne_of_lt l3.1
               · exact Nat.ne_of_lt l4
    · intro v hv h4 F4 N4
      obtain ⟨z, tz, rfl⟩ : ∃ z tz, v = .int z tz := intsAre_some hI2 (by simpa using hv)
      have hi : i < ws.length := by
        rcases Nat.lt_or_ge i ws.length with q | q
        · exact q
        · simp [q] at hv
      dsimp only
      walk_at "drv1"
      (rename Fr _ _ _ _ => F5); (rename News _ _ _ _ => N5)
      refine while_inv (FigW g L' s _ it P _ (i + 1)) ?_ _ ⟨_, _, _, _, _, _, _, rfl, canon2 F5 _ _ rfl rfl, N5, hl, h16, ?r0, rfl⟩
      case r0 => rw [Int.fmod_eq_emod_of_nonneg _ (by decide)]; exact Int.emod_nonneg _ (by decide)
      (try clear F4); (try clear N4); (try clear F5); (try clear N5)
      rintro n s' ⟨l, ep, r, tr, u, h, tk, rfl, Fh, Nh, hl, h16, hr, rfl⟩
      walk_at "drv1"
      refine whl_if (fun hb => ?_) (fun hb => ?_)
      · have hb := of_decide_eq_true hb
        have hq := Int.emod_nonneg r (show (18 : Int) ≠ 0 by decide)
        have hq2 := Int.emod_lt_of_pos r (show (0 : Int) < 18 by decide)
        have hsz : (natValues l).toArray.size ≤ 7 := by simp [natValues]; omega
        have hf0 : 0 ≤ r.fmod 18 := by rw [Int.fmod_eq_emod_of_nonneg _ (by decide)]; exact hq
        have hf1 : r.fmod 18 < 18 := by rw [Int.fmod_eq_emod_of_nonneg _ (by decide)]; exact hq2
        walk_at "drv1"
        · dsimp only [RoundEnd]
          walk_at "drv1"
          (rename Fr _ _ _ _ => F5); (rename News _ _ _ _ => N5)
          rw [nat_push hf0] at N5
          exact ⟨ws.length - (i + 1), by omega, i + 1, P, _, _, _, _, _, rfl, canon1 F5 _ rfl, N5, lD, l4, (by simp; omega), fig_all h16 hf0 hf1, rfl⟩
        · (rename Fr _ _ _ _ => F5); (rename News _ _ _ _ => N5)
          rw [nat_push hf0] at N5
          refine ⟨_, ?_, _, _, _, _, _, _, _, rfl, canon2 F5 _ _ rfl rfl, N5, (by simp; omega), fig_all h16 hf0 hf1, ?_, rfl⟩
          · simp; omega
          · rw [Int.fdiv_eq_ediv_of_nonneg _ (by decide)]; exact Int.ediv_nonneg hr (by decide)
      · walk_at "drv1"
        exact ⟨ws.length - (i + 1), by omega, i + 1, P, _, _, _, _, _, rfl, canon1 Fh _ rfl, Nh, lD, l4, hl, h16, rfl⟩
    · intro hv h4 F4 N4
      dsimp only
      walk_at "drv1"
      (rename Fr _ _ _ _ => F5); (rename News _ _ _ _ => N5)
      refine ne_nil (News.isList N5 (.tail _ (.tail _ (.head _)))) (News.isList N5 (.head _)) (by ktr_units) (fun _ => ?_) (fun _ => ?_)
      · walk_at "drv1"
        (rename Fr _ _ _ _ => F6); (rename News _ _ _ _ => N6)
        exact leaveO_ [(_, natsO [(0, _), (13, _), (5, _)] 0)] F6 N6 (by intro q hq; rw [List.mem_singleton.mp hq]; exact .head _) fun F7 N7 H7 => hret _ _ _ _ ⟨_, _, _, rfl, rfl, Nat.le_of_ble_eq_true rfl, by simp⟩ H7 F7 N7
      · walk_at "drv1"
        (rename Fr _ _ _ _ => F6); (rename News _ _ _ _ => N6)
        exact leaveO_ [(P, natsO l ep)] F6 N6 (by kcj_all) fun F7 N7 H7 => hret _ _ _ _ ⟨_, _, _, rfl, rfl, hl, h16⟩ H7 F7 N7
end Mine
end
-- part PP04
section
open PySem PySem.W PyProof.Rows PySem.Calls PySem.SeqAt
set_option Elab.async false
set_option maxRecDepth 100000
set_option maxHeartbeats 8000000
set_option linter.unusedVariables false
namespace Mine
local macro_rules | `(tactic| k_room) => `(tactic| ktr_room)
local macro_rules | `(tactic| k_units) => `(tactic| ktr_units)
/-- a word pushed back -/
theorem push04 (w : World) (p : Program) (loose : List Str) (mean : ExcName → Option Value) (mg mb : Str → Option Value) (sent : Str) (x : Lx) (hnd : List.Nodup [x.lex, x.lexd, x.st, x.std, x.atA, x.pb]) (ps : Nat) (ta tl : Tok) (lp : List (Str × Tok)) (nb : Nat) (hlp : lp.length ≤ 1000) (q : Str) (tq : Tok) :
    SpecF PySem.Challenge.rw_ny0034_04.row.prog w (hd04.heap_39 w.params) p loose mean mg mb 66 1 [.ref x.lex, .str q tq] ((x.pb, strsO lp nb) :: x.own 69 w.params sent ps tl ta) (fun _ => True)
      (fun v own' => ∃ nb', own' = (x.pb, strsO (lp ++ [(q, tq)]) nb') :: x.own 69 w.params sent ps tl ta) := by
  w_top off
  k_fill
  intro dp un gd cn cs a ccd cl outer A₀ base h₀ L m s rest R B F X N hsep T hk hpre hd hu hret
  k_dflt (refine' code_own (rest := rest) ?k1 ?k2 ?k3 ?k4 ?kS ?k5 ?kA ?kF ?kK ?k6 ?k7 ?k8 ?k9 ?kB ?_ ?c2 ?c3 ?c4 ?c5; (case kA => exact rfl); (case kF => exact rfl); (case kK => assumption); (case kS => assumption); (case k1 => k_asm); (case k2 => k_asm); (case k3 => k_asm); (case k4 => k_asm); (case k5 => k_asm); (case k6 => k_is); (case k7 => k_is); (case k8 => ktr_room); (case k9 => exact BindsTo.of_eq rfl); (case c5 => decide); (case kB => exact locs rfl); (case c2 => exact rfl); (case c3 => exact rfl); (case c4 => exact rfl); k_whole)
  intro g L' h₁ F' N' B' X' T' hst hrest hlt
  clear B F X T N
  (try dsimp only)
  obtain ⟨d1, d2, d3, d4, d5, d6⟩ := nd6 hnd
  have hsz : (strValues lp).toArray.size ≤ 1000 := by simp [strValues]; omega
  walk_at "drv2"
  have hU : ∀ r ∈ x.own 69 w.params sent ps tl ta, r.1 ≠ x.pb := by
    intro r hr
    simp only [Lx.own, List.mem_cons, List.not_mem_nil, or_false] at hr
    rcases hr with rfl | rfl | rfl | rfl | rfl
    · exact d2
    · exact d3
    · exact d4
    · exact d5
    · exact d6
  refine append_K (hsz := Nat.le_trans hsz (by rw [PySem.sizeLine_eq]; decide)) F' N' (.head hU) ?_
  intro h2 F2 N2
  rw [push_strs] at N2
  dsimp only
  walk_at "drv2"
  (try dsimp only)
  exact leaveO_ ((x.pb, strsO (lp ++ [(q, tq)]) (nb + 1)) :: x.own 69 w.params sent ps tl ta) F2 N2 (fun q hq => hq) fun F5 N5 H5 => hret _ _ _ _ ⟨_, rfl⟩ H5 F5 N5
/-- a word taken back -/
theorem pop04 (w : World) (p : Program) (loose : List Str) (mean : ExcName → Option Value) (mg mb : Str → Option Value) (sent : Str) (x : Lx) (hnd : List.Nodup [x.lex, x.lexd, x.st, x.std, x.atA, x.pb]) (ps : Nat) (ta tl : Tok) (q : Str × Tok) (lp : List (Str × Tok)) (nb : Nat) (hlp : lp.length ≤ 1000) :
    SpecF PySem.Challenge.rw_ny0034_04.row.prog w (hd04.heap_39 w.params) p loose mean mg mb 59 1 [.ref x.lex] ((x.pb, strsO (q :: lp) nb) :: x.own 69 w.params sent ps tl ta) (fun _ => True)
      (fun v own' => v = .str q.1 q.2 ∧ ∃ nb', own' = (x.pb, strsO lp nb') :: x.own 69 w.params sent ps tl ta) := by
  w_top off
  k_fill
  intro dp un gd cn cs a ccd cl outer A₀ base h₀ L m s rest R B F X N hsep T hk hpre hd hu hret
  k_dflt (refine' code_own (rest := rest) ?k1 ?k2 ?k3 ?k4 ?kS ?k5 ?kA ?kF ?kK ?k6 ?k7 ?k8 ?k9 ?kB ?_ ?c2 ?c3 ?c4 ?c5; (case kA => exact rfl); (case kF => exact rfl); (case kK => assumption); (case kS => assumption); (case k1 => k_asm); (case k2 => k_asm); (case k3 => k_asm); (case k4 => k_asm); (case k5 => k_asm); (case k6 => k_is); (case k7 => k_is); (case k8 => ktr_room); (case k9 => exact BindsTo.of_eq rfl); (case c5 => decide); (case kB => exact locs rfl); (case c2 => exact rfl); (case c3 => exact rfl); (case c4 => exact rfl); k_whole)
  intro g L' h₁ F' N' B' X' T' hst hrest hlt
  clear B F X T N
  (try dsimp only)
  obtain ⟨d1, d2, d3, d4, d5, d6⟩ := nd6 hnd
  have hsz : (strValues (q :: lp)).toArray.size ≤ 1001 := by simp [strValues]; omega
  walk_at "drv2"
  · rename _ = true => hE
    simp [strValues] at hE
  · have hU : ∀ r ∈ x.own 69 w.params sent ps tl ta, r.1 ≠ x.pb := by
      intro r hr
      simp only [Lx.own, List.mem_cons, List.not_mem_nil, or_false] at hr
      rcases hr with rfl | rfl | rfl | rfl | rfl
      · exact d2
      · exact d3
      · exact d4
      · exact d5
      · exact d6
    refine kl_popAt (its := (strValues (q :: lp)).toArray) (k := 0) (p := []) (q := strValues lp) (y := .str q.1 q.2) F' N' (by rfl) ?hk (by rfl) (.head hU) ?hz ?_
    case hk => simp [seqIndex?, strValues]
    case hz => simp [strValues]; rw [PySem.sizeLine_eq]; omega
    intro h2 F2 N2
    dsimp only
    exact leaveO_ ((x.pb, strsO lp (nb + 1)) :: x.own 69 w.params sent ps tl ta) F2 N2 (fun q hq => hq) fun F5 N5 H5 => hret _ _ _ _ ⟨rfl, _, rfl⟩ H5 F5 N5
end Mine
end
-- part Pure3
section
open PySem PySem.W PyProof.Rows PySem.Calls
set_option Elab.async false
set_option maxRecDepth 100000
set_option maxHeartbeats 400000
set_option linter.unusedVariables false
namespace Mine
/-- the tokens and row numbers that come off a text; N: the rows of the whole -/
def Reads (ws : List Nat) (N : Nat) : List Nat → List (List Nat × Nat) → Prop
  | _, [] => True
  | l, d :: ds => (tok ws l).1 = d.1 ∧ d.2 + (tok ws l).2.count 10 = N ∧ Reads ws N (tok ws l).2 ds
/-- what is due from the row i on -/
def dueF (f : Nat → List Nat → List Nat × Nat) : Nat → List (List Nat) → List (List Nat × Nat)
  | _, [] => []
  | i, p :: ps => (if (f i p).1 ≠ [] then [f i p] else []) ++ dueF f (i + 1) ps
abbrev txt (rows : List (List Nat)) : List Nat := joinL [13, 10] (rows.map esc)
def RowsOk (rows : List (List Nat)) : Prop := ∀ p ∈ rows, 10 ∉ p ∧ 13 ∉ p
theorem tokQ_suf : ∀ (n : Nat) (l : List Nat), l.length ≤ n → ∃ c, l = c ++ (tokQ l).2 := by
  intro n
  induction n with
  | zero => intro l h; have : l = [] := List.length_eq_zero_iff.mp (by omega); subst this; exact ⟨[], rfl⟩
  | succ n ih =>
    intro l h
    cases l with
    | nil => exact ⟨[], rfl⟩
    | cons c r =>
      have hr := ih r (by simp at h; omega)
      by_cases h1 : c = 34
      · subst h1; rw [tokQ_q]; exact ⟨[34], rfl⟩
      · by_cases h2 : c = 92
        · subst h2
          cases r with
          | nil => rw [tokQ_b0]; exact ⟨[92], rfl⟩
          | cons d r' =>
            obtain ⟨k, e⟩ := ih r' (by simp at h; omega)
            rw [tokQ_b]
            exact ⟨92 :: d :: k, by show _ = 92 :: d :: (k ++ _); rw [← e]⟩
        · obtain ⟨k, e⟩ := hr
          rw [tokQ_o _ h1 h2]
          exact ⟨c :: k, by show _ = c :: (k ++ _); rw [← e]⟩
theorem tokP_suf (ws : List Nat) : ∀ (n : Nat) (l : List Nat), l.length ≤ n → ∃ c, l = c ++ (tokP ws l).2 := by
  intro n
  induction n with
  | zero => intro l h; have : l = [] := List.length_eq_zero_iff.mp (by omega); subst this; exact ⟨[], rfl⟩
  | succ n ih =>
    intro l h
    cases l with
    | nil => exact ⟨[], rfl⟩
    | cons c r =>
      have hr := ih r (by simp at h; omega)
      by_cases h1 : c ∈ ws
      · rw [tokP_w _ h1]; exact ⟨[c], rfl⟩
      · by_cases h2 : c = 92
        · subst h2
          cases r with
          | nil => rw [tokP_b0]; exact ⟨[92], rfl⟩
          | cons d r' =>
            obtain ⟨k, e⟩ := ih r' (by simp at h; omega)
            rw [tokP_b _ _ h1]
            exact ⟨92 :: d :: k, by show _ = 92 :: d :: (k ++ _); rw [← e]⟩
        · obtain ⟨k, e⟩ := hr
          rw [tokP_o _ h1 h2]
          exact ⟨c :: k, by show _ = c :: (k ++ _); rw [← e]⟩
theorem tok_suf (ws : List Nat) : ∀ l : List Nat, ∃ c, l = c ++ (tok ws l).2
  | [] => ⟨[], rfl⟩
  | c :: r => by
    by_cases h1 : c ∈ ws
    · obtain ⟨k, e⟩ := tok_suf ws r
      rw [tok_w _ h1]
      exact ⟨c :: k, by show _ = c :: (k ++ _); rw [← e]⟩
    · by_cases h3 : c = 34
      · subst h3
        obtain ⟨k, e⟩ := tokQ_suf _ r (Nat.le_refl _)
        rw [tok_q _ h1]
        exact ⟨34 :: k, by show _ = 34 :: (k ++ _); rw [← e]⟩
      · by_cases h2 : c = 92
        · subst h2
          cases r with
          | nil => rw [tok_b0 h1]; exact ⟨[92], rfl⟩
          | cons d r' =>
            obtain ⟨k, e⟩ := tokP_suf ws _ r' (Nat.le_refl _)
            rw [tok_b _ _ h1]
            exact ⟨92 :: d :: k, by show _ = 92 :: d :: (k ++ _); rw [← e]⟩
        · obtain ⟨k, e⟩ := tokP_suf ws _ r (Nat.le_refl _)
          rw [tok_o _ h1 h3 h2]
          exact ⟨c :: k, by show _ = c :: (k ++ _); rw [← e]⟩
/-- the place behind a token -/
theorem tok_place {sent : Str} {ws : List Nat} {p p' : Nat} (hp : p ≤ sent.cps.size) (hp' : p' = sent.cps.size - (tok ws (sent.cps.toList.drop p)).2.length) :
    p' ≤ sent.cps.size ∧ p ≤ p' ∧ sent.cps.toList.drop p' = (tok ws (sent.cps.toList.drop p)).2 ∧ lnAt sent p' = ((1 + sent.cps.toList.count 10 : Nat) : Int) - ((tok ws (sent.cps.toList.drop p)).2.count 10 : Nat) := by
  obtain ⟨c, e⟩ := tok_suf ws (sent.cps.toList.drop p)
  generalize hr : (tok ws (sent.cps.toList.drop p)).2 = r at *
  have hl := congrArg List.length e
  simp only [List.length_drop, List.length_append, Array.length_toList] at hl
  have hd : sent.cps.toList.drop p' = r := by
    have : sent.cps.toList.drop p' = (sent.cps.toList.drop p).drop c.length := by rw [List.drop_drop]; congr 1; omega
    rw [this, e, List.drop_left]
  refine ⟨by omega, by omega, hd, ?_⟩
  have h2 := congrArg (List.count 10) (List.take_append_drop p' sent.cps.toList)
  rw [List.count_append, hd] at h2
  unfold lnAt
  omega
end Mine
end
-- part Pure4
section
open PySem PySem.W PyProof.Rows PySem.Calls
set_option Elab.async false
set_option maxRecDepth 100000
set_option maxHeartbeats 400000
set_option linter.unusedVariables false
namespace Mine
/-! the plain law of 04 -/
def gR (k : Nat) (r : List Nat) : List Nat := if r.head? = some 46 then List.replicate k 46 ++ r else r
/-- a word sent so many times -/
def sentW (y : List Nat) (k : Nat) : List Nat := if k = 0 then y else joinL [13, 10] ((rowsOf y).map (gR k))
theorem gR_free {k : Nat} {r : List Nat} (h : 10 ∉ r ∧ 13 ∉ r) : 10 ∉ gR k r ∧ 13 ∉ gR k r := by
  unfold gR
  split
  · simp only [List.mem_append, List.mem_replicate, not_or]
    exact ⟨⟨by omega, h.1⟩, ⟨by omega, h.2⟩⟩
  · exact h
theorem gR_len (k : Nat) (r : List Nat) : (gR k r).length ≤ k + r.length := by
  unfold gR
  split
  · simp
  · omega
theorem gR_head {k : Nat} {r : List Nat} : (gR k r).head? = some 46 ↔ r.head? = some 46 := by
  unfold gR
  by_cases h : r.head? = some 46
  · rw [if_pos h]
    cases k with
    | zero => exact Iff.rfl
    | succ k => simp [List.replicate_succ, h]
  · rw [if_neg h]
theorem gR_one (r : List Nat) : dotRow r = gR 1 r := by
  unfold gR dotRow
  split <;> rfl
theorem gR_add (k : Nat) (r : List Nat) : dotRow (gR k r) = gR (k + 1) r := by
  unfold dotRow
  by_cases h : r.head? = some 46
  · rw [if_pos (gR_head.mpr h)]
    unfold gR
    rw [if_pos h, if_pos h, List.replicate_succ]
    rfl
  · rw [if_neg (fun q => h (gR_head.mp q))]
    unfold gR
    rw [if_neg h, if_neg h]
theorem rows_join4 : ∀ ps : List (List Nat), ps ≠ [] → (∀ p ∈ ps, 10 ∉ p ∧ 13 ∉ p) → rowsOf (joinL [13, 10] ps) = ps
  | [], h, _ => absurd rfl h
  | [p], _, h => by
    have hp := h p (List.mem_singleton.mpr rfl)
    have := rows_app p [] hp.1 hp.2
    rw [List.append_nil] at this
    show rowsOf p = _
    rw [this, rows_nil]
    simp [prep]
  | p :: q :: r, _, h => by
    have ih := rows_join4 (q :: r) (by simp) fun a ha => h a (List.mem_cons_of_mem _ ha)
    have hp := h p (List.mem_cons_self ..)
    show rowsOf (p ++ [13, 10] ++ joinL [13, 10] (q :: r)) = _
    rw [List.append_assoc, rows_app _ _ hp.1 hp.2]
    show prep p (rowsOf (13 :: 10 :: joinL [13, 10] (q :: r))) = _
    rw [rows_crlf, ih]
    simp [prep]
theorem rows_sentW (y : List Nat) (k : Nat) : (rowsOf (sentW y k)).map dotRow = (rowsOf y).map (gR (k + 1)) := by
  unfold sentW
  split
  · rename_i h
    subst h
    exact List.map_congr_left fun a _ => gR_one a
  · rw [rows_join4 _ (by simpa using rows_ne y) (fun p hp => by
      obtain ⟨q, hq, rfl⟩ := List.mem_map.mp hp
      exact gR_free (rows_free y q hq)), List.map_map]
    exact List.map_congr_left fun a _ => gR_add k a
/-- sent once more -/
theorem quoted_sentW (x : Str) (y : List Nat) (k : Nat) (h : x.cps.toList = sentW y k) : (quoted x).cps.toList = sentW y (k + 1) := by
  rw [quoted_rows, h, rows_sentW]
  unfold sentW
  rw [if_neg (by omega)]
/-! the queue -/
/-- a word under way: its text, how often it was sent, how often it is to be sent -/
abbrev Wd := List Nat × Nat × Nat
abbrev Wd.cur (e : Wd) : List Nat := sentW e.1 e.2.1
def stepQ : List Wd × List (List Nat) → List Wd × List (List Nat)
  | ([], o) => ([], o)
  | (e :: r, o) => if e.2.1 = e.2.2 then (r, o ++ [e.cur]) else (r ++ [(e.1, e.2.1 + 1, e.2.2)], o)
def runQ : Nat → List Wd × List (List Nat) → List Wd × List (List Nat)
  | 0, s => s
  | n + 1, s => runQ n (stepQ s)
theorem runQ_add (a b : Nat) (s : List Wd × List (List Nat)) : runQ (a + b) s = runQ b (runQ a s) := by
  induction a generalizing s with
  | zero => rw [Nat.zero_add]; rfl
  | succ a ih => rw [Nat.add_right_comm]; exact ih (stepQ s)
theorem runQ_succ (a : Nat) (s : List Wd × List (List Nat)) : runQ (a + 1) s = stepQ (runQ a s) := runQ_add a 1 s
/-- what is still to do -/
def todo (l : List Wd) : Nat := (l.map fun e => e.2.2 - e.2.1 + 1).sum
def WdOk (e : Wd) : Prop := e.2.1 ≤ e.2.2
theorem step_ok {s : List Wd × List (List Nat)} (h : ∀ e ∈ s.1, WdOk e) : ∀ e ∈ (stepQ s).1, WdOk e := by
  obtain ⟨l, o⟩ := s
  cases l with
  | nil => exact h
  | cons e r =>
    rw [stepQ]
    by_cases he : e.2.1 = e.2.2
    · rw [if_pos he]
      exact fun a ha => h a (List.mem_cons_of_mem _ ha)
    · rw [if_neg he]
      intro a ha
      rcases List.mem_append.mp ha with ha | ha
      · exact h a (List.mem_cons_of_mem _ ha)
      · rw [List.mem_singleton.mp ha]
        have := h e (List.mem_cons_self ..)
        unfold WdOk at this ⊢
        simp only at this ⊢
        omega
theorem step_todo {e : Wd} {r : List Wd} {o : List (List Nat)} (h : WdOk e) : todo (stepQ (e :: r, o)).1 + 1 = todo (e :: r) := by
  unfold WdOk at h
  rw [stepQ]
  by_cases he : e.2.1 = e.2.2
  · rw [if_pos he]
    simp only [todo, List.map_cons, List.sum_cons]
    omega
  · rw [if_neg he]
    simp only [todo, List.map_cons, List.sum_cons, List.map_append, List.sum_append, List.map_nil, List.sum_nil]
    omega
theorem todo_pos {l : List Wd} (h : 0 < todo l) : ∃ e r, l = e :: r := by
  cases l with
  | nil => simp [todo] at h
  | cons e r => exact ⟨e, r, rfl⟩
/-- a whole round -/
theorem round_Q : ∀ (A B : List Wd) (o : List (List Nat)), runQ A.length (A ++ B, o) = (B ++ (A.filter fun e => e.2.1 ≠ e.2.2).map (fun e => (e.1, e.2.1 + 1, e.2.2)), o ++ (A.filter fun e => e.2.1 = e.2.2).map Wd.cur)
  | [], B, o => by simp [runQ]
  | e :: A, B, o => by
    rw [List.length_cons, runQ, List.cons_append, stepQ]
    by_cases h : e.2.1 = e.2.2
    · rw [if_pos h, round_Q A B]
      simp [h]
    · rw [if_neg h, List.append_assoc, round_Q A (B ++ _)]
      simp [h]
/-- the words with a count, at the start -/
abbrev Src := List Nat × Nat
def atRound (k : Nat) (ws : List Src) : List Wd := (ws.filter fun q => k ≤ q.2).map fun q => (q.1, k, q.2)
def dueAt (k : Nat) (ws : List Src) : List (List Nat) := (ws.filter fun q => q.2 = k).map fun q => sentW q.1 k
def dueQ : Nat → List Src → List (List Nat)
  | 0, _ => []
  | k + 1, ws => dueQ k ws ++ dueAt k ws
def stepsTo : Nat → List Src → Nat
  | 0, _ => 0
  | k + 1, ws => stepsTo k ws + (atRound k ws).length
theorem at_next (k : Nat) : ∀ ws : List Src, ((atRound k ws).filter fun e => e.2.1 ≠ e.2.2).map (fun e => ((e.1, e.2.1 + 1, e.2.2) : Wd)) = atRound (k + 1) ws ∧ ((atRound k ws).filter fun e => e.2.1 = e.2.2).map Wd.cur = dueAt k ws
  | [] => ⟨rfl, rfl⟩
  | q :: ws => by
    obtain ⟨h1, h2⟩ := at_next k ws
    unfold atRound dueAt at *
    by_cases a : k ≤ q.2
    · by_cases b : q.2 = k
      · subst b
        simp at h1 h2 ⊢
        exact ⟨h1, h2⟩
      · have c : k + 1 ≤ q.2 := by omega
        have d : k ≠ q.2 := fun e => b e.symm
        simp [a, b, c, d] at h1 h2 ⊢
        exact ⟨h1, h2⟩
    · have b : q.2 ≠ k := by omega
      have c : ¬ (k + 1 ≤ q.2) := by omega
      simp [a, b, c] at h1 h2 ⊢
      exact ⟨h1, h2⟩
theorem run_rounds (ws : List Src) : ∀ k, runQ (stepsTo k ws) (atRound 0 ws, []) = (atRound k ws, dueQ k ws)
  | 0 => rfl
  | k + 1 => by
    rw [stepsTo, runQ_add, run_rounds ws k]
    have := round_Q (atRound k ws) [] (dueQ k ws)
    rw [List.append_nil, List.nil_append] at this
    rw [this, (at_next k ws).1, (at_next k ws).2]
    rfl
theorem at_all (ws : List Src) : atRound 0 ws = ws.map fun q => (q.1, 0, q.2) := by
  unfold atRound
  rw [List.filter_eq_self.mpr (by simp)]
theorem at_none {k : Nat} {ws : List Src} (h : ∀ q ∈ ws, q.2 < k) : atRound k ws = [] := by
  unfold atRound
  rw [List.filter_eq_nil_iff.mpr (fun q hq => by have := h q hq; simp; omega)]
  rfl
/-- a word lies in as many rounds as it has turns, and one -/
theorem steps_all (n : Nat) : ∀ ws : List Src, (∀ q ∈ ws, q.2 < n) → stepsTo n ws = (ws.map fun q => q.2 + 1).sum := by
  have one : ∀ (q : Src) (ws : List Src) (k : Nat), stepsTo k (q :: ws) = stepsTo k ws + min k (q.2 + 1) := by
    intro q ws k
    induction k with
    | zero => simp [stepsTo]
    | succ k ih =>
      rw [stepsTo, stepsTo, ih]
      unfold atRound
      rw [List.length_map, List.length_map, List.filter_cons]
      generalize (ws.filter fun q => decide (k ≤ q.2)) = z
      by_cases h : k ≤ q.2
      · rw [if_pos (by simpa using h), List.length_cons]; omega
      · rw [if_neg (by simpa using h)]; omega
  intro ws
  induction ws with
  | nil =>
    intro _
    have : ∀ k, stepsTo k [] = 0 := by
      intro k
      induction k with
      | zero => rfl
      | succ k ih => rw [stepsTo, ih]; rfl
    simp [this]
  | cons q ws ih =>
    intro h
    rw [one, ih fun a ha => h a (List.mem_cons_of_mem _ ha), List.map_cons, List.sum_cons]
    have := h q (List.mem_cons_self ..)
    omega
/-- all the turns: the queue is empty, what was put out is what is due -/
theorem run_all {n : Nat} {ws : List Src} (h : ∀ q ∈ ws, q.2 < n) : runQ ((ws.map fun q => q.2 + 1).sum) (ws.map fun q => (q.1, 0, q.2), []) = ([], dueQ n ws) := by
  rw [← steps_all n ws h, ← at_all, run_rounds, at_none h]
/-- the queue on the way -/
theorem run_way {ws : List Src} : ∀ j, j ≤ (ws.map fun q => q.2 + 1).sum → (∀ e ∈ (runQ j (ws.map fun q => ((q.1, 0, q.2) : Wd), [])).1, WdOk e) ∧ todo (runQ j (ws.map fun q => ((q.1, 0, q.2) : Wd), [])).1 + j = (ws.map fun q => q.2 + 1).sum
  | 0, _ => by
    refine ⟨?_, ?_⟩
    · intro e he
      obtain ⟨q, _, rfl⟩ := List.mem_map.mp he
      exact Nat.zero_le _
    · show todo (ws.map fun q => ((q.1, 0, q.2) : Wd)) + 0 = _
      unfold todo
      rw [List.map_map]
      rfl
  | j + 1, hj => by
    obtain ⟨h1, h2⟩ := run_way (ws := ws) j (by omega)
    rw [runQ_succ]
    refine ⟨step_ok h1, ?_⟩
    have hp : 0 < todo (runQ j (ws.map fun q => ((q.1, 0, q.2) : Wd), [])).1 := by omega
    generalize runQ j (ws.map fun q => ((q.1, 0, q.2) : Wd), []) = s at h1 h2 hp ⊢
    obtain ⟨l, o⟩ := s
    obtain ⟨e, r, rfl⟩ := todo_pos hp
    have := step_todo (r := r) (o := o) (h1 e (List.mem_cons_self ..))
    simp only at h2
    omega
end Mine
end
-- part Pure4b
section
open PySem PySem.W PyProof.Rows PySem.Calls
set_option Elab.async false
set_option maxRecDepth 100000
set_option maxHeartbeats 400000
set_option linter.unusedVariables false
namespace Mine
/-! the words of 04 -/
def tailW (f : Nat) : List Nat := if f / 6 = 0 then [12] else if f / 6 = 1 then [32, 34] else [13, 46, 10]
def dotsW (f : Nat) : Nat := (f + 1) % 6
def wordW (i f : Nat) : List Nat := List.replicate (dotsW f) 46 ++ (tailW f ++ [97 + i])
def turnsW (wn f : Nat) : Nat := if dotsW f > 0 then wn - dotsW f else 0
def wordsW : Nat → List Nat → List (List Nat)
  | _, [] => []
  | i, f :: fs => wordW i f :: wordsW (i + 1) fs
/-- is a word put out -/
def doneW (wn : Nat) (l : List Nat) : Bool := decide (l.head? ≠ some 46 ∨ l.take wn = List.replicate wn 46)
/-- the rows of a word: behind the dots a first row that has none -/
theorem rows_word (i f : Nat) (hi : i < 7) : ∃ r0 rs, rowsOf (wordW i f) = (List.replicate (dotsW f) 46 ++ r0) :: rs ∧ r0.head? ≠ some 46 ∧ (r0 = [] → rs ≠ []) := by
  have h0 : ∀ r, rowsOf (List.replicate (dotsW f) 46 ++ r) = prep (List.replicate (dotsW f) 46) (rowsOf r) := fun r => rows_app _ _ (by simp) (by simp)
  have one : ∀ c, c ≠ 10 → c ≠ 13 → rowsOf [c] = [[c]] := fun c h1 h2 => by rw [rows_o _ h1 h2, rows_nil]; rfl
  unfold wordW
  rw [h0]
  unfold tailW
  split
  · refine ⟨[12, 97 + i], [], ?_, by simp, by simp⟩
    show prep _ (rowsOf (12 :: [97 + i])) = _
    rw [rows_o _ (by decide) (by decide), one _ (by omega) (by omega)]
    rfl
  · split
    · refine ⟨[32, 34, 97 + i], [], ?_, by simp, by simp⟩
      show prep _ (rowsOf (32 :: 34 :: [97 + i])) = _
      rw [rows_o _ (by decide) (by decide), rows_o _ (by decide) (by decide), one _ (by omega) (by omega)]
      rfl
    · refine ⟨[], [[46], [97 + i]], ?_, by simp, by simp⟩
      show prep _ (rowsOf (13 :: 46 :: 10 :: [97 + i])) = _
      rw [rows_cr _ (by simp), rows_o _ (by decide) (by decide), rows_lf, one _ (by omega) (by omega)]
      rfl
theorem word_head (i f : Nat) : ∃ z, wordW i f = List.replicate (dotsW f) 46 ++ z ∧ z.head? ≠ some 46 := by
  refine ⟨tailW f ++ [97 + i], rfl, ?_⟩
  unfold tailW
  split
  · simp
  · split <;> simp
theorem joinL_first (p : List Nat) (ps : List (List Nat)) : ∃ z, joinL [13, 10] (p :: ps) = p ++ z ∧ (z = [] ∨ z.head? = some 13) := by
  cases ps with
  | nil => exact ⟨[], by simp [joinL], .inl rfl⟩
  | cons q r => exact ⟨[13, 10] ++ joinL [13, 10] (q :: r), by simp [joinL], .inr rfl⟩
/-- a word sent k times: its dots, and no more -/
theorem sent_head {i f k : Nat} (hi : i < 7) (hd : 0 < dotsW f) : ∃ z, sentW (wordW i f) k = List.replicate (k + dotsW f) 46 ++ z ∧ z.head? ≠ some 46 := by
  by_cases hk : k = 0
  · subst hk
    obtain ⟨z, e, hz⟩ := word_head i f
    exact ⟨z, by rw [sentW, if_pos rfl, e, Nat.zero_add], hz⟩
  · obtain ⟨r0, rs, e, h0, _⟩ := rows_word i f hi
    rw [sentW, if_neg hk, e, List.map_cons]
    obtain ⟨z, ez, hz⟩ := joinL_first (gR k (List.replicate (dotsW f) 46 ++ r0)) (rs.map (gR k))
    have hg : gR k (List.replicate (dotsW f) 46 ++ r0) = List.replicate (k + dotsW f) 46 ++ r0 := by
      obtain ⟨d, hd'⟩ : ∃ d, dotsW f = d + 1 := ⟨dotsW f - 1, by omega⟩
      unfold gR
      rw [if_pos (by rw [hd']; simp [List.replicate_succ]), ← List.append_assoc, List.replicate_append_replicate]
    rw [ez, hg]
    refine ⟨r0 ++ z, by rw [List.append_assoc], ?_⟩
    cases r0 with
    | nil =>
      rcases hz with rfl | hz
      · simp
      · rw [List.nil_append, hz]; simp
    | cons c r => simpa using h0
theorem take_dots (n m : Nat) (z : List Nat) (hz : z.head? ≠ some 46) : (List.replicate n 46 ++ z).take m = List.replicate m 46 ↔ m ≤ n := by
  constructor
  · intro h
    by_cases hm : m ≤ n
    · exact hm
    · exfalso
      have h1 : ((List.replicate n 46 ++ z).take m)[n]? = (List.replicate m 46)[n]? := by rw [h]
      rw [List.getElem?_take_of_lt (by omega), List.getElem?_append_right (by simp)] at h1
      simp only [List.length_replicate, Nat.sub_self] at h1
      rw [List.getElem?_replicate_of_lt (by omega)] at h1
      apply hz
      cases z with
      | nil => simp at h1
      | cons c r => simpa using h1
  · intro h
    rw [List.take_append_of_le_length (by simpa using h), List.take_replicate, Nat.min_eq_left h]
/-- a word is put out when it was sent as often as it needs -/
theorem done_word {i f k wn : Nat} (hi : i < 7) (hw : 0 < wn) (hk : k ≤ turnsW wn f) : doneW wn (sentW (wordW i f) k) = decide (k = turnsW wn f) := by
  rw [Bool.eq_iff_iff, doneW, decide_eq_true_iff, decide_eq_true_iff]
  unfold turnsW at hk ⊢
  by_cases hd : 0 < dotsW f
  · rw [if_pos hd] at hk ⊢
    obtain ⟨z, e, hz⟩ := sent_head (k := k) hi hd
    rw [e, take_dots _ _ _ hz]
    have hh : (List.replicate (k + dotsW f) 46 ++ z).head? = some 46 := by
      obtain ⟨d, hd'⟩ : ∃ d, k + dotsW f = d + 1 := ⟨k + dotsW f - 1, by omega⟩
      rw [hd']; simp [List.replicate_succ]
    rw [hh]
    constructor
    · rintro (h | h)
      · exact absurd rfl h
      · omega
    · intro h
      exact .inr (by omega)
  · rw [if_neg hd] at hk ⊢
    have hk0 : k = 0 := by omega
    subst hk0
    refine ⟨fun _ => rfl, fun _ => .inl ?_⟩
    obtain ⟨z, e, hz⟩ := word_head i f
    rw [sentW, if_pos rfl, e, show dotsW f = 0 by omega]
    exact hz
theorem done_nil (wn : Nat) : doneW wn (sentW [] 0) = true := by simp [doneW, sentW]
/-- the words with their turns -/
def srcW (wn : Nat) (fs : List Nat) : List Src := ([], 0) :: ([], 0) :: (wordsW 0 fs).zip (fs.map (turnsW wn))
/-- what is known of a word under way -/
def WayOk (wn : Nat) (e : Wd) : Prop := (e.1 = [] ∧ e.2.2 = 0) ∨ ∃ i f, i < 7 ∧ e.1 = wordW i f ∧ e.2.2 = turnsW wn f
theorem done_way {wn : Nat} {e : Wd} (hw : 0 < wn) (h : WayOk wn e) (hk : WdOk e) : doneW wn e.cur = decide (e.2.1 = e.2.2) := by
  obtain ⟨y, k, t⟩ := e
  unfold WdOk at hk
  simp only at hk
  rcases h with ⟨h1, h2⟩ | ⟨i, f, hi, h1, h2⟩
  · simp only at h1 h2
    subst h1 h2
    have : k = 0 := by omega
    subst this
    show doneW wn (sentW [] 0) = _
    rw [done_nil]; rfl
  · simp only at h1 h2
    subst h1 h2
    exact done_word hi hw hk
theorem way_step {wn : Nat} {s : List Wd × List (List Nat)} (h : ∀ e ∈ s.1, WayOk wn e) : ∀ e ∈ (stepQ s).1, WayOk wn e := by
  obtain ⟨l, o⟩ := s
  cases l with
  | nil => exact h
  | cons e r =>
    rw [stepQ]
    by_cases he : e.2.1 = e.2.2
    · rw [if_pos he]
      exact fun a ha => h a (List.mem_cons_of_mem _ ha)
    · rw [if_neg he]
      intro a ha
      rcases List.mem_append.mp ha with ha | ha
      · exact h a (List.mem_cons_of_mem _ ha)
      · rw [List.mem_singleton.mp ha]
        exact h e (List.mem_cons_self ..)
theorem words_way (wn : Nat) : ∀ (fs : List Nat) (i : Nat), i + fs.length ≤ 7 → ∀ q ∈ (wordsW i fs).zip (fs.map (turnsW wn)), WayOk wn (q.1, 0, q.2)
  | [], _, _ => by simp [wordsW]
  | f :: fs, i, h => by
    intro q hq
    rw [wordsW, List.map_cons, List.zip_cons_cons] at hq
    simp only [List.length_cons] at h
    rcases List.mem_cons.mp hq with rfl | hq
    · exact .inr ⟨i, f, by omega, rfl, rfl⟩
    · exact words_way wn fs (i + 1) (by omega) q hq
theorem src_way {wn : Nat} {fs : List Nat} (h : fs.length ≤ 7) : ∀ e ∈ (srcW wn fs).map (fun q => ((q.1, 0, q.2) : Wd)), WayOk wn e := by
  intro e he
  obtain ⟨q, hq, rfl⟩ := List.mem_map.mp he
  unfold srcW at hq
  rcases List.mem_cons.mp hq with rfl | hq
  · exact .inl ⟨rfl, rfl⟩
  · rcases List.mem_cons.mp hq with rfl | hq
    · exact .inl ⟨rfl, rfl⟩
    · exact words_way wn fs 0 (by omega) q hq
theorem run_wayok {wn : Nat} {fs : List Nat} (h : fs.length ≤ 7) : ∀ j, ∀ e ∈ (runQ j ((srcW wn fs).map (fun q => ((q.1, 0, q.2) : Wd)), [])).1, WayOk wn e
  | 0 => src_way h
  | j + 1 => by rw [runQ_succ]; exact way_step (run_wayok h j)
theorem turns_lt {wn f : Nat} (hw : 0 < wn) : turnsW wn f < wn := by
  unfold turnsW
  split <;> omega
theorem src_lt {wn : Nat} {fs : List Nat} (hw : 0 < wn) : ∀ q ∈ srcW wn fs, q.2 < wn := by
  intro q hq
  unfold srcW at hq
  rcases List.mem_cons.mp hq with rfl | hq
  · exact hw
  · rcases List.mem_cons.mp hq with rfl | hq
    · exact hw
    · have := List.of_mem_zip hq
      obtain ⟨f, _, e⟩ := List.mem_map.mp this.2
      rw [← e]
      exact turns_lt hw
/-! bounds -/
theorem word_len (i f : Nat) : (wordW i f).length ≤ 9 := by
  have h1 : dotsW f ≤ 5 := by unfold dotsW; omega
  unfold wordW tailW
  simp only [List.length_append, List.length_replicate, List.length_cons, List.length_nil]
  split
  · simp; omega
  · split <;> (simp; omega)
theorem flat4 (k : Nat) : ∀ l : List (List Nat), (l.map (gR k)).flatten.length ≤ l.flatten.length + l.length * k
  | [] => by simp
  | q :: l => by
    have ih := flat4 k l
    have := gR_len k q
    rw [List.map_cons, List.flatten_cons, List.flatten_cons, List.length_append, List.length_append, List.length_cons, Nat.add_mul]
    omega
theorem joinL_len4 (z : List Nat) : ∀ ps : List (List Nat), (joinL z ps).length ≤ ps.flatten.length + ps.length * z.length
  | [] => by simp [joinL]
  | [p] => by simp [joinL]
  | p :: q :: r => by
    have ih := joinL_len4 z (q :: r)
    show (p ++ z ++ joinL z (q :: r)).length ≤ _
    rw [List.length_append, List.length_append, List.flatten_cons, List.length_append]
    simp only [List.length_cons, Nat.add_mul, Nat.one_mul] at ih ⊢
    omega
theorem rows_flat4 (l : List Nat) : (rowsOf l).flatten.length ≤ l.length := by
  induction l using rows_ind with
  | h0 => exact Nat.le_refl _
  | h1 r ih => rw [rows_crlf, List.flatten_cons, List.nil_append]; simp only [List.length_cons]; omega
  | h2 r hr ih => rw [rows_cr _ hr, List.flatten_cons, List.nil_append]; simp only [List.length_cons]; omega
  | h3 r ih => rw [rows_lf, List.flatten_cons, List.nil_append]; simp only [List.length_cons]; omega
  | h4 c r h1 h2 ih =>
    rw [rows_o _ h1 h2]
    cases hr : rowsOf r with
    | nil => exact absurd hr (rows_ne r)
    | cons p ps => rw [hr] at ih; simp [prep] at ih ⊢; omega
theorem sentW_len {y : List Nat} {k : Nat} (hy : y.length ≤ 9) (hk : k ≤ 6) : (sentW y k).length ≤ 100 := by
  unfold sentW
  split
  · omega
  · have h1 := rows_flat4 y
    have h2 := rows_cnt y
    have h3 := flat4 k (rowsOf y)
    have h4 := joinL_len4 [13, 10] ((rowsOf y).map (gR k))
    rw [List.length_map] at h4
    have h5 : (rowsOf y).length * k ≤ 10 * 6 := Nat.mul_le_mul (by omega) hk
    simp only [List.length_cons, List.length_nil] at h4
    omega
theorem way_len {wn : Nat} {e : Wd} (hw : wn ≤ 5) (hw0 : 0 < wn) (h : WayOk wn e) (hk : WdOk e) : e.cur.length ≤ 100 := by
  obtain ⟨y, k, t⟩ := e
  unfold WdOk at hk
  simp only at hk
  rcases h with ⟨h1, h2⟩ | ⟨i, f, hi, h1, h2⟩
  · simp only at h1 h2
    subst h1
    exact sentW_len (by simp) (by show k ≤ 6; omega)
  · simp only at h1 h2
    subst h1
    have := turns_lt (f := f) hw0
    exact sentW_len (word_len i f) (by show k ≤ 6; omega)
/-! the text -/
def textW (ws : List (List Nat)) : List Nat := ws.flatMap fun y => [34] ++ esc y ++ [34]
theorem tokQ_esc4 : ∀ (d r : List Nat), tokQ (esc d ++ 34 :: r) = (d, r)
  | [], r => tokQ_q r
  | c :: d, r => by
    have ih := tokQ_esc4 d r
    show tokQ (escF c ++ esc d ++ 34 :: r) = _
    unfold escF
    by_cases h1 : c = 92
    · subst h1; rw [if_pos rfl]; show tokQ (92 :: 92 :: (esc d ++ 34 :: r)) = _; rw [tokQ_b, ih]
    · rw [if_neg h1]
      by_cases h2 : c = 34
      · subst h2; rw [if_pos rfl]; show tokQ (92 :: 34 :: (esc d ++ 34 :: r)) = _; rw [tokQ_b, ih]
      · rw [if_neg h2]; show tokQ (c :: (esc d ++ 34 :: r)) = _; rw [tokQ_o _ h2 h1, ih]
def ws44 : List Nat := [10, 9, 13, 32]
/-- a word is read -/
theorem read_word (y : List Nat) (ws : List (List Nat)) : tok ws44 (textW (y :: ws) ++ [122]) = (y, textW ws ++ [122]) := by
  have e : textW (y :: ws) ++ [122] = 34 :: (esc y ++ 34 :: (textW ws ++ [122])) := by simp [textW]
  rw [e, tok_q _ (by decide), tokQ_esc4]
theorem read_z : tok ws44 [122] = ([122], []) := by
  rw [tok_o _ (by decide) (by decide) (by decide)]
  simp [tokP]
/-- quotes alone are escaped where there is no backslash -/
theorem esc_quotes {y : List Nat} (h : 92 ∉ y) : subs1 34 [92, 34] y = esc y := by
  induction y with
  | nil => rfl
  | cons c r ih =>
    have h1 : c ≠ 92 := fun e => h (e ▸ List.mem_cons_self ..)
    rw [subs1_cons, ih fun m => h (List.mem_cons_of_mem _ m)]
    show _ = escF c ++ esc r
    unfold escF
    rw [if_neg h1]
theorem word_no92 (i f : Nat) (hi : i < 7) : 92 ∉ wordW i f := by
  unfold wordW tailW
  simp only [List.mem_append, List.mem_replicate, not_or]
  refine ⟨by omega, ?_, by simp; omega⟩
  split
  · simp
  · split <;> simp
end Mine
end
-- part N04
section
open PySem PySem.W PyProof.Rows PySem.Calls PySem.SeqAt
set_option Elab.async false
set_option maxRecDepth 100000
set_option maxHeartbeats 8000000
set_option linter.unusedVariables false
namespace Mine
local macro_rules | `(tactic| k_room) => `(tactic| ktr_room)
local macro_rules | `(tactic| k_units) => `(tactic| ktr_units)
/-- dots ahead of a row that begins with one -/
def gS (k : Nat) (q : Str) : Str := ⟨(gR k q.cps.toList).toArray⟩
theorem gS_yes {k : Nat} {q : Str} (h : (Txt.slice q none (some 1) == Str.ofString ".") = true) : Txt.mul (Str.ofString ".") (k : Int) ++ q = gS k q := by
  have e : Txt.slice q none (some 1) = ⟨(q.cps.toList.take 1).toArray⟩ := slice_to q 1
  rw [e, ofDot, beq_iff_eq, Str.mk.injEq] at h
  have h' := congrArg Array.toList h
  simp only at h'
  have hh : q.cps.toList.head? = some 46 := by
    cases hq : q.cps.toList with
    | nil => rw [hq] at h'; simp at h'
    | cons c r => rw [hq] at h'; simpa using h'
  rw [app_str, ofDot, mul_one_list]
  unfold gS gR
  rw [if_pos hh]
  simp
theorem gS_no {k : Nat} {q : Str} (h : (Txt.slice q none (some 1) == Str.ofString ".") = false) : q = gS k q := by
  have e : Txt.slice q none (some 1) = ⟨(q.cps.toList.take 1).toArray⟩ := slice_to q 1
  rw [e, ofDot] at h
  unfold gS gR
  rw [if_neg]
  intro hq
  apply absurd h
  cases hc : q.cps.toList with
  | nil => rw [hc] at hq; simp at hq
  | cons c r =>
    rw [hc] at hq
    have : c = 46 := by simpa using hq
    subst this
    simp
theorem sum_le4 (B : Nat) : ∀ l : List Nat, (∀ x ∈ l, x ≤ B) → l.sum ≤ l.length * B
  | [], _ => by simp
  | x :: r, h => by
    have h1 := sum_le4 B r fun y hy => h y (List.mem_cons_of_mem _ hy)
    have h2 := h x (List.mem_cons_self ..)
    rw [List.sum_cons, List.length_cons, Nat.add_mul]
    omega
theorem sent_join {k : Nat} {lr l2 : List (Str × Tok)} (hk : k ≤ 10) (hll : lr.length ≤ 101) (hlq : ∀ q ∈ lr, q.1.length ≤ 100) (h : l2.map (·.1) = lr.map fun q => gS k q.1) : JoinOk (Str.ofString "\r\n") (l2.map (·.1)) = true := by
  have e2 : (Str.ofString "\r\n").length = 2 := by decide +kernel
  refine joinOk_of ?_
  rw [e2, h]
  have a3 : ∀ x ∈ (lr.map fun q => gS k q.1).map (·.length), x ≤ 110 := by
    intro x hx
    rw [List.map_map] at hx
    obtain ⟨q, hq, rfl⟩ := List.mem_map.mp hx
    have h1 := gR_len k q.1.cps.toList
    have h2 := hlq q hq
    rw [len_list] at h2
    show (gS k q.1).length ≤ 110
    rw [len_list]
    show (gR k q.1.cps.toList).length ≤ 110
    omega
  have a4 := sum_le4 110 _ a3
  simp only [List.length_map] at a4 ⊢
  omega
theorem sent_text {k : Nat} {y : List Nat} {lr l2 : List (Str × Tok)} (hk : k ≠ 0) (hR : lists lr = rowsOf y) (h : l2.map (·.1) = lr.map fun q => gS k q.1) : (Txt.join (Str.ofString "\r\n") (l2.map (·.1))).cps.toList = sentW y k := by
  rw [Txt.join, StrLaws.glued_eq_join, join_toList, ofCRLF, h, List.map_map, sentW, if_neg hk, ← hR, List.map_map]
  rfl
/-- behind the first test -/
def MidT (h₀ : Heap) (L : Addr) (m : Str → Option Value) (g : Heap) (rest : List (Addr × Obj)) (R : Result → Shared → Prop) (L' : Addr) (s : Shared) (y : Str) (ty : Tok) (r : Nat) (tr : Tok) (f : Flow) (s' : Shared) : Prop :=
  (∃ v, f = .ret v ∧ LeaveO h₀ L m g rest R v s') ∨ (f = .next ∧ r ≠ 0 ∧ ∃ (u : Str → Option Value) (h : Heap) (tk : Nat) (oR : Obj), s' = { s with heap := h, toks := tk } ∧ 1 ≤ tk ∧ Fr g L' h (fun z => if z = Str.ofString "word" then some (.str y ty) else u z) ∧ News g L' h [(L' + 1, oR)] ∧ oR.data = .cell (some (.int (r : Int) tr)))
theorem sent04 (w : World) (p : Program) (loose : List Str) (mean : ExcName → Option Value) (mg mb : Str → Option Value) (y : Str) (ty : Tok) (hy : y.length ≤ 100) (r : Nat) (hr : r ≤ 10) (tr : Tok) :
    SpecF PySem.Challenge.rw_ny0034_04.row.prog w (hd04.heap_39 w.params) p loose mean mg mb 109 2 [.str y ty, .int (r : Int) tr] [] (fun _ => True)
      (fun v own' => own' = [] ∧ ∃ t tt, v = .str t tt ∧ t.cps.toList = sentW y.cps.toList r) := by
  w_top off
  k_fill
  intro dp un gd cn cs a ccd cl outer A₀ base h₀ L m s rest R B F X N hsep T hk hpre hd hu hret
  rw [List.nil_append] at N
  k_dflt (refine' code_ownC (rest := rest) ?k1 ?k2 ?k3 ?k4 ?k5 ?kA ?kF ?kK ?k6 ?k7 ?k8 ?k9 ?kB ?kD ?_ ?c2 ?c3 ?c4; (case kA => exact rfl); (case kF => exact rfl); (case kK => assumption); (case k1 => k_asm); (case k2 => k_asm); (case k3 => k_asm); (case k4 => k_asm); (case k5 => k_asm); (case k6 => k_is); (case k7 => k_is); (case k8 => ktr_room); (case k9 => exact BindsTo.of_eq rfl); (case kB => exact rfl); (case kD => decide +kernel); (case c2 => exact rfl); (case c3 => exact rfl); (case c4 => exact rfl); k_whole)
  intro g L' h₁ tk cells F' N' Y' B' X' T' hst hrest hlt
  k_cells Y'
  (try simp only [List.cons_append, List.nil_append] at N')
  clear B F X T N
  (try dsimp only)
  refine wpAny_execs_cons ?_
  refine wpAny_mono (Q := MidT h₀ L m g rest R L' s y ty r tr) ?st ?rest (fun _ _ h => h)
  case st =>
    walk_at "drv4"
    refine wpAny_upO 1 (Nat.le_add_left 1 _) ?_
    walk_at "drv3"
    unfold TokGe
    intro htk
    dsimp only at htk ⊢
    refine wpAny_upO 1 htk ?_
    walk_at "drv3"
    unfold TokGe
    intro htk2
    by_cases hr0 : r = 0
    · rw [if_pos (show ((r : Int) == 0) = true from by rw [hr0]; rfl)]
      walk_at "drv3"
      dsimp only
      exact .inl ⟨_, rfl, leaveO_ [] F' N' (fun _ h => nomatch h) fun F7 N7 H7 => hret _ [] _ _ ⟨rfl, y, ty, rfl, by rw [sentW, if_pos hr0]⟩ H7 F7 N7⟩
    · rw [if_neg (by simp; omega)]
      refine wpAny_execs_nil ?_
      rename _ = Data.cell _ => d1
      exact .inr ⟨rfl, hr0, _, _, _, _, rfl, Nat.le_add_left 1 _, canon1 F' _ rfl, N', d1⟩
  case rest =>
    clear F' N'
    rintro f s' (⟨v, rfl, hl⟩ | ⟨rfl, hr0, u, h2, tk2, oR, rfl, htk, F2, N2, hoR⟩)
    · exact hl
    dsimp only
    refine wpAny_execs_cons ?_
    walk_at "drv3"
    refine replU (by (show @Ne Nat _ _); omega) (by (show @Ne Nat _ _); omega) (by (show @Ne Nat _ _); omega) (by decide +kernel) (by omega) (by decide +kernel) (by decide +kernel) ?_
    intro r1 t1 k1 hk1 hr1
    have hk1 : 1 ≤ k1 := Nat.le_trans (by simp) hk1
    dsimp only
    have hl1 : r1.length ≤ 200 := by
      have := rep_len (Str.ofString "\r\n").cps.toList (Str.ofString "\n").cps.toList y.cps.toList 0
      rw [← hr1, ← len_list, ← len_list, show (Str.ofString "\n").cps.toList.length = 1 by decide +kernel] at this
      omega
    walk_at "drv3"
    refine replU (by (show @Ne Nat _ _); omega) (by (show @Ne Nat _ _); omega) (by (show @Ne Nat _ _); omega) (by decide +kernel) (by omega) (by decide +kernel) (by decide +kernel) ?_
    intro r2 t2 k2 hk2 hr2
    dsimp only at hk2 ⊢
    have hl2 : r2.length ≤ 400 := by
      have := rep_len (Str.ofString "\r").cps.toList (Str.ofString "\n").cps.toList r1.cps.toList 0
      rw [← hr2, ← len_list, ← len_list, show (Str.ofString "\n").cps.toList.length = 1 by decide +kernel] at this
      omega
    walk_at "drv3"
    (rename Fr _ _ _ _ => F3); (rename News _ _ _ _ => N3)
    refine splitN1 F3 N3 (by decide +kernel) ?_ (by rw [PySem.sizeLine_eq]; omega)
    intro lr h4 tk4 hlr F4 N4
    have hR := rows_split hr1 hr2 hlr
    clear F3 N3
    have hll : lr.length ≤ 101 := by
      have a1 := congrArg List.length hR
      have a2 := rows_cnt y.cps.toList
      rw [← len_list] at a2
      simp only [List.length_map] at a1
      omega
    have hlq : ∀ q ∈ lr, q.1.length ≤ 100 := fun q hq => by
      have := rows_each y.cps.toList q.1.cps.toList (by rw [← hR]; exact List.mem_map_of_mem hq)
      rw [← len_list, ← len_list] at this
      omega
    dsimp only
    walk_at "drv3"
    (rename Fr _ _ _ _ => F5); (rename News _ _ _ _ => N5)
    refine LCg.ListComp_U (F₀ := F5) (by with_unfolding_all rfl) (by decide) (by rfl) (by decide) (by rfl) ?_
    walk_at "drv3"
    refine LCg.CompSrc.ledger (by rfl) F5 N5 (.head _) (by rw [PySem.sizeLine_eq]; simp [strValues]; omega) ?_
    intro g6
    refine strs_restH (fun q => .str (gS r q)) ?turn (.inr ⟨_, .head _, rfl, _, rfl⟩) ?fin
    case turn =>
      intro q t I oI C oC D m₂ ys h tk E' hm hC hx F N off ne
      have hq2 : q.length ≤ 100 := hlq _ hm
      clear F5 N5
      walk_at "drv3"
      · (rename Fr _ _ _ _ => F7); (rename News _ _ _ _ => N7); (rename (_ == _) = _ => hd1)
        exact ⟨by rw [gS_yes hd1]; exact .str _ _, _, _, rfl, F7, N7⟩
      · (rename Fr _ _ _ _ => F7); (rename News _ _ _ _ => N7); (rename (_ == _) = _ => hd1)
        exact ⟨by rw [← gS_no hd1]; exact .str _ _, _, _, rfl, F7, N7⟩
    case fin =>
      intro ys hys
      obtain ⟨l2, rfl, hl2⟩ := strs_of_carried hys
      unfold LCg.FinE
      intro D h8 tk8 F8 N8 off8
      clear F5 N5
      dsimp only
      walk_at "drv3"
      refine SC.join ⟨_, (N8 _ (.head _)).1, rfl, _, rfl⟩ rfl (sent_join hr hll hlq hl2) ?_
      intro t9 k9
      dsimp only
      exact leaveO_ [] F8 N8 (fun _ h => nomatch h) fun F7 N7 H7 => hret _ [] _ _ ⟨rfl, _, _, rfl, sent_text hr0 hR hl2⟩ H7 F7 N7
end Mine
end
-- part B4a
section
open PySem PySem.W PyProof.Rows PySem.Calls PySem.SeqAt
set_option Elab.async false
set_option maxRecDepth 100000
set_option maxHeartbeats 8000000
set_option linter.unusedVariables false
namespace Mine
/-- the law's own def -/
abbrev lawS04 : Stmt := match PySem.Challenge.pw_ny0034_04.main.body with
  | _ :: _ :: _ :: _ :: _ :: _ :: _ :: _ :: _ :: _ :: _ :: _ :: d :: _ => d
  | _ => .Pass ⟨0, 0, 0, 0⟩
theorem words_take : ∀ (fs : List Nat) (j i : Nat) (h : i < fs.length), wordsW j (fs.take (i + 1)) = wordsW j (fs.take i) ++ [wordW (j + i) fs[i]]
  | [], _, _, h => absurd h (by simp)
  | f :: fs, j, 0, h => by simp [wordsW]
  | f :: fs, j, i + 1, h => by
    have ih := words_take fs (j + 1) i (by simpa using h)
    simp only [List.take_succ_cons, wordsW, List.cons_append, List.getElem_cons_succ]
    rw [ih, show j + 1 + i = j + (i + 1) by omega]
theorem tail_item (f : Nat) (hf : f < 18) (a b c : Tok) : ∃ T tT, T.cps.toList = tailW f ∧ ([(Str.ofString "\x0c", a), (Str.ofString " \"", b), (Str.ofString "\r.\n", c)] : List (Str × Tok))[f / 6]'(by simp; omega) = (T, tT) := by
  have h : f / 6 = 0 ∨ f / 6 = 1 ∨ f / 6 = 2 := by omega
  unfold tailW
  rcases h with h | h | h
  · exact ⟨_, _, by rw [if_pos h]; exact (by decide +kernel : (Str.ofString "\x0c").cps.toList = [12]), by simp only [h]; rfl⟩
  · exact ⟨_, _, by rw [if_neg (by omega), if_pos h]; exact (by decide +kernel : (Str.ofString " \"").cps.toList = [32, 34]), by simp only [h]; rfl⟩
  · exact ⟨_, _, by rw [if_neg (by omega), if_neg (by omega)]; exact (by decide +kernel : (Str.ofString "\r.\n").cps.toList = [13, 46, 10]), by simp only [h]; rfl⟩
theorem letters : (Str.ofString "abcdefg").cps = #[97, 98, 99, 100, 101, 102, 103] := by decide +kernel
theorem letter_at {i : Nat} (h : i < 7) : (Txt.item (Str.ofString "abcdefg") (i : Int)).cps.toList = [97 + i] := by
  have hs : i < (Str.ofString "abcdefg").cps.size := by rw [letters]; exact h
  rw [item_at hs]
  have e : (Str.ofString "abcdefg").cps[i] = 97 + i := by
    simp only [letters]
    match i, h with
    | 0, _ => rfl
    | 1, _ => rfl
    | 2, _ => rfl
    | 3, _ => rfl
    | 4, _ => rfl
    | 5, _ => rfl
    | 6, _ => rfl
  rw [e]
theorem word_text {i f : Nat} {T : Str} (hi : i < 7) (hT : T.cps.toList = tailW f) : (Txt.mul (Str.ofString ".") ((dotsW f : Nat) : Int) ++ T ++ Txt.item (Str.ofString "abcdefg") (i : Int)).cps.toList = wordW i f := by
  rw [app_str, app_str, hT, letter_at hi, ofDot, mul_one_list]
  simp [wordW]
theorem words_next {lf : List (Nat × Tok)} {lw : List (Str × Tok)} {i : Nat} {fq : Nat × Tok} {X : Str} {tX : Tok} (hi : i < lf.length) (hfq : fq = lf[i]) (h : lists lw = [] :: [] :: wordsW 0 ((nats lf).take i)) (hX : X.cps.toList = wordW i fq.1) :
    lists (lw ++ [(X, tX)]) = [] :: [] :: wordsW 0 ((nats lf).take (i + 1)) := by
  have hi' : i < (nats lf).length := by simpa using hi
  have e := words_take (nats lf) 0 i hi'
  have e2 : (nats lf)[i] = fq.1 := by rw [hfq]; simp
  rw [e2, Nat.zero_add] at e
  rw [e, ← hX]
  show (lists (lw ++ [(X, tX)])) = ([] :: [] :: wordsW 0 ((nats lf).take i)) ++ [X.cps.toList]
  rw [← h]
  simp [lists]
theorem turns_next {lf : List (Nat × Tok)} {lt : List (Nat × Tok)} {i wn : Nat} {fq : Nat × Tok} {z : Nat} {tz : Tok} (hi : i < lf.length) (hfq : fq = lf[i]) (h : nats lt = 0 :: 0 :: ((nats lf).take i).map (turnsW wn)) (hz : z = turnsW wn fq.1) :
    nats (lt ++ [(z, tz)]) = 0 :: 0 :: ((nats lf).take (i + 1)).map (turnsW wn) := by
  have hi' : i < (nats lf).length := by simpa using hi
  have e2 : (nats lf)[i] = fq.1 := by rw [hfq]; simp
  rw [List.take_add_one, List.getElem?_eq_getElem hi', e2, List.map_append, hz]
  show nats (lt ++ [(turnsW wn fq.1, tz)]) = (0 :: 0 :: ((nats lf).take i).map (turnsW wn)) ++ [turnsW wn fq.1]
  rw [← h]
  simp [nats]
section
variable {prog : Program} {w : World} {A : Around} {E : Value → Shared → Prop} {s : Shared} {P : Addr} {value slice : Expr} {u : Tok} {Q : Value → Shared → Prop}
theorem tail3_item {f : Nat} {a b c : Tok} (hP : s.heap.IsList P #[.str (Str.ofString "\x0c") a, .str (Str.ofString " \"") b, .str (Str.ofString "\r.\n") c]) (hf : f < 18) (h : ∀ T tT, T.cps.toList = tailW f → T.length ≤ 3 → Q (.str T tT) s)
    (hs : subscripted slice false (.ref P) (.int ((f / 6 : Nat) : Int) u) = operate [.ref P, .int ((f / 6 : Nat) : Int) u] (getItem (.ref P) (.int ((f / 6 : Nat) : Int) u)) := by with_unfolding_all rfl) :
    wpAny (model prog w) A (subscriptTail value slice (.ref P) (.int ((f / 6 : Nat) : Int) u)) Q E s := by
  obtain ⟨T, tT, hT, hTt⟩ := tail_item f hf a b c
  refine strs_item (l := [(Str.ofString "\x0c", a), (Str.ofString " \"", b), (Str.ofString "\r.\n", c)]) hP (by simp) (by simp; omega) ?_ hs
  rw [hTt]
  refine h T tT hT ?_
  rw [len_list, hT]
  unfold tailW
  split
  · simp
  · split <;> simp
end
abbrev cells4 (L : Nat) (o1 o2 o3 o4 : Obj) : List (Addr × Obj) := [(L + 4, o4), (L + 3, o3), (L + 2, o2), (L + 1, o1), (99, tabObj #[])]
/-- behind the loop that makes the words -/
def MidA (G : Heap) (L : Nat) (s : Shared) (FD WO TU : Nat) (wn : Nat) (tw : Tok) (lf : List (Nat × Tok)) (nf : Nat) (o1 o2 o3 o4 : Obj) (f : Flow) (s' : Shared) : Prop :=
  f = .next ∧ ∃ (lw : List (Str × Tok)) (lt : List (Nat × Tok)) (nw nt : Nat) (u : Str → Option Value) (h : Heap) (tk : Nat), s' = { s with heap := h, toks := tk } ∧
    Fr G L h (fun z => if z = Str.ofString "wanted" then some (.int (wn : Int) tw) else if z = Str.ofString "figures" then some (.ref FD) else u z) ∧
    News G L h ((TU, natsO lt nt) :: (WO, strsO lw nw) :: (FD, natsO lf nf) :: cells4 L o1 o2 o3 o4) ∧ lists lw = [] :: [] :: wordsW 0 (nats lf) ∧ nats lt = 0 :: 0 :: (nats lf).map (turnsW wn)
def LpA (G : Heap) (L : Nat) (s : Shared) (it FD WO TU : Nat) (wn : Nat) (tw : Tok) (lf : List (Nat × Tok)) (nf : Nat) (o1 o2 o3 o4 : Obj) (nn : Nat) (s' : Shared) : Prop :=
  ∃ (i : Nat) (lw : List (Str × Tok)) (lt : List (Nat × Tok)) (nw nt : Nat) (u : Str → Option Value) (h : Heap) (tk : Nat), s' = { s with heap := h, toks := tk } ∧
    Fr G L h (fun z => if z = Str.ofString "wanted" then some (.int (wn : Int) tw) else if z = Str.ofString "figures" then some (.ref FD) else u z) ∧
    News G L h ((it, riO i ((lf.length : Int) - i) 1) :: (TU, natsO lt nt) :: (WO, strsO lw nw) :: (FD, natsO lf nf) :: cells4 L o1 o2 o3 o4) ∧ i ≤ lf.length ∧ lists lw = [] :: [] :: wordsW 0 ((nats lf).take i) ∧ nats lt = 0 :: 0 :: ((nats lf).take i).map (turnsW wn) ∧ nn = lf.length - i
theorem blkA (w : World) (p : Program) (loose : List Str) (mean : ExcName → Option Value) (mg mb : Str → Option Value) {st : Stmt} {scope : Scope}
    (hast : ∃ n params s0 s1 s2 s3 body ds r tp ts b ps, lawS04 = .FunctionDef n params (s0 :: s1 :: s2 :: s3 :: st :: body) ds r tp scope ts b ps) {G : Heap} {L : Nat} {f : Addr} {cd : Value} {s : Shared} {u : Str → Option Value} {FD WO TU wn : Nat} {tw : Tok} {lf : List (Nat × Tok)} {nf : Nat} {o1 o2 o3 o4 : Obj} {t1 t2 t3 t4 : Tok} {nw nt : Nat}
    (B1 : Below callerA G [] G) (X1 : (hd04.heap_39 w.params).In G) (T1 : Top p loose mean mg mb G) (hlf : lf.length ≤ 7) (h18 : ∀ q ∈ lf, q.1 < 18) (hw2 : 2 ≤ wn) (hw5 : wn ≤ 5)
    (d1 : o1.data = .cell (some (.ref WO))) (d2 : o2.data = .cell (some (.ref TU))) (l1 : WO < TU ∧ FD < WO ∧ L + 4 < WO) (l0 : 99 < L) (l2 : (FD : Nat) ≠ 99 ∧ (FD : Nat) ≠ L + 4 ∧ (FD : Nat) ≠ L + 3 ∧ (FD : Nat) ≠ L + 2 ∧ (FD : Nat) ≠ L + 1)
    (F : Fr G L s.heap (fun z => if z = Str.ofString "wanted" then some (.int (wn : Int) tw) else if z = Str.ofString "figures" then some (.ref FD) else u z))
    (N : News G L s.heap ((TU, natsO [(0, t1), (0, t2)] nt) :: (WO, strsO [(Str.ofString "", t3), (Str.ofString "", t4)] nw) :: (FD, natsO lf nf) :: cells4 L o1 o2 o3 o4)) :
    wpAny (model PySem.Challenge.rw_ny0034_04.row.prog w) (callerA.deeper (envOfC (Str.ofString "law") scope L f cd)) (exec st (envOfC (Str.ofString "law") scope L f cd)) (MidA G L s FD WO TU wn tw lf nf o1 o2 o3 o4) (fun _ _ => False) s := by
  revert X1
  w_top off
  k_fill
  intro X1
  obtain ⟨n0, params, s0, s1, s2, s3, body, ds, r, tp, ts, b, ps0, e⟩ := hast
  dsimp only [lawS04, PySem.Challenge.pw_ny0034_04] at e
  cases e
  have hl6 : lf.length ≤ 1000000 := by omega
  have a1 : WO < TU := l1.1
  have a2 : FD < WO := l1.2.1
  have a3 : L + 4 < WO := l1.2.2
  have a4 : L + 3 < WO := by omega
  have a5 : L + 2 < WO := by omega
  have a6 : L + 1 < WO := by omega
  have a7 : 99 < WO := by omega
  have b2 : FD < TU := by omega
  have b3 : L + 4 < TU := by omega
  have b4 : L + 3 < TU := by omega
  have b5 : L + 2 < TU := by omega
  have b6 : L + 1 < TU := by omega
  have b7 : 99 < TU := by omega
  refine wpAny_For ?_
  walk_at "drv5"
  refine nats_len (News.isList N (by k_mem)) hl6 ?_
  intro tl kl
  walk_at "drv5"
  (rename IsRange _ _ _ _ _ _ _ _ => hRg); (rename Fr _ _ _ _ => F2); (rename News _ _ _ _ => N2)
  refine riter_K F2 N2 hRg hl6 ?_
  intro it h3 F3 N3 l3
  have lTU : TU < it := l3 (TU, natsO [(0, t1), (0, t2)] nt) (by k_mem)
  have lWO : WO < it := l3 (WO, strsO [(Str.ofString "", t3), (Str.ofString "", t4)] nw) (by k_mem)
  have lFD : FD < it := l3 (FD, natsO lf nf) (by k_mem)
  have l99 : 99 < it := l3 (99, tabObj #[]) (by k_mem)
  have lL4 : L + 4 < it := l3 (L + 4, o4) (by k_mem)
  dsimp only
  refine for_inv (LpA G L s it FD WO TU wn tw lf nf o1 o2 o3 o4) ?turn _ ⟨0, _, _, _, _, _, _, _, rfl, canon2 F3 _ _ rfl rfl, cb_drop N3 (by kcj_all), Nat.zero_le _, by rw [List.take_zero]; simp [lists, wordsW, ofNil], by rw [List.take_zero]; rfl, rfl⟩
  case turn =>
    (try clear F3); (try clear N3); (try clear F2); (try clear N2); (try clear F); (try clear N); clear l3
    rintro n s' ⟨i, lw, lt, nw, nt, u, h, tk, rfl, Fh, Nh, hi, hlw, hlt, rfl⟩
    have hlwl : lw.length ≤ 9 := by
      have := congrArg List.length hlw
      have hw : ∀ (fs : List Nat) (j : Nat), (wordsW j fs).length = fs.length := by
        intro fs
        induction fs with
        | nil => intro j; rfl
        | cons f fs ih => intro j; rw [wordsW, List.length_cons, ih, List.length_cons]
      simp only [List.length_map, List.length_cons, hw, List.length_take] at this
      omega
    have hltl : lt.length ≤ 9 := by
      have := congrArg List.length hlt
      simp only [List.length_map, List.length_cons, List.length_take] at this
      omega
    have hz1 : (strValues lw).toArray.size ≤ 1000 := by simp [strValues]; omega
    have hz2 : (natValues lt).toArray.size ≤ 1000 := by simp [natValues]; omega
    refine rnext_K rfl Fh Nh ?ne ?_ ?_
    case ne =>
      intro p hp
      simp only [List.mem_cons, List.not_mem_nil, or_false] at hp
      rcases hp with rfl | rfl | rfl | rfl | rfl | rfl | rfl | rfl <;> (show @Ne Nat _ _) <;> dsimp only <;> omega
    · intro hlt2 h4 t5 tk4 F4 N4
      have hi2 : i < lf.length := by omega
      have hf := h18 _ (List.getElem_mem hi2)
      rw [show ((i : Int) + 1) = ((i + 1 : Nat) : Int) by omega, show (lf.length : Int) - i - 1 = (lf.length : Int) - ((i + 1 : Nat) : Int) by omega] at N4
      have hfi : (nats lf)[i]'(by simpa using hi2) = lf[i].1 := by simp
      dsimp only
      walk1
      (try dsimp only)
      refine wpAny_execs_cons ?_
      refine wpAny_upO 0 (Nat.zero_le _) ?_
      walk_at "drv5"
      (rename Fr _ _ _ _ => F5); (rename News _ _ _ _ => N5)
      refine nats_item (News.isList N5 (by k_mem)) hl6 hi2 ?_
      dsimp only
      walk_at "drv5"
      unfold TokGe
      intro _
      (rename Fr _ _ _ _ => F6); (rename News _ _ _ _ => N6)
      obtain ⟨fq, hfq⟩ : ∃ fq, fq = lf[i] := ⟨_, rfl⟩
      rw [← hfq] at hf hfi F6
      have hdo : (((fq.1 : Int) + 1).fmod 6) = ((dotsW fq.1 : Nat) : Int) := by
        unfold dotsW
        rw [Int.fmod_eq_emod_of_nonneg _ (by decide)]
        omega
      rw [hdo] at F6
      have hd5 : dotsW fq.1 ≤ 5 := by unfold dotsW; omega
      dsimp only
      refine wpAny_execs_cons ?_
      refine wpAny_upO 0 (Nat.zero_le _) ?_
      walk_at "drv5"
      (rename Fr _ _ _ _ => F7); (rename News _ _ _ _ => N7); (rename _ ∧ _ => l7)
      refine nats_item (News.isList N7 (by k_mem)) hl6 hi2 ?_
      dsimp only
      (try rw [← hfq])
      walk_at "drv5"
      rw [show ((fq.1 : Int).fdiv 6) = ((fq.1 / 6 : Nat) : Int) from by rw [Int.fdiv_eq_ediv_of_nonneg _ (by decide)]; omega]
      refine tail3_item (News.isList N7 (.head _)) hf ?_
      intro T tT hT hTl
      dsimp only
      walk_at "drv5"
      unfold TokGe
      intro _
      (rename Fr _ _ _ _ => F8); (rename News _ _ _ _ => N8)
      rw [push_strs] at N8
      dsimp only
      walk_at "drv5"
      · (rename Fr _ _ _ _ => F9); (rename News _ _ _ _ => N9); (rename 0 < ((dotsW fq.1 : Nat) : Int) => hd0)
        rw [nat_push (by split <;> omega)] at N9
        refine ⟨lf.length - (i + 1), by omega, i + 1, _, _, _, _, _, _, _, rfl, canon2 F9 _ _ rfl rfl, cb_drop N9 (fun q hq => .tail _ hq), hi2, words_next hi2 hfq hlw (word_text (by omega) hT), turns_next hi2 hfq hlt ?_, rfl⟩
        unfold turnsW
        rw [if_pos (show dotsW fq.1 > 0 by omega)]
        split <;> omega
      · (rename Fr _ _ _ _ => F9); (rename News _ _ _ _ => N9); (rename ¬ 0 < ((dotsW fq.1 : Nat) : Int) => hd0)
        rw [nat_push (Int.le_refl 0)] at N9
        refine ⟨lf.length - (i + 1), by omega, i + 1, _, _, _, _, _, _, _, rfl, canon2 F9 _ _ rfl rfl, cb_drop N9 (fun q hq => .tail _ hq), hi2, words_next hi2 hfq hlw (word_text (by omega) hT), turns_next hi2 hfq hlt ?_, rfl⟩
        unfold turnsW
        rw [if_neg (show ¬ (dotsW fq.1 > 0) by omega)]
        rfl
    · intro hge h4 F4 N4
      have hi3 : i = lf.length := by omega
      rw [hi3, List.take_of_length_le (by simp)] at hlw hlt
      dsimp only
      walk_at "drv5"
      exact ⟨rfl, lw, lt, nw, nt, _, _, _, rfl, F4, N4, hlw, hlt⟩
end Mine
end
-- part B4b
section
open PySem PySem.W PyProof.Rows PySem.Calls PySem.SeqAt
set_option Elab.async false
set_option maxRecDepth 100000
set_option maxHeartbeats 8000000
set_option linter.unusedVariables false
namespace Mine
/-- a word in quotes -/
def qS (q : Str) : Str := ⟨([34] ++ esc q.cps.toList ++ [34]).toArray⟩
/-- behind the text's making -/
def MidB (G : Heap) (L : Nat) (s : Shared) (wn : Nat) (tw : Tok) (lw : List (Str × Tok)) (led : List (Addr × Obj)) (f : Flow) (s' : Shared) : Prop :=
  f = .next ∧ ∃ (tx : Str) (tt : Tok) (u : Str → Option Value) (h : Heap) (tk : Nat), s' = { s with heap := h, toks := tk } ∧
    Fr G L h (fun z => if z = Str.ofString "text" then some (.str tx tt) else if z = Str.ofString "wanted" then some (.int (wn : Int) tw) else u z) ∧
    News G L h led ∧ tx.cps.toList = textW (lists lw) ++ [122]
theorem esc_len4 : ∀ l : List Nat, (esc l).length ≤ 2 * l.length
  | [] => by simp [esc]
  | c :: r => by
    have ih := esc_len4 r
    have : (escF c).length ≤ 2 := by unfold escF; split; · simp
                                     · split <;> simp
    show (escF c ++ esc r).length ≤ _
    rw [List.length_append, List.length_cons]
    omega
theorem text_all {l2 lw : List (Str × Tok)} (h : l2.map (·.1) = lw.map fun q => qS q.1) : ((Txt.join (Str.ofString "") (l2.map (·.1))) ++ Str.ofString "z").cps.toList = textW (lists lw) ++ [122] := by
  have e : ∀ ps : List (List Nat), joinL [] ps = ps.flatten := by
    intro ps
    induction ps with
    | nil => rfl
    | cons p r ih => cases r with
      | nil => simp [joinL]
      | cons q r => rw [joinL, ih]; simp
  have z : (Str.ofString "z").cps.toList = [122] := by decide +kernel
  rw [app_str, z, h, Txt.join, StrLaws.glued_eq_join, join_toList, show (Str.ofString "").cps.toList = [] from by rw [ofNil], e]
  show (List.map (fun p : Str => p.cps.toList) (lw.map fun q => qS q.1)).flatten ++ [122] = _
  congr 1
  rw [List.map_map]
  unfold textW
  rw [List.flatMap_def]
  show _ = (List.map (fun y => [34] ++ esc y ++ [34]) (List.map (fun q : Str × Tok => q.1.cps.toList) lw)).flatten
  rw [List.map_map]
  rfl
theorem text_join {l2 lw : List (Str × Tok)} (hl : lw.length ≤ 20) (hq : ∀ q ∈ lw, q.1.length ≤ 9) (h : l2.map (·.1) = lw.map fun q => qS q.1) : JoinOk (Str.ofString "") (l2.map (·.1)) = true := by
  refine joinOk_of ?_
  rw [show (Str.ofString "").length = 0 by decide +kernel, h]
  have a3 : ∀ x ∈ (lw.map fun q => qS q.1).map (·.length), x ≤ 30 := by
    intro x hx
    rw [List.map_map] at hx
    obtain ⟨q, hq2, rfl⟩ := List.mem_map.mp hx
    have h1 := esc_len4 q.1.cps.toList
    have h2 := hq q hq2
    rw [len_list] at h2
    show (qS q.1).length ≤ 30
    rw [len_list]
    show ([34] ++ esc q.1.cps.toList ++ [34]).length ≤ 30
    simp only [List.length_append, List.length_cons, List.length_nil]
    omega
  have a4 := sum_le4 30 _ a3
  simp only [List.length_map] at a4 ⊢
  omega
theorem text_short {l2 lw : List (Str × Tok)} (hl : lw.length ≤ 20) (hq : ∀ q ∈ lw, q.1.length ≤ 9) (h : l2.map (·.1) = lw.map fun q => qS q.1) : (Txt.join (Str.ofString "") (l2.map (·.1))).length ≤ 600 := by
  have e := congrArg List.length (text_all h)
  rw [app_str] at e
  simp only [List.length_append, show (Str.ofString "z").cps.toList.length = 1 by decide +kernel, List.length_cons, List.length_nil] at e
  have k : ∀ l : List (Str × Tok), (∀ q ∈ l, q.1.length ≤ 9) → (textW (lists l)).length ≤ l.length * 20 := by
    intro l
    induction l with
    | nil => intro _; exact Nat.le_refl _
    | cons q l ih =>
      intro hl
      have i1 := ih fun a ha => hl a (List.mem_cons_of_mem _ ha)
      have i2 := hl q (List.mem_cons_self ..)
      have i3 := esc_len4 q.1.cps.toList
      rw [len_list] at i2
      show ([34] ++ esc q.1.cps.toList ++ [34] ++ textW (lists l)).length ≤ _
      simp only [List.length_append, List.length_cons, List.length_nil, Nat.add_mul]
      omega
  have := k lw hq
  have h2 : lw.length * 20 ≤ 20 * 20 := Nat.mul_le_mul_right _ hl
  rw [len_list]
  omega
theorem qS_of {q r : Str} (h92 : 92 ∉ q.cps.toList) (hr : r.cps.toList = rep (Str.ofString "\"").cps.toList (Str.ofString "\\\"").cps.toList 0 q.cps.toList) : Str.ofString "\"" ++ r ++ Str.ofString "\"" = qS q := by
  rw [app_str, app_str, hr, ofQ, show (Str.ofString "\\\"").cps.toList = [92, 34] by decide +kernel, rep_one, esc_quotes h92]
  rfl
theorem blkB (w : World) (p : Program) (loose : List Str) (mean : ExcName → Option Value) (mg mb : Str → Option Value) {st : Stmt} {scope : Scope}
    (hast : ∃ n params s0 s1 s2 s3 s4 body ds r tp ts b ps, lawS04 = .FunctionDef n params (s0 :: s1 :: s2 :: s3 :: s4 :: st :: body) ds r tp scope ts b ps) {G : Heap} {L : Nat} {f : Addr} {cd : Value} {s : Shared} {u : Str → Option Value} {wn WO TU FD : Nat} {tw : Tok} {lw : List (Str × Tok)} {nw nt nf : Nat} {lt lf : List (Nat × Tok)} {o1 o2 o3 o4 : Obj}
    (B1 : Below callerA G [] G) (X1 : (hd04.heap_39 w.params).In G) (T1 : Top p loose mean mg mb G) (hlw : lw.length ≤ 20) (hq9 : ∀ q ∈ lw, q.1.length ≤ 9) (h92 : ∀ q ∈ lw, 92 ∉ q.1.cps.toList)
    (d1 : o1.data = .cell (some (.ref WO)))
    (F : Fr G L s.heap (fun z => if z = Str.ofString "wanted" then some (.int (wn : Int) tw) else u z))
    (N : News G L s.heap ((TU, natsO lt nt) :: (WO, strsO lw nw) :: (FD, natsO lf nf) :: cells4 L o1 o2 o3 o4)) :
    wpAny (model PySem.Challenge.rw_ny0034_04.row.prog w) (callerA.deeper (envOfC (Str.ofString "law") scope L f cd)) (exec st (envOfC (Str.ofString "law") scope L f cd)) (MidB G L s wn tw lw ((TU, natsO lt nt) :: (WO, strsO lw nw) :: (FD, natsO lf nf) :: cells4 L o1 o2 o3 o4)) (fun _ _ => False) s := by
  revert X1
  w_top off
  k_fill
  intro X1
  obtain ⟨n0, params, s0, s1, s2, s3, s4, body, ds, r, tp, ts, b, ps0, e⟩ := hast
  dsimp only [lawS04, PySem.Challenge.pw_ny0034_04] at e
  cases e
  walk_at "drv6"
  (rename Fr _ _ _ _ => F2); (rename News _ _ _ _ => N2)
  refine LCg.ListComp_U (F₀ := F2) (by with_unfolding_all rfl) (by decide) (by rfl) (by decide) (by rfl) ?_
  walk_at "drv6"
  refine LCg.CompSrc.ledger (by rfl) F2 N2 (.tail _ (.head _)) (by rw [PySem.sizeLine_eq]; simp [strValues]; omega) ?_
  intro g6
  refine strs_restH (fun q => .str (qS q)) ?turn (.inr ⟨_, .tail _ (.head _), rfl, _, rfl⟩) ?fin
  case turn =>
    intro q t I oI C oC D m₂ ys h tk E' hm hC hx F N off ne
    have hq2 : q.length ≤ 9 := hq9 _ hm
    have hq92 : 92 ∉ q.cps.toList := h92 _ hm
    (try clear F2); (try clear N2)
    walk_at "drv6"
    refine replU (by (show @Ne Nat _ _); omega) (by (show @Ne Nat _ _); omega) (by (show @Ne Nat _ _); omega) (by decide +kernel) (by omega) (by decide +kernel) (by decide +kernel) ?_
    intro r3 t3 k3 hk3 hr3
    have hl3 : r3.length ≤ 30 := by
      have := rep_len (Str.ofString "\"").cps.toList (Str.ofString "\\\"").cps.toList q.cps.toList 0
      rw [← hr3, ← len_list, ← len_list, show (Str.ofString "\\\"").cps.toList.length = 2 by decide +kernel] at this
      omega
    have hq1 : (Str.ofString "\"").length = 1 := by decide +kernel
    dsimp only
    walk_at "drv6"
    exact ⟨by rw [qS_of hq92 hr3]; exact .str _ _, _, _, rfl, F, N⟩
  case fin =>
    intro ys hys
    obtain ⟨l2, rfl, hl2⟩ := strs_of_carried hys
    unfold LCg.FinE
    intro D h8 tk8 F8 N8 off8
    (try clear F2); (try clear N2)
    dsimp only
    walk_at "drv6"
    refine SC.join ⟨_, (N8 _ (.head _)).1, rfl, _, rfl⟩ rfl (text_join hlw hq9 hl2) ?_
    intro t9 k9
    have hjl := text_short hlw hq9 hl2
    have hz1 : (Str.ofString "z").length = 1 := by decide +kernel
    dsimp only
    walk_at "drv6"
    (rename Fr _ _ _ _ => F9); (rename News _ _ _ _ => N9)
    exact ⟨rfl, _, _, _, _, _, rfl, canon2 F9 _ _ rfl rfl, cb_drop N9 (fun q hq => .tail _ hq), text_all hl2⟩
end Mine
end
-- part B4c
section
open PySem PySem.W PyProof.Rows PySem.Calls PySem.SeqAt
set_option Elab.async false
set_option maxRecDepth 100000
set_option maxHeartbeats 8000000
set_option linter.unusedVariables false
namespace Mine
abbrev own4 (x : Lx) (pr : Params) (tx : Str) (p : Nat) (tl ta : Tok) (lp : List (Str × Tok)) (nb : Nat) : List (Addr × Obj) := (x.pb, strsO lp nb) :: x.own 69 pr tx p tl ta
abbrev tail4 (L TU WO : Nat) (lt : List (Nat × Tok)) (nt : Nat) (lw : List (Str × Tok)) (nw : Nat) (o1 o2 oL o4 : Obj) (rd : List (Addr × Obj)) : List (Addr × Obj) := (TU, natsO lt nt) :: (WO, strsO lw nw) :: (L + 4, o4) :: (L + 3, oL) :: (L + 2, o2) :: (L + 1, o1) :: rd
/-- what holds of a machine all along -/
structure LexOk (w : World) (p : Program) (loose : List Str) (mean : ExcName → Option Value) (mg mb : Str → Option Value) (L TU WO : Nat) (tx : Str) (x : Lx) (rd : List (Addr × Obj)) : Prop where
  ws : x.ws = Str.ofString "\n\t\r "
  fn : ∃ fo, (x.f, fo) ∈ rd ∧ ∃ oc od fd sl, fo = ⟨oc, od, .func fd, sl⟩
  read : ReadOk04 w p loose mean mg mb tx x.f x.atA rd
  nd : List.Nodup [x.lex, x.lexd, x.st, x.std, x.atA, x.pb]
  sep : ∀ q ∈ rd, q.1 ∉ [x.lex, x.lexd, x.st, x.std, x.atA, x.pb]
  sepT : ∀ q ∈ [TU, WO, L + 4, L + 3, L + 2, L + 1], q ∉ [x.lex, x.lexd, x.st, x.std, x.atA, x.pb]
  gtX : ∀ a ∈ [x.lex, x.lexd, x.st, x.std, x.atA, x.pb], (L + 4 : Nat) < a
  gtR : ∀ q ∈ rd, (@Ne Nat (L + 4) q.1)
  tab : ∃ tb, (99, tabObj tb) ∈ rd
  gtT : (L + 4 : Nat) < TU ∧ (L + 4 : Nat) < WO
/-- behind the machine's making -/
def MidC (G : Heap) (L : Nat) (s : Shared) (w : World) (p : Program) (loose : List Str) (mean : ExcName → Option Value) (mg mb : Str → Option Value) (wn : Nat) (tw : Tok) (tx : Str) (tt : Tok) (TU WO : Nat) (lt : List (Nat × Tok)) (nt : Nat) (lw : List (Str × Tok)) (nw : Nat) (o1 o2 o4 : Obj) (f : Flow) (s' : Shared) : Prop :=
  f = .next ∧ ∃ (x : Lx) (rd : List (Addr × Obj)) (tl ta : Tok) (u : Str → Option Value) (h : Heap) (tk : Nat) (oL : Obj), s' = { s with heap := h, toks := tk } ∧
    Fr G L h (fun z => if z = Str.ofString "at" then some (.ref x.atA) else if z = Str.ofString "text" then some (.str tx tt) else if z = Str.ofString "wanted" then some (.int (wn : Int) tw) else u z) ∧
    News G L h (own4 x w.params tx 0 tl ta [] 0 ++ tail4 L TU WO lt nt lw nw o1 o2 oL o4 rd) ∧ oL.data = .cell (some (.ref x.lex)) ∧ LexOk w p loose mean mg mb L TU WO tx x rd
theorem SpecF.pre {prog : Program} {w : World} {K : Frag} {p : Program} {loose : List Str} {mean : ExcName → Option Value} {mg mb : Str → Option Value} {f : Addr} {room : Nat} {vs : List Value} {own : List (Addr × Obj)} {Pre Pre' : Heap → Prop} {Post : Value → List (Addr × Obj) → Prop}
    (S : SpecF prog w K p loose mean mg mb f room vs own Pre Post) (h : ∀ g, Pre' g → Pre g) : SpecF prog w K p loose mean mg mb f room vs own Pre' Post :=
  fun dp un gd cn cs a ccd cl outer A₀ base h₀ L m s rest R B F X N hs T hk hpre hd hu hret => S dp un gd cn cs a ccd cl outer A₀ base h₀ L m s rest R B F X N hs T hk (fun g a b => h g (hpre g a b)) hd hu hret
theorem ord4 {pb lex lexd f c' st std cA cT atA TU WO L : Nat} (hO : atA < cT ∧ cT < cA ∧ cA < std ∧ std < st ∧ st < c' ∧ c' < f ∧ f < lexd ∧ lexd < lex ∧ lex < pb ∧ TU < atA ∧ WO < atA ∧ L + 4 < atA) :
    List.Nodup [lex, lexd, st, std, atA, pb] ∧ (∀ q ∈ [f, c', cT, cA], q ∉ [lex, lexd, st, std, atA, pb]) ∧ (∀ q ∈ [TU, WO, L + 4, L + 3, L + 2, L + 1], q ∉ [lex, lexd, st, std, atA, pb]) ∧ (∀ a ∈ [lex, lexd, st, std, atA, pb], L + 4 < a) ∧ (∀ a ∈ [f, c', cT, cA], L + 4 < a) := by
  refine ⟨?_, ?_, ?_, ?_, ?_⟩
  · simp; omega
  · intro q hq
    simp at hq ⊢
    rcases hq with rfl | rfl | rfl | rfl <;> omega
  · intro q hq
    simp at hq ⊢
    rcases hq with rfl | rfl | rfl | rfl | rfl | rfl <;> omega
  · intro a ha
    simp at ha
    rcases ha with rfl | rfl | rfl | rfl | rfl | rfl <;> omega
  · intro a ha
    simp at ha
    rcases ha with rfl | rfl | rfl | rfl <;> omega
theorem pack04 (w : World) (p : Program) (loose : List Str) (mean : ExcName → Option Value) (mg mb : Str → Option Value) {g h : Heap} {L : Nat} {news : List (Addr × Obj)} {s : Shared} {m : Str → Option Value}
    {pb lex lexd f c' st std cA cT atA TU WO : Nat} {k1 k2 k3 k4 j1 j2 j3 j4 j5 : Tok} {tl tw : Tok} {v1 v2 v3 v4 : Value} {name qual : Str} {params : Arguments} {body : List Stmt} {scope : Scope} {cl : List (Str × Addr)} {doc pm ctv : Value} {oc oT oA oL o1 o2 o4 : Obj} {vs : Array Value} {tv : Tok} {tx : Str} {tS ta tt twn : Tok} {wn : Nat} {lt : List (Nat × Tok)} {nt : Nat} {lw : List (Str × Tok)} {nw : Nat} {tks : Nat} {tb : Array Value}
    (F : Fr g L h m) (N : News g L h news) (n7 : (99, tabObj tb) ∈ news) (l99 : 99 < L) (e1 : m (Str.ofString "at") = some (.ref atA)) (e2 : m (Str.ofString "text") = some (.str tx tt)) (e3 : m (Str.ofString "wanted") = some (.int (wn : Int) twn))
    (m1 : (pb, listOf #[] 0) ∈ news) (m2 : (lex, instObj 69 lexd) ∈ news) (m3 : (lexd, lexD w.params k1 k2 k3 k4 1 tl (.ref st) (Str.ofString "\n\t\r ") tw pb) ∈ news) (m4 : (f, fnMade name qual params body scope cl doc pm c' ctv) ∈ news) (m5 : (c', oc) ∈ news) (hcT : cl.lookup (Str.ofString "text") = some cT) (hcA : cl.lookup (Str.ofString "at") = some cA)
    (m6 : (st, instObj 69 std) ∈ news) (m7 : (std, stD w.params j1 j2 j3 j4 j5 v1 v2 v3 v4 f) ∈ news) (m8 : (cA, oA) ∈ news) (m9 : (cT, oT) ∈ news) (m10 : (atA, listOf #[.int 0 ta] 0) ∈ news)
    (n1 : (TU, natsO lt nt) ∈ news) (n2 : (WO, strsO lw nw) ∈ news) (n3 : (L + 4, o4) ∈ news) (n4 : (L + 3, oL) ∈ news) (n5 : (L + 2, o2) ∈ news) (n6 : (L + 1, o1) ∈ news)
    (hast : ∃ n ds r tp ts b ps, giveD04 = .FunctionDef n params body ds r tp scope ts b ps) (hoc : oc.data = .fields vs) (hvs : vs[1]? = some (.str qual tv))
    (hoT : oT.data = .cell (some (.str tx tS))) (hoA : oA.data = .cell (some (.ref atA))) (hoL : oL.data = .cell (some (.ref lex))) (hsz : tx.cps.size ≤ 1000000)
    (hO : atA < cT ∧ cT < cA ∧ cA < std ∧ std < st ∧ st < c' ∧ c' < f ∧ f < lexd ∧ lexd < lex ∧ lex < pb ∧ TU < atA ∧ WO < atA ∧ L + 4 < atA) (hT : L + 4 < TU ∧ L + 4 < WO) :
    MidC g L s w p loose mean mg mb wn twn tx tt TU WO lt nt lw nw o1 o2 o4 .next { s with heap := h, toks := tks } := by
  obtain ⟨p1, p2, p3, p4, p5⟩ := ord4 hO
  refine ⟨rfl, ⟨lex, lexd, st, std, f, atA, pb, k1, k2, k3, k4, j1, j2, j3, j4, j5, v1, v2, v3, v4, Str.ofString "\n\t\r ", tw⟩, [(f, fnMade name qual params body scope cl doc pm c' ctv), (c', oc), (cT, oT), (cA, oA), (99, tabObj tb)], tl, ta, m, h, tks, oL, rfl, canon3 F _ _ _ e1 e2 e3, ?_, hoL, ⟨rfl, ⟨_, .head _, _, _, _, _, rfl⟩, ?_, p1, ?_, p3, p4, ?_, ⟨tb, .tail _ (.tail _ (.tail _ (.tail _ (.head _))))⟩, hT⟩⟩
  · have e : lnAt tx 0 = 1 := by simp [lnAt]
    intro q hq
    simp only [own4, tail4, Lx.own, e, List.cons_append, List.nil_append, List.mem_cons, List.not_mem_nil, or_false] at hq
    rcases hq with rfl | rfl | rfl | rfl | rfl | rfl | rfl | rfl | rfl | rfl | rfl | rfl | rfl | rfl | rfl | rfl | rfl <;> exact N _ (by assumption)
  · exact fun n t t1 hn => (give04 w p loose mean mg mb tx tS f c' cT cA atA name qual params body scope cl doc pm ctv oc oT oA vs tv hast hoc hvs hcT hcA hoT hoA hsz n t t1 hn).pre (fun g hg q hq => hg q (by simp at hq ⊢; rcases hq with h | h | h | h <;> simp [h]))
  · intro q hq
    simp only [List.mem_cons, List.not_mem_nil, or_false] at hq
    rcases hq with rfl | rfl | rfl | rfl | rfl
    · exact p2 _ (.head _)
    · exact p2 _ (.tail _ (.head _))
    · exact p2 _ (.tail _ (.tail _ (.head _)))
    · exact p2 _ (.tail _ (.tail _ (.tail _ (.head _))))
    · exact fun hm => absurd (p4 99 hm) (by omega)
  · intro q hq
    simp only [List.mem_cons, List.not_mem_nil, or_false] at hq
    rcases hq with rfl | rfl | rfl | rfl | rfl
    · exact Nat.ne_of_lt (p5 _ (.head _))
    · exact Nat.ne_of_lt (p5 _ (.tail _ (.head _)))
    · exact Nat.ne_of_lt (p5 _ (.tail _ (.tail _ (.head _))))
    · exact Nat.ne_of_lt (p5 _ (.tail _ (.tail _ (.tail _ (.head _)))))
    · show @Ne Nat _ _
      dsimp only
      omega
theorem blkC (w : World) (p : Program) (loose : List Str) (mean : ExcName → Option Value) (mg mb : Str → Option Value) {st : Stmt} {scope : Scope}
    (hast : ∃ n params s0 s1 s2 s3 s4 s5 s6 body ds r tp ts b ps, lawS04 = .FunctionDef n params (s0 :: s1 :: s2 :: s3 :: s4 :: s5 :: s6 :: st :: body) ds r tp scope ts b ps) {G : Heap} {L : Nat} {f : Addr} {cd : Value} {s : Shared} {u : Str → Option Value} {wn WO TU FD AT : Nat} {tw ta tt : Tok} {tx : Str} {lw : List (Str × Tok)} {nw nt nf : Nat} {lt lf : List (Nat × Tok)} {o1 o2 o3 o4 : Obj}
    (B1 : Below callerA G [] G) (X1 : (hd04.heap_39 w.params).In G) (T1 : Top p loose mean mg mb G) (codeHd : CodeHd G 103 99) (htx : tx.length ≤ 1000)
    (d3 : o3.data = .cell none) (l1 : WO < TU ∧ L + 4 < WO ∧ TU < AT ∧ FD < WO) (l0 : 99 < L) (l2 : (FD : Nat) ≠ 99 ∧ (FD : Nat) ≠ L + 4 ∧ (FD : Nat) ≠ L + 3 ∧ (FD : Nat) ≠ L + 2 ∧ (FD : Nat) ≠ L + 1)
    (F : Fr G L s.heap (fun z => if z = Str.ofString "at" then some (.ref AT) else if z = Str.ofString "text" then some (.str tx tt) else if z = Str.ofString "wanted" then some (.int (wn : Int) tw) else u z))
    (N : News G L s.heap ((AT, listOf #[.int 0 ta] 0) :: (TU, natsO lt nt) :: (WO, strsO lw nw) :: (FD, natsO lf nf) :: cells4 L o1 o2 o3 o4)) :
    wpAny (model PySem.Challenge.rw_ny0034_04.row.prog w) (callerA.deeper (envOfC (Str.ofString "law") scope L f cd)) (exec st (envOfC (Str.ofString "law") scope L f cd)) (MidC G L s w p loose mean mg mb wn tw tx tt TU WO lt nt lw nw o1 o2 o4) (fun _ _ => False) s := by
  revert X1
  w_top off
  k_fill
  intro X1
  obtain ⟨n0, params, s0, s1, s2, s3, s4, s5, s6, body, ds, r, tp, ts, b, ps0, e⟩ := hast
  dsimp only [lawS04, PySem.Challenge.pw_ny0034_04] at e
  cases e
  have a1 : WO < TU := l1.1
  have a2 : L + 4 < WO := l1.2.1
  have a3 : TU < AT := l1.2.2.1
  have a4 : FD < WO := l1.2.2.2
  have c1 : L + 3 < WO := by omega
  have c2 : L + 3 < TU := by omega
  have c3 : L + 3 < AT := by omega
  have c4 : 99 < WO := by omega
  have c5 : 99 < TU := by omega
  have c6 : 99 < AT := by omega
  have c7 : (FD : Nat) ≠ 99 := l2.1
  have c8 : (FD : Nat) ≠ L + 3 := l2.2.2.1
  have c9 : 99 < L + 4 := by omega
  have c10 : 99 < L + 3 := by omega
  have c11 : 99 < L + 2 := by omega
  have c12 : 99 < L + 1 := by omega
  have c13 : L + 3 < L + 4 := by omega
  have c14 : L + 2 < L + 3 := by omega
  have c15 : L + 1 < L + 3 := by omega
  have hx0 : tx.cps.size ≤ 1000000 := by have : tx.cps.size ≤ 1000 := htx; omega
  walk_at "drv7"
  (rename Fr _ _ _ _ => F15); (rename News _ _ _ _ => N15)
  exact pack04 _ _ _ _ _ _ F15 N15 (by k_mem) l0 rfl rfl rfl (by k_mem) (by k_mem) (by k_mem) (by k_mem) (by k_mem) (by rfl) (by rfl) (by k_mem) (by k_mem) (by k_mem) (by k_mem) (by k_mem) (by k_mem) (by k_mem) (by k_mem) (by k_mem) (by k_mem) (by k_mem) (by exact ⟨_, _, _, _, _, _, _, rfl⟩) (by assumption) (by assumption) (by assumption) (by assumption) (by assumption) hx0 (by omega) (by omega)
end Mine
end
-- part B4d
section
open PySem PySem.W PyProof.Rows PySem.Calls PySem.SeqAt
set_option Elab.async false
set_option maxRecDepth 100000
set_option maxHeartbeats 8000000
set_option linter.unusedVariables false
namespace Mine
theorem own4_off {x : Lx} {pr : Params} {tx : Str} {p p' : Nat} {tl ta tl' ta' : Tok} {lp lp' : List (Str × Tok)} {nb nb' : Nat} {base : List (Addr × Obj)} {I C D : Addr} (h : LCg.Off3 I C D (own4 x pr tx p tl ta lp nb ++ base)) : LCg.Off3 I C D (own4 x pr tx p' tl' ta' lp' nb' ++ base) := by
  refine off3_keep h fun q hq => ?_
  rcases List.mem_append.mp hq with hq | hq
  · simp only [own4, Lx.own, List.mem_cons, List.not_mem_nil, or_false] at hq
    rcases hq with rfl | rfl | rfl | rfl | rfl | rfl
    · exact ⟨_, .head _⟩
    · exact ⟨_, .tail _ (.head _)⟩
    · exact ⟨_, .tail _ (.tail _ (.head _))⟩
    · exact ⟨_, .tail _ (.tail _ (.tail _ (.head _)))⟩
    · exact ⟨_, .tail _ (.tail _ (.tail _ (.tail _ (.head _))))⟩
    · exact ⟨_, .tail _ (.tail _ (.tail _ (.tail _ (.tail _ (.head _)))))⟩
  · exact ⟨q.2, List.mem_append_right _ hq⟩
/-- an address apart from all of the machine's -/
theorem own4_free {x : Lx} {pr : Params} {tx : Str} {p : Nat} {tl ta : Tok} {lp : List (Str × Tok)} {nb : Nat} {D : Addr} (h : ∀ q ∈ own4 x pr tx p tl ta lp nb, q.1 ≠ D) : D ∉ [x.lex, x.lexd, x.st, x.std, x.atA, x.pb] := by
  have a1 := h (x.pb, _) (.head _)
  have a2 := h (x.lex, _) (.tail _ (.head _))
  have a3 := h (x.lexd, _) (.tail _ (.tail _ (.head _)))
  have a4 := h (x.st, _) (.tail _ (.tail _ (.tail _ (.head _))))
  have a5 := h (x.std, _) (.tail _ (.tail _ (.tail _ (.tail _ (.head _)))))
  have a6 := h (x.atA, _) (.tail _ (.tail _ (.tail _ (.tail _ (.tail _ (.head _))))))
  simp only [List.mem_cons, List.not_mem_nil, or_false, not_or]
  exact ⟨Ne.symm a2, Ne.symm a3, Ne.symm a4, Ne.symm a5, Ne.symm a6, Ne.symm a1⟩
theorem own4_sep {x : Lx} {pr : Params} {tx : Str} {p : Nat} {tl ta : Tok} {lp : List (Str × Tok)} {nb : Nat} {base : List (Addr × Obj)} (hb : ∀ q ∈ base, q.1 ∉ [x.lex, x.lexd, x.st, x.std, x.atA, x.pb]) : ∀ q ∈ base, q.1 ∉ (own4 x pr tx p tl ta lp nb).map (·.1) := by
  intro q hq hm
  apply hb q hq
  simp [own4, Lx.own] at hm ⊢
  rcases hm with z | z | z | z | z | z <;> simp [z]
/-- the same addresses, whatever the state -/
theorem own4_same {x : Lx} {pr : Params} {tx : Str} {p p' : Nat} {tl ta tl' ta' : Tok} {lp lp' : List (Str × Tok)} {nb nb' : Nat} {P : Addr → Prop} (h : ∀ q ∈ own4 x pr tx p tl ta lp nb, P q.1) : ∀ q ∈ own4 x pr tx p' tl' ta' lp' nb', P q.1 := by
  intro q hq
  simp only [own4, Lx.own, List.mem_cons, List.not_mem_nil, or_false] at hq
  rcases hq with rfl | rfl | rfl | rfl | rfl | rfl
  · have a := h (x.pb, _) (.head _)
    exact a
  · have a := h (x.lex, _) (.tail _ (.head _))
    exact a
  · have a := h (x.lexd, _) (.tail _ (.tail _ (.head _)))
    exact a
  · have a := h (x.st, _) (.tail _ (.tail _ (.tail _ (.head _))))
    exact a
  · have a := h (x.std, _) (.tail _ (.tail _ (.tail _ (.tail _ (.head _)))))
    exact a
  · have a := h (x.atA, _) (.tail _ (.tail _ (.tail _ (.tail _ (.tail _ (.head _))))))
    exact a
theorem tail4_sep {w : World} {p : Program} {loose : List Str} {mean : ExcName → Option Value} {mg mb : Str → Option Value} {L TU WO : Nat} {tx : Str} {x : Lx} {rd : List (Addr × Obj)} (O : LexOk w p loose mean mg mb L TU WO tx x rd) {lt : List (Nat × Tok)} {nt : Nat} {lw : List (Str × Tok)} {nw : Nat} {o1 o2 oL o4 : Obj} :
    ∀ q ∈ tail4 L TU WO lt nt lw nw o1 o2 oL o4 rd, q.1 ∉ [x.lex, x.lexd, x.st, x.std, x.atA, x.pb] := by
  intro q hq
  simp only [tail4, List.mem_cons] at hq
  rcases hq with rfl | rfl | rfl | rfl | rfl | rfl | hq
  · exact O.sepT _ (.head _)
  · exact O.sepT _ (.tail _ (.head _))
  · exact O.sepT _ (.tail _ (.tail _ (.head _)))
  · exact O.sepT _ (.tail _ (.tail _ (.tail _ (.head _))))
  · exact O.sepT _ (.tail _ (.tail _ (.tail _ (.tail _ (.head _)))))
  · exact O.sepT _ (.tail _ (.tail _ (.tail _ (.tail _ (.tail _ (.head _))))))
  · exact O.sep _ hq
theorem sep_cons {x : Lx} {a : Addr × Obj} {base : List (Addr × Obj)} (ha : a.1 ∉ [x.lex, x.lexd, x.st, x.std, x.atA, x.pb]) (hS : ∀ q ∈ base, q.1 ∉ [x.lex, x.lexd, x.st, x.std, x.atA, x.pb]) : ∀ q ∈ a :: base, q.1 ∉ [x.lex, x.lexd, x.st, x.std, x.atA, x.pb] := by
  intro q hq
  rcases List.mem_cons.mp hq with rfl | hq
  · exact ha
  · exact hS _ hq
theorem tail4_rd {L TU WO : Nat} {lt : List (Nat × Tok)} {nt : Nat} {lw : List (Str × Tok)} {nw : Nat} {o1 o2 oL o4 : Obj} {rd : List (Addr × Obj)} {q : Addr × Obj} (h : q ∈ rd) : q ∈ tail4 L TU WO lt nt lw nw o1 o2 oL o4 rd := .tail _ (.tail _ (.tail _ (.tail _ (.tail _ (.tail _ h)))))
theorem into3 {a b c : Addr × Obj} {A B : List (Addr × Obj)} : ∀ q ∈ A ++ (a :: b :: c :: B), q ∈ a :: b :: c :: (A ++ B) := by
  intro q hq
  simp only [List.mem_append, List.mem_cons] at hq ⊢
  rcases hq with h | h | h | h | h <;> simp [h]
theorem outof3 {a b c : Addr × Obj} {A B : List (Addr × Obj)} : ∀ q ∈ a :: b :: c :: (A ++ B), q ∈ A ++ (a :: b :: c :: B) := by
  intro q hq
  simp only [List.mem_append, List.mem_cons] at hq ⊢
  rcases hq with h | h | h | h | h <;> simp [h]
theorem into2 {a b : Addr × Obj} {A B : List (Addr × Obj)} : ∀ q ∈ A ++ (a :: b :: B), q ∈ a :: b :: (A ++ B) := by
  intro q hq
  simp only [List.mem_append, List.mem_cons] at hq ⊢
  rcases hq with h | h | h | h <;> simp [h]
theorem outof2 {a b : Addr × Obj} {A B : List (Addr × Obj)} : ∀ q ∈ a :: b :: (A ++ B), q ∈ A ++ (a :: b :: B) := by
  intro q hq
  simp only [List.mem_append, List.mem_cons] at hq ⊢
  rcases hq with h | h | h | h <;> simp [h]
/-- the words read so far -/
def JD (x : Lx) (pr : Params) (tx : Str) (base : List (Addr × Obj)) (ws : List (List Nat)) (i : Nat) (ys : List Value) (news : List (Addr × Obj)) : Prop :=
  ∃ (p : Nat) (tl ta : Tok) (l2 : List (Str × Tok)), news = own4 x pr tx p tl ta [] 0 ++ base ∧ ys = strValues l2 ∧ lists l2 = ws.take i ∧ p ≤ tx.cps.size ∧ tx.cps.toList.drop p = textW (ws.drop i) ++ [122]
/-- behind the reading and pushing back -/
def MidD (G : Heap) (L : Nat) (s : Shared) (w : World) (wn : Nat) (tw : Tok) (tx : Str) (tt : Tok) (x : Lx) (lw : List (Str × Tok)) (base : List (Addr × Obj)) (f : Flow) (s' : Shared) : Prop :=
  f = .next ∧ ∃ (p : Nat) (tl ta : Tok) (l2 : List (Str × Tok)) (nb : Nat) (u : Str → Option Value) (h : Heap) (tk : Nat), s' = { s with heap := h, toks := tk } ∧
    Fr G L h (fun z => if z = Str.ofString "at" then some (.ref x.atA) else if z = Str.ofString "text" then some (.str tx tt) else if z = Str.ofString "wanted" then some (.int (wn : Int) tw) else u z) ∧
    News G L h (own4 x w.params tx p tl ta l2 nb ++ base) ∧ lists l2 = lists lw ∧ p ≤ tx.cps.size ∧ tx.cps.toList.drop p = [122]
/-- between two tokens pushed back -/
def PuI (G : Heap) (L : Nat) (s : Shared) (w : World) (wn : Nat) (tw : Tok) (tx : Str) (tt : Tok) (x : Lx) (it D : Nat) (p : Nat) (tl ta : Tok) (l2 : List (Str × Tok)) (base : List (Addr × Obj)) (nn : Nat) (s' : Shared) : Prop :=
  ∃ (j : Nat) (nb : Nat) (u : Str → Option Value) (h : Heap) (tk : Nat), s' = { s with heap := h, toks := tk } ∧
    Fr G L h (fun z => if z = Str.ofString "at" then some (.ref x.atA) else if z = Str.ofString "text" then some (.str tx tt) else if z = Str.ofString "wanted" then some (.int (wn : Int) tw) else u z) ∧
    News G L h ((it, liO D j) :: (D, LCg.lst (strValues l2)) :: (own4 x w.params tx p tl ta (l2.take j) nb ++ base)) ∧ j ≤ l2.length ∧ nn = l2.length - j
theorem blkD (w : World) (p : Program) (loose : List Str) (mean : ExcName → Option Value) (mg mb : Str → Option Value) {st : Stmt} {scope : Scope}
    (hast : ∃ n params s0 s1 s2 s3 s4 s5 s6 s7 body ds r tp ts b ps, lawS04 = .FunctionDef n params (s0 :: s1 :: s2 :: s3 :: s4 :: s5 :: s6 :: s7 :: st :: body) ds r tp scope ts b ps) {G : Heap} {L : Nat} {f : Addr} {cd : Value} {s : Shared} {u : Str → Option Value} {wn WO TU : Nat} {tw tl ta tt : Tok} {tx : Str} {x : Lx} {rd : List (Addr × Obj)} {lw : List (Str × Tok)} {nw nt : Nat} {lt : List (Nat × Tok)} {o1 o2 oL o4 : Obj}
    (B1 : Below callerA G [] G) (X1 : (hd04.heap_39 w.params).In G) (T1 : Top p loose mean mg mb G) (htx : tx.length ≤ 1000) (hlw : lw.length ≤ 20) (O : LexOk w p loose mean mg mb L TU WO tx x rd)
    (d1 : o1.data = .cell (some (.ref WO))) (dL : oL.data = .cell (some (.ref x.lex))) (hT : tx.cps.toList = textW (lists lw) ++ [122])
    (F : Fr G L s.heap (fun z => if z = Str.ofString "at" then some (.ref x.atA) else if z = Str.ofString "text" then some (.str tx tt) else if z = Str.ofString "wanted" then some (.int (wn : Int) tw) else u z))
    (N : News G L s.heap (own4 x w.params tx 0 tl ta [] 0 ++ tail4 L TU WO lt nt lw nw o1 o2 oL o4 rd)) :
    wpAny (model PySem.Challenge.rw_ny0034_04.row.prog w) (callerA.deeper (envOfC (Str.ofString "law") scope L f cd)) (exec st (envOfC (Str.ofString "law") scope L f cd)) (MidD G L s w wn tw tx tt x lw (tail4 L TU WO lt nt lw nw o1 o2 oL o4 rd)) (fun _ _ => False) s := by
  revert X1
  w_top off
  k_fill
  intro X1
  obtain ⟨n0, params, s0, s1, s2, s3, s4, s5, s6, s7, body, ds, r, tp, ts, b, ps0, e⟩ := hast
  dsimp only [lawS04, PySem.Challenge.pw_ny0034_04] at e
  cases e
  have hsx : tx.cps.size ≤ 1000000 := by have : tx.cps.size ≤ 1000 := htx; omega
  have hwsL : x.ws.cps.toList = ws44 := by rw [O.ws]; decide +kernel
  have hS := tail4_sep O (lt := lt) (nt := nt) (lw := lw) (nw := nw) (o1 := o1) (o2 := o2) (oL := oL) (o4 := o4)
  refine wpAny_For ?_
  refine LCg.ListComp_U (F₀ := F) (by with_unfolding_all rfl) (by decide) (by rfl) (by decide) (by rfl) ?_
  simp only [own4, tail4, Lx.own, List.cons_append, List.nil_append] at N
  walk_at "drv8"
  refine LCg.CompSrc.ledger (by rfl) F N (.tail _ (.tail _ (.tail _ (.tail _ (.tail _ (.tail _ (.tail _ (.head _)))))))) (by rw [PySem.sizeLine_eq]; simp [strValues]; omega) ?_
  intro g6
  refine strs_restJ (JD x w.params tx (tail4 L TU WO lt nt lw nw o1 o2 oL o4 rd) (lists lw)) ?turn ?hS ?fin
  case hS => exact ⟨0, tl, ta, [], rfl, rfl, rfl, Nat.zero_le _, by rw [List.drop_zero, List.drop_zero, hT]⟩
  case turn =>
    intro k hk q t I oI C oC D m₂ ys news h tk E' hJ hC hx F N off ne
    obtain ⟨pp, tl, ta, l2, rfl, rfl, hl2, hp, hA⟩ := hJ
    have oo := off.mem
    have oI : I ∉ [x.lex, x.lexd, x.st, x.std, x.atA, x.pb] := own4_free (fun q hq => (oo q (List.mem_append_left _ hq)).1)
    have oC : C ∉ [x.lex, x.lexd, x.st, x.std, x.atA, x.pb] := own4_free (fun q hq => (oo q (List.mem_append_left _ hq)).2.1)
    have oD : D ∉ [x.lex, x.lexd, x.st, x.std, x.atA, x.pb] := own4_free (fun q hq => (oo q (List.mem_append_left _ hq)).2.2)
    clear oo
    simp only [own4, tail4, Lx.own, List.cons_append, List.nil_append] at N
    walk_at "drv8"
    dsimp only
    have N2 := cb_drop N (into3 (A := own4 x w.params tx pp tl ta [] 0) (B := tail4 L TU WO lt nt lw nw o1 o2 oL o4 rd))
    refine (token04 _ _ _ _ _ _ tx x rd O.fn O.read O.nd pp hp hsx ta tl 0).call _ B1 F X1 N2 (fun q hq => hq) (own4_sep (lp := []) (sep_cons oI (sep_cons oC (sep_cons oD hS)))) T1 rfl (fun g _ hr z hz => hr z (.tail _ (.tail _ (.tail _ (tail4_rd hz))))) (by ktr_room) (by ktr_units) ?_
    rintro v own' h22 tk22 ⟨t1, ta', tl', rfl, rfl⟩ H22 F22 N22
    obtain ⟨p', hp'⟩ : ∃ p', p' = tx.cps.size - (tok x.ws.cps.toList (tx.cps.toList.drop pp)).2.length := ⟨_, rfl⟩
    obtain ⟨f1, _, f3, _⟩ := tok_place hp hp'
    rw [← hp'] at N22
    have hk2 : k < (lists lw).length := by simpa using hk
    have hrd : tok x.ws.cps.toList (tx.cps.toList.drop pp) = ((lists lw)[k], textW ((lists lw).drop (k + 1)) ++ [122]) := by
      rw [hwsL, hA, List.drop_eq_getElem_cons hk2, read_word]
    rw [hrd] at f3
    (try k_unfold)
    (try dsimp only)
    (show CompTurnJ _ _ _ _ _ _ _ _ _ _ _ _ _ _ _)
    refine ⟨h22, tk22, own4 x w.params tx p' tl' ta' [] 0 ++ tail4 L TU WO lt nt lw nw o1 o2 oL o4 rd, rfl, F22, cb_drop N22 outof3, own4_off off, .inr ⟨_, List.mem_append_right _ (.tail _ (.head _)), rfl, _, rfl⟩, p', tl', ta', l2 ++ [((⟨(tok x.ws.cps.toList (tx.cps.toList.drop pp)).1.toArray⟩ : Str), t1)], rfl, ?_, ?_, f1, f3⟩
    · simp [strValues]
    · rw [hrd, List.take_add_one, List.getElem?_eq_getElem hk2, ← hl2]; simp [lists]
  case fin =>
    rintro ys news ⟨pp, tl, ta, l2, rfl, rfl, hl2, hp, hA⟩
    unfold LCg.FinE
    intro D h8 tk8 F8 N8 off8
    rw [List.take_of_length_le (by simp)] at hl2
    rw [show (lists lw).drop lw.length = [] from List.drop_of_length_le (by simp)] at hA
    have hA : tx.cps.toList.drop pp = [122] := hA
    have hll : l2.length = lw.length := by
      have := congrArg List.length hl2
      simpa using this
    have hDo : ∀ q ∈ own4 x w.params tx pp tl ta [] 0 ++ tail4 L TU WO lt nt lw nw o1 o2 oL o4 rd, q.1 ≠ D := by
      have k : ∀ {news : List (Addr × Obj)}, LCg.Off1 D news → ∀ q ∈ news, q.1 ≠ D := by
        intro news
        induction news with
        | nil => intro _ q hq; cases hq
        | cons a r ih =>
          intro h q hq
          rcases List.mem_cons.mp hq with rfl | hq
          · exact h.1
          · exact ih h.2 q hq
      exact k off8
    dsimp only
    refine liter_K F8 N8 ⟨_, (N8 _ (.head _)).1, rfl, _, rfl⟩ ?_
    intro it h9 F9 N9 l9
    have lD : D < it := l9 _ (.head _)
    have lO : ∀ q ∈ own4 x w.params tx pp tl ta [] 0, q.1 < it := fun q hq => l9 q (.tail _ (List.mem_append_left _ hq))
    have lT : ∀ q ∈ tail4 L TU WO lt nt lw nw o1 o2 oL o4 rd, q.1 < it := fun q hq => l9 q (.tail _ (List.mem_append_right _ hq))
    have fD : D ∉ [x.lex, x.lexd, x.st, x.std, x.atA, x.pb] := own4_free (fun q hq => hDo q (List.mem_append_left _ hq))
    have fI : it ∉ [x.lex, x.lexd, x.st, x.std, x.atA, x.pb] := own4_free (fun q hq => Nat.ne_of_lt (lO q hq))
    clear off8 l9
    dsimp only
    refine for_inv (PuI G L s w wn tw tx tt x it D pp tl ta l2 (tail4 L TU WO lt nt lw nw o1 o2 oL o4 rd)) ?turn2 _ ⟨0, 0, _, _, _, rfl, canon3 F9 _ _ _ rfl rfl rfl, N9, Nat.zero_le _, rfl⟩
    case turn2 =>
      (try clear F8); (try clear N8); (try clear F9); (try clear N9); (try clear F); (try clear N)
      rintro n s' ⟨j, nb, u, h, tk, rfl, Fh, Nh, hj, rfl⟩
      refine lnext_K rfl Fh Nh (its := (strValues l2).toArray) ⟨_, (Nh _ (.tail _ (.head _))).1, rfl, _, rfl⟩ ?ne ?_ ?_
      case ne =>
        intro q hq
        rcases List.mem_cons.mp hq with rfl | hq
        · exact Nat.ne_of_lt lD
        · rcases List.mem_append.mp hq with hq | hq
          · exact Nat.ne_of_lt (own4_same (P := fun a => a < it) lO q hq)
          · exact Nat.ne_of_lt (lT q hq)
      · intro v hv h10 F10 N10
        have hj2 : j < l2.length := by
          rcases Nat.lt_or_ge j l2.length with q | q
          · exact q
          · simp [strValues, q] at hv
        have e1 : v = .str l2[j].1 l2[j].2 := by
          have := strVals_at hj2
          rw [List.getElem?_toArray, this] at hv
          exact (Option.some.inj hv).symm
        subst e1
        dsimp only
        simp only [own4, tail4, Lx.own, List.cons_append, List.nil_append] at N10
        walk_at "drv8"
        (rename Fr _ _ _ _ => F11); (rename News _ _ _ _ => N11)
        have N12 := cb_drop N11 (into2 (A := own4 x w.params tx pp tl ta (l2.take j) nb) (B := tail4 L TU WO lt nt lw nw o1 o2 oL o4 rd))
        refine (push04 _ _ _ _ _ _ tx x O.nd pp ta tl (l2.take j) nb (by rw [List.length_take]; omega) l2[j].1 l2[j].2).call _ B1 F11 X1 N12 (fun q hq => hq) (own4_sep (sep_cons fI (sep_cons fD hS))) T1 rfl (fun _ _ _ => trivial) (by ktr_room) (by ktr_units) ?_
        rintro v own' h13 tk13 ⟨nb', rfl⟩ H13 F13 N13
        have e2 : l2.take j ++ [(l2[j].1, l2[j].2)] = l2.take (j + 1) := by rw [List.take_add_one, List.getElem?_eq_getElem hj2]; rfl
        rw [e2] at N13
        dsimp only
        walk_at "drv8"
        exact ⟨l2.length - (j + 1), by omega, j + 1, nb', _, _, _, rfl, canon3 F13 _ _ _ rfl rfl rfl, cb_drop N13 outof2, hj2, rfl⟩
      · intro hv h10 F10 N10
        have hj3 : l2.length ≤ j := by
          rcases Nat.lt_or_ge j l2.length with q | q
          · simp [strValues, q] at hv
          · exact q
        rw [List.take_of_length_le hj3] at N10
        dsimp only
        walk_at "drv8"
        exact ⟨rfl, pp, tl, ta, l2, nb, _, _, _, rfl, F10, cb_drop N10 (fun q hq => .tail _ hq), hl2, hp, hA⟩
end Mine
end
-- part B4e
section
open PySem PySem.W PyProof.Rows PySem.Calls PySem.SeqAt
set_option Elab.async false
set_option maxRecDepth 100000
set_option maxHeartbeats 8000000
set_option linter.unusedVariables false
namespace Mine
theorem head_yes {q : Str} (h : (Txt.slice q none (some 1) != Str.ofString ".") = true) : q.cps.toList.head? ≠ some 46 := by
  have e : Txt.slice q none (some 1) = ⟨(q.cps.toList.take 1).toArray⟩ := slice_to q 1
  rw [e, ofDot] at h
  intro hq
  apply absurd h
  cases hc : q.cps.toList with
  | nil => rw [hc] at hq; simp at hq
  | cons c r =>
    rw [hc] at hq
    have : c = 46 := by simpa using hq
    subst this
    simp
theorem head_no {q : Str} (h : (Txt.slice q none (some 1) != Str.ofString ".") = false) : q.cps.toList.head? = some 46 := by
  have e : Txt.slice q none (some 1) = ⟨(q.cps.toList.take 1).toArray⟩ := slice_to q 1
  rw [e, ofDot] at h
  have h : (⟨(q.cps.toList.take 1).toArray⟩ : Str) = ⟨#[46]⟩ := by simpa using h
  rw [Str.mk.injEq] at h
  have h' := congrArg Array.toList h
  simp only at h'
  cases hq : q.cps.toList with
  | nil => rw [hq] at h'; simp at h'
  | cons c r => rw [hq] at h'; simpa using h'
theorem take_iff {q : Str} {wn : Nat} : (Txt.slice q none (some (wn : Int)) == Txt.mul (Str.ofString ".") (wn : Int)) = decide (q.cps.toList.take wn = List.replicate wn 46) := by
  rw [slice_to, Bool.eq_iff_iff, beq_iff_eq, decide_eq_true_iff]
  have e : (Txt.mul (Str.ofString ".") (wn : Int)).cps.toList = List.replicate wn 46 := by rw [ofDot, mul_one_list]; simp
  constructor
  · intro h
    have := congrArg (fun x : Str => x.cps.toList) h
    simp only [e] at this
    exact this
  · intro h
    obtain ⟨⟨l⟩⟩ : ∃ l, l = Txt.mul (Str.ofString ".") (wn : Int) := ⟨_, rfl⟩
    generalize Txt.mul (Str.ofString ".") (wn : Int) = z at e ⊢
    obtain ⟨c⟩ := z
    rw [Str.mk.injEq]
    apply Array.ext'
    simp only at e
    rw [e, ← h]
/-- between two turns of the queue -/
def QuI (G : Heap) (L : Nat) (s : Shared) (w : World) (wn : Nat) (tw : Tok) (tx : Str) (tt : Tok) (x : Lx) (it O : Nat) (p : Nat) (tl ta : Tok) (src : List Src) (NN : Nat) (base : List (Addr × Obj)) (nn : Nat) (s' : Shared) : Prop :=
  ∃ (j : Nat) (lp lo : List (Str × Tok)) (nb no : Nat) (u : Str → Option Value) (h : Heap) (tk : Nat), s' = { s with heap := h, toks := tk } ∧
    Fr G L h (fun z => if z = Str.ofString "out" then some (.ref O) else if z = Str.ofString "at" then some (.ref x.atA) else if z = Str.ofString "text" then some (.str tx tt) else if z = Str.ofString "wanted" then some (.int (wn : Int) tw) else u z) ∧
    News G L h ((it, riO j ((NN : Int) - j) 1) :: (O, strsO lo no) :: (own4 x w.params tx p tl ta lp nb ++ base)) ∧ j ≤ NN ∧
    lists lp = (runQ j (src.map fun q => ((q.1, 0, q.2) : Wd), [])).1.map Wd.cur ∧ lists lo = (runQ j (src.map fun q => ((q.1, 0, q.2) : Wd), [])).2 ∧ lo.length ≤ j ∧ nn = NN - j
/-- behind the queue -/
def MidE (G : Heap) (L : Nat) (s : Shared) (w : World) (wn : Nat) (tw : Tok) (tx : Str) (tt : Tok) (x : Lx) (O : Nat) (p : Nat) (tl ta : Tok) (src : List Src) (base : List (Addr × Obj)) (f : Flow) (s' : Shared) : Prop :=
  f = .next ∧ ∃ (lo : List (Str × Tok)) (nb no : Nat) (u : Str → Option Value) (h : Heap) (tk : Nat), s' = { s with heap := h, toks := tk } ∧
    Fr G L h (fun z => if z = Str.ofString "out" then some (.ref O) else if z = Str.ofString "at" then some (.ref x.atA) else if z = Str.ofString "text" then some (.str tx tt) else if z = Str.ofString "wanted" then some (.int (wn : Int) tw) else u z) ∧
    News G L h ((O, strsO lo no) :: (own4 x w.params tx p tl ta [] nb ++ base)) ∧ lists lo = dueQ wn src
theorem nats_sum (l : List (Nat × Tok)) : (l.map fun q => (q.1 : Int)).sum = (((nats l).sum : Nat) : Int) := by
  induction l with
  | nil => rfl
  | cons q r ih =>
    rw [List.map_cons, List.sum_cons, ih]
    show _ = ((q.1 + (nats r).sum : Nat) : Int)
    omega
theorem blkE (w : World) (p : Program) (loose : List Str) (mean : ExcName → Option Value) (mg mb : Str → Option Value) {st : Stmt} {scope : Scope}
    (hast : ∃ n params s0 s1 s2 s3 s4 s5 s6 s7 s8 s9 body ds r tp ts b ps, lawS04 = .FunctionDef n params (s0 :: s1 :: s2 :: s3 :: s4 :: s5 :: s6 :: s7 :: s8 :: s9 :: st :: body) ds r tp scope ts b ps) {G : Heap} {L : Nat} {f : Addr} {cd : Value} {s : Shared} {u : Str → Option Value} {wn WO TU OU pp nb no : Nat} {tw tl ta tt : Tok} {tx : Str} {x : Lx} {rd : List (Addr × Obj)} {lw lp : List (Str × Tok)} {nw nt : Nat} {lt : List (Nat × Tok)} {fs : List Nat} {o1 o2 oL o4 : Obj}
    (B1 : Below callerA G [] G) (X1 : (hd04.heap_39 w.params).In G) (T1 : Top p loose mean mg mb G) (hlw : lw.length ≤ 20) (hfs : fs.length ≤ 7) (hw2 : 2 ≤ wn) (hw5 : wn ≤ 5) (O : LexOk w p loose mean mg mb L TU WO tx x rd)
    (d1 : o1.data = .cell (some (.ref WO))) (d2 : o2.data = .cell (some (.ref TU))) (dL : oL.data = .cell (some (.ref x.lex))) (hN : ((srcW wn fs).map fun q => q.2 + 1).sum = lw.length + (nats lt).sum) (hlp : lists lp = (srcW wn fs).map (·.1)) (hOU : ∀ q ∈ own4 x w.params tx pp tl ta lp nb ++ tail4 L TU WO lt nt lw nw o1 o2 oL o4 rd, q.1 < OU) (hp : pp ≤ tx.cps.size)
    (F : Fr G L s.heap (fun z => if z = Str.ofString "out" then some (.ref OU) else if z = Str.ofString "at" then some (.ref x.atA) else if z = Str.ofString "text" then some (.str tx tt) else if z = Str.ofString "wanted" then some (.int (wn : Int) tw) else u z))
    (N : News G L s.heap ((OU, strsO [] no) :: (own4 x w.params tx pp tl ta lp nb ++ tail4 L TU WO lt nt lw nw o1 o2 oL o4 rd))) :
    wpAny (model PySem.Challenge.rw_ny0034_04.row.prog w) (callerA.deeper (envOfC (Str.ofString "law") scope L f cd)) (exec st (envOfC (Str.ofString "law") scope L f cd)) (MidE G L s w wn tw tx tt x OU pp tl ta (srcW wn fs) (tail4 L TU WO lt nt lw nw o1 o2 oL o4 rd)) (fun _ _ => False) s := by
  revert X1
  w_top off
  k_fill
  intro X1
  obtain ⟨n0, params, s0, s1, s2, s3, s4, s5, s6, s7, s8, s9, body, ds, r, tp, ts, b, ps0, e⟩ := hast
  dsimp only [lawS04, PySem.Challenge.pw_ny0034_04] at e
  cases e
  have hS := tail4_sep O (lt := lt) (nt := nt) (lw := lw) (nw := nw) (o1 := o1) (o2 := o2) (oL := oL) (o4 := o4)
  have hsum : ((srcW wn fs).map fun q => q.2 + 1).sum ≤ 100 := by
    have hs := src_lt (fs := fs) (show 0 < wn by omega)
    have hle : ∀ l : List Src, (∀ q ∈ l, q.2 < wn) → (l.map fun q => q.2 + 1).sum ≤ l.length * wn := by
      intro l
      induction l with
      | nil => intro _; exact Nat.zero_le _
      | cons q l ih =>
        intro h
        have i1 := ih fun a ha => h a (List.mem_cons_of_mem _ ha)
        have i2 := h q (List.mem_cons_self ..)
        rw [List.map_cons, List.sum_cons, List.length_cons, Nat.add_mul]
        omega
    have h1 := hle _ hs
    have h2 : (srcW wn fs).length ≤ 9 := by unfold srcW; simp; omega
    have h3 : (srcW wn fs).length * wn ≤ 9 * 5 := Nat.mul_le_mul h2 hw5
    omega
  refine wpAny_For ?_
  have N0 := N
  simp only [own4, tail4, Lx.own, List.cons_append, List.nil_append] at N
  walk_at "drv9"
  refine strs_len (News.isList N (by k_mem)) (by omega) ?_
  intro t7 k7
  walk_at "drv9"
  (rename Fr _ _ _ _ => F2); (rename News _ _ _ _ => N2)
  refine LSm.sum_ints F2 N2 rfl ⟨_, (N2 (TU, natsO lt nt) (by k_mem)).1, rfl, _, rfl⟩ (nats_ints lt) ?_
  intro h5 tk5 t5 F5 N5
  rw [nats_sum]
  walk_at "drv9"
  (rename IsRange _ _ _ _ _ _ _ _ => hRg); (rename Fr _ _ _ _ => F6); (rename News _ _ _ _ => N6)
  rw [show ((lw.length : Int) + (((nats lt).sum : Nat) : Int)) = ((((srcW wn fs).map fun q => q.2 + 1).sum : Nat) : Int) from by rw [hN]; omega] at hRg
  refine riter_K F6 N6 hRg (by omega) ?_
  intro it h7 F7 N7 l7
  have lO : OU < it := l7 _ (.head _)
  have lA : ∀ q ∈ own4 x w.params tx pp tl ta lp nb, q.1 < it := fun q hq => l7 q (.tail _ (List.mem_append_left _ hq))
  have lT : ∀ q ∈ tail4 L TU WO lt nt lw nw o1 o2 oL o4 rd, q.1 < it := fun q hq => l7 q (.tail _ (List.mem_append_right _ hq))
  have lAO : ∀ q ∈ own4 x w.params tx pp tl ta lp nb, q.1 < OU := fun q hq => hOU q (List.mem_append_left _ hq)
  have lTO : ∀ q ∈ tail4 L TU WO lt nt lw nw o1 o2 oL o4 rd, q.1 < OU := fun q hq => hOU q (List.mem_append_right _ hq)
  have fO : OU ∉ [x.lex, x.lexd, x.st, x.std, x.atA, x.pb] := own4_free (fun q hq => Nat.ne_of_lt (lAO q hq))
  have fI : it ∉ [x.lex, x.lexd, x.st, x.std, x.atA, x.pb] := own4_free (fun q hq => Nat.ne_of_lt (lA q hq))
  clear l7
  have hcur : ((srcW wn fs).map fun q => ((q.1, 0, q.2) : Wd)).map Wd.cur = (srcW wn fs).map (·.1) := by
    rw [List.map_map]
    refine List.map_congr_left fun q _ => ?_
    show sentW q.1 0 = q.1
    rw [sentW, if_pos rfl]
  generalize hNN : ((srcW wn fs).map fun q => q.2 + 1).sum = NN at hsum hRg N7 ⊢
  dsimp only
  refine for_inv (QuI G L s w wn tw tx tt x it OU pp tl ta (srcW wn fs) NN (tail4 L TU WO lt nt lw nw o1 o2 oL o4 rd)) ?turn _ ⟨0, lp, [], nb, no, _, _, _, rfl, canon4 F7 _ _ _ _ rfl rfl rfl rfl, by rw [show (NN : Int) - ((0 : Nat) : Int) = (NN : Int) by omega]; exact N7, Nat.zero_le _, by rw [hlp]; exact hcur.symm, rfl, Nat.le_refl _, rfl⟩
  case turn =>
    (try clear F6); (try clear N6); (try clear F7); (try clear N7); (try clear F); (try clear N); (try clear N0)
    rintro n s' ⟨j, lp, lo, nb, no, u, h, tk, rfl, Fh, Nh, hj, hlp, hlo, hll, rfl⟩
    refine rnext_K rfl Fh Nh ?ne ?_ ?_
    case ne =>
      intro q hq
      rcases List.mem_cons.mp hq with rfl | hq
      · exact Nat.ne_of_lt lO
      · rcases List.mem_append.mp hq with hq | hq
        · exact Nat.ne_of_lt (own4_same (P := fun a => a < it) lA q hq)
        · exact Nat.ne_of_lt (lT q hq)
    · intro hlt h8 t8 tk8 F8 N8
      have hj2 : j < NN := by omega
      rw [show ((j : Int) + 1) = ((j + 1 : Nat) : Int) by omega, show (NN : Int) - j - 1 = (NN : Int) - ((j + 1 : Nat) : Int) by omega] at N8
      have hway := run_way (ws := srcW wn fs) j (by rw [hNN]; exact hj)
      have hwok := run_wayok (wn := wn) hfs j
      have hstep := runQ_succ j ((srcW wn fs).map fun q => ((q.1, 0, q.2) : Wd), [])
      rw [hNN] at hway
      obtain ⟨w1, w2⟩ := hway
      obtain ⟨S, hSt⟩ : ∃ S, S = runQ j ((srcW wn fs).map (fun q => ((q.1, 0, q.2) : Wd)), []) := ⟨_, rfl⟩
      rw [← hSt] at w1 w2 hwok hstep hlp hlo
      clear hSt
      obtain ⟨qs, oo⟩ := S
      obtain ⟨e, r, rfl⟩ := todo_pos (show 0 < todo qs by simp only at w2; omega)
      simp only at hlp hlo
      obtain ⟨⟨q, tq⟩, lp', rfl⟩ : ∃ a l, lp = a :: l := by
        cases lp with
        | nil => simp at hlp
        | cons a l => exact ⟨a, l, rfl⟩
      have hq : q.cps.toList = e.cur := by simpa using (List.cons.inj hlp).1
      have hlp2 : lists lp' = r.map Wd.cur := by simpa using (List.cons.inj hlp).2
      have hdone := done_way (wn := wn) (by omega) (hwok e (List.mem_cons_self ..)) (w1 e (List.mem_cons_self ..))
      have hqlen : q.length ≤ 100 := by
        rw [len_list, hq]
        exact way_len hw5 (by omega) (hwok e (List.mem_cons_self ..)) (w1 e (List.mem_cons_self ..))
      have hlpl : lp'.length ≤ 1000 := by
        have a1 := congrArg List.length hlp2
        simp only [List.length_map] at a1
        have a2 : ∀ l : List Wd, l.length ≤ todo l := by
          intro l
          induction l with
          | nil => exact Nat.le_refl _
          | cons a l ih =>
            have : todo (a :: l) = (a.2.2 - a.2.1 + 1) + todo l := by simp [todo]
            rw [this, List.length_cons]
            omega
        have a3 := a2 (e :: r)
        have a4 : todo (e :: r) + j = NN := w2
        rw [List.length_cons] at a3
        omega
      rw [stepQ] at hstep
      dsimp only
      simp only [own4, tail4, Lx.own, List.cons_append, List.nil_append] at N8
      walk_at "drv9"
      (rename Fr _ _ _ _ => F9); (rename News _ _ _ _ => N9)
      dsimp only
      have N10 := cb_drop N9 (into2 (A := own4 x w.params tx pp tl ta ((q, tq) :: lp') nb) (B := tail4 L TU WO lt nt lw nw o1 o2 oL o4 rd))
      refine (pop04 _ _ _ _ _ _ tx x O.nd pp ta tl (q, tq) lp' nb hlpl).call _ B1 F9 X1 N10 (fun q hq => hq) (own4_sep (sep_cons fI (sep_cons fO hS))) T1 rfl (fun _ _ _ => trivial) (by ktr_room) (by ktr_units) ?_
      rintro v own' h11 tk11 ⟨rfl, nb', rfl⟩ H11 F11 N11
      have N12 := cb_drop N11 (outof2 (A := own4 x w.params tx pp tl ta lp' nb') (B := tail4 L TU WO lt nt lw nw o1 o2 oL o4 rd))
      have hoffO : ∀ p ∈ own4 x w.params tx pp tl ta lp' nb' ++ tail4 L TU WO lt nt lw nw o1 o2 oL o4 rd, p.1 ≠ OU := by
        intro p hp
        rcases List.mem_append.mp hp with hp | hp
        · exact Nat.ne_of_lt (own4_same (P := fun a => a < OU) lAO p hp)
        · exact Nat.ne_of_lt (lTO p hp)
      have hll2 : lo.length ≤ 100 := by omega
      (try clear F8); (try clear N8); (try clear F9); (try clear N9); clear N10 N11 H11
      dsimp only
      walk_at "drv9"
      · (rename (_ != _) = _ => hd1)
        have hd : doneW wn e.cur = true := by rw [← hq, doneW]; exact decide_eq_true (.inl (head_yes hd1))
        have het : e.2.1 = e.2.2 := by rw [hdone] at hd; exact of_decide_eq_true hd
        rw [if_pos het] at hstep
        (rename Fr _ _ _ _ => F13); (rename News _ _ _ _ => N13)
        refine append_K (hsz := by rw [PySem.sizeLine_eq]; simp [strValues]; omega) F13 N13 (.tail (Ne.symm (Nat.ne_of_lt lO)) (.head hoffO)) ?_
        intro h14 F14 N14
        rw [push_strs] at N14
        dsimp only
        walk_at "drv9"
        (try dsimp only)
        refine ⟨NN - (j + 1), by omega, j + 1, lp', lo ++ [(q, tq)], nb', _, _, _, _, rfl, canon4 F14 _ _ _ _ rfl rfl rfl rfl, N14, hj2, ?_, ?_, by simp; omega, rfl⟩
        · rw [hstep]; exact hlp2
        · rw [hstep]
          show lists (lo ++ [(q, tq)]) = oo ++ [e.cur]
          rw [← hlo, ← hq]
          simp [lists]
      · (rename (_ == _) = _ => hd2)
        have hd : doneW wn e.cur = true := by rw [← hq, doneW]; rw [take_iff] at hd2; exact decide_eq_true (.inr (of_decide_eq_true hd2))
        have het : e.2.1 = e.2.2 := by rw [hdone] at hd; exact of_decide_eq_true hd
        rw [if_pos het] at hstep
        (rename Fr _ _ _ _ => F13); (rename News _ _ _ _ => N13)
        refine append_K (hsz := by rw [PySem.sizeLine_eq]; simp [strValues]; omega) F13 N13 (.tail (Ne.symm (Nat.ne_of_lt lO)) (.head hoffO)) ?_
        intro h14 F14 N14
        rw [push_strs] at N14
        dsimp only
        walk_at "drv9"
        (try dsimp only)
        refine ⟨NN - (j + 1), by omega, j + 1, lp', lo ++ [(q, tq)], nb', _, _, _, _, rfl, canon4 F14 _ _ _ _ rfl rfl rfl rfl, N14, hj2, ?_, ?_, by simp; omega, rfl⟩
        · rw [hstep]; exact hlp2
        · rw [hstep]
          show lists (lo ++ [(q, tq)]) = oo ++ [e.cur]
          rw [← hlo, ← hq]
          simp [lists]
      · (rename (_ == _) = _ => hd2); (rename (_ != _) = _ => hd1)
        have hd : doneW wn e.cur = false := by
          rw [← hq, doneW]
          rw [take_iff] at hd2
          exact decide_eq_false (fun hh => hh.elim (fun z => z (head_no hd1)) (fun z => of_decide_eq_false hd2 z))
        have het : e.2.1 ≠ e.2.2 := by rw [hdone] at hd; exact of_decide_eq_false hd
        rw [if_neg het] at hstep
        (rename Fr _ _ _ _ => F13); (rename News _ _ _ _ => N13)
        refine (quotedata04 _ _ _ _ _ _ q tq (by show q.length ≤ 20000; omega)).call0 B1 F13 X1 N13 T1 rfl (fun _ _ _ => trivial) (by ktr_room) (by ktr_units) ?_
        rintro v own' h14 tk14 ⟨rfl, tq2, rfl⟩ H14 F14 N14
        rw [List.nil_append] at N14
        clear F13 N13 H14
        dsimp only
        walk_at "drv9"
        (try dsimp only)
        have N15 := cb_drop N14 (into2 (A := own4 x w.params tx pp tl ta lp' nb') (B := tail4 L TU WO lt nt lw nw o1 o2 oL o4 rd))
        refine (push04 _ _ _ _ _ _ tx x O.nd pp ta tl lp' nb' hlpl (quoted q) tq2).call _ B1 F14 X1 N15 (fun q hq => hq) (own4_sep (sep_cons fI (sep_cons fO hS))) T1 rfl (fun _ _ _ => trivial) (by ktr_room) (by ktr_units) ?_
        rintro v own' h16 tk16 ⟨nb2, rfl⟩ H16 F16 N16
        have N17 := cb_drop N16 (outof2 (A := own4 x w.params tx pp tl ta (lp' ++ [(quoted q, tq2)]) nb2) (B := tail4 L TU WO lt nt lw nw o1 o2 oL o4 rd))
        dsimp only
        walk_at "drv9"
        (try dsimp only)
        refine ⟨NN - (j + 1), by omega, j + 1, lp' ++ [(quoted q, tq2)], lo, nb2, _, _, _, _, rfl, canon4 F16 _ _ _ _ rfl rfl rfl rfl, N17, hj2, ?_, ?_, by omega, rfl⟩
        · rw [hstep]
          show lists (lp' ++ [(quoted q, tq2)]) = (r ++ [((e.1, e.2.1 + 1, e.2.2) : Wd)]).map Wd.cur
          rw [List.map_append, ← hlp2]
          have := quoted_sentW q e.1 e.2.1 hq
          simp [lists, this]
        · rw [hstep]; exact hlo
    · intro hge h8 F8 N8
      have hj3 : j = NN := by omega
      subst hj3
      have hr := run_all (src_lt (fs := fs) (show 0 < wn by omega))
      rw [hNN] at hr
      rw [hr] at hlp hlo
      have hl0 : lp = [] := by cases lp with
        | nil => rfl
        | cons a l => simp at hlp
      subst hl0
      dsimp only
      walk_at "drv9"
      exact ⟨rfl, lo, nb, no, _, _, _, rfl, F8, N8, hlo⟩
end Mine
end
-- part B4f
section
open PySem PySem.W PyProof.Rows PySem.Calls PySem.SeqAt
set_option Elab.async false
set_option maxRecDepth 100000
set_option maxHeartbeats 8000000
set_option linter.unusedVariables false
namespace Mine
/-- a comprehension's turn that adds y -/
def AddTurn (J : Nat → List Value → Prop) (k : Nat) (s : Shared) (h₀ : Heap) (L : Addr) (m : Str → Option Value) (news : List (Addr × Obj)) (ys : List Value) (y : Value) (s' : Shared) : Prop := ∃ h' tk', s' = { s with heap := h', toks := tk' } ∧ Fr h₀ L h' m ∧ News h₀ L h' news ∧ J k (ys ++ [y])
/-- a comprehension's turn that adds nothing -/
def SkipTurn (J : Nat → List Value → Prop) (k : Nat) (s : Shared) (h₀ : Heap) (L : Addr) (m : Str → Option Value) (news : List (Addr × Obj)) (ys : List Value) (s' : Shared) : Prop := ∃ h' tk', s' = { s with heap := h', toks := tk' } ∧ Fr h₀ L h' m ∧ News h₀ L h' news ∧ J k ys
section
variable {prog : Program} {w : World} {A : Around} {s : Shared} {h₀ : Heap} {L : Addr} {m : Str → Option Value} {env : Env} {ct elt : Expr} {x : Str} {scope : Scope} {cl : List (Str × Addr)} {Fin : List Value → List (Addr × Obj) → Prop} {news : List (Addr × Obj)}
theorem range_restT (J : Nat → List Value → Prop) {n : Nat}
    (turn : ∀ i (hi : i < n) t I oI C oC D m₂ ys h tk (E' : Value → Shared → Prop), J i ys → LCg.NsObj oC m₂ → m₂ x = some (.int (i : Int) t) → Fr h₀ L h m → News h₀ L h ((I, oI) :: (C, oC) :: (D, LCg.lst ys) :: news) → LCg.Off3 I C D news → ((@Ne Nat I C) ∧ (@Ne Nat I D) ∧ (@Ne Nat C D)) →
      wpAny (model prog w) A (isTrue ct (compEnvC scope cl C env) (eval ct (compEnvC scope cl C env))) (fun ok s' => if ok = true then
        wpAny (model prog w) A (eval elt (compEnvC scope cl C env)) (AddTurn J (i + 1) s h₀ L m ((I, oI) :: (C, oC) :: (D, LCg.lst ys) :: news) ys) E' s'
        else SkipTurn J (i + 1) s h₀ L m ((I, oI) :: (C, oC) :: (D, LCg.lst ys) :: news) ys s') E' { s with heap := h, toks := tk })
    (hJ : J 0 []) (fin : ∀ ys, J n ys → Fin ys news) : LCt.CompRestT prog w A h₀ L m env ct elt x scope cl s (fun _ => True) (fun i v => ∃ t, v = .int (0 + (i : Int)) t) Fin n 0 [] news := by
  have key : ∀ (j i : Nat) (ys : List Value), i + j = n → J i ys → LCt.CompRestT prog w A h₀ L m env ct elt x scope cl s (fun _ => True) (fun i v => ∃ t, v = .int (0 + (i : Int)) t) Fin j i ys news := by
    intro j
    induction j with
    | zero =>
      intro i ys hi hy
      have e : i = n := by omega
      subst e
      exact LCt.CompRestT.zero (fin ys hy)
    | succ j ih =>
      intro i ys hi hy
      refine LCt.CompRestT.succ ?_
      rintro v I oI C oC D m₂ h tk E' ⟨t, rfl⟩ hC hx F N off ne
      rw [Int.zero_add] at hx
      refine wpAny_mono (turn i (by omega) t I oI C oC D m₂ ys h tk E' hy hC hx F N off ne) (fun ok s₂ hq => ?_) fun _ _ e => e
      cases ok with
      | true =>
        simp only [if_true] at hq ⊢
        refine wpAny_mono hq (fun y s₃ h3 => ?_) fun _ _ e => e
        obtain ⟨h', tk', rfl, F', N', hJ'⟩ := h3
        exact ⟨h', tk', news, rfl, F', N', off, trivial, ih (i + 1) _ (by omega) hJ'⟩
      | false =>
        simp only [Bool.false_eq_true, if_false] at hq ⊢
        obtain ⟨h', tk', rfl, F', N', hJ'⟩ := hq
        exact ⟨h', tk', news, rfl, F', N', off, trivial, ih (i + 1) _ (by omega) hJ'⟩
  exact key n 0 [] (by omega) hJ
end
section
variable {prog : Program} {w : World} {A : Around} {E : Value → Shared → Prop} {s : Shared} {h₀ : Heap} {L D b : Addr} {m : Str → Option Value} {news : List (Addr × Obj)} {l l2 : List (Str × Tok)} {n n2 : Nat} {Q : Value → Shared → Prop}
/-- a list of texts lengthened by another -/
theorem strs_extend (F : Fr h₀ L s.heap m) (N : News h₀ L s.heap ((D, strsO l n) :: news)) (hb : (b, strsO l2 n2) ∈ news) (hne : ∀ p ∈ news, p.1 ≠ D) (h1 : l.length ≤ 1000) (h2 : l2.length ≤ 1000)
    (h : ∀ h' n', Fr h₀ L h' m → News h₀ L h' ((D, strsO (l ++ l2) n') :: news) → Q .none { s with heap := h' }) : wpAny (model prog w) A (call (.builtin "list.extend") [.ref D, .ref b]) Q E s := by
  have e1 : (strValues l).toArray.size = l.length := by simp [strValues]
  have e2 : (strValues l2).toArray.size = l2.length := by simp [strValues]
  have hd : ¬(!(strValues l).toArray.isEmpty && Builtin.List.listTooLong ((strValues l).toArray.size + (strValues l2).toArray.size)) = true := by
    rw [e1, e2]
    have : Builtin.List.listTooLong (l.length + l2.length) = false := by
      unfold Builtin.List.listTooLong
      exact decide_eq_false (by rw [PySem.sizeLine_eq]; omega)
    rw [this, Bool.and_false]
    exact Bool.false_ne_true
  by_cases h0 : l2 = []
  · subst h0
    refine kxn_extend F N (.tail _ hb) (by rfl) (.head hne) hd (by simp [strValues]; rw [PySem.sizeLine_eq]; omega) (by rw [e1, e2, PySem.sizeLine_eq]; omega) ?_
    intro h' F' N'
    refine h h' n F' ?_
    rw [List.append_nil]
    exact N'
  · refine PySem.W.kl_extend (l := strValues (l ++ l2)) F N (.tail _ hb) (by simp [strValues]) (by simp [strValues, h0]) (.head hne) hd (by simp [strValues]; rw [PySem.sizeLine_eq]; omega) (by rw [e1, e2, PySem.sizeLine_eq]; omega) ?_
    intro h' F' N'
    exact h h' (n + 1) F' N'
end
theorem strs_have {g h : Heap} {L P : Addr} {l : List (Str × Tok)} {n : Nat} {news : List (Addr × Obj)} (N : News g L h news) (hm : (P, strsO l n) ∈ news) : h.IsList P (strValues l).toArray := ⟨_, (N _ hm).1, rfl, _, rfl⟩
theorem tail_or {q a b c : Addr × Obj} {r : List (Addr × Obj)} (h : q = a ∨ q = b ∨ q = c ∨ q ∈ r) : q ∈ a :: b :: c :: r := by
  rcases h with rfl | rfl | rfl | h
  · exact .head _
  · exact .tail _ (.head _)
  · exact .tail _ (.tail _ (.head _))
  · exact .tail _ (.tail _ (.tail _ h))
theorem range_size (n : Nat) : Builtin.Range.rangeSize 0 (n : Int) 1 = (n : Int) := by
  unfold Builtin.Range.rangeSize
  simp
  omega
theorem range_small {n : Nat} (h : n ≤ 1000000) : Builtin.Range.small 0 (n : Int) 1 = true := by
  have e := range_size n
  unfold Builtin.Range.small Builtin.Range.rangeFitsLong
  simp
  omega
abbrev tailF (L TU WO : Nat) (lt : List (Nat × Tok)) (nt : Nat) (lw : List (Str × Tok)) (nw : Nat) (o1 o2 oL : Obj) (rd : List (Addr × Obj)) : List (Addr × Obj) := (TU, natsO lt nt) :: (WO, strsO lw nw) :: (L + 3, oL) :: (L + 2, o2) :: (L + 1, o1) :: rd
theorem fromX {D I DU OU : Addr × Obj} {A B : List (Addr × Obj)} : ∀ q ∈ DU :: I :: OU :: (A ++ (D :: B)), q ∈ D :: I :: DU :: OU :: (A ++ B) := by
  intro q hq
  simp only [List.mem_append, List.mem_cons] at hq ⊢
  rcases hq with h | h | h | h | h | h <;> simp [h]
theorem backX {D I DU OU : Addr × Obj} {A B : List (Addr × Obj)} : ∀ q ∈ I :: DU :: OU :: (A ++ B), q ∈ DU :: I :: OU :: (A ++ (D :: B)) := by
  intro q hq
  simp only [List.mem_append, List.mem_cons] at hq ⊢
  rcases hq with h | h | h | h | h <;> simp [h]
theorem tailF_sub {L TU WO : Nat} {lt : List (Nat × Tok)} {nt : Nat} {lw : List (Str × Tok)} {nw : Nat} {o1 o2 oL o4 : Obj} {rd : List (Addr × Obj)} : ∀ q ∈ tailF L TU WO lt nt lw nw o1 o2 oL rd, q ∈ tail4 L TU WO lt nt lw nw o1 o2 oL o4 rd := by
  intro q hq
  simp only [tailF, tail4, List.mem_cons] at hq ⊢
  rcases hq with h | h | h | h | h | h <;> simp [h]
theorem toF {L TU WO : Nat} {lt : List (Nat × Tok)} {nt : Nat} {lw : List (Str × Tok)} {nw : Nat} {o1 o2 oL o4 : Obj} {rd A : List (Addr × Obj)} {a b c : Addr × Obj} : ∀ q ∈ [] ++ ((L + 4, o4) :: a :: b :: c :: (A ++ tailF L TU WO lt nt lw nw o1 o2 oL rd)), q ∈ a :: b :: c :: (A ++ tail4 L TU WO lt nt lw nw o1 o2 oL o4 rd) := by
  intro q hq
  simp only [List.nil_append, tailF, tail4, List.mem_append, List.mem_cons] at hq ⊢
  rcases hq with h | h | h | h | h | h | h | h | h | h | h <;> simp [h]
theorem fromF {L TU WO : Nat} {lt : List (Nat × Tok)} {nt : Nat} {lw : List (Str × Tok)} {nw : Nat} {o1 o2 oL o4 : Obj} {rd A : List (Addr × Obj)} {a b c : Addr × Obj} : ∀ q ∈ a :: b :: c :: (A ++ tail4 L TU WO lt nt lw nw o1 o2 oL o4 rd), q ∈ [] ++ ((L + 4, o4) :: a :: b :: c :: (A ++ tailF L TU WO lt nt lw nw o1 o2 oL rd)) := by
  intro q hq
  simp only [List.nil_append, tailF, tail4, List.mem_append, List.mem_cons] at hq ⊢
  rcases hq with h | h | h | h | h | h | h | h | h | h | h <;> simp [h]
/-- the words due in a round, as far as they were looked at -/
def JF (src : List Src) (k : Nat) (i : Nat) (ys : List Value) : Prop := ∃ l2 : List (Str × Tok), ys = strValues l2 ∧ lists l2 = dueAt k (src.take i)
theorem due_skip {src : List Src} {k i : Nat} (hi : i < src.length) (h : src[i].2 ≠ k) : dueAt k (src.take (i + 1)) = dueAt k (src.take i) := by
  unfold dueAt
  rw [List.take_add_one, List.getElem?_eq_getElem hi, List.filter_append]
  simp [h]
theorem due_add {src : List Src} {k i : Nat} (hi : i < src.length) (h : src[i].2 = k) : dueAt k (src.take (i + 1)) = dueAt k (src.take i) ++ [sentW src[i].1 k] := by
  unfold dueAt
  rw [List.take_add_one, List.getElem?_eq_getElem hi, List.filter_append]
  simp [h]
/-- between two rounds -/
def RoI (G : Heap) (L : Nat) (s : Shared) (w : World) (wn : Nat) (tw : Tok) (tx : Str) (tt : Tok) (x : Lx) (it OU DU : Nat) (p : Nat) (tl ta : Tok) (lo : List (Str × Tok)) (no nb : Nat) (src : List Src) (TU WO : Nat) (lt : List (Nat × Tok)) (nt : Nat) (lw : List (Str × Tok)) (nw : Nat) (o1 o2 oL : Obj) (rd : List (Addr × Obj)) (nn : Nat) (s' : Shared) : Prop :=
  ∃ (k : Nat) (ld : List (Str × Tok)) (nd : Nat) (u : Str → Option Value) (h : Heap) (tk : Nat) (o4 : Obj) (v4 : Option Value), s' = { s with heap := h, toks := tk } ∧
    Fr G L h (fun z => if z = Str.ofString "due" then some (.ref DU) else if z = Str.ofString "out" then some (.ref OU) else if z = Str.ofString "at" then some (.ref x.atA) else if z = Str.ofString "text" then some (.str tx tt) else if z = Str.ofString "wanted" then some (.int (wn : Int) tw) else u z) ∧
    News G L h ((it, riO k ((wn : Int) - k) 1) :: (DU, strsO ld nd) :: (OU, strsO lo no) :: (own4 x w.params tx p tl ta [] nb ++ tail4 L TU WO lt nt lw nw o1 o2 oL o4 rd)) ∧ o4.data = .cell v4 ∧ k ≤ wn ∧ lists ld = dueQ k src ∧ ld.length ≤ k * 10 ∧ nn = wn - k
/-- behind the rounds -/
def MidF (G : Heap) (L : Nat) (s : Shared) (w : World) (wn : Nat) (tw : Tok) (tx : Str) (tt : Tok) (x : Lx) (OU DU : Nat) (p : Nat) (tl ta : Tok) (lo : List (Str × Tok)) (no nb : Nat) (src : List Src) (TU WO : Nat) (lt : List (Nat × Tok)) (nt : Nat) (lw : List (Str × Tok)) (nw : Nat) (o1 o2 oL : Obj) (rd : List (Addr × Obj)) (f : Flow) (s' : Shared) : Prop :=
  f = .next ∧ ∃ (ld : List (Str × Tok)) (nd : Nat) (u : Str → Option Value) (h : Heap) (tk : Nat) (o4 : Obj), s' = { s with heap := h, toks := tk } ∧
    Fr G L h (fun z => if z = Str.ofString "due" then some (.ref DU) else if z = Str.ofString "out" then some (.ref OU) else if z = Str.ofString "at" then some (.ref x.atA) else if z = Str.ofString "text" then some (.str tx tt) else if z = Str.ofString "wanted" then some (.int (wn : Int) tw) else u z) ∧
    News G L h ((DU, strsO ld nd) :: (OU, strsO lo no) :: (own4 x w.params tx p tl ta [] nb ++ tail4 L TU WO lt nt lw nw o1 o2 oL o4 rd)) ∧ lists ld = dueQ wn src ∧ ld.length ≤ 100
theorem blkF (w : World) (p : Program) (loose : List Str) (mean : ExcName → Option Value) (mg mb : Str → Option Value) {st : Stmt} {scope : Scope}
    (hast : ∃ n params s0 s1 s2 s3 s4 s5 s6 s7 s8 s9 s10 s11 body ds r tp ts b ps, lawS04 = .FunctionDef n params (s0 :: s1 :: s2 :: s3 :: s4 :: s5 :: s6 :: s7 :: s8 :: s9 :: s10 :: s11 :: st :: body) ds r tp scope ts b ps) {G : Heap} {L : Nat} {f : Addr} {cd : Value} {s : Shared} {u : Str → Option Value} {wn WO TU OU DU pp nb no nd : Nat} {tw tl ta tt : Tok} {tx : Str} {x : Lx} {rd : List (Addr × Obj)} {lw lo : List (Str × Tok)} {nw nt : Nat} {lt : List (Nat × Tok)} {src : List Src} {o1 o2 oL o4 : Obj} {v4 : Option Value}
    (B1 : Below callerA G [] G) (X1 : (hd04.heap_39 w.params).In G) (T1 : Top p loose mean mg mb G) (hw2 : 2 ≤ wn) (hw5 : wn ≤ 5) (O : LexOk w p loose mean mg mb L TU WO tx x rd)
    (d1 : o1.data = .cell (some (.ref WO))) (d2 : o2.data = .cell (some (.ref TU))) (dL : oL.data = .cell (some (.ref x.lex))) (d4 : o4.data = .cell v4) (hsl : src.length ≤ 9) (hlw : lists lw = src.map (·.1)) (hlt : nats lt = src.map (·.2)) (hq9 : ∀ q ∈ lw, q.1.length ≤ 9)
    (hDU : ∀ q ∈ (OU, strsO lo no) :: (own4 x w.params tx pp tl ta [] nb ++ tail4 L TU WO lt nt lw nw o1 o2 oL o4 rd), q.1 < DU) (hOL : L + 4 < OU)
    (F : Fr G L s.heap (fun z => if z = Str.ofString "due" then some (.ref DU) else if z = Str.ofString "out" then some (.ref OU) else if z = Str.ofString "at" then some (.ref x.atA) else if z = Str.ofString "text" then some (.str tx tt) else if z = Str.ofString "wanted" then some (.int (wn : Int) tw) else u z))
    (N : News G L s.heap ((DU, strsO [] nd) :: (OU, strsO lo no) :: (own4 x w.params tx pp tl ta [] nb ++ tail4 L TU WO lt nt lw nw o1 o2 oL o4 rd))) :
    wpAny (model PySem.Challenge.rw_ny0034_04.row.prog w) (callerA.deeper (envOfC (Str.ofString "law") scope L f cd)) (exec st (envOfC (Str.ofString "law") scope L f cd)) (MidF G L s w wn tw tx tt x OU DU pp tl ta lo no nb src TU WO lt nt lw nw o1 o2 oL rd) (fun _ _ => False) s := by
  revert X1
  w_top off
  k_fill
  intro X1
  obtain ⟨n0, params, s0, s1, s2, s3, s4, s5, s6, s7, s8, s9, s10, s11, body, ds, r, tp, ts, b, ps0, e⟩ := hast
  dsimp only [lawS04, PySem.Challenge.pw_ny0034_04] at e
  cases e
  have hlwl : lw.length = src.length := by
    have := congrArg List.length hlw
    simpa using this
  have hltl : lt.length = src.length := by
    have := congrArg List.length hlt
    simpa using this
  refine wpAny_For ?_
  walk_at "drv10"
  (rename IsRange _ _ _ _ _ _ _ _ => hRg); (rename Fr _ _ _ _ => F2); (rename News _ _ _ _ => N2)
  refine riter_K F2 N2 hRg (by omega) ?_
  intro it h7 F7 N7 l7
  have lD : DU < it := l7 _ (.head _)
  have lR : ∀ q ∈ (OU, strsO lo no) :: (own4 x w.params tx pp tl ta [] nb ++ tailF L TU WO lt nt lw nw o1 o2 oL rd), q.1 < DU := by
    intro q hq
    rcases List.mem_cons.mp hq with rfl | hq
    · exact hDU _ (.head _)
    · rcases List.mem_append.mp hq with hq | hq
      · exact hDU q (.tail _ (List.mem_append_left _ hq))
      · exact hDU q (.tail _ (List.mem_append_right _ (tailF_sub q hq)))
  have lL4 : L + 4 < DU := Nat.lt_trans hOL (hDU _ (.head _))
  have h4 : ∀ q ∈ (it, riO 0 0 1) :: (DU, strsO [] nd) :: (OU, strsO lo no) :: (own4 x w.params tx pp tl ta [] nb ++ tailF L TU WO lt nt lw nw o1 o2 oL rd), L + 4 ≠ q.1 := by
    intro q hq
    rcases List.mem_cons.mp hq with rfl | hq
    · exact Nat.ne_of_lt (Nat.lt_trans lL4 lD)
    · rcases List.mem_cons.mp hq with rfl | hq
      · exact Nat.ne_of_lt lL4
      · rcases List.mem_cons.mp hq with rfl | hq
        · exact Nat.ne_of_lt hOL
        · rcases List.mem_append.mp hq with hq | hq
          · have k := O.gtX
            simp only [own4, Lx.own, List.mem_cons, List.not_mem_nil, or_false] at hq
            rcases hq with rfl | rfl | rfl | rfl | rfl | rfl <;> exact Nat.ne_of_lt (k _ (by simp))
          · simp only [tailF, List.mem_cons] at hq
            rcases hq with rfl | rfl | rfl | rfl | rfl | hq
            · exact Nat.ne_of_lt O.gtT.1
            · exact Nat.ne_of_lt O.gtT.2
            · exact Nat.ne_of_gt (Nat.lt_succ_self _)
            · exact Nat.ne_of_gt (Nat.lt_succ_of_lt (Nat.lt_succ_self _))
            · exact Nat.ne_of_gt (Nat.lt_succ_of_lt (Nat.lt_succ_of_lt (Nat.lt_succ_self _)))
            · exact O.gtR _ hq
  clear l7
  have lI : ∀ q ∈ (DU, strsO [] nd) :: (OU, strsO lo no) :: (own4 x w.params tx pp tl ta [] nb ++ tail4 L TU WO lt nt lw nw o1 o2 oL o4 rd), q.1 < it := by
    intro q hq
    rcases List.mem_cons.mp hq with rfl | hq
    · exact lD
    · exact Nat.lt_trans (hDU q hq) lD
  dsimp only
  refine for_inv (RoI G L s w wn tw tx tt x it OU DU pp tl ta lo no nb src TU WO lt nt lw nw o1 o2 oL rd) ?turn _ ⟨0, [], nd, _, _, _, o4, v4, rfl, canon5 F7 _ _ _ _ _ rfl rfl rfl rfl rfl, by rw [show (wn : Int) - ((0 : Nat) : Int) = (wn : Int) by omega]; exact N7, d4, Nat.zero_le _, rfl, Nat.zero_le _, rfl⟩
  case turn =>
    (try clear F2); (try clear N2); (try clear F7); (try clear N7); (try clear F); (try clear N)
    rintro n s' ⟨k, ld, nd2, u, h, tk, o4', v4', rfl, Fh, Nh, hd4, hk, hld, hldl, rfl⟩
    refine rnext_K rfl Fh Nh ?ne ?_ ?_
    case ne =>
      intro q hq
      rcases List.mem_cons.mp hq with rfl | hq
      · exact Nat.ne_of_lt lD
      · rcases List.mem_cons.mp hq with rfl | hq
        · exact Nat.ne_of_lt (Nat.lt_trans (lR _ (.head _)) lD)
        · rcases List.mem_append.mp hq with hq | hq
          · exact Nat.ne_of_lt (lI q (.tail _ (.tail _ (List.mem_append_left _ hq))))
          · simp only [tail4, List.mem_cons] at hq
            rcases hq with rfl | rfl | rfl | hq
            · exact Nat.ne_of_lt (lI (TU, natsO lt nt) (.tail _ (.tail _ (List.mem_append_right _ (.head _)))))
            · exact Nat.ne_of_lt (lI (WO, strsO lw nw) (.tail _ (.tail _ (List.mem_append_right _ (.tail _ (.head _))))))
            · exact Nat.ne_of_lt (Nat.lt_trans lL4 lD)
            · exact Nat.ne_of_lt (lI q (.tail _ (.tail _ (List.mem_append_right _ (.tail _ (.tail _ (.tail _ (tail_or hq))))))))
    · intro hlt8 h8 t8 tk8 F8 N8
      have hk2 : k < wn := by omega
      rw [show ((k : Int) + 1) = ((k + 1 : Nat) : Int) by omega, show (wn : Int) - k - 1 = (wn : Int) - ((k + 1 : Nat) : Int) by omega] at N8
      dsimp only
      refine stCN F8 (cb_drop N8 toF) (by rfl) hd4 (fun _ h => nomatch h) ?_ ?_
      · intro q hq
        rcases List.mem_cons.mp hq with rfl | hq
        · exact Ne.symm (Nat.ne_of_lt (Nat.lt_trans lL4 lD))
        · rcases List.mem_cons.mp hq with rfl | hq
          · exact Ne.symm (Nat.ne_of_lt lL4)
          · exact Ne.symm (h4 q (.tail _ (.tail _ hq)))
      intro h9 o9 F9 N9 d9
      have N10 := cb_drop N9 fromF
      clear N8 N9
      dsimp only
      have hw10 := strs_have (l := lw) N10 (.tail _ (.tail _ (.tail _ (List.mem_append_right _ (.tail _ (.head _))))))
      simp only [own4, tail4, Lx.own, List.cons_append, List.nil_append] at N10
      walk_at "drv10"
      refine LCt.ListComp_T (F₀ := F9) (by with_unfolding_all rfl) (by decide) (by rfl) (by decide) (by rfl) ?_
      walk_at "drv10"
      refine strs_len hw10 (by omega) ?_
      intro t11 k11
      walk_at "drv10"
      (rename IsRange _ _ _ _ _ _ _ _ => hRg); (rename Fr _ _ _ _ => F12); (rename News _ _ _ _ => N12)
      refine LCt.CompSrcT.range (n := src.length) (by rfl) F12 N12 hRg ?hs1 ?hs2 (by rw [PySem.sizeLine_eq]; omega) ?_
      case hs1 => exact range_small (by omega)
      case hs2 => rw [hlwl]; exact range_size _
      intro g13
      refine range_restT (JF src k) ?turn3 ⟨[], rfl, rfl⟩ ?fin3
      case turn3 =>
        intro i hi t I oI C oC D m₂ ys h tk E' hJ hC hx F N off ne
        (try clear F12); (try clear N12)
        have hiw : i < lw.length := by omega
        have hit : i < lt.length := by omega
        have eT : src[i].2 = lt[i].1 := by
          have e1 : (nats lt)[i]'(by simpa using hit) = (src.map (·.2))[i]'(by simpa using hi) := by simp only [hlt]
          simpa using e1.symm
        have eW : lw[i].1.cps.toList = src[i].1 := by
          have e1 : (lists lw)[i]'(by simpa using hiw) = (src.map (·.1))[i]'(by simpa using hi) := by simp only [hlw]
          simpa using e1
        obtain ⟨l2, rfl, hl2⟩ := hJ
        walk_at "drv10"
        refine nats_item ⟨_, (N (TU, natsO lt nt) (by k_mem)).1, rfl, _, rfl⟩ (by omega) hit ?_
        dsimp only
        walk_at "drv10"
        · (rename ((lt[i].1 : Nat) : Int) = _ => hik)
          have hik : src[i].2 = k := by rw [eT]; omega
          refine strs_item (strs_have N (by k_mem)) (by omega) hiw ?_
          (try k_unfold)
          (try dsimp only)
          walk_at "drv10"
          refine (sent04 _ _ _ _ _ _ lw[i].1 lw[i].2 (by have := hq9 _ (List.getElem_mem hiw); omega) k (by omega) t8).call0 B1 F X1 N T1 rfl (fun _ _ _ => trivial) (by ktr_room) (by ktr_units) ?_
          rintro v own' h20 tk20 ⟨rfl, tt2, tk2, rfl, htt⟩ H20 F20 N20
          rw [List.nil_append] at N20
          (try k_unfold)
          (try dsimp only)
          refine ⟨h20, tk20, rfl, F20, N20, l2 ++ [(tt2, tk2)], by simp [strValues], ?_⟩
          rw [due_add hi hik, ← hl2, ← eW, ← htt]
          simp [lists]
        · (rename ((lt[i].1 : Nat) : Int) ≠ _ => hik)
          have hik : src[i].2 ≠ k := by rw [eT]; omega
          exact ⟨_, _, rfl, F, N, l2, rfl, by rw [due_skip hi hik]; exact hl2⟩
      case fin3 =>
        rintro ys ⟨l2, rfl, hl2⟩
        unfold LCg.FinE
        intro D h14 tk14 F14 N14 off14
        rw [List.take_of_length_le (Nat.le_refl _)] at hl2
        have hl2l : l2.length ≤ 9 := by
          have := congrArg List.length hl2
          simp only [List.length_map] at this
          rw [this, dueAt, List.length_map]
          exact Nat.le_trans (List.length_filter_le _ _) hsl
        dsimp only
        walk_at "drv10"
        (rename Fr _ _ _ _ => F15); (rename News _ _ _ _ => N15)
        have N16 := cb_drop N15 (fromX (A := own4 x w.params tx pp tl ta [] nb) (B := tail4 L TU WO lt nt lw nw o1 o2 oL o9 rd))
        refine strs_extend (n2 := (strValues l2).length) F15 N16 (.tail _ (.tail _ (List.mem_append_right _ (.head _)))) ?hneD (by omega) (by omega) ?_
        case hneD =>
          intro q hq
          rcases List.mem_cons.mp hq with rfl | hq
          · exact Ne.symm (Nat.ne_of_lt lD)
          · rcases List.mem_cons.mp hq with rfl | hq
            · exact Nat.ne_of_lt (lR _ (.head _))
            · rcases List.mem_append.mp hq with hq | hq
              · exact Nat.ne_of_lt (lR q (.tail _ (List.mem_append_left _ hq)))
              · rcases List.mem_cons.mp hq with rfl | hq
                · exact Ne.symm off14.2.1
                · simp only [tail4, List.mem_cons] at hq
                  rcases hq with rfl | rfl | rfl | hq
                  · exact Nat.ne_of_lt (lR (TU, natsO lt nt) (.tail _ (List.mem_append_right _ (.head _))))
                  · exact Nat.ne_of_lt (lR (WO, strsO lw nw) (.tail _ (List.mem_append_right _ (.tail _ (.head _)))))
                  · exact Nat.ne_of_lt lL4
                  · exact Nat.ne_of_lt (lR q (.tail _ (List.mem_append_right _ (.tail _ (.tail _ (tail_or hq))))))
        intro h17 nd3 F17 N17
        dsimp only
        walk_at "drv10"
        have hld2 : lists (ld ++ l2) = dueQ (k + 1) src := by
          rw [dueQ, ← hld, ← hl2]
          simp [lists]
        exact ⟨wn - (k + 1), by omega, k + 1, ld ++ l2, nd3, _, _, _, o9, _, rfl, canon5 F17 _ _ _ _ _ rfl rfl rfl rfl rfl, cb_drop N17 backX, d9, hk2, hld2, by rw [List.length_append]; omega, rfl⟩
    · intro hge h8 F8 N8
      have hk3 : k = wn := by omega
      subst hk3
      dsimp only
      walk_at "drv10"
      exact ⟨rfl, ld, nd2, _, _, _, o4', rfl, F8, N8, hld, by omega⟩
end Mine
end
-- part B4g
section
open PySem PySem.W PyProof.Rows PySem.Calls PySem.SeqAt
set_option Elab.async false
set_option maxRecDepth 100000
set_option maxHeartbeats 8000000
set_option linter.unusedVariables false
namespace Mine
section
variable {prog : Program} {w : World} {A : Around} {E : Value → Shared → Prop} {s : Shared} {a b : Addr} {l l2 : List (Str × Tok)} {Q : Value → Shared → Prop}
theorem strs_eqT (ha : s.heap.IsList a (strValues l).toArray) (hb : s.heap.IsList b (strValues l2).toArray) (hu : A.units < cLine) (hab : a ≠ b) (he : l.map (·.1) = l2.map (·.1)) : EqAt A s (.ref a) (.ref b) true := by
  have hs : (l.map (·.1)).length = (l2.map (·.1)).length := by rw [he]
  have := RcAt.lists (A := A) ha hb (by rw [strs_size, strs_size, hs]) hu (fun j h1 h2 => strs_eqAt j h1 h2)
  rw [strs_size, all_eqAtJ hs, decide_eq_true he] at this
  exact EqAt.of_refs hab this
/-- two lists of texts and two numbers against their like -/
theorem quad_ne {a1 a2 b1 b2 : Addr} {la lb : List (Str × Tok)} {i j : Int} {t1 t2 u1 u2 : Tok} (ha : s.heap.IsTuple a #[.ref a1, .ref a2, .int i t1, .int j t2]) (hb : s.heap.IsTuple b #[.ref b1, .ref b2, .int i u1, .int j u2]) (hu : A.units < cLine) (hu1 : A.in1.units < cLine)
    (h1 : s.heap.IsList a1 (strValues la).toArray) (h2 : s.heap.IsList b1 (strValues lb).toArray) (h12 : a1 ≠ b1) (hl : la.map (·.1) = lb.map (·.1)) (h3 : s.heap.IsList a2 #[]) (h4 : s.heap.IsList b2 #[]) (h34 : a2 ≠ b2) (h : Q (.bool false) s) :
    wpAny (model prog w) A (compareOp .NotEq (.ref a) (.ref b)) Q E s := by
  have := RcNeAt.tuples (A := A) (e := fun _ => true) ha hb hu (fun k q1 q2 => by
    match k, q1, q2 with
    | 0, _, _ => exact strs_eqT h1 h2 hu1 h12 hl
    | 1, _, _ => exact strs_eqT (l := []) (l2 := []) h3 h4 hu1 h34 rfl
    | 2, _, _ =>
      have e := (MeetsSeq.EqGives.int i i t1 u1).at A.in1 s
      rw [beq_self_eq_true] at e
      exact e
    | 3, _, _ =>
      have e := (MeetsSeq.EqGives.int j j t2 u2).at A.in1 s
      rw [beq_self_eq_true] at e
      exact e
    | k + 4, q1, _ => exact absurd q1 (by simp))
  have e : (!((List.range (min (#[Value.ref a1, .ref a2, .int i t1, .int j t2] : Array Value).size (#[Value.ref b1, .ref b2, .int i u1, .int j u2] : Array Value).size)).all (fun _ => true) && (#[Value.ref a1, .ref a2, .int i t1, .int j t2] : Array Value).size == (#[Value.ref b1, .ref b2, .int i u1, .int j u2] : Array Value).size)) = false := by
    simp
  rw [e] at this
  exact this prog w E Q h
end
theorem at_item4 {prog : Program} {w : World} {A : Around} {E : Value → Shared → Prop} {s : Shared} {D : Addr} {v : Value} {value slice : Expr} {u : Tok} {Q : Value → Shared → Prop} (hD : s.heap.IsList D #[v]) (h : Q v s)
    (hs : subscripted slice false (.ref D) (.int ((0 : Nat) : Int) u) = operate [.ref D, .int ((0 : Nat) : Int) u] (getItem (.ref D) (.int ((0 : Nat) : Int) u)) := by with_unfolding_all rfl) :
    wpAny (model prog w) A (subscriptTail value slice (.ref D) (.int ((0 : Nat) : Int) u)) Q E s :=
  tail_any hD.typeIs slot_list_getitem.lookup (wpAny_getItem_list hD (by omega) (by omega) (by simp) h) hs
theorem occ_count (c : Nat) : ∀ (l : List Nat) (i f : Nat), f ≤ i → (occL [c] i f l).length = l.count c
  | [], _, _, _ => rfl
  | k :: r, i, f, h => by
    rw [occL]
    have e : ([c].isPrefixOf (k :: r) = true) ↔ k = c := by
      show ((c == k && List.isPrefixOf [] r) = true) ↔ _
      simp
      exact ⟨fun q => q.symm, fun q => q.symm⟩
    by_cases hk : k = c
    · rw [if_pos ⟨h, e.mpr hk⟩, List.length_cons, occ_count c r (i + 1) (i + [c].length) (by simp), hk, List.count_cons_self]
    · rw [if_neg (fun q => hk (e.mp q.2)), occ_count c r (i + 1) f (by omega), List.count_cons_of_ne (fun q => hk q)]
theorem count_lf (x : Str) : (Txt.count x (Str.ofString "\n") : Int) = ((x.cps.toList.count 10 : Nat) : Int) := by
  unfold Txt.count
  rw [ofLF, occs_list x ⟨#[10]⟩ (by decide), show (⟨#[10]⟩ : Str).cps.toList = [10] from rfl, occ_count 10 _ 0 0 (Nat.le_refl 0)]
/-- behind the comparison -/
def MidG (G : Heap) (L : Nat) (s : Shared) (w : World) (x : Lx) (tx : Str) (p : Nat) (tl ta : Tok) (nb : Nat) (base : List (Addr × Obj)) (f : Flow) (s' : Shared) : Prop :=
  f = .next ∧ ∃ (u : Str → Option Value) (h : Heap) (tk : Nat), s' = { s with heap := h, toks := tk } ∧ Fr G L h u ∧ News G L h (own4 x w.params tx p tl ta [] nb ++ base)
theorem blkG (w : World) (p : Program) (loose : List Str) (mean : ExcName → Option Value) (mg mb : Str → Option Value) {st : Stmt} {scope : Scope}
    (hast : ∃ n params s0 s1 s2 s3 s4 s5 s6 s7 s8 s9 s10 s11 s12 body ds r tp ts b ps, lawS04 = .FunctionDef n params (s0 :: s1 :: s2 :: s3 :: s4 :: s5 :: s6 :: s7 :: s8 :: s9 :: s10 :: s11 :: s12 :: st :: body) ds r tp scope ts b ps) {G : Heap} {L : Nat} {f : Addr} {cd : Value} {s : Shared} {u : Str → Option Value} {wn WO TU OU DU pp nb no nd : Nat} {tw tl ta tt : Tok} {tx : Str} {x : Lx} {rd : List (Addr × Obj)} {lw lo ld : List (Str × Tok)} {nw nt : Nat} {lt : List (Nat × Tok)} {o1 o2 oL o4 : Obj}
    (B1 : Below callerA G [] G) (X1 : (hd04.heap_39 w.params).In G) (T1 : Top p loose mean mg mb G) (O : LexOk w p loose mean mg mb L TU WO tx x rd) (dL : oL.data = .cell (some (.ref x.lex))) (hlen : tx.length ≤ 1000) (hp : (pp : Int) = (tx.length : Int) - 1) (hln : lnAt tx pp = 1 + ((tx.cps.toList.count 10 : Nat) : Int))
    (hOD : OU ≠ DU) (hll : lists lo = lists ld)
    (F : Fr G L s.heap (fun z => if z = Str.ofString "due" then some (.ref DU) else if z = Str.ofString "out" then some (.ref OU) else if z = Str.ofString "at" then some (.ref x.atA) else if z = Str.ofString "text" then some (.str tx tt) else u z))
    (N : News G L s.heap ((DU, strsO ld nd) :: (OU, strsO lo no) :: (own4 x w.params tx pp tl ta [] nb ++ tail4 L TU WO lt nt lw nw o1 o2 oL o4 rd))) :
    wpAny (model PySem.Challenge.rw_ny0034_04.row.prog w) (callerA.deeper (envOfC (Str.ofString "law") scope L f cd)) (exec st (envOfC (Str.ofString "law") scope L f cd)) (MidG G L s w x tx pp tl ta nb (tail4 L TU WO lt nt lw nw o1 o2 oL o4 rd)) (fun _ _ => False) s := by
  revert X1
  w_top off
  k_fill
  intro X1
  obtain ⟨n0, params, s0, s1, s2, s3, s4, s5, s6, s7, s8, s9, s10, s11, s12, body, ds, r, tp, ts, b, ps0, e⟩ := hast
  dsimp only [lawS04, PySem.Challenge.pw_ny0034_04] at e
  cases e
  simp only [own4, tail4, Lx.own, List.cons_append, List.nil_append] at N
  walk_at "drv11"
  refine at_item4 ⟨_, (N (x.atA, atO pp ta) (by k_mem)).1, rfl, _, rfl⟩ ?_
  dsimp only
  walk_at "drv11"
  refine PySem.P.len_str (fun hq => by omega) ?_
  walk_at "drv11"
  refine SC.count ?_
  rw [count_lf]
  (try dsimp only)
  walk_at "drv11"
  (rename Fr _ _ _ _ => F5); (rename News _ _ _ _ => N5)
  rw [← hp, ← hln] at N5
  refine quad_ne ⟨_, (N5 _ (.tail _ (.tail _ (.head _)))).1, rfl, _, rfl⟩ ⟨_, (N5 _ (.head _)).1, rfl, _, rfl⟩ (by ktr_units) (by ktr_units) ⟨_, (N5 (OU, strsO lo no) (by k_mem)).1, rfl, _, rfl⟩ ⟨_, (N5 (DU, strsO ld nd) (by k_mem)).1, rfl, _, rfl⟩ hOD (lists_inj hll) ⟨_, (N5 (x.pb, strsO [] nb) (by k_mem)).1, rfl, _, rfl⟩ ⟨_, (N5 _ (.tail _ (.head _))).1, rfl, _, rfl⟩ (show @Ne Nat _ _ by omega) ?_
  walk_at "drv11"
  exact ⟨rfl, _, _, _, rfl, F5, cb_drop N5 (fun q hq => .tail _ (.tail _ (.tail _ (.tail _ (.tail _ hq)))))⟩
end Mine
end
-- part L04
section
open PySem PySem.W PyProof.Rows PySem.Calls PySem.SeqAt
set_option Elab.async false
set_option maxRecDepth 100000
set_option maxHeartbeats 8000000
set_option linter.unusedVariables false
namespace Mine
theorem isList_stays4 {h g : Heap} {D : Addr} {vs : Array Value} (H : h.IsList D vs) (hs : h.StaysIn g) : g.IsList D vs := by
  obtain ⟨o, ho, r⟩ := H
  exact ⟨o, hs _ _ ho, r⟩
theorem words_all : ∀ (fs : List Nat) (i : Nat), i + fs.length ≤ 7 → ∀ y ∈ wordsW i fs, y.length ≤ 9 ∧ 92 ∉ y
  | [], _, _ => by simp [wordsW]
  | f :: fs, i, h => by
    simp only [List.length_cons] at h
    intro y hy
    rw [wordsW] at hy
    rcases List.mem_cons.mp hy with rfl | hy
    · exact ⟨word_len i f, word_no92 i f (by omega)⟩
    · exact words_all fs (i + 1) (by omega) y hy
theorem wordsW_len : ∀ (fs : List Nat) (i : Nat), (wordsW i fs).length = fs.length
  | [], _ => rfl
  | f :: fs, i => by rw [wordsW, List.length_cons, wordsW_len fs (i + 1), List.length_cons]
theorem src_words (wn : Nat) (fs : List Nat) : (srcW wn fs).map (·.1) = [] :: [] :: wordsW 0 fs := by
  unfold srcW
  rw [List.map_cons, List.map_cons, List.map_fst_zip (by rw [wordsW_len, List.length_map]; exact Nat.le_refl _)]
theorem src_turns (wn : Nat) (fs : List Nat) : (srcW wn fs).map (·.2) = 0 :: 0 :: fs.map (turnsW wn) := by
  unfold srcW
  rw [List.map_cons, List.map_cons, List.map_snd_zip (by rw [wordsW_len, List.length_map]; exact Nat.le_refl _)]
theorem src_len (wn : Nat) (fs : List Nat) : (srcW wn fs).length = fs.length + 2 := by
  have := congrArg List.length (src_words wn fs)
  rw [List.length_map] at this
  rw [this]
  simp [wordsW_len]
theorem src_sum (l : List Src) : (l.map fun q => q.2 + 1).sum = l.length + (l.map (·.2)).sum := by
  induction l with
  | nil => rfl
  | cons q r ih => rw [List.map_cons, List.sum_cons, ih, List.map_cons, List.sum_cons, List.length_cons]; omega
theorem drop_last {tx : Str} {pp : Nat} (hp : pp ≤ tx.cps.size) (h : tx.cps.toList.drop pp = [122]) : (pp : Int) = (tx.length : Int) - 1 ∧ lnAt tx pp = 1 + ((tx.cps.toList.count 10 : Nat) : Int) := by
  have e := congrArg List.length h
  have e3 : tx.cps.toList.length = tx.length := (len_list tx).symm
  simp only [List.length_drop, List.length_cons, List.length_nil] at e
  have e2 := congrArg (List.count 10) (List.take_append_drop pp tx.cps.toList)
  rw [List.count_append, h] at e2
  refine ⟨by omega, ?_⟩
  unfold lnAt
  have : List.count 10 [122] = 0 := rfl
  omega
theorem textW_len (ws : List (List Nat)) (h : ∀ y ∈ ws, y.length ≤ 9) : (textW ws).length ≤ ws.length * 20 := by
  induction ws with
  | nil => exact Nat.le_refl _
  | cons y ws ih =>
    have i1 := ih fun a ha => h a (List.mem_cons_of_mem _ ha)
    have i2 := h y (List.mem_cons_self ..)
    have i3 := esc_len4 y
    show ([34] ++ esc y ++ [34] ++ textW ws).length ≤ _
    simp only [List.length_append, List.length_cons, List.length_nil, Nat.add_mul]
    omega
theorem law04 : PySem.Challenge.rw_ny0034_04.Holds := hd04 (by
  w_top off
  k_go0
  rename World => w0; rename Shared => sA
  walk_at "drv12"
  rename Fr _ _ _ _ => F1; rename News _ _ _ _ => N1; rename Below _ _ _ _ => B1; rename Frag.In _ _ => X1; rename Top topProg _ _ _ _ _ => T1; rename IntsAre _ _ => hI1; rename ¬ _ < _ => hn1; rename 99 < _ => l0
  refine (figures04 _ _ _ _ _ _ _ _ _ hI1 (by omega)).call0 B1 F1 X1 N1 T1 rfl (fun g hst _ => isList_stays4 lifted hst) (by ktr_room) (by ktr_units) ?_
  rintro v own' h2 tk2 ⟨FD, lf, nf, rfl, rfl, hlf, h18⟩ H2 F2 N2
  clear F1 N1
  (try simp only [List.cons_append, List.nil_append] at N2)
  have f4 := H2 _ (.head _) _ (.head _)
  have f3 := H2 _ (.head _) _ (.tail _ (.head _))
  have f2 := H2 _ (.head _) _ (.tail _ (.tail _ (.head _)))
  have f1 := H2 _ (.head _) _ (.tail _ (.tail _ (.tail _ (.head _))))
  have f0 := H2 _ (.head _) _ (.tail _ (.tail _ (.tail _ (.tail _ (.head _)))))
  dsimp only at f0 f1 f2 f3 f4
  clear H2
  dsimp only
  walk_at "drv12"
  rename Fr _ _ _ _ => F4; rename News _ _ _ _ => N4
  refine LSm.sum_ints F4 N4 rfl ⟨_, (N4 (FD, natsO lf nf) (by k_mem)).1, rfl, _, rfl⟩ (nats_ints lf) ?_
  intro h5 tk5 t5 F5 N5
  clear F4 N4
  rw [nats_sum]
  have hwn : 2 + (((nats lf).sum : Nat) : Int).fmod 4 = ((2 + (nats lf).sum % 4 : Nat) : Int) := by
    rw [Int.fmod_eq_emod_of_nonneg _ (by decide)]
    omega
  obtain ⟨wn, hwnE⟩ : ∃ wn, wn = 2 + (nats lf).sum % 4 := ⟨_, rfl⟩
  have hw2 : 2 ≤ wn := by omega
  have hw5 : wn ≤ 5 := by omega
  walk_at "drv12"
  (rename Fr _ _ _ _ => F6); (rename News _ _ _ _ => N6); (rename _ < _ ∧ FD < _ ∧ _ => lTU); (rename FD < _ ∧ _ => lWO)
  rw [hwn, ← hwnE] at F6
  refine wpAny_mono (?_ : wpAny _ _ _ _ (fun _ _ => False) _) (fun _ _ h => h) (fun _ _ h => h.elim)
  have hfl : (nats lf).length ≤ 7 := by simpa using hlf
  refine wpAny_mono (blkA w0 _ _ _ _ _ ⟨_, _, _, _, _, _, _, _, _, _, _, _, _, rfl⟩ B1 X1 T1 hlf h18 hw2 hw5 (by assumption) (by assumption) ⟨lTU.1, lWO.1, lWO.2.1⟩ l0 ⟨f0, f4, f3, f2, f1⟩ (canon2 F6 _ _ rfl rfl) (cb_drop N6 (by kcj_all))) ?_ (fun _ _ h => h)
  rintro f s' ⟨rfl, lw, lt, nw, nt, u1, h1, k1, rfl, FA, NA, hlw, hlt⟩
  have hmem : ∀ q ∈ lw, q.1.cps.toList = [] ∨ q.1.cps.toList ∈ wordsW 0 (nats lf) := by
    intro q hq
    have : q.1.cps.toList ∈ lists lw := List.mem_map_of_mem hq
    rw [hlw] at this
    rcases List.mem_cons.mp this with e | this
    · exact .inl e
    · rcases List.mem_cons.mp this with e | this
      · exact .inl e
      · exact .inr this
  have hq9 : ∀ q ∈ lw, q.1.length ≤ 9 := by
    intro q hq
    rw [len_list]
    rcases hmem q hq with e | e
    · rw [e]; exact Nat.zero_le _
    · exact (words_all (nats lf) 0 (by omega) _ e).1
  have h92 : ∀ q ∈ lw, 92 ∉ q.1.cps.toList := by
    intro q hq
    rcases hmem q hq with e | e
    · rw [e]; exact fun h => nomatch h
    · exact (words_all (nats lf) 0 (by omega) _ e).2
  have hlwl : lw.length = (nats lf).length + 2 := by
    have := congrArg List.length hlw
    simp only [List.length_map, List.length_cons, wordsW_len] at this
    simpa using this
  have hlw20 : lw.length ≤ 20 := by omega
  have hsw := src_words wn (nats lf)
  have hst := src_turns wn (nats lf)
  have hsl := src_len wn (nats lf)
  rw [← hlw] at hsw
  rw [← hlt] at hst
  (try clear F6); (try clear N6)
  dsimp only
  refine wpAny_execs_cons ?_
  refine wpAny_mono (blkB w0 _ _ _ _ _ ⟨_, _, _, _, _, _, _, _, _, _, _, _, _, _, rfl⟩ B1 X1 T1 hlw20 hq9 h92 (by assumption) (canon1 FA _ rfl) NA) ?_ (fun _ _ h => h.elim)
  rintro f s' ⟨rfl, tx, tt, u2, hB, k2, rfl, FB, NB, htx⟩
  have htxl : tx.length ≤ 1000 := by
    have a1 := textW_len (lists lw) (fun y hy => by
      obtain ⟨q, hq, rfl⟩ := List.mem_map.mp hy
      rw [← len_list]
      exact hq9 q hq)
    rw [len_list, htx, List.length_append]
    simp only [List.length_map, List.length_cons, List.length_nil] at a1 ⊢
    omega
  (try clear FA); (try clear NA)
  dsimp only
  refine wpAny_execs_cons ?_
  refine wpAny_upO 0 (Nat.zero_le _) ?_
  walk_at "drv12"
  unfold TokGe
  intro _
  (rename Fr _ _ _ _ => FC); (rename News _ _ _ _ => NC); (rename _ < _ ∧ _ < _ ∧ FD < _ ∧ _ => lAT)
  dsimp only
  refine wpAny_execs_cons ?_
  refine wpAny_mono (blkC w0 _ _ _ _ _ ⟨_, _, _, _, _, _, _, _, _, _, _, _, _, _, _, _, rfl⟩ B1 X1 T1 codeHd htxl (by assumption) ⟨lTU.1, lWO.2.1, lAT.1, lWO.1⟩ l0 ⟨f0, f4, f3, f2, f1⟩ (canon3 FC _ _ _ rfl rfl rfl) NC) ?_ (fun _ _ h => h.elim)
  rintro f s' ⟨rfl, x, rd, tl, ta, u3, hC, k3, oL, rfl, FX, NX, dL, O⟩
  (try clear FC); (try clear NC)
  dsimp only
  refine wpAny_execs_cons ?_
  refine wpAny_mono (blkD w0 _ _ _ _ _ ⟨_, _, _, _, _, _, _, _, _, _, _, _, _, _, _, _, _, rfl⟩ B1 X1 T1 htxl hlw20 O (by assumption) dL htx FX NX) ?_ (fun _ _ h => h.elim)
  rintro f s' ⟨rfl, pp, tl2, ta2, l2, nb, u4, hD, k4, rfl, FE, NE, hl2, hpp, hdrop⟩
  (try clear FX); (try clear NX)
  obtain ⟨W1, hW1, NE⟩ : ∃ W1, W1 = _ ∧ News _ _ _ W1 := ⟨_, rfl, NE⟩
  dsimp only
  refine wpAny_execs_cons ?_
  refine wpAny_upO 0 (Nat.zero_le _) ?_
  walk_at "drv12"
  unfold TokGe
  intro _
  (rename Fr _ _ _ _ => FE2); (rename News _ _ _ _ => NE2); (rename ∀ p, p ∈ W1 → _ => lE)
  subst hW1
  have hlpE : lists l2 = (srcW wn (nats lf)).map (·.1) := by rw [hl2, hsw]
  have hNE : ((srcW wn (nats lf)).map fun q => q.2 + 1).sum = lw.length + (nats lt).sum := by rw [src_sum, hst, hsl, hlwl]
  dsimp only
  refine wpAny_execs_cons ?_
  refine wpAny_mono (blkE w0 _ _ _ _ _ ⟨_, _, _, _, _, _, _, _, _, _, _, _, _, _, _, _, _, _, _, rfl⟩ B1 X1 T1 hlw20 hfl hw2 hw5 O (by assumption) (by assumption) dL hNE hlpE lE hpp (canon4 FE2 _ _ _ _ rfl rfl rfl rfl) NE2) ?_ (fun _ _ h => h.elim)
  rintro f s' ⟨rfl, lo, nb2, no2, u5, hE, k5, rfl, FF, NF, hlo⟩
  have hOL := lE (_ + 4, _) (List.mem_append_right _ (.tail _ (.tail _ (.head _))))
  (try clear FE); (try clear NE); (try clear FE2); (try clear NE2)
  obtain ⟨W2, hW2, NF⟩ : ∃ W2, W2 = _ ∧ News _ _ _ W2 := ⟨_, rfl, NF⟩
  dsimp only
  refine wpAny_execs_cons ?_
  refine wpAny_upO 0 (Nat.zero_le _) ?_
  walk_at "drv12"
  unfold TokGe
  intro _
  (rename Fr _ _ _ _ => FF2); (rename News _ _ _ _ => NF2); (rename ∀ p, p ∈ W2 → _ => lF)
  subst hW2
  have hOD := lF _ (.head _)
  dsimp only
  refine wpAny_execs_cons ?_
  refine wpAny_mono (blkF w0 _ _ _ _ _ ⟨_, _, _, _, _, _, _, _, _, _, _, _, _, _, _, _, _, _, _, _, _, rfl⟩ B1 X1 T1 hw2 hw5 O (by assumption) (by assumption) dL (by assumption) (by rw [hsl]; omega) hsw.symm hst.symm hq9 lF hOL (canon5 FF2 _ _ _ _ _ rfl rfl rfl rfl rfl) NF2) ?_ (fun _ _ h => h.elim)
  rintro f s' ⟨rfl, ld, nd, u6, hF, k6, o4', rfl, FG, NG, hld, hldl⟩
  (try clear FF); (try clear NF); (try clear FF2); (try clear NF2)
  obtain ⟨hpE, hlnE⟩ := drop_last hpp hdrop
  dsimp only
  refine wpAny_execs_cons ?_
  refine wpAny_mono (blkG (wn := wn) (tw := 0) w0 _ _ _ _ _ ⟨_, _, _, _, _, _, _, _, _, _, _, _, _, _, _, _, _, _, _, _, _, _, rfl⟩ B1 X1 T1 O dL htxl hpE hlnE (Nat.ne_of_lt hOD) (by rw [hlo, hld]) (canon4 FG _ _ _ _ rfl rfl rfl rfl) NG) ?_ (fun _ _ h => h.elim)
  rintro f s' ⟨rfl, u7, hG, k7, rfl, FH, NH⟩
  (try clear FG); (try clear NG)
  have NH0 := NH
  simp only [own4, tail4, Lx.own, List.cons_append, List.nil_append] at NH
  dsimp only
  walk_at "drv12"
  have hsx : tx.cps.size ≤ 1000000 := by have : tx.cps.size ≤ 1000 := htxl; omega
  dsimp only
  refine (token04 _ _ _ _ _ _ tx x rd O.fn O.read O.nd pp hpp hsx ta2 tl2 nb2).call _ B1 FH X1 NH0 (fun q hq => hq) (own4_sep (lp := []) (tail4_sep O)) T1 rfl (fun g _ hr z hz => hr z (tail4_rd hz)) (by ktr_room) (by ktr_units) ?_
  rintro v own' h9 tk9 ⟨t9, ta9, tl9, rfl, rfl⟩ H9 F9 N9
  have hz : (⟨(tok x.ws.cps.toList (tx.cps.toList.drop pp)).1.toArray⟩ : Str) = Str.ofString "z" := by
    rw [O.ws, hdrop, show (Str.ofString "\n\t\r ").cps.toList = ws44 by decide +kernel, read_z]
    decide +kernel
  rw [hz]
  clear hz
  dsimp only
  walk1
  (try dsimp only)
  (first | walk1 | (dsimp only; walk1))
  (try dsimp only)
  (try rw [beq_self_eq_true])
  obtain ⟨tb, htb⟩ := O.tab
  refine And.intro ?_ (And.intro (GrownAt.of N9 (List.mem_append_right _ (tail4_rd htb))) trivial)
  refine goodW_bool F9 (by assumption) (raisesW_false ?_) ?_
  · wrow_none_raised
  · wrow_post)
end Mine
end
open PySem PySem.W PyProof.Rows
set_option maxRecDepth 100000 in
set_option maxHeartbeats 8000000 in
theorem PySem.Challenge.cw_ny0034_04_holds : PySem.Challenge.rw_ny0034_04.Holds :=
  Mine.law04
