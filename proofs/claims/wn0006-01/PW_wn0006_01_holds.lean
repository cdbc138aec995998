import PyProof.Rows.All
import Wide.All
import OpenK.AllK
import Wide.FinOn
import Lean
import PySem.Challenge.RW_wn0006_01
set_option Elab.async false
section
open PySem PySem.W PyProof.Rows
set_option maxRecDepth 100000
set_option maxHeartbeats 8000000
namespace Mine
open_top hd for PySem.Challenge.rw_wn0006_01
end Mine
end

section -- Sre1
open PySem hiding Frame Outcome
open PySem.Sre
namespace Mine.RX
abbrev S (code text : Array Nat) (lim start : Nat) (must : Bool) (pc pos handed : Nat) (om : Bool) (frames : List Frame) (weight : Nat) (answer : Option Bool) (seen : Seen) (outcome : Option Outcome) : M :=
  { code, text, lim, start, lastStart := lim, wholeText := false, mustAdvance := must, pc, pos, handed, outermost := om, marks := #[], lastmark := -1, lastindex := -1, loops := #[], inner := none, frames, weight, answer, seen, outcome }

section
variable {code text : Array Nat} {lim start : Nat} {must : Bool} {pc pos handed : Nat} {om : Bool} {frames : List Frame} {weight : Nat} {seen : Seen} {ch : Nat}

theorem lit_ok (hpc : pc < code.size) (hop : ops[code.getD pc 0]? = some .LITERAL) (hl : pos < lim) (hc : text.getD pos 0 = code.getD (pc + 1) 0) :
    ∃ seen', (S code text lim start must pc pos handed om frames weight none seen none).step = S code text lim start must (pc + 2) (pos + 1) handed om frames weight none seen' none := by
  refine ⟨seen.add (code.getD pc 0), ?_⟩
  simp only [M.step, Option.isSome, Bool.false_eq_true, if_false, if_pos hpc, M.exec, M.word, Nat.add_zero, hop]
  rw [if_neg (Nat.not_le.mpr hl)]
  simp only [accepts, itemWidth, hop, hc, beq_self_eq_true]

theorem lit_no (hpc : pc < code.size) (hop : ops[code.getD pc 0]? = some .LITERAL) (h : lim ≤ pos ∨ text.getD pos 0 ≠ code.getD (pc + 1) 0) :
    ∃ seen', (S code text lim start must pc pos handed om frames weight none seen none).step = S code text lim start must pc pos handed om frames weight (some false) seen' none := by
  refine ⟨seen.add (code.getD pc 0), ?_⟩
  simp only [M.step, Option.isSome, Bool.false_eq_true, if_false, if_pos hpc, M.exec, M.word, Nat.add_zero, hop]
  by_cases hl : pos ≥ lim
  · rw [if_pos hl]; rfl
  · rw [if_neg hl]
    have hc : (text.getD pos 0 == code.getD (pc + 1) 0) = false := beq_eq_false_iff_ne.mpr (h.resolve_left hl)
    simp only [accepts, hop, hc, M.say]

theorem jump_ok (hpc : pc < code.size) (hop : ops[code.getD pc 0]? = some .JUMP) :
    ∃ seen', (S code text lim start must pc pos handed om frames weight none seen none).step = S code text lim start must (pc + 1 + code.getD (pc + 1) 0) pos handed om frames weight none seen' none := by
  refine ⟨seen.add (code.getD pc 0), ?_⟩
  simp only [M.step, Option.isSome, Bool.false_eq_true, if_false, if_pos hpc, M.exec, M.word, Nat.add_zero, hop]

theorem success_ok (hpc : pc < code.size) (hop : ops[code.getD pc 0]? = some .SUCCESS) (h : om = false ∨ must = false) :
    ∃ seen', (S code text lim start must pc pos handed om frames weight none seen none).step = S code text lim start must pc pos pos om frames weight (some true) seen' none := by
  refine ⟨seen.add (code.getD pc 0), ?_⟩
  simp only [M.step, Option.isSome, Bool.false_eq_true, if_false, if_pos hpc, M.exec, M.word, Nat.add_zero, hop, M.say]
  rw [if_neg]
  rcases h with rfl | rfl <;> simp

theorem at_line (hpc : pc < code.size) (hop : ops[code.getD pc 0]? = some .AT) (h1 : code.getD (pc + 1) 0 = 1) :
    ∃ seen', (S code text lim start must pc pos handed om frames weight none seen none).step =
      if (pos == 0 || text.getD (pos - 1) 0 == 10) then S code text lim start must (pc + 2) pos handed om frames weight none seen' none
      else S code text lim start must pc pos handed om frames weight (some false) seen' none := by
  refine ⟨(seen.add (code.getD pc 0)).add 44, ?_⟩
  simp only [M.step, Option.isSome, Bool.false_eq_true, if_false, if_pos hpc, M.exec, M.word, Nat.add_zero, hop, h1, M.isAt, M.say]

theorem branch_ok (hpc : pc < code.size) (hop : ops[code.getD pc 0]? = some .BRANCH) (h0 : code.getD (pc + 1) 0 ≠ 0) (hw : weight < 1000) :
    ∃ seen', (S code text lim start must pc pos handed om frames weight none seen none).step =
      S code text lim start must (pc + 2) pos pos om ({ wait := .nextBranch, pc := pc + 1, pos, outermost := om } :: frames) (weight + 1) none seen' none := by
  refine ⟨seen.add (code.getD pc 0), ?_⟩
  have hb : (code.getD (pc + 1) 0 == 0) = false := beq_eq_false_iff_ne.mpr h0
  simp only [M.step, Option.isSome, Bool.false_eq_true, if_false, if_pos hpc, M.exec, M.word, Nat.add_zero, hop, M.alternative, hb, M.attempt, M.keep, M.frame]
  rw [if_neg (by simp; omega)]
  rfl

/-- the way in hand fell: the next one -/
theorem branch_next {p : Nat} {fo : Bool} {c : Nat} (hc : code.getD p 0 = c) (h0 : code.getD (p + c) 0 ≠ 0) (hw : weight < 1000) {q : Nat} :
    ∃ seen', (S code text lim start must pc pos handed om ({ wait := .nextBranch, pc := p, pos := q, outermost := fo } :: frames) (weight + 1) (some false) seen none).step =
      S code text lim start must (p + c + 1) q q fo ({ wait := .nextBranch, pc := p + c, pos := q, outermost := fo } :: frames) (weight + 1) none seen' none := by
  refine ⟨seen, ?_⟩
  have hb : (code.getD (p + c) 0 == 0) = false := beq_eq_false_iff_ne.mpr h0
  simp only [M.step, Option.isSome, Bool.false_eq_true, if_false, M.resume, M.putBack, hc, M.alternative, hb, M.attempt, M.frame]
  rw [if_neg (by simp; omega)]
  simp

theorem branch_yes {p : Nat} {fo : Bool} {q : Nat} :
    ∃ seen', (S code text lim start must pc pos handed om ({ wait := .nextBranch, pc := p, pos := q, outermost := fo } :: frames) (weight + 1) (some true) seen none).step =
      S code text lim start must p q handed fo frames weight (some true) seen' none := by
  refine ⟨seen, ?_⟩
  simp only [M.step, Option.isSome, Bool.false_eq_true, if_false, M.resume, M.say, if_true]
  simp

theorem start_yes {p : Nat} {fo : Bool} {q : Nat} :
    ∃ seen', (S code text lim start must pc pos handed om ({ wait := .nextStart, pc := p, pos := q, outermost := fo } :: frames) (weight + 1) (some true) seen none).step =
      S code text lim start must p q handed fo frames weight (some true) seen' none := by
  refine ⟨seen, ?_⟩
  simp only [M.step, Option.isSome, Bool.false_eq_true, if_false, M.resume, M.say, if_true]
  simp

theorem start_next {p : Nat} {fo : Bool} {q : Nat} :
    ∃ seen', (S code text lim start must pc pos handed om ({ wait := .nextStart, pc := p, pos := q, outermost := fo } :: frames) (weight + 1) (some false) seen none).step =
      if q < lim then (S code text lim start false p q handed fo frames weight none seen' none).attemptFrom (q + 1) false
      else S code text lim start must p q handed fo frames weight (some false) seen' none := by
  refine ⟨seen, ?_⟩
  simp only [M.step, Option.isSome, Bool.false_eq_true, if_false, M.resume, M.say]
  simp

theorem fin_say {yes : Bool} :
    ∃ seen', (S code text lim start must pc pos handed om [] weight (some yes) seen none).step =
      S code text lim start must pc pos handed om [] weight (some yes) seen' (some (if yes then .matched else .failed)) := by
  refine ⟨seen, ?_⟩
  simp only [M.step, Option.isSome, Bool.false_eq_true, if_false]

theorem look_no (hpc : pc < code.size) (hop : ops[code.getD pc 0]? = some .ASSERT_NOT) (h2 : code.getD (pc + 2) 0 = 0) (hw : weight < 1000) :
    ∃ seen', (S code text lim start must pc pos handed om frames weight none seen none).step =
      S code text lim start must (pc + 3) pos pos false ({ wait := .lookNot, pc := pc, pos, outermost := om } :: frames) (weight + 1) none seen' none := by
  refine ⟨seen.add (code.getD pc 0), ?_⟩
  simp only [M.step, Option.isSome, Bool.false_eq_true, if_false, if_pos hpc, M.exec, M.word, Nat.add_zero, hop, h2, M.attempt, M.keep, M.frame, Nat.not_lt_zero, Nat.sub_zero]
  rw [if_neg (by simp; omega)]
  rfl

theorem look_done {p q : Nat} {fo : Bool} {c : Nat} (hc : code.getD (p + 1) 0 = c) :
    ∃ seen', (S code text lim start must pc pos handed om ({ wait := .lookNot, pc := p, pos := q, outermost := fo } :: frames) (weight + 1) (some false) seen none).step =
      S code text lim start must (p + 1 + c) q handed fo frames weight none seen' none := by
  refine ⟨seen, ?_⟩
  simp only [M.step, Option.isSome, Bool.false_eq_true, if_false, M.resume, M.putBack, M.word, hc]
  simp
theorem look_hit {p q : Nat} {fo : Bool} :
    ∃ seen', (S code text lim start must pc pos handed om ({ wait := .lookNot, pc := p, pos := q, outermost := fo } :: frames) (weight + 1) (some true) seen none).step =
      S code text lim start must p q handed fo frames weight (some false) seen' none := by
  refine ⟨seen, ?_⟩
  simp only [M.step, Option.isSome, Bool.false_eq_true, if_false, M.resume, M.say, if_true]
  simp

end
end Mine.RX

end

section -- Sre2
open PySem hiding Frame Outcome
open PySem.Sre
namespace Mine.RX

/-- m gets to m' in n steps -/
def Go (m m' : M) (n : Nat) : Prop := ∀ j, m.runFor (n + j) = m'.runFor j
theorem Go.refl (m : M) : Go m m 0 := fun j => by rw [Nat.zero_add]
theorem Go.trans {a b c : M} {n k : Nat} (h : Go a b n) (h' : Go b c k) : Go a c (n + k) := fun j => by rw [Nat.add_assoc, h, h']
theorem Go.step {m m' : M} (h0 : m.outcome = none) (h : m.step = m') : Go m m' 1 := fun j => by
  rw [Nat.add_comm]
  show (if m.outcome.isSome then m else M.runFor j m.step) = _
  rw [h0, h]; rfl
theorem Go.one {m m' m'' : M} {n : Nat} (h0 : m.outcome = none) (h : m.step = m') (h' : Go m' m'' n) : Go m m'' (1 + n) := (Go.step h0 h).trans h'

/-- it ends in at most n steps, at an m' that p holds of -/
def Ends (m : M) (n : Nat) (p : M → Prop) : Prop := ∃ m', p m' ∧ m'.outcome.isSome = true ∧ ∃ k, k ≤ n ∧ Go m m' k
theorem runFor_done {m : M} (h : m.outcome.isSome = true) : ∀ n, m.runFor n = m
  | 0 => rfl
  | n + 1 => by show (if m.outcome.isSome then m else M.runFor n m.step) = m; rw [if_pos h]
theorem Ends.run {m : M} {n : Nat} {p : M → Prop} (h : Ends m n p) : ∃ m', p m' ∧ m'.outcome.isSome = true ∧ ∀ k, n ≤ k → m.runFor k = m' := by
  obtain ⟨m', hp, ho, k, hk, g⟩ := h
  refine ⟨m', hp, ho, fun j hj => ?_⟩
  obtain ⟨d, rfl⟩ : ∃ d, j = k + d := ⟨j - k, by omega⟩
  rw [g d, runFor_done ho]
theorem Ends.after {m m' : M} {k n : Nat} {p : M → Prop} (g : Go m m' k) (h : Ends m' n p) : Ends m (k + n) p := by
  obtain ⟨m'', hp, ho, j, hj, g'⟩ := h
  exact ⟨m'', hp, ho, k + j, by omega, g.trans g'⟩
theorem Ends.le {m : M} {n n' : Nat} {p : M → Prop} (h : Ends m n p) (hn : n ≤ n') : Ends m n' p := by
  obtain ⟨m'', hp, ho, j, hj, g'⟩ := h
  exact ⟨m'', hp, ho, j, by omega, g'⟩
theorem Ends.step {m m' : M} {n : Nat} {p : M → Prop} (h0 : m.outcome = none) (h : m.step = m') (h' : Ends m' n p) : Ends m (n + 1) p :=
  (Ends.after (Go.step h0 h) h').le (by omega)
theorem Ends.here {m : M} {p : M → Prop} (hp : p m) (ho : m.outcome.isSome = true) : Ends m 0 p := ⟨m, hp, ho, 0, Nat.le_refl _, Go.refl m⟩

/-- found: at b, up to e -/
def Hit (b e : Nat) (m : M) : Prop := m.outcome = some .matched ∧ m.start = b ∧ m.handed = e
def Miss (m : M) : Prop := m.outcome = some .failed

def c1 : Array Nat := #[14, 4, 0, 1, 1, 6, 1, 16, 46, 1]
def c2 : Array Nat := #[14, 9, 4, 1, 2, 16, 10, 16, 13, 0, 7, 7, 16, 13, 16, 10, 15, 18, 5, 16, 10, 15, 13, 11, 16, 13, 5, 5, 0, 16, 10, 1, 15, 2, 0, 1]

section
variable {text : Array Nat} {lim start : Nat} {must : Bool} {pos handed : Nat} {om : Bool} {seen : Seen}

/-- behind the last word of the second pattern -/
theorem end2 {s p q : Nat} {fo : Bool} {seen : Seen} (hm : must = false) :
    Ends (S c2 text lim s must 35 pos handed om [{ wait := .nextBranch, pc := p, pos := q, outermost := fo }, { wait := .nextStart, pc := 10, pos := s, outermost := true }] 2 none seen none) 6 (Hit s pos) := by
  obtain ⟨_, e1⟩ := success_ok (code := c2) (text := text) (lim := lim) (start := s) (must := must) (pc := 35) (pos := pos) (handed := handed) (om := om)
    (frames := [{ wait := .nextBranch, pc := p, pos := q, outermost := fo }, { wait := .nextStart, pc := 10, pos := s, outermost := true }]) (weight := 2) (seen := seen) (by decide) rfl (.inr hm)
  refine Ends.le (Ends.step rfl e1 ?_) (Nat.le_refl 6)
  obtain ⟨_, e2⟩ := branch_yes (code := c2) (text := text) (lim := lim) (start := s) (must := must) (pc := 35) (pos := pos) (handed := pos) (om := om)
    (frames := [{ wait := .nextStart, pc := 10, pos := s, outermost := true }]) (weight := 1) (seen := _) (p := p) (fo := fo) (q := q)
  refine Ends.step rfl e2 ?_
  obtain ⟨_, e3⟩ := start_yes (code := c2) (text := text) (lim := lim) (start := s) (must := must) (pc := p) (pos := q) (handed := pos) (om := fo)
    (frames := []) (weight := 0) (seen := _) (p := 10) (fo := true) (q := s)
  refine Ends.step rfl e3 ?_
  obtain ⟨_, e4⟩ := fin_say (code := c2) (text := text) (lim := lim) (start := s) (must := must) (pc := 10) (pos := s) (handed := pos) (om := true) (weight := 0) (seen := _) (yes := true)
  refine Ends.step rfl e4 ?_
  exact Ends.le (Ends.here ⟨rfl, rfl, rfl⟩ rfl) (by omega)

theorem Ends.go {m : M} {n : Nat} {p : M → Prop} {f : Seen → M} (h0 : m.outcome = none) (h : ∃ seen', m.step = f seen') (h' : ∀ seen', Ends (f seen') n p) : Ends m (n + 1) p := by
  obtain ⟨seen', e⟩ := h
  exact Ends.step h0 e (h' seen')

/-- the first way: CR LF -/
theorem way1 {s : Nat} (h : s + 1 < lim) (h13 : text.getD s 0 = 13) (h10 : text.getD (s + 1) 0 = 10) (hm : must = false) :
    Ends (S c2 text lim s must 10 s s true [{ wait := .nextStart, pc := 10, pos := s, outermost := true }] 1 none seen none) 40 (Hit s (s + 2)) := by
  refine Ends.le (Ends.go rfl (branch_ok (by decide) rfl (by decide) (by decide)) fun seen => ?_) (show 10 + 1 ≤ 40 by decide)
  refine Ends.le (Ends.go rfl (lit_ok (by decide) rfl (by omega) h13) fun seen => ?_) (show 9 + 1 ≤ 10 by decide)
  refine Ends.le (Ends.go rfl (lit_ok (by decide) rfl h h10) fun seen => ?_) (show 8 + 1 ≤ 9 by decide)
  refine Ends.le (Ends.go rfl (jump_ok (by decide) rfl) fun seen => ?_) (show 7 + 1 ≤ 8 by decide)
  exact Ends.le (end2 hm) (by decide)
/-- the second way: LF -/
theorem way2 {s : Nat} (h : s < lim) (h10 : text.getD s 0 = 10) (hm : must = false) :
    Ends (S c2 text lim s must 10 s s true [{ wait := .nextStart, pc := 10, pos := s, outermost := true }] 1 none seen none) 40 (Hit s (s + 1)) := by
  refine Ends.le (Ends.go rfl (branch_ok (by decide) rfl (by decide) (by decide)) fun seen => ?_) (show 12 + 1 ≤ 40 by decide)
  refine Ends.le (Ends.go rfl (lit_no (by decide) rfl (.inr (by rw [h10]; decide))) fun seen => ?_) (show 11 + 1 ≤ 12 by decide)
  refine Ends.le (Ends.go rfl (branch_next (c := 7) (by decide) (by decide) (by decide)) fun seen => ?_) (show 10 + 1 ≤ 11 by decide)
  refine Ends.le (Ends.go rfl (lit_ok (by decide) rfl h h10) fun seen => ?_) (show 9 + 1 ≤ 10 by decide)
  refine Ends.le (Ends.go rfl (jump_ok (by decide) rfl) fun seen => ?_) (show 8 + 1 ≤ 9 by decide)
  exact Ends.le (end2 hm) (by decide)
/-- the third way: CR with no LF behind it -/
theorem way3 {s : Nat} (h : s < lim) (h13 : text.getD s 0 = 13) (h10 : lim ≤ s + 1 ∨ text.getD (s + 1) 0 ≠ 10) (hm : must = false) :
    Ends (S c2 text lim s must 10 s s true [{ wait := .nextStart, pc := 10, pos := s, outermost := true }] 1 none seen none) 40 (Hit s (s + 1)) := by
  refine Ends.le (Ends.go rfl (branch_ok (by decide) rfl (by decide) (by decide)) fun seen => ?_) (show 20 + 1 ≤ 40 by decide)
  refine Ends.le (Ends.go rfl (lit_ok (by decide) rfl h h13) fun seen => ?_) (show 19 + 1 ≤ 20 by decide)
  refine Ends.le (Ends.go rfl (lit_no (by decide) rfl h10) fun seen => ?_) (show 18 + 1 ≤ 19 by decide)
  refine Ends.le (Ends.go rfl (branch_next (c := 7) (by decide) (by decide) (by decide)) fun seen => ?_) (show 17 + 1 ≤ 18 by decide)
  refine Ends.le (Ends.go rfl (lit_no (by decide) rfl (.inr (by rw [h13]; decide))) fun seen => ?_) (show 16 + 1 ≤ 17 by decide)
  refine Ends.le (Ends.go rfl (branch_next (c := 5) (by decide) (by decide) (by decide)) fun seen => ?_) (show 15 + 1 ≤ 16 by decide)
  refine Ends.le (Ends.go rfl (lit_ok (by decide) rfl h h13) fun seen => ?_) (show 14 + 1 ≤ 15 by decide)
  refine Ends.le (Ends.go rfl (look_no (by decide) rfl (by decide) (by decide)) fun seen => ?_) (show 13 + 1 ≤ 14 by decide)
  refine Ends.le (Ends.go rfl (lit_no (by decide) rfl h10) fun seen => ?_) (show 12 + 1 ≤ 13 by decide)
  refine Ends.le (Ends.go rfl (look_done (c := 5) (by decide)) fun seen => ?_) (show 11 + 1 ≤ 12 by decide)
  refine Ends.le (Ends.go rfl (jump_ok (by decide) rfl) fun seen => ?_) (show 10 + 1 ≤ 11 by decide)
  exact Ends.le (end2 hm) (by decide)
end
end Mine.RX

end

section -- Sre3
open PySem hiding Frame Outcome
open PySem.Sre
namespace Mine.RX
section
variable {text : Array Nat} {lim start : Nat} {must : Bool} {pos handed : Nat} {om : Bool} {seen : Seen}

def nl (c : Nat) : Bool := c == 10 || c == 13
def findNl (text : Array Nat) (lim : Nat) : Nat → Nat → Option Nat
  | 0, _ => none
  | f + 1, s => if s ≥ lim then none else if nl (text.getD s 0) then some s else findNl text lim f (s + 1)

theorem inSet2 (c : Nat) (seen : Seen) : ∃ seen', inSet c2 c 36 5 true seen = .ok (nl c, seen') := by
  unfold inSet
  have h5 : ops[c2.getD (5 + 0) 0]? = some .LITERAL := rfl
  have w5 : c2.getD (5 + 1) 0 = 10 := rfl
  simp only [h5, w5]
  by_cases h : c = 10
  · subst h; exact ⟨_, rfl⟩
  · have hb : (c == 10) = false := beq_eq_false_iff_ne.mpr h
    simp only [hb, Bool.false_eq_true, if_false]
    unfold inSet
    have h7 : ops[c2.getD (5 + 2 + 0) 0]? = some .LITERAL := rfl
    have w7 : c2.getD (5 + 2 + 1) 0 = 13 := rfl
    simp only [h7, w7]
    by_cases h' : c = 13
    · subst h'; exact ⟨_, rfl⟩
    · have hb' : (c == 13) = false := beq_eq_false_iff_ne.mpr h'
      simp only [hb', Bool.false_eq_true, if_false]
      unfold inSet
      have h9 : ops[c2.getD (5 + 2 + 2 + 0) 0]? = some .FAILURE := rfl
      simp only [h9]
      exact ⟨_, by simp only [nl, hb, hb']; rfl⟩
theorem admitted2 {m : M} (hc : m.code = c2) (ht : m.text = text) (hl : m.lim = lim) : ∀ (f s : Nat) (seen : Seen), ∃ seen', M.admitted m f s seen = .ok (findNl text lim f s, seen')
  | 0, _, seen => ⟨seen, rfl⟩
  | f + 1, s, seen => by
    unfold M.admitted findNl
    rw [hl]
    by_cases h : s ≥ lim
    · rw [if_pos h, if_pos h]; exact ⟨_, rfl⟩
    · rw [if_neg h, if_neg h, hc, ht]
      obtain ⟨seen', e⟩ := inSet2 (text.getD s 0) seen
      rw [show c2.size = 36 from rfl, e]
      cases hn : nl (text.getD s 0) with
      | true => exact ⟨_, rfl⟩
      | false => exact admitted2 hc ht hl f (s + 1) seen'
theorem findNl_some : ∀ (f s b : Nat), findNl text lim f s = some b → s ≤ b ∧ b < lim ∧ nl (text.getD b 0) = true ∧ ∀ j, s ≤ j → j < b → nl (text.getD j 0) = false
  | 0, _, _, h => by cases h
  | f + 1, s, b, h => by
    unfold findNl at h
    split at h
    · cases h
    · rename_i hl
      split at h
      · rename_i hn; cases h; exact ⟨Nat.le_refl _, Nat.not_le.mp hl, hn, fun j h1 h2 => absurd h1 (Nat.not_le.mpr h2)⟩
      · rename_i hn
        obtain ⟨h1, h2, h3, h4⟩ := findNl_some f (s + 1) b h
        refine ⟨by omega, h2, h3, fun j j1 j2 => ?_⟩
        by_cases e : j = s
        · subst e; simpa using hn
        · exact h4 j (by omega) j2
theorem findNl_none : ∀ (f s : Nat), lim ≤ s + f → findNl text lim f s = none → ∀ j, s ≤ j → j < lim → nl (text.getD j 0) = false
  | 0, s, hf, _, j, h1, h2 => absurd h1 (by omega)
  | f + 1, s, hf, h, j, h1, h2 => by
    unfold findNl at h
    split at h
    · omega
    · split at h
      · cases h
      · rename_i hn
        by_cases e : j = s
        · subst e; simpa using hn
        · exact findNl_none f (s + 1) (by omega) h j (by omega) h2

/-- the second pattern: where it ends, sought from pos -/
def end2At (text : Array Nat) (lim b : Nat) : Nat := if text.getD b 0 = 13 ∧ b + 1 < lim ∧ text.getD (b + 1) 0 = 10 then b + 2 else b + 1

theorem ends_say {m : M} (ho : m.outcome = none) (ha : m.answer = some false) (hf : m.frames = []) : Ends m 1 Miss := by
  refine Ends.step (m' := { m with outcome := some .failed }) ho ?_ (Ends.here rfl rfl)
  unfold M.step
  rw [ho, ha, hf]; rfl

theorem search2 (hp : pos ≤ lim) :
    Ends (forSearch c2 text 0 pos lim must) 41 (fun m => match findNl text lim (lim + 1 - pos) pos with | some b => Hit b (end2At text lim b) m | none => Miss m) := by
  unfold forSearch
  show Ends (if pos > lim || lim - pos < 1 then _ else _) _ _
  by_cases h : (decide (pos > lim) || decide (lim - pos < 1)) = true
  · rw [if_pos h]
    have hpl : pos = lim := by simp at h; omega
    subst hpl
    have hn : findNl text pos (pos + 1 - pos) pos = none := by
      rw [show pos + 1 - pos = 0 + 1 by omega]; unfold findNl; rw [if_pos (Nat.le_refl _)]
    rw [hn]
    exact Ends.le (ends_say rfl rfl rfl) (by decide)
  · rw [if_neg h]
    show Ends ((S c2 text lim pos must 10 pos pos true [] 0 none (({} : Seen).add 14) none).attemptFrom pos true) _ _
    unfold M.attemptFrom
    rw [if_neg (by exact Bool.false_ne_true)]
    obtain ⟨seen', e⟩ := admitted2 (m := S c2 text lim pos must 10 pos pos true [] 0 none (({} : Seen).add 14) none) (text := text) (lim := lim) rfl rfl rfl (lim + 1 - pos) pos (({} : Seen).add 14)
    show Ends (match M.admitted (S c2 text lim pos must 10 pos pos true [] 0 none (({} : Seen).add 14) none) (lim + 1 - pos) pos (({} : Seen).add 14) with | .ok (some s, seen) => _ | .ok (none, seen) => _ | .error why => _) _ _
    rw [e]
    cases hf : findNl text lim (lim + 1 - pos) pos with
    | none => exact Ends.le (ends_say rfl rfl rfl) (by decide)
    | some b =>
      obtain ⟨h1, h2, h3, h4⟩ := findNl_some _ _ _ hf
      show Ends (S c2 text lim b false 10 b b true [{ wait := .nextStart, pc := 10, pos := b, outermost := true }] 1 none seen' none) 41 (Hit b (end2At text lim b))
      refine Ends.le ?_ (show 40 ≤ 41 by decide)
      unfold end2At
      by_cases hc : text.getD b 0 = 13 ∧ b + 1 < lim ∧ text.getD (b + 1) 0 = 10
      · rw [if_pos hc]; exact way1 hc.2.1 hc.1 hc.2.2 rfl
      · rw [if_neg hc]
        simp only [nl, Bool.or_eq_true, beq_iff_eq] at h3
        rcases h3 with h3 | h3
        · exact way2 h2 h3 rfl
        · refine way3 h2 h3 ?_ rfl
          by_cases hl : lim ≤ b + 1
          · exact .inl hl
          · exact .inr fun q => hc ⟨h3, by omega, q⟩

def bol (text : Array Nat) (s : Nat) : Bool := s == 0 || text.getD (s - 1) 0 == 10
def findDot (text : Array Nat) (lim : Nat) : Nat → Nat → Option Nat
  | 0, _ => none
  | f + 1, s => if s ≥ lim then none else if bol text s && text.getD s 0 == 46 then some s else findDot text lim f (s + 1)
theorem findDot_some : ∀ (f s b : Nat), findDot text lim f s = some b → s ≤ b ∧ b < lim ∧ (bol text b && text.getD b 0 == 46) = true ∧ ∀ j, s ≤ j → j < b → (bol text j && text.getD j 0 == 46) = false
  | 0, _, _, h => by cases h
  | f + 1, s, b, h => by
    unfold findDot at h
    split at h
    · cases h
    · rename_i hl
      split at h
      · rename_i hn; cases h; exact ⟨Nat.le_refl _, Nat.not_le.mp hl, hn, fun j h1 h2 => absurd h1 (Nat.not_le.mpr h2)⟩
      · rename_i hn
        obtain ⟨h1, h2, h3, h4⟩ := findDot_some f (s + 1) b h
        refine ⟨by omega, h2, h3, fun j j1 j2 => ?_⟩
        by_cases e : j = s
        · subst e; simpa using hn
        · exact h4 j (by omega) j2
theorem findDot_none : ∀ (f s : Nat), lim ≤ s + f → findDot text lim f s = none → ∀ j, s ≤ j → j < lim → (bol text j && text.getD j 0 == 46) = false
  | 0, s, hf, _, j, h1, h2 => absurd h1 (by omega)
  | f + 1, s, hf, h, j, h1, h2 => by
    unfold findDot at h
    split at h
    · omega
    · split at h
      · cases h
      · rename_i hn
        by_cases e : j = s
        · subst e; simpa using hn
        · exact findDot_none f (s + 1) (by omega) h j (by omega) h2

theorem tail1 {s : Nat} {fo : Bool} {seen : Seen} {P : M → Prop} {n pc pos handed : Nat} {om : Bool}
    (hend : ¬ s < lim → Ends (S c1 text lim s false 5 s handed fo [] 0 (some false) seen none) n P)
    (hgo : s < lim → ∀ seen, Ends (S c1 text lim (s + 1) false 5 (s + 1) (s + 1) false [{ wait := .nextStart, pc := 5, pos := s + 1, outermost := false }] 1 none seen none) n P) :
    Ends (S c1 text lim s false pc pos handed om [{ wait := .nextStart, pc := 5, pos := s, outermost := fo }] 1 (some false) seen none) (n + 1) P := by
  have h := start_next (code := c1) (text := text) (lim := lim) (start := s) (must := false) (pc := pc) (pos := pos) (handed := handed) (om := om) (frames := []) (weight := 0) (seen := seen) (p := 5) (fo := fo) (q := s)
  unfold S at h ⊢
  simp only [M.step, Option.isSome, Bool.false_eq_true, if_false, M.resume, M.say] at h
  by_cases hl : s < lim
  · refine Ends.step (m' := S c1 text lim (s + 1) false 5 (s + 1) (s + 1) false [{ wait := .nextStart, pc := 5, pos := s + 1, outermost := false }] 1 none seen none) rfl ?_ (hgo hl _)
    simp only [M.step, Option.isSome, Bool.false_eq_true, if_false, M.resume, M.say]
    rw [if_pos hl]
    rfl
  · refine Ends.step (m' := S c1 text lim s false 5 s handed fo [] 0 (some false) seen none) rfl ?_ (hend hl)
    simp only [M.step, Option.isSome, Bool.false_eq_true, if_false, M.resume, M.say]
    rw [if_neg hl]
    rfl

theorem from1 : ∀ (f s : Nat) (fo : Bool) (seen : Seen), s + f = lim →
    Ends (S c1 text lim s false 5 s s fo [{ wait := .nextStart, pc := 5, pos := s, outermost := fo }] 1 none seen none) (6 * f + 6) (fun m => match findDot text lim (f + 1) s with | some b => Hit b (b + 1) m | none => Miss m) := by
  intro f
  induction f with
  | zero =>
    intro s fo seen hf
    have hs : ¬ s < lim := by omega
    have hn : findDot text lim (0 + 1) s = none := by unfold findDot; rw [if_pos (by omega)]
    rw [hn]
    refine Ends.le (Ends.go rfl (at_line (by decide) rfl rfl) fun seen => ?_) (show 5 + 1 ≤ 6 * 0 + 6 by decide)
    have fin : ∀ seen pc pos handed om, Ends (S c1 text lim s false pc pos handed om [{ wait := .nextStart, pc := 5, pos := s, outermost := fo }] 1 (some false) seen none) 4 Miss := fun seen pc pos handed om =>
      Ends.le (tail1 (n := 3) (fun _ => Ends.le (ends_say rfl rfl rfl) (by decide)) fun h => absurd h hs) (by decide)
    split
    · exact Ends.le (Ends.go rfl (lit_no (by decide) rfl (.inl (by omega))) fun seen => fin _ _ _ _ _) (by decide)
    · exact Ends.le (fin _ _ _ _ _) (by decide)
  | succ f ih =>
    intro s fo seen hf
    have hs : s < lim := by omega
    refine Ends.le (Ends.go rfl (at_line (by decide) rfl rfl) fun seen => ?_) (show (6 * f + 11) + 1 ≤ 6 * (f + 1) + 6 by omega)
    by_cases hb : (bol text s && text.getD s 0 == 46) = true
    · have hfd : findDot text lim (f + 1 + 1) s = some s := by unfold findDot; rw [if_neg (by omega), if_pos hb]
      rw [hfd]
      rw [Bool.and_eq_true] at hb
      rw [if_pos (show (s == 0 || text.getD (s - 1) 0 == 10) = true from hb.1)]
      refine Ends.le (Ends.go rfl (lit_ok (by decide) rfl hs (by have := hb.2; simp only [beq_iff_eq] at this; rw [this]; rfl)) fun seen => ?_) (show 9 + 1 ≤ _ by omega)
      refine Ends.le (Ends.go rfl (success_ok (by decide) rfl (.inr rfl)) fun seen => ?_) (show 8 + 1 ≤ 9 by omega)
      refine Ends.le (Ends.go rfl start_yes fun seen => ?_) (show 7 + 1 ≤ 8 by omega)
      refine Ends.le (Ends.go rfl fin_say fun seen => ?_) (show 6 + 1 ≤ 7 by omega)
      exact Ends.le (Ends.here ⟨rfl, rfl, rfl⟩ rfl) (by omega)
    · have hfd : findDot text lim (f + 1 + 1) s = findDot text lim (f + 1) (s + 1) := by rw [findDot, if_neg (by omega), if_neg hb]
      rw [hfd]
      have fin : ∀ seen pc pos handed om, Ends (S c1 text lim s false pc pos handed om [{ wait := .nextStart, pc := 5, pos := s, outermost := fo }] 1 (some false) seen none) (6 * f + 6 + 1) _ := fun seen pc pos handed om =>
        tail1 (n := 6 * f + 6) (fun h => absurd hs h) fun _ seen => ih (s + 1) false seen (by omega)
      split
      · rename_i hbol
        refine Ends.le (Ends.go rfl (lit_no (by decide) rfl (.inr ?_)) fun seen => fin _ _ _ _ _) (by omega)
        intro q
        apply hb
        rw [Bool.and_eq_true]
        exact ⟨hbol, by simp only [beq_iff_eq]; rw [q]; rfl⟩
      · exact Ends.le (fin _ _ _ _ _) (by omega)

theorem search1 (hp : pos ≤ lim) :
    Ends (forSearch c1 text 0 pos lim false) (6 * lim + 6) (fun m => match findDot text lim (lim - pos + 1) pos with | some b => Hit b (b + 1) m | none => Miss m) := by
  unfold forSearch
  show Ends (if pos > lim || lim - pos < 1 then _ else _) _ _
  by_cases h : (decide (pos > lim) || decide (lim - pos < 1)) = true
  · rw [if_pos h]
    have hpl : pos = lim := by simp at h; omega
    subst hpl
    have hn : findDot text pos (pos - pos + 1) pos = none := by unfold findDot; rw [if_pos (Nat.le_refl _)]
    rw [hn]
    exact Ends.le (ends_say rfl rfl rfl) (by omega)
  · rw [if_neg h]
    show Ends (S c1 text lim pos false 5 pos pos true [{ wait := .nextStart, pc := 5, pos := pos, outermost := true }] 1 none (({} : Seen).add 14) none) _ _
    exact Ends.le (from1 (lim - pos) pos true _ (by omega)) (by omega)
end
end Mine.RX

end

section -- Sre4
open PySem hiding Frame Outcome
open PySem.Sre
namespace Mine.RX

def crlf : List Nat → List Nat
  | [] => []
  | [c] => if nl c then [13, 10] else [c]
  | c :: d :: r => if c = 13 ∧ d = 10 then 13 :: 10 :: crlf r else if nl c then 13 :: 10 :: crlf (d :: r) else c :: crlf (d :: r)
def dotq : Bool → List Nat → List Nat
  | _, [] => []
  | b, c :: r => if b && c == 46 then 46 :: 46 :: dotq false r else c :: dotq (c == 10) r

theorem crlf_plain {c : Nat} {r : List Nat} (h : nl c = false) : crlf (c :: r) = c :: crlf r := by
  have h13 : c ≠ 13 := fun q => by subst q; cases h
  cases r with
  | nil => simp [crlf, h]
  | cons d r => rw [crlf, if_neg (fun q => h13 q.1), h]; rfl
theorem crlf_two {r : List Nat} : crlf (13 :: 10 :: r) = 13 :: 10 :: crlf r := by rw [crlf, if_pos ⟨rfl, rfl⟩]
theorem crlf_one {c : Nat} {r : List Nat} (h : nl c = true) (h' : ¬ (c = 13 ∧ r.head? = some 10)) : crlf (c :: r) = 13 :: 10 :: crlf r := by
  cases r with
  | nil => simp [crlf, h]
  | cons d r => rw [crlf, if_neg (fun q => h' ⟨q.1, by rw [q.2]; rfl⟩), h]; rfl
theorem crlf_take : ∀ (k : Nat) (l : List Nat), (∀ j, j < k → j < l.length → nl (l.getD j 0) = false) → crlf l = l.take k ++ crlf (l.drop k)
  | 0, l, _ => by simp
  | k + 1, [], _ => by simp [crlf]
  | k + 1, c :: r, h => by
    rw [crlf_plain (by simpa using h 0 (by omega) (by simp)), crlf_take k r fun j h1 h2 => by simpa using h (j + 1) (by omega) (by simp; omega)]
    simp
theorem dotq_take : ∀ (k : Nat) (b : Bool) (l : List Nat), (∀ j, j < k → j < l.length → ((if j = 0 then b else l.getD (j - 1) 0 == 10) && l.getD j 0 == 46) = false) →
    dotq b l = l.take k ++ dotq (if k = 0 then b else l.getD (k - 1) 0 == 10) (l.drop k)
  | 0, b, l, _ => by simp
  | k + 1, b, [], _ => by simp [dotq]
  | k + 1, b, c :: r, h => by
    have h0 : (b && c == 46) = false := by simpa using h 0 (by omega) (by simp)
    rw [dotq, h0, if_neg Bool.false_ne_true, dotq_take k (c == 10) r fun j h1 h2 => ?_]
    · rw [if_neg (Nat.succ_ne_zero k)]
      cases k with
      | zero => simp
      | succ k => simp
    · have := h (j + 1) (by omega) (by simp; omega)
      rw [if_neg (Nat.succ_ne_zero j)] at this
      cases j with
      | zero => simpa using this
      | succ j => simpa using this

section
variable {text : Array Nat}
theorem getD_drop (p j : Nat) : (text.toList.drop p).getD j 0 = text.getD (p + j) 0 := by
  simp [List.getD_eq_getElem?_getD, List.getElem?_drop, Array.getD_eq_getD_getElem?]
theorem head_drop {b : Nat} (h : b < text.size) : text.toList.drop b = text.getD b 0 :: text.toList.drop (b + 1) := by
  rw [List.drop_eq_getElem_cons (by simpa using h)]
  simp [Array.getD, h]

/-- what the sub makes from p on, as the search says -/
def Says (text : Array Nat) (repl : List Nat) (sp : Nat → List Nat) (p : Nat) (m : M) : Prop :=
  (Miss m ∧ sp p = text.toList.drop p) ∨ (∃ b e, Hit b e m ∧ p ≤ b ∧ b < e ∧ e ≤ text.size ∧ sp p = (text.toList.drop p).take (b - p) ++ (repl ++ sp e))

theorem end2_bounds {b : Nat} (h : b < text.size) : b < end2At text text.size b ∧ end2At text text.size b ≤ text.size := by
  unfold end2At
  by_cases hc : text.getD b 0 = 13 ∧ b + 1 < text.size ∧ text.getD (b + 1) 0 = 10
  · rw [if_pos hc]; omega
  · rw [if_neg hc]; omega
theorem says2 {p : Nat} (hp : p ≤ text.size) {must : Bool} : Ends (forSearch c2 text 0 p text.size must) 41 (Says text [13, 10] (fun p => crlf (text.toList.drop p)) p) := by
  obtain ⟨m', hm, r⟩ := search2 (text := text) (lim := text.size) (pos := p) (must := must) hp
  refine ⟨m', ?_, r⟩
  cases hf : findNl text text.size (text.size + 1 - p) p with
  | none =>
    rw [hf] at hm
    refine .inl ⟨hm, ?_⟩
    show crlf _ = _
    rw [crlf_take (text.size - p) _ fun j h1 h2 => ?_]
    · have e : (text.toList.drop p).drop (text.size - p) = [] := by rw [List.drop_drop]; exact List.drop_eq_nil_of_le (by simp; omega)
      rw [e, List.take_of_length_le (by simp)]; simp [crlf]
    · rw [getD_drop]; exact findNl_none _ _ (by omega) hf (p + j) (by omega) (by omega)
  | some b =>
    rw [hf] at hm
    obtain ⟨h1, h2, h3, h4⟩ := findNl_some _ _ _ hf
    have hcut : crlf (text.toList.drop p) = (text.toList.drop p).take (b - p) ++ crlf (text.toList.drop b) := by
      rw [crlf_take (b - p) _ fun j h1' h2' => by rw [getD_drop]; exact h4 (p + j) (by omega) (by omega), List.drop_drop, show p + (b - p) = b by omega]
    refine .inr ⟨b, end2At text text.size b, hm, h1, ?_, ?_, ?_⟩
    · exact (end2_bounds h2).1
    · exact (end2_bounds h2).2
    · show crlf _ = _
      rw [hcut, head_drop h2]
      congr 1
      unfold end2At
      by_cases hc : text.getD b 0 = 13 ∧ b + 1 < text.size ∧ text.getD (b + 1) 0 = 10
      · rw [if_pos hc, hc.1, head_drop hc.2.1, hc.2.2, crlf_two]; rfl
      · rw [if_neg hc, crlf_one h3 fun q => hc ⟨q.1, ?_⟩]
        · rfl
        · have hq := q.2
          by_cases hl : b + 1 < text.size
          · rw [head_drop hl] at hq; exact ⟨hl, by simpa using hq⟩
          · rw [List.drop_of_length_le (by simp; omega)] at hq; cases hq

theorem bol_step {p k : Nat} (hk : k ≠ 0) : ((text.toList.drop p).getD (k - 1) 0 == 10) = bol text (p + k) := by
  rw [getD_drop, bol, show (p + k == 0) = false from beq_eq_false_iff_ne.mpr (by omega), Bool.false_or, show p + (k - 1) = p + k - 1 by omega]

theorem says1 {p : Nat} (hp : p ≤ text.size) : Ends (forSearch c1 text 0 p text.size false) (6 * text.size + 6) (Says text [46, 46] (fun p => dotq (bol text p) (text.toList.drop p)) p) := by
  obtain ⟨m', hm, r⟩ := search1 (text := text) (lim := text.size) (pos := p) hp
  refine ⟨m', ?_, r⟩
  have hno : ∀ k, (∀ j, p ≤ j → j < p + k → j < text.size → (bol text j && text.getD j 0 == 46) = false) → dotq (bol text p) (text.toList.drop p) = (text.toList.drop p).take k ++ dotq (bol text (p + k)) (text.toList.drop (p + k)) := fun k h => by
    rw [dotq_take k (bol text p) (text.toList.drop p) fun j h1 h2 => ?_, List.drop_drop]
    · by_cases hk : k = 0
      · subst hk; simp
      · rw [if_neg hk, bol_step hk]
    · have h0 := h (p + j) (by omega) (by omega) (by simp at h2; omega)
      by_cases hj : j = 0
      · subst hj; rw [getD_drop]; simpa using h0
      · rw [if_neg hj, bol_step hj, getD_drop]; exact h0
  cases hf : findDot text text.size (text.size - p + 1) p with
  | none =>
    rw [hf] at hm
    refine .inl ⟨hm, ?_⟩
    show dotq _ _ = _
    rw [hno (text.size - p) fun j h1 h2 h3 => findDot_none _ _ (by omega) hf j h1 h3]
    have e : text.toList.drop (p + (text.size - p)) = [] := List.drop_eq_nil_of_le (by simp; omega)
    rw [e, List.take_of_length_le (by simp)]; simp [dotq]
  | some b =>
    rw [hf] at hm
    obtain ⟨h1, h2, h3, h4⟩ := findDot_some _ _ _ hf
    refine .inr ⟨b, b + 1, hm, h1, by omega, by omega, ?_⟩
    show dotq _ _ = _
    rw [hno (b - p) fun j j1 j2 j3 => h4 j j1 (by omega), show p + (b - p) = b by omega]
    congr 1
    rw [head_drop h2, dotq, if_pos h3]
    have hc : text.getD b 0 = 46 := by rw [Bool.and_eq_true] at h3; simpa using h3.2
    have hbol : bol text (b + 1) = false := by
      unfold bol; rw [show (b + 1 == 0) = false from beq_eq_false_iff_ne.mpr (by omega), show b + 1 - 1 = b by omega, hc]; rfl
    show _ = [46, 46] ++ dotq (bol text (b + 1)) _
    rw [hbol]; rfl
end
end Mine.RX

end

section -- Sre5
open PySem PySem.W PySem.Calls PyProof.Rows PySem.Builtin.Re
set_option maxRecDepth 100000
namespace Mine.RX
open PySem.Sre (M)

theorem runFor_add (m : M) : ∀ a b, m.runFor (a + b) = (m.runFor a).runFor b
  | 0, b => by rw [Nat.zero_add]; rfl
  | a + 1, b => by
    rw [show a + 1 + b = (a + b) + 1 by omega]
    show (if m.outcome.isSome then m else M.runFor (a + b) m.step) = (if m.outcome.isSome then m else M.runFor a m.step).runFor b
    by_cases h : m.outcome.isSome = true
    · rw [if_pos h, if_pos h, runFor_done h]
    · rw [if_neg h, if_neg h]; exact runFor_add m.step a b

section
variable {MM : Model} {A : Around} {E : Value → Shared → Prop} {s : Shared}

theorem drive {m' : M} (ho : m'.outcome.isSome = true) {Q : M → Shared → Prop} (hQ : Q m' s) : ∀ (turns K : Nat) (m : M), (∀ k, K ≤ k → m.runFor k = m') → K ≤ 4 * turns → 0 < turns → wpAny MM A (reDrive turns m) Q E s
  | 0, _, _, _, _, h0 => absurd h0 (Nat.lt_irrefl 0)
  | turns + 1, K, m, hr, hK, _ => by
    unfold reDrive
    show wpAny MM A (if (m.runFor reTurnSteps).outcome.isSome then pure (m.runFor reTurnSteps) else do rule "sre.turn"; reDrive turns (m.runFor reTurnSteps)) Q E s
    by_cases h : (m.runFor reTurnSteps).outcome.isSome = true
    · rw [if_pos h]
      have e : m.runFor reTurnSteps = m' := by
        have := hr (reTurnSteps + K) (by omega)
        rw [runFor_add, runFor_done h] at this; exact this
      rw [e]; exact wpAny_pure hQ
    · rw [if_neg h]
      have h4 : reTurnSteps = 4 := rfl
      have hK4 : ¬ K ≤ 4 := fun q => h (by rw [h4, hr 4 q]; exact ho)
      refine wpAny_bind (wpAny_rule (drive ho hQ turns (K - 4) _ (fun k hk => ?_) (by omega) (by omega)))
      rw [← runFor_add, h4]; exact hr _ (by omega)

theorem forIn_rules {α : Type} (f : α → Bool) (g : α → String) {Q : PUnit → Shared → Prop} (h : Q ⟨⟩ s) (l : List α) :
    wpAny MM A (forIn l PUnit.unit fun i _ => (if f i = true then do rule (g i); pure (ForInStep.yield PUnit.unit) else pure (ForInStep.yield PUnit.unit) : Sem _)) Q E s := by
  induction l with
  | nil => rw [List.forIn_nil]; exact wpAny_pure h
  | cons a l ih =>
    rw [List.forIn_cons]
    by_cases hf : f a = true
    · rw [if_pos hf]; exact wpAny_bind (wpAny_bind (wpAny_rule (wpAny_pure ih)))
    · rw [if_neg hf]; exact wpAny_bind (wpAny_pure ih)

theorem runToEnd {m : M} {N : Nat} {p : M → Prop} {Q : Option M → Shared → Prop} (h : Ends m N p) (hN : N ≤ 4 * 2 ^ 64) (hQ : ∀ m', p m' → (m'.outcome = some .matched → Q (some m') s) ∧ (m'.outcome = some .failed → Q none s) ∧ (m'.outcome = some .matched ∨ m'.outcome = some .failed)) :
    wpAny MM A (reRunToEnd m) Q E s := by
  obtain ⟨m', hp, ho, hr⟩ := h.run
  unfold reRunToEnd
  refine wpAny_bind (drive ho ?_ (2 ^ 64) N m hr hN (by decide))
  obtain ⟨h1, h2, h3⟩ := hQ m' hp
  refine wpAny_bind ?_
  refine forIn_rules (fun i => m'.seen.has i) (fun i => PySem.Sre.names.getD i "") ?_ _
  rcases h3 with h3 | h3
  · rw [h3]; exact wpAny_pure (h1 h3)
  · rw [h3]; exact wpAny_pure (h2 h3)
end
end Mine.RX

end

section -- Sre6
open PySem PySem.W PySem.Calls PyProof.Rows PySem.Builtin PySem.Builtin.Re
set_option maxRecDepth 100000
namespace Mine.RX
open PySem.Sre (M)

theorem entry_subloop : entryFor table "re.Pattern.sub.loop" = some Builtin.«re.Pattern.sub.loop» := entryFor_of_tree (by kernel_rfl)
theorem plain_subloop : plainId "re.Pattern.sub.loop" = true := by decide +kernel
theorem kind_patsub : builtinKind "re.Pattern.sub" = some .method := by decide +kernel
theorem entry_patsub : entryFor table "re.Pattern.sub" = some Builtin.«re.Pattern.sub» := entryFor_of_tree (by kernel_rfl)
theorem slot_patsub : Slot "re.Pattern" "sub" "re.Pattern.sub" :=
  .of (owner := "re.Pattern") (n := "sub") (by rw [typeLookup_type, builtinLookup_eq_fast]; kernel_rfl) (by decide +kernel) (by decide +kernel) (by decide +kernel)
    (by first | exact .inl (by decide +kernel) | exact .inr (by decide +kernel)) (by rw [isSubtype_type]; kernel_rfl)
theorem args_patsub (a b c : Value) : argsOk "re.Pattern.sub" ⟨[a, b, c], []⟩ := by unfold argsOk; kernel_rfl
theorem type_patsub : typeOf (.builtin "re.Pattern.sub") = pure (.type "method_descriptor") := by show builtinType _ = _; rw [builtinType_eq_fast]; kernel_rfl
theorem pat_getattribute : typeLookup (.type "re.Pattern") "__getattribute__" = pure (some (.builtin "object.__getattribute__")) := by rw [typeLookup_type, builtinLookup_eq_fast]; kernel_rfl
theorem pat_getattr : typeLookup (.type "re.Pattern") "__getattr__" = pure none := by rw [typeLookup_type, builtinLookup_eq_fast]; kernel_rfl
theorem canon_ga : (Manifest.canonical "object.__getattribute__" != "object.__getattribute__") = false := by decide +kernel

section
variable {prog : Program} {w : World} {A : Around} {E : Value → Shared → Prop} {s : Shared}

theorem getMethod_patsub {pa : Addr} {o : Obj} {pl : Sem Bool} {Q : Value × List Value → Shared → Prop} (ho : s.heap.get? pa = some o) (hc : o.cls = .type "re.Pattern") (hd : o.dict = none)
    (h : Q (.builtin "re.Pattern.sub", [.ref pa]) s) : wpAny (model prog w) A (getMethod (.ref pa) "sub" pl) Q E s := by
  have hT : s.TypeIs (.ref pa) "re.Pattern" := ⟨o, ho, hc⟩
  unfold getMethod
  refine wpAny_bind (wpAny_specialOf hT pat_getattribute ?_)
  show wpAny (model prog w) A (if (Manifest.canonical "object.__getattribute__" != "object.__getattribute__") = true then _ else _) Q E s
  rw [canon_ga, if_neg Bool.false_ne_true]
  refine wpAny_bind (wpAny_specialOf hT pat_getattr ?_)
  refine wpAny_bind (wpAny_specialOf hT slot_patsub.lookup ?_)
  refine wpAny_bind (wpAny_of_eq type_patsub ?_)
  refine wpAny_bind (wpAny_load ho ?_)
  rw [hd]
  exact wpAny_bind (wpAny_rule (wpAny_pure h))

/-- what is asked of the pattern's object -/
structure PatAt (h : Heap) (pa : Addr) (code : Array Nat) : Prop where
  at_ : ∃ o fs ca oc cs k, h.get? pa = some o ∧ o.cls = .type "re.Pattern" ∧ o.dict = none ∧ o.data = .fields fs ∧ reRawNat (fs.getD 2 .none) = 0 ∧ reRawNat (fs.getD 6 .none) = 0 ∧ fs.getD 5 .none = .ref ca ∧
    h.get? ca = some oc ∧ oc.data = .seq cs k ∧ (cs.map reRawOf).map (·.toNat) = code
theorem PatAt.keeps {h h' : Heap} {pa : Addr} {code : Array Nat} (P : PatAt h pa code) (k : ∀ b o, h.get? b = some o → h'.get? b = some o) : PatAt h' pa code :=
  let ⟨o, fs, ca, oc, cs, n, h1, h2, h3, h4, h5, h6, h7, h8, r⟩ := P.at_; ⟨o, fs, ca, oc, cs, n, k _ _ h1, h2, h3, h4, h5, h6, h7, k _ _ h8, r⟩

theorem whole_target {pa : Addr} {code : Array Nat} {x : Str} {tx : Tok} {Q : ReTarget → Shared → Prop} (P : PatAt s.heap pa code)
    (h : Q { pattern := .ref pa, string := .str x tx, code, text := x.cps, kind := 0, groups := 0, pos := 0, lim := x.cps.size } s) : wpAny (model prog w) A (reWholeTarget (.ref pa) (.str x tx)) Q E s := by
  obtain ⟨o, fs, ca, oc, cs, k, ho, hc, hdd, hd, h2, h6, h5, hca, hcd, rfl⟩ := P.at_
  unfold reWholeTarget
  refine wpAny_bind (wpAny_fieldsOf ho hd ?_)
  refine wpAny_bind (m := reTextOf (.str x tx)) (wpAny_pure ?_)
  dsimp only
  rw [h6]
  refine wpAny_bind (m := reNoCollectionInside (.str x tx) 0) (wpAny_pure ?_)
  rw [h5, h2]
  refine wpAny_bind (m := reRawItems (.ref ca)) ?_
  unfold reRawItems
  refine wpAny_bind (wpAny_seqItems hca hcd ?_)
  exact wpAny_pure (wpAny_pure h)
end
end Mine.RX

end

section -- Sre7
open PySem PySem.W PySem.Calls PyProof.Rows PySem.Builtin PySem.Builtin.Re
set_option maxRecDepth 100000
namespace Mine.RX
open PySem.Sre (M)

def flat (L : List (Str × Tok)) : List Nat := L.flatMap fun p => p.1.cps.toList
theorem flat_snoc (L : List (Str × Tok)) (x : Str) (t : Tok) : flat (L ++ [(x, t)]) = flat L ++ x.cps.toList := by simp [flat]
theorem strValues_snoc (L : List (Str × Tok)) (x : Str) (t : Tok) : (strValues (L ++ [(x, t)])).toArray = (strValues L).toArray.push (.str x t) := by simp [strValues]
theorem join_empty : ∀ L : List Str, (Str.join ⟨#[]⟩ L).cps.toList = L.flatMap fun x => x.cps.toList
  | [] => rfl
  | [x] => by simp [Str.join]
  | x :: y :: r => by
    have ih := join_empty (y :: r)
    show ((x ++ (⟨#[]⟩ : Str)) ++ Str.join ⟨#[]⟩ (y :: r)).cps.toList = _
    show ((x.cps ++ #[]) ++ (Str.join ⟨#[]⟩ (y :: r)).cps).toList = _
    rw [Array.toList_append, ih]; simp

/-- the pieces so far, at D -/
def Pieces (h : Heap) (D : Addr) (L : List (Str × Tok)) : Prop := ∃ n, h.get? D = some (seqObj "list" (strValues L).toArray n)

section
variable {prog : Program} {w : World} {A : Around} {E : Value → Shared → Prop} {s : Shared}

theorem push_piece {D : Addr} {L : List (Str × Tok)} {x : Str} {t : Tok} {Q : Unit → Shared → Prop} (hP : Pieces s.heap D L) (hsz : L.length ≤ 10000)
    (h : ∀ h', Pieces h' D (L ++ [(x, t)]) → (∀ b o, b ≠ D → s.heap.get? b = some o → h'.get? b = some o) → Q () { s with heap := h' }) :
    wpAny (model prog w) A (updateSeq D (·.push (.str x t))) Q E s := by
  obtain ⟨n, ho⟩ := hP
  have e := get?_update_seq ho (·.push (.str x t))
  rw [← strValues_snoc] at e
  refine wpAny_updateSeq ho rfl (h _ ⟨_, e⟩ fun b o hb e => (Heap.get?_update_ne _ _ _ _ hb).trans e) ?_ ?_
  · rw [sizeLine_eq]; simp [strValues]; omega
  · rw [sizeLine_eq, Array.size_push]; simp [strValues]; omega

theorem flat_len (L : List (Str × Tok)) : ((L.map (·.1)).map (·.length)).sum = (flat L).length := by
  induction L with
  | nil => rfl
  | cons p L ih => simp only [List.map_cons, List.sum_cons, ih, flat, List.flatMap_cons, List.length_append]; rfl

def RR (E : Value → Shared → Prop) (Q : Value → Shared → Prop) (r : Result) (s' : Shared) : Prop := match r with | .ok (.ret v) => Q v s' | .ok _ => False | .error e => E e s'

theorem slice_ (text : Array Nat) (b e : Nat) {Q : Value → Shared → Prop} (hlen : text.size ≤ 10000) (h : Q (.str ⟨text.extract b e⟩ s.toks) { s with toks := s.toks + 1 }) :
    wpAny (model prog w) A (reSlice text 0 b e) Q E s := by
  unfold reSlice
  show wpAny _ _ (mkStr _) _ _ _
  refine wpAny_mkStr h ?_
  show (text.extract b e).size ≤ _
  rw [sizeLine_eq, Array.size_extract]; omega

theorem extract_list (text : Array Nat) (b e : Nat) : (text.extract b e).toList = (text.toList.drop b).take (e - b) := by simp [Array.toList_extract, List.extract]

theorem keeps_off {h₀ h h' : Heap} {D : Addr} (k : ∀ b o, h₀.get? b = some o → h.get? b = some o) (hD : h₀.get? D = none) (k' : ∀ b o, b ≠ D → h.get? b = some o → h'.get? b = some o) :
    ∀ b o, h₀.get? b = some o → h'.get? b = some o := fun b o e => k' b o (fun q => by rw [q, hD] at e; cases e) (k b o e)

/-- the end: the pieces glued -/
theorem sub_end {B : Around} {D : Addr} {L : List (Str × Tok)} {x : Str} {cnt : Nat} {Q : Value → Shared → Prop} (hP : Pieces s.heap D L) (hL : L.length ≤ 5000) (hF : (flat L).length ≤ 5000) (hx : x.cps.size ≤ 1000)
    (done : ∀ tk t, Q (.str ⟨(flat L).toArray⟩ t) { s with toks := tk }) :
    wpAny (model prog w) B (do
      let joiner ← reSlice x.cps 0 0 0
      let its ← seqItems? (Value.ref D)
      if (its.getD #[]).isEmpty = true then do
          let text ← pure joiner
          if false = true then do
              let y ← holding [text] do
                    let z ← mkInt (cnt : Nat)
                    newTuple [text, z]
              ret y
            else ret text
        else do
          let text ← call (Value.builtin (if (0 == 0) = true then "str.join" else "bytes.join")) [joiner, Value.ref D]
          if false = true then do
              let y ← holding [text] do
                    let z ← mkInt (cnt : Nat)
                    newTuple [text, z]
              ret y
            else ret text)
      (fun fin s' => match fin with
        | Fin.done f => RR E Q (Except.ok f) s'
        | Fin.again c' => c'.quiet = true ∧ codeAny (model prog w) A c' (RR E Q) s') (fun e s' => RR E Q (Except.error e) s') s := by
  refine wpAny_bind (slice_ _ _ _ (by omega) ?_)
  have e0 : x.cps.extract 0 0 = #[] := by simp
  rw [e0]
  obtain ⟨n, ho⟩ := hP
  refine wpAny_bind (wpAny_seqItems ho rfl ?_)
  dsimp only [Option.getD]
  cases L with
  | nil =>
    show wpAny _ _ (do let text ← pure _; ret text) _ _ _
    exact wpAny_bind (wpAny_pure (wpAny_pure (done _ _)))
  | cons a L =>
    show wpAny _ _ (do let text ← call (Value.builtin "str.join") [.str ⟨#[]⟩ s.toks, Value.ref D]; ret text) _ _ _
    refine wpAny_bind (SC.join (texts := (a :: L).map (·.1)) (l := a :: L) ⟨_, ho, rfl, _, rfl⟩ rfl ?_ fun t' k => ?_)
    · unfold JoinOk
      rw [Bool.not_eq_true']
      rw [StrLaws.joinTotal, flat_len]
      unfold Builtin.Str.tooLong
      refine decide_eq_false ?_
      rw [sizeLine_eq]
      simp only [PySem.Str.length, List.length_map]
      simp only [List.length_cons] at hL ⊢
      show ¬ _ + (L.length + 1) * 0 > _
      omega
    · refine wpAny_pure ?_
      show Q (.str (Txt.join ⟨#[]⟩ _) t') _
      rw [show Txt.join ⟨#[]⟩ ((a :: L).map (·.1)) = Str.join ⟨#[]⟩ ((a :: L).map (·.1)) from StrLaws.glued_eq_join _ _]
      have e : Str.join ⟨#[]⟩ ((a :: L).map (·.1)) = ⟨(flat (a :: L)).toArray⟩ := by
        have := join_empty ((a :: L).map (·.1))
        have e2 : (Str.join ⟨#[]⟩ ((a :: L).map (·.1))).cps = (flat (a :: L)).toArray := by
          apply Array.toList_inj.mp
          rw [this]; simp [flat, List.flatMap_map]
        rw [← e2]
      rw [e]
      exact done _ _

theorem sub_loop {h₀ : Heap} {code : Array Nat} {pa D : Addr} {x r : Str} {tx tr : Tok} {sp : Nat → List Nat} {N : Nat} {Q : Value → Shared → Prop} (hN : N ≤ 4 * 2 ^ 64)
    (hsays : ∀ p, p ≤ x.cps.size → Ends (PySem.Sre.forSearch code x.cps 0 p x.cps.size false) N (Says x.cps r.cps.toList sp p)) (hlen : x.cps.size ≤ 1000) (hr : r.cps.size ≤ 2)
    (P : PatAt h₀ pa code) (hD : h₀.get? D = none) :
    ∀ (d p : Nat), p + d = x.cps.size → ∀ (L : List (Str × Tok)) (h : Heap) (tk cnt : Nat), (∀ b o, h₀.get? b = some o → h.get? b = some o) → Pieces h D L → L.length ≤ 2 * p → (flat L).length ≤ 3 * p →
      (∀ h' tk t, (∀ b o, h₀.get? b = some o → h'.get? b = some o) → Q (.str ⟨(flat L ++ sp p).toArray⟩ t) { s with heap := h', toks := tk }) →
      codeAny (model prog w) A (.builtin "re.Pattern.sub.loop" ⟨[.ref pa, .str x tx, .str r tr, rawInt 0, rawInt 0, rawInt cnt, rawInt p, rawInt p, .bool false, .ref D, .bool false], []⟩) (RR E Q) { s with heap := h, toks := tk } := by
  intro d
  induction d using Nat.strongRecOn with
  | ind d ih =>
    intro p hp L h tk cnt hk hP hL hF done
    refine codeAny_builtin entry_subloop ?_
    rw [Around.under_plainId plain_subloop]
    unfold Builtin.«re.Pattern.sub.loop»
    refine wpAny_bind (whole_target (P.keeps hk) ?_)
    dsimp only
    refine wpAny_bind (m := reLiteralCannotBeTurned (.str r tr)) (wpAny_pure ?_)
    refine wpAny_bind (m := reRunToEnd (PySem.Sre.forSearch code x.cps 0 p x.cps.size false)) (runToEnd (hsays p (by omega)) hN fun m' hm' => ⟨fun ho => ?_, fun ho => ?_, ?_⟩)
    · rcases hm' with ⟨hm, _⟩ | ⟨b, e, ⟨_, rfl, rfl⟩, h1, h2, h3, h4⟩
      · rw [Miss, ho] at hm; cases hm
      · dsimp only
        have hb : (m'.handed == m'.start) = false := beq_eq_false_iff_ne.mpr (by omega)
        rw [hb]
        have next : ∀ (L' : List (Str × Tok)) (h' : Heap) (tk' : Nat), (∀ b o, h₀.get? b = some o → h'.get? b = some o) → Pieces h' D L' → L'.length ≤ 2 * p + 1 → flat L' = flat L ++ (x.cps.toList.drop p).take (m'.start - p) →
            wpAny (model prog w) A.in1 (if (0 == 0) = true then do
                let item ← pure (Value.str r tr)
                if (item != Value.none) = true then do
                    updateSeq D fun x => x.push item
                    again (Code.builtin "re.Pattern.sub.loop" { pos := [Value.ref pa, Value.str x tx, Value.str r tr, rawInt 0, rawInt 0, rawInt (cnt + 1), rawInt m'.handed, rawInt m'.handed, Value.bool false, Value.ref D, Value.bool false] })
                  else again (Code.builtin "re.Pattern.sub.loop" { pos := [Value.ref pa, Value.str x tx, Value.str r tr, rawInt 0, rawInt 0, rawInt (cnt + 1), rawInt m'.handed, rawInt m'.handed, Value.bool false, Value.ref D, Value.bool false] })
              else do
                let found ← reNewMatch (Value.ref pa) (Value.str x tx) 0 0 x.cps.size m'
                let item ← holding [found] (if (0 == 1) = true then call (Value.str r tr) [found] else do
                        let __do_lift ← reFound found
                        reExpand (Value.str r tr) __do_lift)
                if (item != Value.none) = true then do
                    updateSeq D fun x => x.push item
                    again (Code.builtin "re.Pattern.sub.loop" { pos := [Value.ref pa, Value.str x tx, Value.str r tr, rawInt 0, rawInt 0, rawInt (cnt + 1), rawInt m'.handed, rawInt m'.handed, Value.bool false, Value.ref D, Value.bool false] })
                  else again (Code.builtin "re.Pattern.sub.loop" { pos := [Value.ref pa, Value.str x tx, Value.str r tr, rawInt 0, rawInt 0, rawInt (cnt + 1), rawInt m'.handed, rawInt m'.handed, Value.bool false, Value.ref D, Value.bool false] }))
              (fun fin s' => match fin with
                | Fin.done f => RR E Q (Except.ok f) s'
                | Fin.again c' => c'.quiet = true ∧ codeAny (model prog w) A c' (RR E Q) s') (fun e s' => RR E Q (Except.error e) s') { s with heap := h', toks := tk' } := by
          intro L' h' tk' hk' hP' hL' hF'
          rw [if_pos (by decide)]
          refine wpAny_bind (wpAny_pure ?_)
          show wpAny (model prog w) A.in1 (do
                    updateSeq D fun x => x.push (Value.str r tr)
                    again (Code.builtin "re.Pattern.sub.loop" { pos := [Value.ref pa, Value.str x tx, Value.str r tr, rawInt 0, rawInt 0, rawInt (cnt + 1), rawInt m'.handed, rawInt m'.handed, Value.bool false, Value.ref D, Value.bool false] })) _ _ _
          have hfl : (flat L').length ≤ 3 * p + (m'.start - p) := by
            rw [hF', List.length_append, List.length_take]; omega
          refine wpAny_bind (push_piece hP' (by omega) fun h2' hP2 hk2 => wpAny_pure ⟨plainId_quiet plain_subloop _, ?_⟩)
          have hs := flat_snoc L' r tr
          refine ih (x.cps.size - m'.handed) (by omega) m'.handed (by omega) _ h2' tk' (cnt + 1) (keeps_off hk' hD hk2) hP2 ?_ ?_ fun h3 tk3 t3 k3 => ?_
          · rw [List.length_append]; simp only [List.length_cons, List.length_nil]; omega
          · rw [hs, List.length_append]; simp only [Array.length_toList]; omega
          · rw [hs, hF', List.append_assoc, List.append_assoc, ← h4]
            exact done h3 tk3 t3 k3
        by_cases hlt : ((p : Nat) : Int).toNat < m'.start
        · rw [if_pos hlt]
          refine wpAny_bind (slice_ _ _ _ (by omega) ?_)
          refine wpAny_bind (push_piece (s := { s with heap := h, toks := tk + 1 }) hP (by omega) fun h' hP' hk' => ?_)
          refine next _ h' (tk + 1) (keeps_off hk hD hk') hP' ?_ ?_
          · rw [List.length_append]; simp only [List.length_cons, List.length_nil]; omega
          · rw [flat_snoc]; show _ ++ (x.cps.extract p m'.start).toList = _; rw [extract_list]
        · rw [if_neg hlt]
          have hlt' : ¬ p < m'.start := hlt
          exact next L h tk hk hP (by omega) (by rw [show m'.start - p = 0 by omega]; simp)
    · rcases hm' with ⟨hm, h4⟩ | ⟨b, e, ⟨hh, _, _⟩, _⟩
      · dsimp only
        by_cases hlt : ((p : Nat) : Int).toNat < x.cps.size
        · rw [if_pos hlt]
          refine wpAny_bind (slice_ _ _ _ (by omega) ?_)
          refine wpAny_bind (push_piece (s := { s with heap := h, toks := tk + 1 }) hP (by omega) fun h' hP' hk' => ?_)
          have hfl : flat (L ++ [(⟨x.cps.extract ((p : Nat) : Int).toNat x.cps.size⟩, tk)]) = flat L ++ sp p := by
            rw [flat_snoc, h4]; show _ ++ (x.cps.extract p x.cps.size).toList = _
            rw [extract_list, List.take_of_length_le (by simp)]
          refine sub_end (s := { s with heap := h', toks := tk + 1 }) hP' ?_ ?_ hlen fun tk' t' => ?_
          · rw [List.length_append]; simp only [List.length_cons, List.length_nil]; omega
          · rw [hfl, h4]
            have e1 : (flat L ++ x.cps.toList.drop p).length = (flat L).length + (x.cps.size - p) := by simp
            rw [e1]; omega
          · rw [hfl]
            exact done h' tk' t' (keeps_off hk hD hk')
        · rw [if_neg hlt]
          have hlt' : ¬ p < x.cps.size := hlt
          have hfl : flat L = flat L ++ sp p := by
            rw [h4, List.drop_eq_nil_of_le (by simp; omega), List.append_nil]
          refine sub_end (s := { s with heap := h, toks := tk }) (L := L) hP (by omega) (by omega) hlen fun tk' t' => ?_
          rw [hfl]
          exact done h tk' t' hk
      · rw [hh] at ho; cases ho
    · rcases hm' with ⟨hm, _⟩ | ⟨b, e, ⟨hh, _, _⟩, _⟩
      · exact .inr hm
      · exact .inl hh
end
end Mine.RX

end

section -- Sre8
open PySem PySem.W PySem.Calls PyProof.Rows PySem.Builtin PySem.Builtin.Re
set_option maxRecDepth 100000
namespace Mine.RX
open PySem.Sre (M)

theorem str_no_call : typeLookup (.type "str") "__call__" = pure none := by rw [typeLookup_type, builtinLookup_eq_fast]; kernel_rfl
theorem named_sub (a b : Value) : reNamed "re.Pattern.sub" "sub" ["repl", "string", "count"] 2 [a, b] [] = pure [some a, some b, none] := by rfl
theorem plain_patsub : plainId "re.Pattern.sub" = true := by decide +kernel

section
variable {prog : Program} {w : World} {A : Around} {E : Value → Shared → Prop} {s : Shared}

theorem call_sub {code : Array Nat} {pa : Addr} {x r : Str} {tx tr : Tok} {sp : Nat → List Nat} {N : Nat} {Q : Value → Shared → Prop} (P : PatAt s.heap pa code) (hN : N ≤ 4 * 2 ^ 64)
    (hsays : ∀ p, p ≤ x.cps.size → Ends (PySem.Sre.forSearch code x.cps 0 p x.cps.size false) N (Says x.cps r.cps.toList sp p)) (hlen : x.cps.size ≤ 1000) (hr : r.cps.size ≤ 2) (hrc : r.cps.contains 92 = false)
    (h : ∀ h' tk t, (∀ b o, s.heap.get? b = some o → h'.get? b = some o) → Q (.str ⟨(sp 0).toArray⟩ t) { s with heap := h', toks := tk }) :
    wpAny (model prog w) A (call (.builtin "re.Pattern.sub") [.ref pa, .str r tr, .str x tx]) Q E s := by
  have hT : s.TypeIs (.ref pa) "re.Pattern" := by obtain ⟨o, _, _, _, _, _, ho, hc, _⟩ := P.at_; exact ⟨o, ho, hc⟩
  refine wpAny_call (codeAny_call_builtin plain_patsub entry_patsub (slot_patsub.check _ _ _ _ _ _ _ _ hT (args_patsub _ _ _) ?_))
  unfold Builtin.«re.Pattern.sub» reSubstitute
  refine wpAny_bind (m := reNamed "re.Pattern.sub" "sub" ["repl", "string", "count"] 2 [.str r tr, .str x tx] []) (wpAny_of_eq (named_sub _ _) ?_)
  dsimp only
  refine wpAny_bind (wpAny_pure ?_)
  refine wpAny_bind (m := specialOf (.str r tr) "__call__") (wpAny_specialOf (typeIs_str _ _ _) str_no_call ?_)
  dsimp only [Option.isSome]
  refine wpAny_bind (m := asStr? (.str r tr)) (wpAny_pure ?_)
  dsimp only
  rw [hrc]
  refine wpAny_bind (m := reWholeTarget (.ref pa) (.str x tx)) (whole_target P ?_)
  refine wpAny_bind (wpAny_newList ?_ (Nat.zero_le _))
  refine wpAny_pure ⟨plainId_quiet plain_subloop _, ?_⟩
  have up : ∀ b o, s.heap.get? b = some o → (s.heap.push { cls := .type "list", data := .seq ([] : List Value).toArray }).get? b = some o := fun b o e => Heap.get?_push_of_some _ e
  exact sub_loop (Q := Q) (E := E) hN hsays hlen hr P (Heap.get?_none_of_le (Nat.le_refl _)) x.cps.size 0 (by omega) [] _ s.toks 0 up ⟨0, Heap.get?_push_size _ rfl⟩ (Nat.le_refl _) (Nat.le_refl _) fun h' tk t k => h h' tk t k
end
end Mine.RX

end

section -- Pl1
namespace Mine.RX

/-- quotedata, on the codes -/
def quoteL (l : List Nat) : List Nat := dotq true (crlf l)

abbrev Row := Nat × List Nat
def rowText (r : Row) : List Nat := List.replicate r.1 46 ++ r.2
def rowsText (rs : List Row) : List Nat := rs.flatMap rowText
def RowOk (r : Row) : Prop := 1 ≤ r.1 ∧ (r.2 = [10] ∨ r.2 = [13] ∨ r.2 = [13, 10])

theorem crlf_dots (k : Nat) (l : List Nat) : crlf (List.replicate k 46 ++ l) = List.replicate k 46 ++ crlf l := by
  induction k with
  | zero => rfl
  | succ k ih => rw [List.replicate_succ, List.cons_append, crlf_plain rfl, ih]; rfl
theorem crlf_end {e r : List Nat} (he : e = [10] ∨ e = [13] ∨ e = [13, 10]) (hr : r.head? ≠ some 10) : crlf (e ++ r) = [13, 10] ++ crlf r := by
  rcases he with rfl | rfl | rfl
  · exact crlf_one rfl fun q => by cases q.1
  · exact crlf_one rfl fun q => hr q.2
  · exact crlf_two
theorem rowsText_head (rs : List Row) (h : ∀ r ∈ rs, RowOk r) : (rowsText rs).head? ≠ some 10 := by
  cases rs with
  | nil => simp [rowsText]
  | cons r rs =>
    have := (h r (.head _)).1
    obtain ⟨d, e⟩ := r
    obtain ⟨d, rfl⟩ : ∃ k, d = k + 1 := ⟨d - 1, by simp at this; omega⟩
    simp [rowsText, rowText, List.replicate_succ]
theorem crlf_rows : ∀ rs : List Row, (∀ r ∈ rs, RowOk r) → crlf (rowsText rs) = rowsText (rs.map fun r => (r.1, [13, 10]))
  | [], _ => rfl
  | r :: rs, h => by
    have hr := h r (.head _)
    have h' : ∀ r ∈ rs, RowOk r := fun q hq => h q (.tail _ hq)
    show crlf ((List.replicate r.1 46 ++ r.2) ++ rowsText rs) = (List.replicate r.1 46 ++ [13, 10]) ++ rowsText (rs.map _)
    rw [List.append_assoc, crlf_dots, crlf_end hr.2 (rowsText_head rs h'), crlf_rows rs h', List.append_assoc]
theorem dotq_false (k : Nat) (l : List Nat) : dotq false (List.replicate k 46 ++ 13 :: 10 :: l) = List.replicate k 46 ++ 13 :: 10 :: dotq true l := by
  induction k with
  | zero => rfl
  | succ k ih => rw [List.replicate_succ, List.cons_append, dotq, if_neg (by simp)]; show 46 :: dotq false _ = _; rw [ih]; rfl
theorem dotq_rows : ∀ ds : List Nat, (∀ d ∈ ds, 1 ≤ d) → dotq true (rowsText (ds.map fun d => (d, [13, 10]))) = rowsText (ds.map fun d => (d + 1, [13, 10]))
  | [], _ => rfl
  | d :: ds, h => by
    have hd := h d (.head _)
    obtain ⟨k, rfl⟩ : ∃ k, d = k + 1 := ⟨d - 1, by omega⟩
    have ih := dotq_rows ds fun q hq => h q (.tail _ hq)
    show dotq true ((List.replicate (k + 1) 46 ++ [13, 10]) ++ rowsText (ds.map _)) = (List.replicate (k + 1 + 1) 46 ++ [13, 10]) ++ rowsText (ds.map _)
    rw [List.append_assoc, List.replicate_succ, List.cons_append, dotq, if_pos (by rfl)]
    show 46 :: 46 :: dotq false (List.replicate k 46 ++ 13 :: 10 :: rowsText (ds.map fun d => (d, [13, 10]))) = _
    rw [dotq_false, ih, List.replicate_succ, List.replicate_succ]
    simp
theorem quote_rows (rs : List Row) (h : ∀ r ∈ rs, RowOk r) : quoteL (rowsText rs) = rowsText (rs.map fun r => (r.1 + 1, [13, 10])) := by
  unfold quoteL
  rw [crlf_rows rs h]
  have e : (rs.map fun r => ((r.1, [13, 10]) : Row)) = (rs.map (·.1)).map fun d => (d, [13, 10]) := by rw [List.map_map]; rfl
  rw [e, dotq_rows _ fun d hd => ?_]
  · rw [List.map_map]; rfl
  · obtain ⟨r, hr, rfl⟩ := List.mem_map.mp hd
    exact (h r hr).1

def ending (n : Int) : List Nat := if n % 3 = 0 then [10] else if n % 3 = 1 then [13] else [13, 10]
def mailStep (text : List Nat) (k : Nat) (n : Int) : List Nat := (if n > 0 then quoteL text ++ List.replicate (k + 1) 46 else text ++ [46]) ++ ending n
def mailTo (ns : List Int) : Nat → List Nat
  | 0 => []
  | i + 1 => mailStep (mailTo ns i) i (ns.getD i 0)
def mailRows (ns : List Int) : Nat → List Row
  | 0 => []
  | i + 1 => if ns.getD i 0 > 0 then (mailRows ns i).map (fun r => (r.1 + 1, [13, 10])) ++ [(i + 1, ending (ns.getD i 0))] else mailRows ns i ++ [(1, ending (ns.getD i 0))]
theorem ending_ok (n : Int) : ending n = [10] ∨ ending n = [13] ∨ ending n = [13, 10] := by
  unfold ending
  split
  · exact .inl rfl
  · split
    · exact .inr (.inl rfl)
    · exact .inr (.inr rfl)
theorem mailRows_ok (ns : List Int) : ∀ i, ∀ r ∈ mailRows ns i, RowOk r ∧ r.1 ≤ i
  | 0, r, h => by cases h
  | i + 1, r, h => by
    have ih := mailRows_ok ns i
    rw [mailRows] at h
    split at h
    · rcases List.mem_append.mp h with h | h
      · obtain ⟨q, hq, rfl⟩ := List.mem_map.mp h
        have := ih q hq
        exact ⟨⟨by show 1 ≤ q.1 + 1; omega, .inr (.inr rfl)⟩, by show q.1 + 1 ≤ i + 1; omega⟩
      · rw [List.mem_singleton.mp h]
        exact ⟨⟨by show 1 ≤ i + 1; omega, ending_ok _⟩, Nat.le_refl _⟩
    · rcases List.mem_append.mp h with h | h
      · have := ih r h
        exact ⟨this.1, by omega⟩
      · rw [List.mem_singleton.mp h]
        exact ⟨⟨Nat.le_refl _, ending_ok _⟩, by show 1 ≤ i + 1; omega⟩
theorem mailRows_len (ns : List Int) : ∀ i, (mailRows ns i).length = i
  | 0 => rfl
  | i + 1 => by
    rw [mailRows]
    split
    · simp [mailRows_len ns i]
    · simp [mailRows_len ns i]
theorem rowsText_append (a b : List Row) : rowsText (a ++ b) = rowsText a ++ rowsText b := by simp [rowsText]
theorem mail_rows (ns : List Int) : ∀ i, mailTo ns i = rowsText (mailRows ns i)
  | 0 => rfl
  | i + 1 => by
    rw [mailTo, mailStep, mailRows, mail_rows ns i]
    split
    · rw [quote_rows _ fun r hr => (mailRows_ok ns i r hr).1, rowsText_append, List.append_assoc]
      congr 1
      simp [rowsText, rowText]
    · rw [rowsText_append, List.append_assoc]
      congr 1
      simp [rowsText, rowText]
theorem rowsText_len {k : Nat} : ∀ rs : List Row, (∀ r ∈ rs, RowOk r ∧ r.1 ≤ k) → (rowsText rs).length ≤ rs.length * (k + 2)
  | [], _ => Nat.zero_le _
  | r :: rs, h => by
    have ih := rowsText_len rs fun q hq => h q (.tail _ hq)
    have hr := h r (.head _)
    show ((List.replicate r.1 46 ++ r.2) ++ rowsText rs).length ≤ _
    have he : r.2.length ≤ 2 := by rcases hr.1.2 with e | e | e <;> rw [e] <;> decide
    rw [List.length_append, List.length_append, List.length_replicate, List.length_cons, Nat.succ_mul]
    omega
theorem mail_len {ns : List Int} {i : Nat} (hi : i ≤ 6) : (mailTo ns i).length ≤ 48 := by
  rw [mail_rows]
  have h := rowsText_len (mailRows ns i) (mailRows_ok ns i)
  rw [mailRows_len] at h
  refine Nat.le_trans h ?_
  have : i * (i + 2) ≤ 6 * 8 := Nat.mul_le_mul hi (by omega)
  omega
end Mine.RX

end

section -- Loop1
open PySem PySem.W PySem.Calls PyProof.Rows
set_option maxRecDepth 100000
namespace Mine
section
variable {prog : Program} {w : World} {A : Around} {E : Value → Shared → Prop} {s : Shared} {env : Env} {h₀ : Heap} {x : Str} {body : List Stmt} {Q : Flow → Shared → Prop}

/-- a loop over a range, its word said of the turn's number, the frame's map and the ledger (its addresses stay) -/
theorem iter_rangeN {r : Addr} {a₀ b₀ : Int} {t₀ u₀ v₀ : Tok} {n : Nat} {m₀ : Str → Option Value} {news : List (Addr × Obj)} (J : Nat → (Str → Option Value) → List (Addr × Obj) → Prop)
    (hh : A.handled = none) (hr : IsRange s.heap r a₀ b₀ 1 t₀ u₀ v₀) (hb : b₀ = a₀ + (n : Int)) (hlo : -1000 ≤ a₀ ∧ a₀ ≤ 1000 ∧ n ≤ 1000) (F : Fr h₀ env.locals s.heap m₀) (N : News h₀ env.locals s.heap news) (hj : J 0 m₀ news)
    (turn : ∀ i t m₁ nx h tk own, i < n → nx.map (·.1) = news.map (·.1) → OwnOff own (news.map (·.1)) → J i m₁ nx → Fr h₀ env.locals h (fun y => if y = x then some (.int (a₀ + (i : Nat)) t) else m₁ y) → News h₀ env.locals h (nx ++ own) →
      wpAny (model prog w) A (execs body env) (InvPostN h₀ env.locals (J (i + 1)) own (news.map (·.1)) { s with heap := h, toks := tk } Q) E { s with heap := h, toks := tk })
    (done : ∀ m₁ nx h tk, J n m₁ nx → Fr h₀ env.locals h m₁ → News h₀ env.locals h nx → Q .next { s with heap := h, toks := tk }) :
    wpAny (model prog w) A (pyIter (.ref r)) (fun it s₂ => LoopAtV prog w A h₀ env x body Q E it s₂) E s := by
  have hsmall : Builtin.Range.small a₀ b₀ 1 = true := small_one (by omega) (by omega) (by omega) (by omega)
  have hn : Builtin.Range.rangeSize a₀ b₀ 1 = (n : Int) := by rw [rangeSize_nat]; omega
  refine wpAny_pyIter_range hr hsmall ?_
  have W : Walks prog w A s.heap.objs.size [s.heap.objs.size] [s.heap.objs.size] n (fun i v => i < n ∧ ∃ t, v = .int (a₀ + i * 1) t)
      (fun i h => IsRangeIter h s.heap.objs.size (a₀ + (i : Nat) * 1) ((n : Int) - (i : Nat)) 1) := (Walks.range hh _ a₀ 1 n).bound
  refine loop_invN J W ?_ ?_ ?_ ?_ (by show IsRangeIter _ _ _ _ _; rw [hn]; simpa using Heap.get?_push_size _ rfl) (F.push _) (fun p hp => ⟨Heap.get?_push_of_some _ (N p hp).1, (N p hp).2⟩) hj ?_ ?_
  · intro hm
    exact absurd F.ns.lt ((List.mem_singleton.mp hm) ▸ Nat.lt_irrefl _)
  · intro b hb
    rw [List.mem_singleton.mp hb]
    exact next_is_new F
  · intro p hp hI
    exact absurd (Heap.lt_size (N p hp).1) ((List.mem_singleton.mp hI) ▸ Nat.lt_irrefl _)
  · intro p hp hI
    exact absurd (Heap.lt_size (N p hp).1) ((List.mem_singleton.mp hI) ▸ Nat.lt_irrefl _)
  · rintro i v m₁ nx h tk own hi ⟨_, t, rfl⟩ hadr hoff hJ F' N'
    rw [Int.mul_one] at F'
    exact turn i t m₁ nx h tk own hi hadr hoff hJ F' N'
  · exact done

/-- one name of the frame is turned, the ledger stays -/
theorem iter_range1 {α : Type} (mk : α → Tok → Value) {r : Addr} {a₀ b₀ : Int} {t₀ u₀ v₀ : Tok} {n : Nat} {m₀ : Str → Option Value} {news : List (Addr × Obj)} (y : Str) (g : Nat → α)
    (hh : A.handled = none) (hr : IsRange s.heap r a₀ b₀ 1 t₀ u₀ v₀) (hb : b₀ = a₀ + (n : Int)) (hlo : -1000 ≤ a₀ ∧ a₀ ≤ 1000 ∧ n ≤ 1000) (F : Fr h₀ env.locals s.heap m₀) (N : News h₀ env.locals s.heap news) (hy : ∃ t, m₀ y = some (mk (g 0) t)) (hyx : y ≠ x)
    (turn : ∀ i t ta h tk own, i < n → OwnOff own (news.map (·.1)) → Fr h₀ env.locals h (fun z => if z = x then some (.int (a₀ + (i : Nat)) t) else if z = y then some (mk (g i) ta) else m₀ z) → News h₀ env.locals h (news ++ own) →
      wpAny (model prog w) A (execs body env) (InvPostN h₀ env.locals (fun m' nx => nx = news ∧ (∃ t', m' y = some (mk (g (i + 1)) t')) ∧ ∀ z, z ≠ x → z ≠ y → m' z = m₀ z) own (news.map (·.1)) { s with heap := h, toks := tk } Q) E { s with heap := h, toks := tk })
    (done : ∀ (u : Str → Option Value) t h tk, Fr h₀ env.locals h (fun z => if z = x then u z else if z = y then some (mk (g n) t) else m₀ z) → News h₀ env.locals h news → Q .next { s with heap := h, toks := tk }) :
    wpAny (model prog w) A (pyIter (.ref r)) (fun it s₂ => LoopAtV prog w A h₀ env x body Q E it s₂) E s := by
  refine iter_rangeN (fun i m nx => nx = news ∧ (∃ t, m y = some (mk (g i) t)) ∧ ∀ z, z ≠ x → z ≠ y → m z = m₀ z) hh hr hb hlo F N ⟨rfl, hy, fun _ _ _ => rfl⟩ ?_ ?_
  · rintro i t m₁ nx h tk own hi _ hoff ⟨rfl, ⟨ta, ha⟩, hm⟩ F₁ N₁
    rw [map_one ha hm] at F₁
    exact turn i t ta h tk own hi hoff F₁ N₁
  · rintro m₁ nx h tk ⟨rfl, ⟨t, ha⟩, hm⟩ F₁ N₁
    refine done m₁ t h tk ?_ N₁
    have e : (fun z => if z = x then m₁ z else if z = y then some (mk (g n) t) else m₀ z) = m₁ := by
      funext z
      by_cases h1 : z = x
      · simp [h1]
      · simp only [if_neg h1]
        by_cases h2 : z = y
        · subst h2; simp [ha]
        · simp only [if_neg h2]; exact (hm z h1 h2).symm
    rw [e]; exact F₁

/-- a contract of the def at f: what comes back, and the ledger behind it; dS and uS are the room that it asks -/
abbrev Spec (prog : Program) (w : World) (K : Frag) (p : Program) (loose : List Str) (mean : ExcName → Option Value) (mg mb : Str → Option Value) (dS uS : Nat) (f : Addr) (news : List (Addr × Obj)) (pre : Prop) (vs : List Value) (R : Value → List (Addr × Obj) → Prop) : Prop :=
  ∀ (dp un : Nat) (gd : Option (List Code)) (cn : Str) (cs : Scope) (a : Addr) (ccd : Value) (cl : List (Str × Addr)) (outer : List Env) (A₀ : Around) (base h₀ : Heap) (L : Addr) (m : Str → Option Value) (s : Shared) (Q E : Value → Shared → Prop),
    Below A₀ base outer h₀ → Fr h₀ L s.heap m → K.In h₀ → News h₀ L s.heap news → Top p loose mean mg mb h₀ → cs.kind = .function → pre → dp + dS < recursionLimit → un + uS < cLine →
    (∀ v nw h' tk', R v nw → Fr h₀ L h' m → News h₀ L h' nw → Q v { s with heap := h', toks := tk' }) →
    wpAny (model prog w) (ktrTop dp un gd cn cs L a ccd cl outer) (call (.ref f) vs) Q E s

theorem spec_use {K : Frag} {p : Program} {loose : List Str} {mean : ExcName → Option Value} {mg mb : Str → Option Value} {dS uS : Nat} {f : Addr} {news : List (Addr × Obj)} {pre : Prop} {vs : List Value} {R : Value → List (Addr × Obj) → Prop}
    {dp un : Nat} {gd : Option (List Code)} {cn : Str} {cs : Scope} {a : Addr} {ccd : Value} {cl : List (Str × Addr)} {outer : List Env} {A₀ : Around} {base h₀ : Heap} {L : Addr} {m : Str → Option Value} {s : Shared} {Q E : Value → Shared → Prop}
    (C : Spec prog w K p loose mean mg mb dS uS f news pre vs R) (B : Below A₀ base outer h₀) (F : Fr h₀ L s.heap m) (X : K.In h₀) (N : News h₀ L s.heap news) (T : Top p loose mean mg mb h₀) (hk : cs.kind = .function) (hp : pre)
    (hd : dp + dS < recursionLimit) (hu : un + uS < cLine) (ret : ∀ v nw h' tk', R v nw → Fr h₀ L h' m → News h₀ L h' nw → Q v { s with heap := h', toks := tk' }) :
    wpAny (model prog w) (ktrTop dp un gd cn cs L a ccd cl outer) (call (.ref f) vs) Q E s := C _ _ _ _ _ _ _ _ _ _ _ _ _ _ _ _ _ B F X N T hk hp hd hu ret
end
end Mine

end

section -- Q2
open PySem PySem.W PyProof.Rows
set_option maxRecDepth 100000
set_option maxHeartbeats 8000000
namespace Mine.RX
theorem pat1_at {P : Params} {h : Heap} (X : (hd.heap_39 P).In h) : PatAt h 85 c1 :=
  ⟨_, _, 84, _, _, _, X 85 _ rfl, rfl, rfl, rfl, rfl, rfl, rfl, X 84 _ rfl, rfl, by decide +kernel⟩
theorem pat2_at {P : Params} {h : Heap} (X : (hd.heap_39 P).In h) : PatAt h 90 c2 :=
  ⟨_, _, 89, _, _, _, X 90 _ rfl, rfl, rfl, rfl, rfl, rfl, rfl, X 89 _ rfl, rfl, by decide +kernel⟩
def quote (x : Str) : Str := ⟨(quoteL x.cps.toList).toArray⟩
theorem crlf_len : ∀ l : List Nat, (crlf l).length ≤ 2 * l.length
  | [] => by simp [crlf]
  | [c] => by rw [crlf]; split <;> simp
  | c :: d :: r => by
    rw [crlf]
    have h1 := crlf_len r
    have h2 := crlf_len (d :: r)
    simp only [List.length_cons] at h2 ⊢
    split
    · simp only [List.length_cons]; omega
    · split <;> simp only [List.length_cons] <;> omega
section
variable {prog : Program} {w : World} {A : Around} {E : Value → Shared → Prop} {s : Shared}
theorem call_sub1 {P : Params} {h₀ : Heap} {L : Addr} {m : Str → Option Value} {news : List (Addr × Obj)} {x : Str} {tx tr : Tok} {Q : Value → Shared → Prop} (X : (hd.heap_39 P).In h₀) (F : Fr h₀ L s.heap m) (N : News h₀ L s.heap news) (hlen : x.cps.size ≤ 1000)
    (h : ∀ h' tk t, Fr h₀ L h' m → News h₀ L h' news → Q (.str ⟨(dotq true x.cps.toList).toArray⟩ t) { s with heap := h', toks := tk }) :
    wpAny (model prog w) A (call (.builtin "re.Pattern.sub") [.ref 85, .str (Str.ofString "..") tr, .str x tx]) Q E s :=
  call_sub (r := Str.ofString "..") (N := 6 * x.cps.size + 6) (pat1_at (X.keeps F.keep)) (by omega) (fun p hp => says1 hp) hlen (by decide) (by decide +kernel) fun h' tk t k => by
    show Q (.str ⟨(dotq (bol x.cps 0) (x.cps.toList.drop 0)).toArray⟩ t) _
    exact h h' tk t (F.keeps k) (N.grown k)
theorem call_sub2 {P : Params} {h₀ : Heap} {L : Addr} {m : Str → Option Value} {news : List (Addr × Obj)} {x : Str} {tx tr : Tok} {Q : Value → Shared → Prop} (X : (hd.heap_39 P).In h₀) (F : Fr h₀ L s.heap m) (N : News h₀ L s.heap news) (hlen : x.cps.size ≤ 1000)
    (h : ∀ h' tk t, Fr h₀ L h' m → News h₀ L h' news → Q (.str ⟨(crlf x.cps.toList).toArray⟩ t) { s with heap := h', toks := tk }) :
    wpAny (model prog w) A (call (.builtin "re.Pattern.sub") [.ref 90, .str (Str.ofString "\r\n") tr, .str x tx]) Q E s :=
  call_sub (r := Str.ofString "\r\n") (N := 41) (sp := fun p => crlf (x.cps.toList.drop p)) (pat2_at (X.keeps F.keep)) (by omega) (fun p hp => says2 hp) hlen (by decide) (by decide +kernel) fun h' tk t k => by
    show Q (.str ⟨(crlf (x.cps.toList.drop 0)).toArray⟩ t) _
    exact h h' tk t (F.keeps k) (N.grown k)
theorem method1 {P : Params} {h₀ : Heap} {L : Addr} {m : Str → Option Value} {pl : Sem Bool} {Q : Value × List Value → Shared → Prop} (X : (hd.heap_39 P).In h₀) (F : Fr h₀ L s.heap m) (h : Q (.builtin "re.Pattern.sub", [.ref 85]) s) :
    wpAny (model prog w) A (getMethod (.ref 85) (Str.ofString "sub") pl) Q E s := getMethod_patsub ((X.keeps F.keep) 85 _ rfl) rfl rfl h
theorem method2 {P : Params} {h₀ : Heap} {L : Addr} {m : Str → Option Value} {pl : Sem Bool} {Q : Value × List Value → Shared → Prop} (X : (hd.heap_39 P).In h₀) (F : Fr h₀ L s.heap m) (h : Q (.builtin "re.Pattern.sub", [.ref 90]) s) :
    wpAny (model prog w) A (getMethod (.ref 90) (Str.ofString "sub") pl) Q E s := getMethod_patsub ((X.keeps F.keep) 90 _ rfl) rfl rfl h
end
local macro_rules | `(tactic| walk_at "getMethod ref") => `(tactic| (k_here; first | (with_unfolding_all refine' method1 ?k1 ?k2 ?_; (case k1 => k_asm); (case k2 => k_asm); k_whole) | (with_unfolding_all refine' method2 ?k1 ?k2 ?_; (case k1 => k_asm); (case k2 => k_asm); k_whole)))
local macro_rules | `(tactic| walk_at "call builtin:re.Pattern.sub") => `(tactic| (k_here; first
  | (with_unfolding_all refine' call_sub1 ?k1 ?k2 ?k3 ?k4 ?_; (case k1 => k_asm); (case k2 => k_asm); (case k3 => k_asm); (case k4 => assumption); k_whole)
  | (with_unfolding_all refine' call_sub2 ?k1 ?k2 ?k3 ?k4 ?_; (case k1 => k_asm); (case k2 => k_asm); (case k3 => k_asm); (case k4 => assumption); k_whole)); intro h' tk' t' F' N')
theorem quote_spec (w : World) (p : Program) (loose : List Str) (mean : ExcName → Option Value) (mg mb : Str → Option Value) (news : List (Addr × Obj)) (x : Str) (tx : Tok) :
    Spec PySem.Challenge.rw_wn0006_01.row.prog w (hd.heap_39 w.params) p loose mean mg mb 1 8 97 news (x.cps.size ≤ 400) [.str x tx] (fun v nw => nw = news ∧ ∃ t, v = .str (quote x) t) := by
  k_fill
  dsimp only [Spec]; intros; rename_i hret
  have hx1 : x.cps.size ≤ 1000 := by omega
  have hx2 : (⟨(crlf x.cps.toList).toArray⟩ : Str).cps.size ≤ 1000 := by
    have := crlf_len x.cps.toList
    simp only [Array.length_toList] at this
    show (crlf x.cps.toList).toArray.size ≤ 1000
    rw [List.size_toArray]; omega
  refine wpAny_call ?_
  k_dflt cell_enter
  w_strict k_steps
  exact hret _ _ _ _ ⟨rfl, _, rfl⟩ (by assumption) (by assumption)
end Mine.RX

end

section -- M1
open PySem PySem.W PySem.Calls PyProof.Rows
set_option maxRecDepth 100000
set_option maxHeartbeats 8000000
namespace Mine
open RX
local macro_rules | `(tactic| walk_at "no such step") => `(tactic| fail)
local macro_rules | `(tactic| walk_at "call ref") => `(tactic| (k_here; (with_unfolding_all refine' spec_use (quote_spec _ _ _ _ _ _ _ _ _) ?k1 ?k2 ?k3 ?k4 ?k5 ?k6 ?k7 ?k8 ?k9 ?_; (case k1 => k_asm); (case k2 => k_asm); (case k3 => k_asm); (case k4 => k_asm); (case k5 => k_asm); (case k6 => first | exact rfl | assumption); (case k7 => assumption); (case k8 => ktr_room); (case k9 => ktr_units)); intro v9 nw9 h9 tk9 hR9 F9 N9; obtain ⟨e9, t9, e9'⟩ := hR9; subst e9; subst e9'; (try dsimp only)))
section
variable {prog : Program} {w : World} {A : Around} {E : Value → Shared → Prop} {s : Shared}
theorem ending_item (n : Int) (a b c : Tok) : ∃ t, [Value.str (Str.ofString "\n") a, Value.str (Str.ofString "\r") b, Value.str (Str.ofString "\r\n") c][(Int.fmod n 3).toNat]? = some (.str ⟨(ending n).toArray⟩ t) := by
  have e1 : Str.ofString "\n" = ⟨#[10]⟩ := by decide +kernel
  have e2 : Str.ofString "\r" = ⟨#[13]⟩ := by decide +kernel
  have e3 : Str.ofString "\r\n" = ⟨#[13, 10]⟩ := by decide +kernel
  rw [e1, e2, e3, Int.fmod_eq_emod_of_nonneg n (by decide)]
  unfold ending
  have h : n % 3 = 0 ∨ n % 3 = 1 ∨ n % 3 = 2 := by omega
  rcases h with h | h | h
  · rw [h]; exact ⟨a, rfl⟩
  · rw [h]; exact ⟨b, rfl⟩
  · rw [h]; exact ⟨c, rfl⟩
theorem menu_end {value slice : PySem.Expr} {l : Addr} {a b c u : Tok} {n : Int} {Q : Value → Shared → Prop} (hl : s.heap.IsList l [Value.str (Str.ofString "\n") a, Value.str (Str.ofString "\r") b, Value.str (Str.ofString "\r\n") c].toArray)
    (h : ∀ t, Q (.str ⟨(ending n).toArray⟩ t) s)
    (hs : subscripted slice false (.ref l) (.int (Int.fmod n 3) u) = operate [.ref l, .int (Int.fmod n 3) u] (getItem (.ref l) (.int (Int.fmod n 3) u)) := by with_unfolding_all rfl) :
    wpAny (model prog w) A (subscriptTail value slice (.ref l) (.int (Int.fmod n 3) u)) Q E s := by
  obtain ⟨t, ht⟩ := ending_item n a b c
  exact tail_any hl.typeIs slot_list_getitem.lookup (wpAny_getItem_list hl (fmod_lo _ (by decide)) (Int.lt_trans (fmod_hi _ (by decide)) (by decide)) (by simpa using ht) (h t)) hs
end
theorem dotq_len : ∀ (b : Bool) (l : List Nat), (dotq b l).length ≤ 2 * l.length
  | _, [] => Nat.zero_le _
  | b, c :: r => by
    rw [dotq]
    have h1 := dotq_len false r
    have h2 := dotq_len (c == 10) r
    split <;> simp only [List.length_cons] <;> omega
theorem quote_mail_len {ns : List Int} {i : Nat} (hi : i ≤ 6) : (quote ⟨(mailTo ns i).toArray⟩).length ≤ 200 := by
  have h1 := mail_len (ns := ns) hi
  have h2 := crlf_len (mailTo ns i)
  have h3 := dotq_len true (crlf (mailTo ns i))
  show (dotq true (crlf (mailTo ns i))).toArray.size ≤ 200
  rw [List.size_toArray]; omega
theorem ending_len (n : Int) : (⟨(ending n).toArray⟩ : Str).length ≤ 2 := by
  show (ending n).toArray.size ≤ 2
  rw [List.size_toArray]
  rcases ending_ok n with h | h | h <;> rw [h] <;> decide
theorem foldl_dots (k : Nat) : ∀ acc : Array Nat, (List.replicate k (#[46] : Array Nat)).foldl (· ++ ·) acc = acc ++ (List.replicate k 46).toArray := by
  induction k with
  | zero => intro acc; simp
  | succ k ih =>
    intro acc
    rw [List.replicate_succ, List.foldl_cons, ih, List.replicate_succ]
    apply Array.toList_inj.mp
    simp
theorem dots_mul (i : Nat) : Txt.mul (Str.ofString ".") (0 + (i : Nat) + 1) = ⟨(List.replicate (i + 1) 46).toArray⟩ := by
  have e : Str.ofString "." = ⟨#[46]⟩ := by decide +kernel
  unfold Txt.mul
  rw [e, if_neg (by omega)]
  split
  · rename_i h
    have hi : i = 0 := by
      rw [Bool.or_eq_true] at h
      rcases h with h | h
      · simp only [beq_iff_eq] at h; omega
      · exact absurd h (by decide)
    subst hi; rfl
  · rw [foldl_dots, show ((0 : Int) + (i : Nat) + 1).toNat = i + 1 by omega]; simp
theorem step_pos {ns : List Int} {i : Nat} (h : 0 < ns.getD (0 + (i : Nat) : Int).toNat 0) :
    (quote ⟨(mailTo ns i).toArray⟩ ++ Txt.mul (Str.ofString ".") (0 + (i : Nat) + 1) ++ ⟨(ending (ns.getD (0 + (i : Nat) : Int).toNat 0)).toArray⟩ : Str) = ⟨(mailTo ns (i + 1)).toArray⟩ := by
  rw [show ((0 : Int) + (i : Nat)).toNat = i by omega] at h ⊢
  rw [dots_mul, mailTo, mailStep, if_pos h]
  show (⟨((quoteL (mailTo ns i)).toArray ++ (List.replicate (i + 1) 46).toArray) ++ (ending (ns.getD i 0)).toArray⟩ : Str) = _
  simp
theorem step_neg {ns : List Int} {i : Nat} (h : ¬ 0 < ns.getD (0 + (i : Nat) : Int).toNat 0) :
    (⟨(mailTo ns i).toArray⟩ ++ Str.ofString "." ++ ⟨(ending (ns.getD (0 + (i : Nat) : Int).toNat 0)).toArray⟩ : Str) = ⟨(mailTo ns (i + 1)).toArray⟩ := by
  have e : Str.ofString "." = ⟨#[46]⟩ := by decide +kernel
  rw [show ((0 : Int) + (i : Nat)).toNat = i by omega] at h ⊢
  rw [e, mailTo, mailStep, if_neg h]
  show (⟨((mailTo ns i).toArray ++ #[46]) ++ (ending (ns.getD i 0)).toArray⟩ : Str) = _
  simp
local macro_rules | `(tactic| walk_at "subscriptTail") => `(tactic| (k_here; (with_reducible show wpAny _ _ (subscriptTail _ _ (Value.ref _) (Value.int (Int.fmod _ 3) _)) _ _ _); (with_unfolding_all refine' menu_end ?k1 ?_ ?k3; (case k1 => is_list); (case k3 => with_unfolding_all rfl); k_whole); intro t9; (try dsimp only)))
theorem mail_spec (w : World) (p : Program) (loose : List Str) (mean : ExcName → Option Value) (mg mb : Str → Option Value) (news : List (Addr × Obj)) (D : Addr) (vs : List Value) (c : Nat) (ns : List Int) :
    Spec PySem.Challenge.rw_wn0006_01.row.prog w (hd.heap_39 w.params) p loose mean mg mb 4 30 109 ((D, listOf vs.toArray c) :: news) (IntsAre vs ns ∧ ns.length ≤ 6) [.ref D] (fun v nw => nw = (D, listOf vs.toArray c) :: news ∧ ∃ t, v = .str ⟨(mailTo ns ns.length).toArray⟩ t) := by
  k_fill
  dsimp only [Spec]; intros; rename_i hpre _ _ hret
  obtain ⟨hI, hn6⟩ := hpre
  refine wpAny_call ?_
  k_dflt cell_enter
  w_strict (repeat' (first | (k_unfold; (try dsimp only)) | ((fail_if_success (with_reducible show wpAny _ _ (pyIter (Value.ref _)) _ _ _)); walk1)))
  refine iter_range1 (n := ns.length) (fun (l : List Nat) t => Value.str ⟨l.toArray⟩ t) (Str.ofString "text") (mailTo ns) rfl (by assumption) (by omega) (by omega) (by assumption) (by assumption) ⟨_, rfl⟩ (by decide) ?turn ?done
  case turn =>
    intro i t ta h tk own hi hoff F9 N9
    have hlen : (⟨(mailTo ns i).toArray⟩ : Str).cps.size ≤ 400 := by
      have := mail_len (ns := ns) (i := i) (by omega)
      simp only [List.size_toArray]; omega
    have h1 : (quote ⟨(mailTo ns i).toArray⟩).length ≤ 200 := quote_mail_len (by omega)
    have h2 : (Txt.mul (Str.ofString ".") (0 + (i : Nat) + 1)).length ≤ 10 := by rw [dots_mul, Str.length]; simp only [List.size_toArray, List.length_replicate]; omega
    have h3 : (quote ⟨(mailTo ns i).toArray⟩ ++ Txt.mul (Str.ofString ".") (0 + (i : Nat) + 1)).length ≤ 210 := by rw [Str.length_append]; omega
    have h4 : (⟨(ending (ns.getD (0 + (i : Nat) : Int).toNat 0)).toArray⟩ : Str).length ≤ 2 := ending_len _
    have h5 : (⟨(mailTo ns i).toArray⟩ : Str).length ≤ 48 := by
      have := mail_len (ns := ns) (i := i) (by omega)
      simp only [Str.length, List.size_toArray]; omega
    have h6 : (Str.ofString ".").length ≤ 1 := by decide +kernel
    have h7 : ((⟨(mailTo ns i).toArray⟩ : Str) ++ Str.ofString ".").length ≤ 49 := by rw [Str.length_append]; omega
    w_strict k_steps
    all_goals refine InvEndN.intro (by assumption) (by assumption) ⟨rfl, ?_, ?_⟩ rfl ?_ ?_
    all_goals first
      | exact ⟨_, congrArg (fun x => some (Value.str x _)) (step_pos (by assumption))⟩
      | exact ⟨_, congrArg (fun x => some (Value.str x _)) (step_neg (by assumption))⟩
      | (intro z z1 z2; simp only [if_neg z1, if_neg z2] <;> rfl)
      | (intro p hp; exact List.mem_cons_of_mem _ (List.mem_append_left _ hp))
      | (intro p hp; exact List.mem_cons_of_mem _ (List.mem_append_right _ hp))
  case done =>
    intro u t h tk F9 N9
    w_strict k_steps
    exact hret _ _ _ _ ⟨rfl, _, rfl⟩ (by assumption) (by assumption)
end Mine

end

section -- A1
open PySem PySem.W PySem.Calls PyProof.Rows
set_option maxRecDepth 100000
set_option maxHeartbeats 8000000
namespace Mine
def apL (n : Nat) : List Nat := if h : n = 0 then [] else apL (n / 16) ++ [65 + n % 16]
termination_by n
decreasing_by omega
def toB (l : List Nat) : Array UInt8 := (l.map UInt8.ofNat).toArray
theorem while_map {m₁ m₀ : Str → Option Value} {u v : Value} (h1 : m₁ (Str.ofString "num") = some u) (h2 : m₁ (Str.ofString "val") = some v) (h3 : ∀ z, z ≠ Str.ofString "num" → z ≠ Str.ofString "val" → z ≠ Str.ofString "mod" → m₁ z = m₀ z) :
    m₁ = fun z => if z = Str.ofString "num" then some u else if z = Str.ofString "val" then some v else if z = Str.ofString "mod" then m₁ (Str.ofString "mod") else m₀ z := by
  funext z
  by_cases e1 : z = Str.ofString "num"
  · subst e1; simp [h1]
  · by_cases e2 : z = Str.ofString "val"
    · subst e2; simp [h2, e1]
    · by_cases e3 : z = Str.ofString "mod"
      · subst e3; simp [e1, e2]
      · simp [e1, e2, e3, h3 z e1 e2 e3]

section
variable {prog : Program} {w : World} {A : Around} {E : Value → Shared → Prop} {Q : Flow → Shared → Prop} {s : Shared} {env : Env} {h₀ : Heap} {L : Addr}
def ApJ (news : List (Addr × Obj)) (m₀ : Str → Option Value) (N : Nat) (n : Nat) (m : Str → Option Value) (nw : List (Addr × Obj)) : Prop :=
  nw = news ∧ n ≤ N ∧ ∃ l : List Nat, apL n ++ l = apL N ∧ (∃ t, m (Str.ofString "num") = some (.int (n : Nat) t)) ∧ (∃ t, m (Str.ofString "val") = some (.bytes (toB l) t)) ∧ ∀ z, z ≠ Str.ofString "num" → z ≠ Str.ofString "val" → z ≠ Str.ofString "mod" → m z = m₀ z
theorem while_ap {test : PySem.Expr} {body : List Stmt} {pos : Pos} {m₀ : Str → Option Value} {news : List (Addr × Obj)} {N : Nat} (F : Fr h₀ L s.heap m₀) (N' : News h₀ L s.heap news)
    (hy1 : ∃ t, m₀ (Str.ofString "num") = some (.int (N : Nat) t)) (hy2 : ∃ t, m₀ (Str.ofString "val") = some (.bytes (toB []) t))
    (turn : ∀ n l t t' u h tk, n ≤ N → apL n ++ l = apL N → Fr h₀ L h (fun z => if z = Str.ofString "num" then some (.int (n : Nat) t) else if z = Str.ofString "val" then some (.bytes (toB l) t') else if z = Str.ofString "mod" then u else m₀ z) → News h₀ L h news →
      wpAny (model prog w) A (isTrue test env (eval test env)) (fun b s₂ => if b = true then wpAny (model prog w) A (execs body env) (WhileStep h₀ L s (ApJ news m₀ N) n) E s₂ else Q .next s₂) E { s with heap := h, toks := tk })
    (hE : PassesOwn (model prog w) A env E := by passes_own) :
    wpAny (model prog w) A (exec (.While test body [] pos) env) Q E s := by
  refine While_inv (ApJ news m₀ N) (n₀ := N) F N' ⟨rfl, Nat.le_refl _, [], by simp, hy1, hy2, fun _ _ _ _ => rfl⟩ ?_ hE
  rintro n m₁ nw h tk F₁ N₁ ⟨rfl, hn, l, hl, ⟨t, h1⟩, ⟨t', h2⟩, h3⟩
  rw [while_map h1 h2 h3] at F₁
  exact turn n l t t' _ h tk hn hl F₁ N₁
end
theorem pick_ap (n : Nat) : KBy.picked #[65, 66, 67, 68, 69, 70, 71, 72, 73, 74, 75, 76, 77, 78, 79, 80] (some (Int.fmod (n : Int) 16)) (some (Int.fmod (n : Int) 16 + 1)) = toB [65 + n % 16] := by
  have e : Int.fmod (n : Int) 16 = ((n % 16 : Nat) : Int) := by rw [Int.fmod_eq_emod_of_nonneg _ (by decide)]; omega
  rw [e, KBc.picked_eq]
  generalize h : n % 16 = k
  have hk : k < 16 := by omega
  have all : ∀ k : Nat, k < 16 → ((#[65, 66, 67, 68, 69, 70, 71, 72, 73, 74, 75, 76, 77, 78, 79, 80] : Array UInt8).toList.drop (clipAt 16 (k : Int))).take (clipAt 16 ((k : Int) + 1) - clipAt 16 (k : Int)) = [UInt8.ofNat (65 + k)] := by decide +kernel
  show (List.take _ (List.drop _ _)).toArray = _
  exact congrArg List.toArray (all k hk)
theorem apL_len : ∀ (k n : Nat), n < 16 ^ k → (apL n).length ≤ k
  | 0, n, h => by
    have : n = 0 := by simp at h; exact h
    subst this; rw [apL]; simp
  | k + 1, n, h => by
    rw [apL]
    split
    · exact Nat.zero_le _
    · rw [List.length_append]
      have := apL_len k (n / 16) (by rw [Nat.pow_succ] at h; omega)
      simp only [List.length_cons, List.length_nil]; omega
theorem apL_step {n : Nat} (h : n ≠ 0) : apL n = apL (n / 16) ++ [65 + n % 16] := by rw [apL, dif_neg h]
theorem toB_append (a b : List Nat) : toB (a ++ b) = toB a ++ toB b := by simp [toB]
local macro_rules | `(tactic| walk_at "subscriptTail") => `(tactic| (k_here; (with_reducible show wpAny _ _ (subscriptTail _ (Expr.Slice _ _ none _) (Value.bytes _ _) (Value.ref _)) _ _ _); (with_reducible rename Fr _ _ _ _ => F'); (with_reducible rename News _ _ _ _ => N'); (refine KBc.slice_K (s := ⟨_, _, _, _, _⟩) F' N' (rfl : KBw.bInts #[65, 66, 67, 68, 69, 70, 71, 72, 73, 74, 75, 76, 77, 78, 79, 80] = _) (by constructor) (by constructor) (by decide) ?_); intro h9 t9 k9 F9 N9 kbcK))
theorem ap_spec (w : World) (p : Program) (loose : List Str) (mean : ExcName → Option Value) (mg mb : Str → Option Value) (news : List (Addr × Obj)) (N : Nat) (tx : Tok) :
    Spec PySem.Challenge.rw_wn0006_01.row.prog w (hd.heap_39 w.params) p loose mean mg mb 1 20 38 news (N < 16 ^ 20) [.int (N : Nat) tx] (fun v nw => nw = news ∧ ∃ t, v = .bytes (toB (apL N)) t) := by
  k_fill
  dsimp only [Spec]; intros; rename_i hret
  refine wpAny_call ?_
  k_dflt cell_enter
  w_strict (repeat' (first | (k_unfold; (try dsimp only)) | ((fail_if_success (with_reducible show wpAny _ _ (exec (Stmt.While _ _ _ _) _) _ _ _)); walk1)))
  refine while_ap (N := N) (by assumption) (by assumption) ?e1 ⟨_, rfl⟩ ?turn
  case e1 => exact ⟨_, congrArg (fun x => some (Value.int x _)) (if_neg (by omega))⟩
  case turn =>
    intro n l t t' u h tk hn hl F9 N9
    have hl20 : l.length ≤ 20 := by
      have h1 := apL_len 20 N (by assumption)
      rw [← hl, List.length_append] at h1; omega
    w_strict k_steps
    · refine KBy.add_bytes ?_ ?_
      · rw [pick_ap]; simp only [toB, List.size_toArray, List.length_map, List.length_cons, List.length_nil]; omega
      intro t9 k9
      rw [pick_ap]
      w_strict k_steps
      have hn0 : n ≠ 0 := by omega
      refine WhileStep.intro (n' := n / 16) (by assumption) (cb_drop (by assumption) fun p hp => List.mem_cons_of_mem _ hp) (by omega) ⟨rfl, by omega, [65 + n % 16] ++ l, ?_, ?_, ?_, ?_⟩
      · rw [← hl, apL_step hn0, List.append_assoc]
      · exact ⟨_, congrArg (fun x => some (Value.int x _)) (by rw [Int.fdiv_eq_ediv_of_nonneg _ (by decide)]; omega)⟩
      · exact ⟨_, congrArg (fun x => some (Value.bytes x _)) (toB_append _ _).symm⟩
      · intro z z1 z2 z3; simp only [if_neg z1, if_neg z2, if_neg z3] <;> rfl
    · have hn0 : n = 0 := by
        have : (n : Int) = 0 := by first | assumption | omega
        omega
      subst hn0
      have e : l = apL N := by rw [← hl, apL, dif_pos rfl]; rfl
      rw [e]
      exact hret _ _ _ _ ⟨rfl, _, rfl⟩ (by assumption) (by assumption)
end Mine

end

section -- O1
open PySem PySem.W PySem.Calls PyProof.Rows
set_option maxRecDepth 100000
set_option maxHeartbeats 8000000
namespace Mine
section
variable (w : World) (p : Program) (loose : List Str) (mean : ExcName → Option Value) (mg mb : Str → Option Value) (news : List (Addr × Obj)) (a b : Int) (ta tb : Tok)
theorem gt_spec : Spec PySem.Challenge.rw_wn0006_01.row.prog w (hd.heap_39 w.params) p loose mean mg mb 1 10 45 news True [.int a ta, .int b tb] (fun v nw => nw = news ∧ v = .bool (decide (b < a))) := by
  k_fill
  dsimp only [Spec]; intros; rename_i hret
  refine wpAny_call ?_
  k_dflt cell_enter
  w_strict k_steps
  exact hret _ _ _ _ ⟨rfl, rfl⟩ (by assumption) (by assumption)
theorem add_spec : Spec PySem.Challenge.rw_wn0006_01.row.prog w (hd.heap_39 w.params) p loose mean mg mb 1 10 52 news True [.int a ta, .int b tb] (fun v nw => nw = news ∧ ∃ t, v = .int (a + b) t) := by
  k_fill
  dsimp only [Spec]; intros; rename_i hret
  refine wpAny_call ?_
  k_dflt cell_enter
  w_strict k_steps
  exact hret _ _ _ _ ⟨rfl, _, rfl⟩ (by assumption) (by assumption)
theorem sub_spec : Spec PySem.Challenge.rw_wn0006_01.row.prog w (hd.heap_39 w.params) p loose mean mg mb 1 10 80 news True [.int a ta, .int b tb] (fun v nw => nw = news ∧ ∃ t, v = .int (a - b) t) := by
  k_fill
  dsimp only [Spec]; intros; rename_i hret
  refine wpAny_call ?_
  k_dflt cell_enter
  w_strict k_steps
  exact hret _ _ _ _ ⟨rfl, _, rfl⟩ (by assumption) (by assumption)
local macro_rules | `(tactic| walk_at "no such step") => `(tactic| fail)
local macro_rules | `(tactic| walk_at "no such step") => `(tactic| fail)
local macro_rules | `(tactic| walk_at "no such step") => `(tactic| fail)
local macro_rules | `(tactic| walk_at "no such step") => `(tactic| fail)
local macro_rules | `(tactic| mul_fits) => `(tactic| assumption)
theorem mul_spec : Spec PySem.Challenge.rw_wn0006_01.row.prog w (hd.heap_39 w.params) p loose mean mg mb 1 10 73 news (IntMulOk a b) [.int a ta, .int b tb] (fun v nw => nw = news ∧ ∃ t, v = .int (a * b) t) := by
  k_fill
  dsimp only [Spec]; intros; rename_i hret
  refine wpAny_call ?_
  k_dflt cell_enter
  w_strict k_steps
  exact hret _ _ _ _ ⟨rfl, _, rfl⟩ (by assumption) (by assumption)
theorem no_pylong {x y : Int} (h0 : y ≠ 0) (h : y.natAbs < 2 ^ 400) : Builtin.divisionGoesByPylong x y = false :=
  PyProof.noPylong_of_log2 (Nat.lt_trans ((Nat.log2_lt (by omega)).mpr h) (by decide))
local macro_rules | `(tactic| walk_at "binaryOp FloorDiv int int") => `(tactic| (k_here; (refine floordiv_int (by assumption) ?_ (.inl (by assumption)))))
theorem floordiv_spec : Spec PySem.Challenge.rw_wn0006_01.row.prog w (hd.heap_39 w.params) p loose mean mg mb 1 10 59 news (b ≠ 0 ∧ b.natAbs < 2 ^ 400) [.int a ta, .int b tb] (fun v nw => nw = news ∧ ∃ t, v = .int (Int.fdiv a b) t) := by
  k_fill
  dsimp only [Spec]; intros; rename_i hpre _ _ hret
  have hb := hpre.1
  have hpy := no_pylong (x := a) hpre.1 hpre.2
  clear hpre
  refine wpAny_call ?_
  k_dflt cell_enter
  w_strict k_steps
  exact hret _ _ _ _ ⟨rfl, _, rfl⟩ (by assumption) (by assumption)
theorem lshift_spec : Spec PySem.Challenge.rw_wn0006_01.row.prog w (hd.heap_39 w.params) p loose mean mg mb 1 10 66 news (0 ≤ b ∧ b ≤ 1000 ∧ a = 1) [.int a ta, .int b tb] (fun v nw => nw = news ∧ ∃ t, v = .int (2 ^ b.toNat) t) := by
  k_fill
  dsimp only [Spec]; intros; rename_i hpre _ _ hret
  obtain ⟨h0, h1, rfl⟩ := hpre
  refine wpAny_call ?_
  k_dflt cell_enter
  w_strict k_steps
  exact hret _ _ _ _ ⟨rfl, _, by rw [Int.one_mul]⟩ (by assumption) (by assumption)
end
end Mine

end

section -- D0
open PySem PySem.W PySem.Calls PyProof.Rows
set_option maxRecDepth 100000
namespace Mine

abbrev Mat := List (List Int)
def cell (M : Mat) (i j : Nat) : Int := (M.getD i []).getD j 0
def put (M : Mat) (i j : Nat) (v : Int) : Mat := M.set i ((M.getD i []).set j v)
def bstep (M : Mat) (k i j : Nat) (b : Int) : Mat := put M i j (Int.fdiv (cell M i j * cell M k k - cell M i k * cell M k j) b)
def rowTo (k i : Nat) (b : Int) (M : Mat) : Nat → Mat
  | 0 => M
  | c + 1 => bstep (rowTo k i b M c) k i (k + 1 + c) b
def rowsTo (m k : Nat) (b : Int) (M : Mat) : Nat → Mat
  | 0 => M
  | c + 1 => rowTo k (k + 1 + c) b (rowsTo m k b M c) (m - 1 - k)
def detTo (m : Nat) (M : Mat) : Nat → Mat × Int
  | 0 => (M, 1)
  | k + 1 => (rowsTo m k (detTo m M k).2 (detTo m M k).1 (m - 1 - k), cell (rowsTo m k (detTo m M k).2 (detTo m M k).1 (m - 1 - k)) k k)

/-- m rows of m places -/
def Sq (m : Nat) (M : Mat) : Prop := M.length = m ∧ ∀ i, i < m → (M.getD i []).length = m
theorem Sq.put {m : Nat} {M : Mat} (h : Sq m M) (i j : Nat) (v : Int) : Sq m (put M i j v) := by
  refine ⟨by rw [Mine.put, List.length_set]; exact h.1, fun k hk => ?_⟩
  rw [Mine.put]
  by_cases e : i = k
  · subst e
    rw [List.getD_eq_getElem?_getD, List.getElem?_set_self (by rw [h.1]; exact hk)]
    simp only [Option.getD_some, List.length_set]
    exact h.2 i hk
  · rw [List.getD_eq_getElem?_getD, List.getElem?_set_ne e, ← List.getD_eq_getElem?_getD]
    exact h.2 k hk
theorem Sq.rowTo {m k i : Nat} {b : Int} {M : Mat} (h : Sq m M) : ∀ c, Sq m (rowTo k i b M c)
  | 0 => h
  | c + 1 => (Sq.rowTo h c).put _ _ _
theorem Sq.rowsTo {m k : Nat} {b : Int} {M : Mat} (h : Sq m M) : ∀ c, Sq m (rowsTo m k b M c)
  | 0 => h
  | c + 1 => (Sq.rowsTo h c).rowTo _
theorem Sq.detTo {m : Nat} {M : Mat} (h : Sq m M) : ∀ k, Sq m (detTo m M k).1
  | 0 => h
  | k + 1 => (Sq.detTo h k).rowsTo _

/-- every cell is small -/
def Small (M : Mat) : Prop := ∀ i j, (cell M i j).natAbs < 2 ^ 400
/-- what the walk asks of the run: no pivot is nought, nothing grows beyond the line -/
def Good (m : Nat) (M : Mat) : Prop := ∀ k, k < m - 1 → (detTo m M k).2 ≠ 0 ∧ (detTo m M k).2.natAbs < 2 ^ 400 ∧
  ∀ c, c < m - 1 - k → ∀ c', c' ≤ m - 1 - k → Small (rowTo k (k + 1 + c) (detTo m M k).2 (rowsTo m k (detTo m M k).2 (detTo m M k).1 c) c')

theorem Small.mul {M : Mat} (h : Small M) (i j k l : Nat) : IntMulOk (cell M i j) (cell M k l) :=
  IntMulOk.of_bits (Nat.le_trans (intBits_le (h i j)) (by decide)) (Nat.le_trans (intBits_le (h k l)) (by decide))

/-- the rows' values are M's ints -/
def MatIs (vss : List (List Value)) (M : Mat) : Prop := vss.length = M.length ∧ ∀ i, IntsAre (vss.getD i []) (M.getD i [])
/-- the table at T, its rows at rs -/
def led (T : Addr) (rs : List Addr) (vss : List (List Value)) : List (Addr × Obj) := (T, LCg.lst (rs.map .ref)) :: (rs.zip vss).map fun p => (p.1, LCg.lst p.2)
structure Apart (T : Addr) (rs : List Addr) (rest : List (Addr × Obj)) : Prop where
  nodup : rs.Nodup
  t : T ∉ rs
  off : ∀ p ∈ rest, p.1 ∉ rs
theorem Apart.more {T : Addr} {rs : List Addr} {rest own : List (Addr × Obj)} (h : Apart T rs rest) (ho : ∀ p ∈ own, p.1 ∉ rs) : Apart T rs (rest ++ own) :=
  ⟨h.nodup, h.t, fun p hp => (List.mem_append.mp hp).elim (h.off p) (ho p)⟩
theorem led_fst (T : Addr) {rs : List Addr} {vss : List (List Value)} (h : rs.length ≤ vss.length) : (led T rs vss).map (·.1) = T :: rs := by
  unfold led
  rw [List.map_cons, List.map_map]
  congr 1
  show (rs.zip vss).map Prod.fst = rs
  rw [List.map_fst_zip h]
theorem row_mem {T : Addr} {rs : List Addr} {vss : List (List Value)} {i : Nat} (h1 : i < rs.length) (h2 : i < vss.length) : (rs.getD i 0, LCg.lst (vss.getD i [])) ∈ led T rs vss := by
  refine List.mem_cons_of_mem _ (List.mem_map.mpr ⟨(rs[i], vss[i]), ?_, ?_⟩)
  · refine List.mem_of_getElem? (i := i) ?_
    rw [List.getElem?_zip_eq_some]
    simp [h1, h2]
  · simp [List.getD_eq_getElem?_getD, h1, h2]

theorem upd_rows {rest : List (Addr × Obj)} {v' : List Value} : ∀ (rs : List Addr) (vss : List (List Value)) (i : Nat), i < rs.length → i < vss.length → rs.Nodup → (∀ p ∈ rest, p.1 ∉ rs) →
    Upd (rs.getD i 0) (LCg.lst (vss.getD i [])) (LCg.lst v') ((rs.zip vss).map (fun p => (p.1, LCg.lst p.2)) ++ rest) ((rs.zip (vss.set i v')).map (fun p => (p.1, LCg.lst p.2)) ++ rest)
  | r :: rs, v :: vss, 0, _, _, nd, off => by
    show Upd r (LCg.lst v) (LCg.lst v') ((r, LCg.lst v) :: (_ ++ rest)) ((r, LCg.lst v') :: (_ ++ rest))
    refine .head fun p hp => ?_
    rcases List.mem_append.mp hp with hp | hp
    · obtain ⟨q, hq, rfl⟩ := List.mem_map.mp hp
      exact fun e => (List.nodup_cons.mp nd).1 (e ▸ (List.of_mem_zip hq).1)
    · exact fun e => off p hp (e ▸ List.mem_cons_self)
  | r :: rs, v :: vss, i + 1, h1, h2, nd, off => by
    show Upd (rs.getD i 0) (LCg.lst (vss.getD i [])) (LCg.lst v') ((r, LCg.lst v) :: (_ ++ rest)) ((r, LCg.lst v) :: (_ ++ rest))
    have h1' : i < rs.length := by simpa using h1
    refine .tail (fun e => (List.nodup_cons.mp nd).1 ?_) (upd_rows rs vss i h1' (by simpa using h2) (List.nodup_cons.mp nd).2 fun p hp q => off p hp (List.mem_cons_of_mem _ q))
    have e' : r = rs.getD i 0 := e
    rw [e', List.getD_eq_getElem?_getD, List.getElem?_eq_getElem h1']
    exact List.getElem_mem _
  | [], _, _, h, _, _, _ => absurd h (Nat.not_lt_zero _)
  | _ :: _, [], _, _, h, _, _ => absurd h (Nat.not_lt_zero _)
theorem upd_led {T : Addr} {rest : List (Addr × Obj)} {rs : List Addr} {vss : List (List Value)} {v' : List Value} {i : Nat} (A : Apart T rs rest) (h1 : i < rs.length) (h2 : i < vss.length) :
    Upd (rs.getD i 0) (LCg.lst (vss.getD i [])) (LCg.lst v') (led T rs vss ++ rest) (led T rs (vss.set i v') ++ rest) :=
  .tail (fun e => A.t (by
    have e' : T = rs.getD i 0 := e
    rw [e', List.getD_eq_getElem?_getD, List.getElem?_eq_getElem h1]; exact List.getElem_mem _)) (upd_rows rs vss i h1 h2 A.nodup A.off)

theorem MatIs.set {vss : List (List Value)} {M : Mat} (h : MatIs vss M) {i j : Nat} (x : Int) (u : Tok) : MatIs (vss.set i ((vss.getD i []).set j (.int x u))) (put M i j x) := by
  refine ⟨by rw [List.length_set, put, List.length_set]; exact h.1, fun k => ?_⟩
  by_cases e : i = k
  · subst e
    by_cases hi : i < vss.length
    · have hi' : i < M.length := h.1 ▸ hi
      rw [put, List.getD_eq_getElem?_getD, List.getElem?_set_self hi, List.getD_eq_getElem?_getD (l := M.set _ _), List.getElem?_set_self hi']
      exact ints_set (h.2 i) j
    · rw [put, List.set_eq_of_length_le (by omega), List.set_eq_of_length_le (by have := h.1; omega)]
      exact h.2 i
  · rw [put, List.getD_eq_getElem?_getD, List.getElem?_set_ne e, List.getD_eq_getElem?_getD (l := M.set _ _), List.getElem?_set_ne e, ← List.getD_eq_getElem?_getD, ← List.getD_eq_getElem?_getD]
    exact h.2 k

section
variable {prog : Program} {w : World} {A : Around} {E : Value → Shared → Prop} {s : Shared} {h₀ : Heap} {L T : Addr} {m : Str → Option Value} {rest : List (Addr × Obj)} {rs : List Addr} {vss : List (List Value)} {M : Mat}
theorem getT {value slice : PySem.Expr} {k : Int} {u : Tok} {Q : Value → Shared → Prop} (N : News h₀ L s.heap (led T rs vss ++ rest)) (h0 : 0 ≤ k) (h1 : k < rs.length) (h64 : rs.length < 1000) (h : Q (.ref (rs.getD k.toNat 0)) s)
    (hs : subscripted slice false (.ref T) (.int k u) = operate [.ref T, .int k u] (getItem (.ref T) (.int k u)) := by with_unfolding_all rfl) :
    wpAny (model prog w) A (subscriptTail value slice (.ref T) (.int k u)) Q E s := by
  have hl : s.heap.IsList T (rs.map Value.ref).toArray := ⟨_, (N (T, LCg.lst (rs.map .ref)) (List.mem_append_left _ (.head _))).1, rfl, _, rfl⟩
  refine tail_any hl.typeIs slot_list_getitem.lookup (wpAny_getItem_list hl h0 (by omega) ?_ h) hs
  have hk : k.toNat < rs.length := by omega
  simp [List.getD_eq_getElem?_getD, hk]
theorem getR {value slice : PySem.Expr} {i : Nat} {k : Int} {u : Tok} {Q : Value → Shared → Prop} (N : News h₀ L s.heap (led T rs vss ++ rest)) (hM : MatIs vss M) (hr : rs.length = M.length) (hi : i < rs.length) (h0 : 0 ≤ k) (h1 : k < (M.getD i []).length) (h64 : (M.getD i []).length < 1000)
    (h : ∀ t, Q (.int (cell M i k.toNat) t) s)
    (hs : subscripted slice false (.ref (rs.getD i 0)) (.int k u) = operate [.ref (rs.getD i 0), .int k u] (getItem (.ref (rs.getD i 0)) (.int k u)) := by with_unfolding_all rfl) :
    wpAny (model prog w) A (subscriptTail value slice (.ref (rs.getD i 0)) (.int k u)) Q E s := by
  have hm := row_mem (T := T) hi (vss := vss) (by have := hM.1; omega)
  have hl : s.heap.IsList (rs.getD i 0) (vss.getD i []).toArray := ⟨_, (N _ (List.mem_append_left _ hm)).1, rfl, _, rfl⟩
  exact item_anyK hl (hM.2 i) h0 h1 (by omega) h hs
theorem setR {i : Nat} {k x : Int} {t u : Tok} {Q : Unit → Shared → Prop} (F : Fr h₀ L s.heap m) (N : News h₀ L s.heap (led T rs vss ++ rest)) (hA : Apart T rs rest) (hM : MatIs vss M) (hr : rs.length = M.length) (hi : i < rs.length) (h0 : 0 ≤ k) (h1 : k < (M.getD i []).length) (h64 : (M.getD i []).length < 1000)
    (h : ∀ h' vss', Fr h₀ L h' m → News h₀ L h' (led T rs vss' ++ rest) → MatIs vss' (put M i k.toNat x) → Q () { s with heap := h' }) :
    wpAny (model prog w) A (setItem (.ref (rs.getD i 0)) (.int k t) (.int x u)) Q E s := by
  have hv : i < vss.length := by have := hM.1; omega
  have U := upd_led (v' := (vss.getD i []).set k.toNat (.int x u)) hA hi hv
  have e : LCg.lst ((vss.getD i []).set k.toNat (.int x u)) = listOf ((vss.getD i []).set k.toNat (.int x u)).toArray (vss.getD i []).length := by
    show listOf _ ((vss.getD i []).set k.toNat (.int x u)).length = _
    rw [List.length_set]
  rw [e] at U
  exact ksa_set F N U (hM.2 i) h0 h1 (by omega) fun h' F' N' _ _ _ => h h' _ F' N' (hM.set x u)
end
end Mine

end

section -- D1
open PySem PySem.W PySem.Calls PyProof.Rows
set_option maxRecDepth 100000
namespace Mine
/-- the names of S are forgotten -/
def forget : List Str → (Str → Option Value) → (Str → Option Value) → Str → Option Value
  | [], _, m₀ => m₀
  | y :: S, u, m₀ => fun z => if z = y then u y else forget S u m₀ z
theorem forget_in {m m₀ : Str → Option Value} {z : Str} : ∀ {S : List Str}, z ∈ S → forget S m m₀ z = m z
  | y :: S, h => by
    by_cases e : z = y
    · subst e; simp [forget]
    · simp only [forget, if_neg e]; exact forget_in ((List.mem_cons.mp h).resolve_left e)
theorem forget_out {m m₀ : Str → Option Value} {z : Str} : ∀ {S : List Str}, z ∉ S → forget S m m₀ z = m₀ z
  | [], _ => rfl
  | y :: S, h => by
    have e : z ≠ y := fun q => h (q ▸ List.mem_cons_self)
    simp only [forget, if_neg e]; exact forget_out fun q => h (List.mem_cons_of_mem _ q)
theorem forget_eq {m m₀ : Str → Option Value} {S : List Str} (h : ∀ z, z ∉ S → m z = m₀ z) : m = forget S m m₀ := by
  funext z
  by_cases e : z ∈ S
  · rw [forget_in e]
  · rw [forget_out e, h z e]

section
variable {prog : Program} {w : World} {A : Around} {E : Value → Shared → Prop} {s : Shared} {env : Env} {h₀ : Heap} {x : Str} {body : List Stmt} {Q : Flow → Shared → Prop} {T : Addr} {rest : List (Addr × Obj)} {rs : List Addr}

/-- what a turn leaves: a matrix, and all names but S as they were; V: what is said of the names besides -/
def MatJ (T : Addr) (rs : List Addr) (rest : List (Addr × Obj)) (S : List Str) (m₀ : Str → Option Value) (V : (Str → Option Value) → Prop) (M : Mat) (m : Str → Option Value) (nx : List (Addr × Obj)) : Prop :=
  (∀ z, z ∉ S → m z = m₀ z) ∧ V m ∧ ∃ vss, nx = led T rs vss ++ rest ∧ MatIs vss M

theorem iter_mat {r : Addr} {a₀ b₀ : Int} {t₀ u₀ v₀ : Tok} {n : Nat} {m₀ : Str → Option Value} {vss : List (List Value)} (S : List Str) (V : Nat → (Str → Option Value) → Prop) (M : Nat → Mat)
    (hh : A.handled = none) (hr : IsRange s.heap r a₀ b₀ 1 t₀ u₀ v₀) (hb : b₀ = a₀ + (n : Int)) (hlo : -1000 ≤ a₀ ∧ a₀ ≤ 1000 ∧ n ≤ 1000) (F : Fr h₀ env.locals s.heap m₀) (N : News h₀ env.locals s.heap (led T rs vss ++ rest))
    (hA : Apart T rs rest) (hM : MatIs vss (M 0)) (hV : V 0 m₀) (hl : ∀ i, i ≤ n → (M i).length = rs.length)
    (turn : ∀ i t u h tk own vss, i < n → Apart T rs (rest ++ own) → MatIs vss (M i) → V i u → Fr h₀ env.locals h (fun z => if z = x then some (.int (a₀ + (i : Nat)) t) else forget S u m₀ z) → News h₀ env.locals h (led T rs vss ++ (rest ++ own)) →
      wpAny (model prog w) A (execs body env) (InvPostN h₀ env.locals (MatJ T rs rest S m₀ (V (i + 1)) (M (i + 1))) own (T :: rs ++ rest.map (·.1)) { s with heap := h, toks := tk } Q) E { s with heap := h, toks := tk })
    (done : ∀ u vss h tk, MatIs vss (M n) → V n u → Fr h₀ env.locals h (forget S u m₀) → News h₀ env.locals h (led T rs vss ++ rest) → Q .next { s with heap := h, toks := tk }) :
    wpAny (model prog w) A (pyIter (.ref r)) (fun it s₂ => LoopAtV prog w A h₀ env x body Q E it s₂) E s := by
  have hadr : ∀ {vss : List (List Value)} {i : Nat}, i ≤ n → MatIs vss (M i) → (led T rs vss ++ rest).map (·.1) = T :: rs ++ rest.map (·.1) := fun {vss i} hi hM => by
    rw [List.map_append, led_fst T (by have := hM.1; have := hl i hi; omega)]
  refine iter_rangeN (fun i => MatJ T rs rest S m₀ (V i) (M i)) hh hr hb hlo F N ⟨fun _ _ => rfl, hV, vss, rfl, hM⟩ ?_ ?_
  · rintro i t m₁ nx h tk own hi _ hoff ⟨hm, hv, vss', rfl, hM'⟩ F₁ N₁
    rw [hadr (Nat.zero_le _) hM] at hoff ⊢
    rw [List.append_assoc] at N₁
    have e : (fun z => if z = x then some (Value.int (a₀ + (i : Nat)) t) else m₁ z) = fun z => if z = x then some (Value.int (a₀ + (i : Nat)) t) else forget S m₁ m₀ z := by
      rw [← forget_eq hm]
    rw [e] at F₁
    exact turn i t m₁ h tk own vss' hi (hA.more fun p hp q => hoff p hp p.1 (List.mem_append_left _ (List.mem_cons_of_mem _ q)) rfl) hM' hv F₁ N₁
  · rintro m₁ nx h tk ⟨hm, hv, vss', rfl, hM'⟩ F₁ N₁
    refine done m₁ vss' h tk hM' hv ?_ N₁
    rw [← forget_eq hm]; exact F₁

theorem mat_end {L : Addr} {S : List Str} {m₀ m' : Str → Option Value} {V : (Str → Option Value) → Prop} {M : Mat} {vss : List (List Value)} {own news' : List (Addr × Obj)} {h' : Heap} {tk : Nat} {s₁ : Shared} (F : Fr h₀ L h' m') (N : News h₀ L h' news') (hM : MatIs vss M) (hl : M.length = rs.length)
    (sub : ∀ p ∈ led T rs vss ++ (rest ++ own), p ∈ news') (hm : ∀ z, z ∉ S → m' z = m₀ z) (hV : V m') : InvEndN h₀ L (MatJ T rs rest S m₀ V M) own (T :: rs ++ rest.map (·.1)) s₁ { s₁ with heap := h', toks := tk } :=
  InvEndN.intro F N ⟨hm, hV, vss, rfl, hM⟩ (by rw [List.map_append, led_fst T (by have := hM.1; omega)])
    (fun p hp => sub p (by rw [← List.append_assoc]; exact List.mem_append_left _ hp)) fun p hp => sub p (List.mem_append_right _ (List.mem_append_right _ hp))
theorem getS {L : Addr} {vss : List (List Value)} {m : Nat} {M : Mat} {value slice : PySem.Expr} {i : Nat} {k : Int} {u : Tok} {Q : Value → Shared → Prop} (N : News h₀ L s.heap (led T rs vss ++ rest)) (hM : MatIs vss M) (hS : Sq m M) (hr : rs.length = m) (h10 : m ≤ 10) (hi : i < m) (h0 : 0 ≤ k) (h1 : k < m)
    (h : ∀ t, Q (.int (cell M i k.toNat) t) s)
    (hs : subscripted slice false (.ref (rs.getD i 0)) (.int k u) = operate [.ref (rs.getD i 0), .int k u] (getItem (.ref (rs.getD i 0)) (.int k u)) := by with_unfolding_all rfl) :
    wpAny (model prog w) A (subscriptTail value slice (.ref (rs.getD i 0)) (.int k u)) Q E s :=
  getR N hM (by rw [hr, hS.1]) (by omega) h0 (by rw [hS.2 i hi]; omega) (by rw [hS.2 i hi]; omega) h hs
theorem setS {L : Addr} {vss : List (List Value)} {mm : Str → Option Value} {m : Nat} {M : Mat} {i : Nat} {k x : Int} {t u : Tok} {Q : Unit → Shared → Prop} (F : Fr h₀ L s.heap mm) (N : News h₀ L s.heap (led T rs vss ++ rest)) (hA : Apart T rs rest) (hM : MatIs vss M) (hS : Sq m M) (hr : rs.length = m) (h10 : m ≤ 10) (hi : i < m) (h0 : 0 ≤ k) (h1 : k < m)
    (h : ∀ h' vss', Fr h₀ L h' mm → News h₀ L h' (led T rs vss' ++ rest) → MatIs vss' (put M i k.toNat x) → Q () { s with heap := h' }) :
    wpAny (model prog w) A (setItem (.ref (rs.getD i 0)) (.int k t) (.int x u)) Q E s :=
  setR F N hA hM (by rw [hr, hS.1]) (by omega) h0 (by rw [hS.2 i hi]; omega) (by rw [hS.2 i hi]; omega) h
theorem getT1 {L : Addr} {vss : List (List Value)} {value slice : PySem.Expr} {u : Tok} {Q : Value → Shared → Prop} (N : News h₀ L s.heap (led T rs vss ++ rest)) (h0 : 0 < rs.length) (h64 : rs.length < 1000) (h : Q (.ref (rs.getD (rs.length - 1) 0)) s)
    (hs : subscripted slice false (.ref T) (.int (-1) u) = operate [.ref T, .int (-1) u] (getItem (.ref T) (.int (-1) u)) := by with_unfolding_all rfl) :
    wpAny (model prog w) A (subscriptTail value slice (.ref T) (.int (-1) u)) Q E s := by
  have hl : s.heap.IsList T (rs.map Value.ref).toArray := ⟨_, (N (T, LCg.lst (rs.map .ref)) (List.mem_append_left _ (.head _))).1, rfl, _, rfl⟩
  have e : (rs.map Value.ref).toArray.size = rs.length := by simp
  refine tail_any hl.typeIs slot_list_getitem.lookup (wpAny_getItem_list_neg hl (by decide) (by omega) (by decide) ?_ h) hs
  have hk : ((-1 : Int) + ((rs.map Value.ref).toArray.size : Nat)).toNat = rs.length - 1 := by omega
  rw [hk]
  have hk : rs.length - 1 < rs.length := by omega
  simp [List.getD_eq_getElem?_getD, hk]
theorem getS1 {L : Addr} {vss : List (List Value)} {m : Nat} {M : Mat} {value slice : PySem.Expr} {i : Nat} {u : Tok} {Q : Value → Shared → Prop} (N : News h₀ L s.heap (led T rs vss ++ rest)) (hM : MatIs vss M) (hS : Sq m M) (hr : rs.length = m) (h10 : m ≤ 10) (hi : i < m)
    (h : ∀ t, Q (.int (cell M i (m - 1)) t) s)
    (hs : subscripted slice false (.ref (rs.getD i 0)) (.int (-1) u) = operate [.ref (rs.getD i 0), .int (-1) u] (getItem (.ref (rs.getD i 0)) (.int (-1) u)) := by with_unfolding_all rfl) :
    wpAny (model prog w) A (subscriptTail value slice (.ref (rs.getD i 0)) (.int (-1) u)) Q E s := by
  have hm := row_mem (T := T) (rs := rs) (i := i) (by omega) (vss := vss) (by have := hM.1; have := hS.1; omega)
  have hl : s.heap.IsList (rs.getD i 0) (vss.getD i []).toArray := ⟨_, (N _ (List.mem_append_left _ hm)).1, rfl, _, rfl⟩
  have hlen := (hM.2 i).length
  rw [hS.2 i hi] at hlen
  have e : (vss.getD i []).toArray.size = m := by rw [List.size_toArray, hlen]
  have hx : (M.getD i [])[m - 1]? = some (cell M i (m - 1)) := by
    unfold cell
    rw [List.getD_eq_getElem?_getD (l := M.getD i []), List.getElem?_eq_getElem (by rw [hS.2 i hi]; omega)]; rfl
  obtain ⟨t, ht⟩ := (hM.2 i).get (m - 1) _ hx
  refine tail_any hl.typeIs slot_list_getitem.lookup (wpAny_getItem_list_neg hl (by decide) (by omega) (by decide) ?_ (h t)) hs
  rw [e, show ((-1 : Int) + (m : Nat)).toNat = m - 1 by omega]
  simpa using ht
theorem lenT {L : Addr} {vss : List (List Value)} {Q : Value → Shared → Prop} (N : News h₀ L s.heap (led T rs vss ++ rest)) (h64 : rs.length < 1000) (h : Q (.int (rs.length : Nat) (s.toks + 1)) { s with toks := s.toks + 1 + 1 }) :
    wpAny (model prog w) A (call (.builtin "len") [.ref T]) Q E s := by
  have hl : s.heap.IsList T (rs.map Value.ref).toArray := ⟨_, (N (T, LCg.lst (rs.map .ref)) (List.mem_append_left _ (.head _))).1, rfl, _, rfl⟩
  have e : (rs.map Value.ref).toArray.size = rs.length := by simp
  refine Calls.call_len_list hl (by omega) ?_
  rw [e]; exact h
end
end Mine

end

section -- D2
open PySem PySem.W PySem.Calls PyProof.Rows
set_option maxRecDepth 100000
set_option maxHeartbeats 8000000
namespace Mine
local macro_rules | `(tactic| walk_at "call builtin:len") => `(tactic| (k_here; (with_reducible show wpAny _ _ (call (Value.builtin _) [Value.ref _]) _ _ _); (with_unfolding_all refine' lenT ?k1 ?k2 ?_; (case k1 => assumption); (case k2 => omega))))
local macro_rules | `(tactic| walk_at "subscriptTail") => `(tactic| (k_here; (with_reducible show wpAny _ _ (subscriptTail _ _ (Value.ref _) (Value.int _ _)) _ _ _); first
  | (with_reducible refine' getS ?k1 ?k2 ?k3 ?k4 ?k5 ?k6 ?k7 ?k8 ?_ ?k9; (case k1 => assumption); (case k2 => assumption); (case k3 => assumption); (case k4 => assumption); (case k5 => assumption); (case k6 => omega); (case k7 => omega); (case k8 => omega); (case k9 => with_unfolding_all rfl); intro t9)
  | (with_reducible refine' getS1 ?k1 ?k2 ?k3 ?k4 ?k5 ?k6 ?_ ?k9; (case k1 => assumption); (case k2 => assumption); (case k3 => assumption); (case k4 => assumption); (case k5 => assumption); (case k6 => omega); (case k9 => with_unfolding_all rfl); intro t9)
  | (with_reducible refine' getT1 ?k1 ?k2 ?k3 ?_ ?k5; (case k1 => assumption); (case k2 => omega); (case k3 => omega); (case k5 => with_unfolding_all rfl))
  | (with_reducible refine' getT ?k1 ?k2 ?k3 ?k4 ?_ ?k5; (case k1 => assumption); (case k2 => omega); (case k3 => omega); (case k4 => omega); (case k5 => with_unfolding_all rfl))))
local macro_rules | `(tactic| walk_at "setItem ref int") => `(tactic| (k_here; (with_reducible show wpAny _ _ (setItem (Value.ref _) (Value.int _ _) (Value.int _ _)) _ _ _); (with_reducible refine' setS ?k0 ?k1 ?ka ?k2 ?k3 ?k4 ?k5 ?k6 ?k7 ?k8 ?_; (case k0 => assumption); (case k1 => assumption); (case ka => assumption); (case k2 => assumption); (case k3 => assumption); (case k4 => assumption); (case k5 => assumption); (case k6 => omega); (case k7 => omega); (case k8 => omega)); intro h9 vss9 F9 N9 M9))
local macro_rules | `(tactic| walk_at "call ref") => `(tactic| (k_here; (first
  | (with_unfolding_all refine' spec_use (mul_spec _ _ _ _ _ _ _ _ _ _ _) ?k1 ?k2 ?k3 ?k4 ?k5 ?k6 ?k7 ?k8 ?k9 ?_; (case k1 => k_asm); (case k2 => k_asm); (case k3 => k_asm); (case k4 => k_asm); (case k5 => k_asm); (case k6 => first | exact rfl | assumption); (case k7 => exact Small.mul (by assumption) _ _ _ _); (case k8 => ktr_room); (case k9 => ktr_units))
  | (with_unfolding_all refine' spec_use (sub_spec _ _ _ _ _ _ _ _ _ _ _) ?k1 ?k2 ?k3 ?k4 ?k5 ?k6 ?k7 ?k8 ?k9 ?_; (case k1 => k_asm); (case k2 => k_asm); (case k3 => k_asm); (case k4 => k_asm); (case k5 => k_asm); (case k6 => first | exact rfl | assumption); (case k7 => trivial); (case k8 => ktr_room); (case k9 => ktr_units))
  | (with_unfolding_all refine' spec_use (floordiv_spec _ _ _ _ _ _ _ _ _ _ _) ?k1 ?k2 ?k3 ?k4 ?k5 ?k6 ?k7 ?k8 ?k9 ?_; (case k1 => k_asm); (case k2 => k_asm); (case k3 => k_asm); (case k4 => k_asm); (case k5 => k_asm); (case k6 => first | exact rfl | assumption); (case k7 => assumption); (case k8 => ktr_room); (case k9 => ktr_units))); intro v9 nw9 h9 tk9 hR9 F9 N9; obtain ⟨e9, t9, e9'⟩ := hR9; subst e9; subst e9'; (try dsimp only)))
theorem det_spec (w : World) (p : Program) (loose : List Str) (mean : ExcName → Option Value) (mg mb : Str → Option Value) (T : Addr) (rs : List Addr) (vss : List (List Value)) (rest : List (Addr × Obj)) (M : Mat) (m : Nat) :
    Spec PySem.Challenge.rw_wn0006_01.row.prog w (hd.heap_39 w.params) p loose mean mg mb 4 40 116 (led T rs vss ++ rest) (Apart T rs rest ∧ MatIs vss M ∧ Sq m M ∧ rs.length = m ∧ 2 ≤ m ∧ m ≤ 10 ∧ Good m M) [.ref T]
      (fun v nw => nw = rest ∧ ∃ t, v = .int (cell (detTo m M (m - 1)).1 (m - 1) (m - 1)) t) := by
  k_fill
  dsimp only [Spec]; intros; rename_i hpre _ _ hret
  obtain ⟨hA, hM, hS, hrm, hm2, hm10, hG⟩ := hpre
  refine wpAny_call ?_
  k_dflt cell_enter
  w_strict (repeat' (first | (k_unfold; (try dsimp only)) | ((fail_if_success (with_reducible show wpAny _ _ (pyIter (Value.ref _)) _ _ _)); walk1)))
  refine iter_mat (T := T) (rs := rs) (rest := rest) (n := m - 1) [Str.ofString "k", Str.ofString "i", Str.ofString "j", Str.ofString "crossed", Str.ofString "before"] (fun k u => ∃ t, u (Str.ofString "before") = some (.int (detTo m M k).2 t)) (fun k => (detTo m M k).1)
    rfl (by assumption) (by omega) (by omega) (by assumption) (by assumption) hA hM ⟨_, rfl⟩ (fun i _ => by rw [(hS.detTo i).1, hrm]) ?turn ?done
  case turn =>
    intro k t u h tk own vss1 hk hA1 hM1 hV1 F1 N1
    obtain ⟨tb, hb⟩ := hV1
    obtain ⟨hb0, hb4, hG1⟩ := hG k hk
    have hS1 := hS.detTo k
    simp only [forget, hb] at F1
    generalize hbe : (detTo m M k).2 = b at *
    generalize hMe : (detTo m M k).1 = Mk at *
    clear hM
    w_strict (repeat' (first | (k_unfold; (try dsimp only)) | ((fail_if_success (with_reducible show wpAny _ _ (pyIter (Value.ref _)) _ _ _)); walk1)))
    refine iter_mat (T := T) (rs := rs) (rest := rest ++ own) (n := m - 1 - k) [Str.ofString "i", Str.ofString "j", Str.ofString "crossed"] (fun _ _ => True) (fun c => rowsTo m k b Mk c)
      rfl (by assumption) (by omega) (by omega) (by assumption) (by assumption) hA1 hM1 trivial (fun i _ => by rw [(hS1.rowsTo i).1, hrm]) ?turn2 ?done2
    case turn2 =>
      intro c t2 u2 h2 tk2 own2 vss2 hc hA2 hM2 _ F2 N2
      have hS2 : Sq m (rowsTo m k b Mk c) := hS1.rowsTo c
      have hG2 := hG1 c hc
      simp only [forget] at F2
      w_strict (repeat' (first | (k_unfold; (try dsimp only)) | ((fail_if_success (with_reducible show wpAny _ _ (pyIter (Value.ref _)) _ _ _)); walk1)))
      refine iter_mat (T := T) (rs := rs) (rest := rest ++ own ++ own2) (n := m - 1 - k) [Str.ofString "j", Str.ofString "crossed"] (fun _ _ => True) (fun c' => rowTo k (k + 1 + c) b (rowsTo m k b Mk c) c')
        rfl (by assumption) (by omega) (by omega) (by assumption) (by assumption) hA2 hM2 trivial (fun i _ => by rw [(hS2.rowTo i).1, hrm]) ?turn3 ?done3
      case turn3 =>
        intro c' t3 u3 h3 tk3 own3 vss3 hc' hA3 hM3 _ F3 N3
        have hS3 : Sq m (rowTo k (k + 1 + c) b (rowsTo m k b Mk c) c') := hS2.rowTo c'
        have hG3 := hG2 c' (by omega)
        have hbb : b ≠ 0 ∧ b.natAbs < 2 ^ 400 := ⟨hb0, hb4⟩
        simp only [forget] at F3
        generalize hMx : rowTo k (k + 1 + c) b (rowsTo m k b Mk c) c' = Mx at *
        have key : rowTo k (k + 1 + c) b (rowsTo m k b Mk c) (c' + 1) = put Mx (0 + (k : Int) + 1 + (c : Int)).toNat (0 + (k : Int) + 1 + (c' : Int)).toNat
            (Int.fdiv (cell Mx (0 + (k : Int) + 1 + (c : Int)).toNat (0 + (k : Int) + 1 + (c' : Int)).toNat * cell Mx (0 + (k : Int)).toNat (0 + (k : Int)).toNat - cell Mx (0 + (k : Int) + 1 + (c : Int)).toNat (0 + (k : Int)).toNat * cell Mx (0 + (k : Int)).toNat (0 + (k : Int) + 1 + (c' : Int)).toNat) b) := by
          rw [show (0 + (k : Int) + 1 + (c : Int)).toNat = k + 1 + c by omega, show (0 + (k : Int) + 1 + (c' : Int)).toNat = k + 1 + c' by omega, show (0 + (k : Int)).toNat = k by omega, ← hMx]
          rfl
        w_strict k_steps
        rw [key]
        refine mat_end (by assumption) (by assumption) (by assumption) (by rw [(hS3.put _ _ _).1, hrm]) (fun p hp => hp) ?_ trivial
        intro z hz
        simp only [List.mem_cons, List.not_mem_nil, or_false, not_or] at hz
        simp only [if_neg hz.1, if_neg hz.2] <;> rfl
      case done3 =>
        intro u3 vss3 h3 tk3 hM3 _ F3 N3
        simp only [forget] at F3
        w_strict k_steps
        refine mat_end (M := rowsTo m k b Mk (c + 1)) (by assumption) (by assumption) hM3 (by rw [(hS1.rowsTo (c + 1)).1, hrm]) (fun p hp => hp) ?_ trivial
        intro z hz
        simp only [List.mem_cons, List.not_mem_nil, or_false, not_or] at hz
        simp only [if_neg hz.1, if_neg hz.2.1, if_neg hz.2.2] <;> rfl
    case done2 =>
      intro u2 vss2 h2 tk2 hM2 _ F2 N2
      have hS2 : Sq m (rowsTo m k b Mk (m - 1 - k)) := hS1.rowsTo _
      simp only [forget] at F2
      w_strict k_steps
      refine mat_end (M := (detTo m M (k + 1)).1) (by assumption) (by assumption) (by show MatIs _ (rowsTo m k (detTo m M k).2 (detTo m M k).1 (m - 1 - k)); rw [hbe, hMe]; exact hM2) (by rw [(hS.detTo (k + 1)).1, hrm]) (fun p hp => hp) ?_ ?_
      · intro z hz
        simp only [List.mem_cons, List.not_mem_nil, or_false, not_or] at hz
        simp only [if_neg hz.1, if_neg hz.2.1, if_neg hz.2.2.1, if_neg hz.2.2.2.1, if_neg hz.2.2.2.2] <;> rfl
      · refine ⟨_, congrArg (fun x => some (Value.int x _)) ?_⟩
        show cell _ (0 + (k : Int)).toNat (0 + (k : Int)).toNat = cell (rowsTo m k (detTo m M k).2 (detTo m M k).1 (m - 1 - k)) k k
        rw [hbe, hMe, show (0 + (k : Int)).toNat = k by omega]
  case done =>
    intro u1 vss1 h1 tk1 hM1 hV1 F1 N1
    obtain ⟨tb, hb⟩ := hV1
    have hS1 := hS.detTo (m - 1)
    simp only [forget, hb] at F1
    w_strict k_steps
    rw [hrm]
    exact hret _ _ _ _ ⟨rfl, _, rfl⟩ (by assumption) (cb_drop (by assumption) fun p hp => List.mem_append_right _ hp)
end Mine

end

section -- N1
open PySem PySem.W PySem.Calls PyProof.Rows
set_option maxRecDepth 100000
set_option maxHeartbeats 8000000
namespace Mine
def draw (x : Int) : Int := (x + 1000001).fmod 2000003 - 1000001
def key (x : Int) : Int := if 0 < x then 2 * (if x < 0 then -x else x) else 2 * (if x < 0 then -x else x) + 1
def drawn (ns : List Int) : List Int := (ns.take 4).map draw ++ [-2, 3]
def NumsOf (ns ns' : List Int) : Prop := ns'.Perm (drawn ns) ∧ ns'.Pairwise (fun x y => key x ≤ key y)
local macro_rules | `(tactic| k_all) => `(tactic| assumption)
local macro_rules | `(tactic| k_room) => `(tactic| ktr_room)
theorem NumsOf.len {ns ns' : List Int} (h : NumsOf ns ns') : 2 ≤ ns'.length ∧ ns'.length ≤ 6 := by
  have e := h.1.length_eq
  simp only [drawn, List.length_append, List.length_map, List.length_take, List.length_cons, List.length_nil] at e
  omega
theorem num_spec (w : World) (p : Program) (loose : List Str) (mean : ExcName → Option Value) (mg mb : Str → Option Value) (news : List (Addr × Obj)) (l : Addr) (vs : List Value) (ns : List Int) :
    ∀ (dp un : Nat) (gd : Option (List Code)) (cn : Str) (cs : Scope) (a : Addr) (ccd : Value) (cl : List (Str × Addr)) (outer : List Env) (A₀ : Around) (base h₀ : Heap) (L : Addr) (m : Str → Option Value) (s : Shared) (Q E : Value → Shared → Prop),
    Below A₀ base outer h₀ → Fr h₀ L s.heap m → (hd.heap_39 w.params).In h₀ → News h₀ L s.heap ((99, tabObj #[]) :: news) → Top p loose mean mg mb h₀ → cs.kind = .function → base.IsList l vs.toArray → IntsAre vs ns → ns.length ≤ 63 → CodeHd base 101 99 → (∀ p ∈ news, p.1 ≠ 99) →
    dp + 4 < recursionLimit → un + 40 < cLine →
    (∀ D vs' ns' c ps h' tk', Fr h₀ L h' m → News h₀ L h' ((D, listOf (List.toArray vs') c) :: (99, tabObj ps) :: news) → IntsAre vs' ns' → NumsOf ns ns' → (∀ q ∈ (99, tabObj #[]) :: news, q.1 < D) → Q (.ref D) { s with heap := h', toks := tk' }) →
    wpAny (model PySem.Challenge.rw_wn0006_01.row.prog w) (ktrTop dp un gd cn cs L a ccd cl outer) (call (.ref 102) [.ref l]) Q E s := by
  k_fill
  intros; rename_i hlist hI h63 hcode hoff _ _ hret
  refine wpAny_call ?_
  k_dflt cell_enter
  w_strict (repeat' (first | (k_unfold; (try dsimp only)) | ((fail_if_success (with_reducible show wpAny _ _ (call (Value.builtin "sorted") _ _) _ _ _)); walk1)))
  (ksk_show; (with_unfolding_all refine' ksk_letter key ?k1 ?k2 ?k3 ?k4 ?k5 ?a1 ?a2 ?a3 (fun n' t' h' tk' own' hm' F' N' => ?turn) (fun D' v' n' c' h' tk' F' N' l1 i' e' p' o' b' => ?done); (case k1 => k_asm); (case k2 => k_asm); (case k3 => kso_list); (case k4 => l_ints); (case k5 => kso_len); (case a1 => ksk_a1); (case a2 => (intro x'; ksk_a2)); (case a3 => (intro x'; ksk_a3))))
  case turn =>
    simp only [List.nil_append, List.cons_append, List.append_nil] at N'
    w_strict k_steps
    · have e : key n' = _ := if_pos (by assumption)
      rw [e]
      exact KskEnd.intro (by assumption) (by assumption) (fun p hp => hp)
    · have e : key n' = _ := if_neg (by assumption)
      rw [e]
      exact KskEnd.intro (by assumption) (by assumption) (fun p hp => hp)
  case done =>
    simp only [Bool.false_eq_true, if_false, if_true] at o'
    w_strict k_steps
    refine hret D' v' n' c' ?ps h' tk' (by assumption) (cb_drop (by assumption) (List.forall_mem_cons.mpr ⟨by k_mem, List.forall_mem_cons.mpr ⟨by k_mem, ?_⟩⟩)) i' ⟨?_, o'⟩ ?_
    · intro p hp
      repeat' first | exact hp | apply List.mem_cons_of_mem
    · exact p'
    · try dsimp only at l1
      intro q hq
      rcases List.mem_cons.mp hq with rfl | hq
      · have h9 : @LT.lt Nat _ 99 D' := l1 (99, _) (by k_mem)
        exact h9
      · refine l1 q ?_
        repeat' first | exact hq | apply List.mem_cons_of_mem

theorem num_use {w : World} {p : Program} {loose : List Str} {mean : ExcName → Option Value} {mg mb : Str → Option Value} {nw : List (Addr × Obj)} {g : Obj → List (Addr × Obj)} {l : Addr} {vs : List Value} {ns : List Int}
    {dp un : Nat} {gd : Option (List Code)} {cn : Str} {cs : Scope} {a : Addr} {ccd : Value} {cl : List (Str × Addr)} {outer : List Env} {A₀ : Around} {base h₀ : Heap} {L : Addr} {m : Str → Option Value} {s : Shared} {Q E : Value → Shared → Prop}
    (B : Below A₀ base outer h₀) (F : Fr h₀ L s.heap m) (X : (hd.heap_39 w.params).In h₀) (N : News h₀ L s.heap nw) (U : UpdF 99 (tabObj #[]) nw g) (T : Top p loose mean mg mb h₀) (hk : cs.kind = .function) (hl : base.IsList l vs.toArray) (hI : IntsAre vs ns) (h63 : ns.length ≤ 63) (hc : CodeHd base 101 99)
    (hd : dp + 4 < recursionLimit) (hu : un + 40 < cLine)
    (ret : ∀ D vs' ns' c ps h' tk', Fr h₀ L h' m → News h₀ L h' ((D, listOf (List.toArray vs') c) :: g (tabObj ps)) → IntsAre vs' ns' → NumsOf ns ns' → (∀ q ∈ nw, q.1 < D) → Q (.ref D) { s with heap := h', toks := tk' }) :
    wpAny (model PySem.Challenge.rw_wn0006_01.row.prog w) (ktrTop dp un gd cn cs L a ccd cl outer) (call (.ref 102) [.ref l]) Q E s := by
  obtain ⟨pre, post, rfl, hg, h1, h2⟩ := U.split
  have perm : ∀ (o : Obj) (p : Addr × Obj), p ∈ pre ++ (99, o) :: post ↔ p ∈ (99, o) :: (pre ++ post) := fun o p => by
    simp only [List.mem_append, List.mem_cons]
    constructor <;> rintro (h | h | h) <;> simp [h]
  refine num_spec w p loose mean mg mb (pre ++ post) l vs ns dp un gd cn cs a ccd cl outer A₀ base h₀ L m s Q E B F X (cb_drop N fun p hp => (perm _ p).mpr hp) T hk hl hI h63 hc (fun p hp => ?_) hd hu fun D vs' ns' c ps h' tk' F' N' i' n' l' => ret D vs' ns' c ps h' tk' F' (cb_drop N' fun p hp => ?_) i' n' fun q hq => l' q ((perm _ q).mp hq)
  · exact (List.mem_append.mp hp).elim (h1 p) (h2 p)
  · rw [hg] at hp
    rcases List.mem_cons.mp hp with rfl | hp
    · exact .head _
    · exact .tail _ ((perm _ p).mp hp)
end Mine

end

section -- CC
open PySem PySem.W PySem.Calls PyProof.Rows
set_option maxRecDepth 100000
namespace Mine
open LCg (lst NsObj)

/-- none of the ledger stands at these places -/
def Off (as : List Addr) (news : List (Addr × Obj)) : Prop := ∀ p ∈ news, p.1 ∉ as

section
variable {prog : Program} {w : World} {A : Around} {E : Value → Shared → Prop} {s : Shared} {h₀ : Heap} {L : Addr} {m : Str → Option Value} {env : Env}

/-- the turn's own objects: the range's iterator, the block's names, what is made, the cell of the turn's name -/
abbrev turnOwn (I : Addr) (oI : Obj) (C : Addr) (oC : Obj) (D : Addr) (ys : List Value) (X : Addr) (oX : Obj) (news : List (Addr × Obj)) : List (Addr × Obj) := (I, oI) :: (C, oC) :: (D, lst ys) :: (X, oX) :: news

/-- what an element leaves -/
def EltEnd (h₀ : Heap) (L : Addr) (m : Str → Option Value) (s₁ : Shared) (I : Addr) (oI : Obj) (C : Addr) (oC : Obj) (D : Addr) (ys : List Value) (X : Addr) (oX : Obj) (J : List Value → List (Addr × Obj) → Prop) (y : Value) (s₂ : Shared) : Prop :=
  ∃ h' tk news', s₂ = { s₁ with heap := h', toks := tk } ∧ Fr h₀ L h' m ∧ News h₀ L h' (turnOwn I oI C oC D ys X oX news') ∧ Off [I, C, D, X] news' ∧ J (ys ++ [y]) news'
theorem EltEnd.intro {s₁ : Shared} {I C D X : Addr} {oI oC oX : Obj} {ys : List Value} {J : List Value → List (Addr × Obj) → Prop} {y : Value} {h' : Heap} {tk : Nat} {all : List (Addr × Obj)} (F : Fr h₀ L h' m) (N : News h₀ L h' all) (news' : List (Addr × Obj))
    (sub : ∀ p ∈ turnOwn I oI C oC D ys X oX news', p ∈ all) (off : Off [I, C, D, X] news') (j : J (ys ++ [y]) news') : EltEnd h₀ L m s₁ I oI C oC D ys X oX J y { s₁ with heap := h', toks := tk } :=
  ⟨h', tk, news', rfl, F, fun p hp => N p (sub p hp), off, j⟩

theorem storeCell {x : Str} {v : Value} {X : Addr} {oX : Obj} {v₀ : Option Value} {e : Env} {Q : Unit → Shared → Prop} (hk : e.scope.kind = .function) (hl : e.kindOf x = some .cell) (hc : e.cells.lookup x = some X) (ho : s.heap.get? X = some oX) (hd : oX.data = .cell v₀)
    (h : ∀ h' oX', h'.get? X = some oX' → oX'.data = .cell (some v) → Heap.SameBut X s.heap h' → Q () { s with heap := h' }) {M : Model} : wpAny M A (storeName e x v) Q E s :=
  wpAny_storeName_cell hk hl hc ⟨oX, ho, hd⟩ fun h' hX hs => by
    obtain ⟨o, ho', hd'⟩ := hX
    exact h h' o ho' hd' hs

/-- a list comprehension over a range whose own name is a cell: J says what holds behind i elements of what is made and of the ledger -/
theorem listcomp_cell {elt iter : PySem.Expr} {x : Str} {px : Pos} {scope : Scope} {cl : List (Str × Addr)} {pos : Pos} {Q : Value → Shared → Prop} (n : Nat) (a : Int) (J : Nat → List Value → List (Addr × Obj) → Prop) {news : List (Addr × Obj)}
    (_F₀ : Fr h₀ L s.heap m) (_N₀ : News h₀ L s.heap news) (hclos : closureFor scope env = pure cl) (hcells : ∀ k, cellsFrom k scope.names cl = (x, k) :: cl) (hpush : ∀ h, pushCells h scope.names = h.push { cls := .type "cell", data := .cell none })
    (hkind : scope.kind = .function) (hnames : ∀ y ∈ scope.names, y.2 = .local → scope.names.lookup y.1 = some .local) (hx : ∀ C c, (compEnvC scope c C env).kindOf x = some .cell) (hn : n ≤ 1000) (hh : A.handled = none)
    (h : wpAny (model prog w) A (eval iter env) (fun xv s₁ => ∃ r b t u v, xv = .ref r ∧ (∃ h tk, s₁ = { s with heap := h, toks := tk }) ∧ Fr h₀ L s₁.heap m ∧ News h₀ L s₁.heap news ∧ IsRange s₁.heap r a b 1 t u v ∧ b = a + (n : Int) ∧ -1000 ≤ a ∧ a ≤ 1000) E s)
    (hJ : J 0 [] news)
    (turn : ∀ (i : Nat) ys I oI C oC D X oX nw h tk t (E' : Value → Shared → Prop), i < n → J i ys nw → Off [I, C, D, X] nw → [I, C, D, X].Nodup → oX.data = .cell (some (.int (a + (i : Int)) t)) → Fr h₀ L h m → News h₀ L h (turnOwn I oI C oC D ys X oX nw) →
      wpAny (model prog w) A (eval elt (compEnvC scope ((x, X) :: cl) C env)) (EltEnd h₀ L m { s with heap := h, toks := tk } I oI C oC D ys X oX (J (i + 1))) E' { s with heap := h, toks := tk })
    (done : ∀ D ys nw h tk, J n ys nw → Off [D] nw → Fr h₀ L h m → News h₀ L h ((D, lst ys) :: nw) → Q (.ref D) { s with heap := h, toks := tk })
    (hs : ∀ x, foldedSetIterable iter env x = pure x := by intro _; rfl) :
    wpAny (model prog w) A (eval (.ListComp elt [⟨.Name x px, iter, [], 0⟩] scope pos) env) Q E s := by
  rw [eval_ListComp]
  refine wpAny_comprehension_free (use := none) rfl hs hclos hkind hnames (wpAny_mono h (fun xv s₁ h₁ => ?_) fun _ _ e => e)
  obtain ⟨r, b, t, u, v, rfl, ⟨hp₁, tk₁, rfl⟩, F, N, hr, hb, ha1, ha2⟩ := h₁
  have hsm : Builtin.Range.small a b 1 = true := small_one (by omega) (by omega) (by omega) (by omega)
  have hrs : Builtin.Range.rangeSize a b 1 = (n : Int) := by rw [rangeSize_nat]; omega
  refine wpAny_pyIter_range hr hsm ?_
  rw [hrs]
  dsimp only
  -- the iterator
  generalize hI : hp₁.objs.size = I
  have hIs : I = hp₁.objs.size := hI.symm
  generalize hh2 : hp₁.push _ = hp₂
  have up2 : ∀ b o, hp₁.get? b = some o → hp₂.get? b = some o := fun b o e => by rw [← hh2]; exact Heap.get?_push_of_some _ e
  have sz2 : hp₂.objs.size = I + 1 := by rw [← hh2, Heap.size_push, hI]
  have st0 : IsRangeIter hp₂ I (a + (0 : Nat) * 1) ((n : Int) - (0 : Nat)) 1 := by
    rw [← hh2, hIs]; show IsRangeIter _ _ _ _ _; simpa using Heap.get?_push_size _ rfl
  have F2 : Fr h₀ L hp₂ m := F.keeps up2
  have N2 : News h₀ L hp₂ news := N.grown up2
  -- what is made
  refine wpAny_newObj_type ?_
  dsimp only
  generalize hD : hp₂.objs.size = D
  generalize hh3 : hp₂.push _ = hp₃
  have up3 : ∀ b o, hp₂.get? b = some o → hp₃.get? b = some o := fun b o e => by rw [← hh3]; exact Heap.get?_push_of_some _ e
  have sz3 : hp₃.objs.size = I + 2 := by rw [← hh3, Heap.size_push, sz2]
  have hD3 : hp₃.get? D = some (lst []) := by rw [← hh3, ← hD]; exact Heap.get?_push_size _ rfl
  -- the block's names and the cell
  simp only [newFunctionEnv, Option.isSome_some, if_true]
  refine wpAny_bind (wpAny_alloc ?_)
  dsimp only
  generalize hC : hp₃.objs.size = C
  refine wpAny_bind (wpAny_layCells _ (fun name kind cells => by cases hkc : kind == NameKind.cell <;> simp [hkc]) _ _ _ _ ?_)
  rw [hcells, hpush, Heap.size_push, hC]
  refine wpAny_bind ?_
  rw [List.forIn_nil]
  refine wpAny_pure (wpAny_pure ?_)
  generalize hX : C + 1 = X
  generalize hh5 : (hp₃.push _).push _ = hp₅
  have up5 : ∀ b o, hp₃.get? b = some o → hp₅.get? b = some o := fun b o e => by rw [← hh5]; exact Heap.get?_push_of_some _ (Heap.get?_push_of_some _ e)
  have hC5 : hp₅.get? C = some { cls := .type "dict", data := .dict #[] } := by rw [← hh5, ← hC]; exact Heap.get?_push_of_some _ (Heap.get?_push_size _ rfl)
  have hX5 : hp₅.get? X = some { cls := .type "cell", data := .cell none } := by
    have e : X = (hp₃.push { cls := .type "dict", data := .dict #[] }).objs.size := by rw [Heap.size_push, hC, hX]
    rw [← hh5, e]; exact Heap.get?_push_size _ rfl
  clear hh2 hh3 hh5 hI
  have hDv : D = I + 1 := by rw [← hD, sz2]
  have hCv : C = I + 2 := by rw [← hC, sz3]
  have hXv : X = I + 3 := by rw [← hX, hCv]
  have nd : [I, C, D, X].Nodup := by rw [hDv, hCv, hXv]; simp
  have hL0 : @LT.lt Nat _ L I := by rw [hIs]; exact F.ns.lt
  have h00 : h₀.objs.size ≤ I := by rw [hIs]; exact Nat.le_trans F.above (Nat.le_of_lt F.ns.lt)
  have none₀ : ∀ b, I ≤ b → h₀.get? b = none := fun b hb => Heap.get?_none_of_le (Nat.le_trans h00 hb)
  have hI₀ := none₀ I (Nat.le_refl _)
  have hD₀ := none₀ D (by omega)
  have hC₀ := none₀ C (by omega)
  have hX₀ := none₀ X (by omega)
  have nLI : I ≠ L := Nat.ne_of_gt hL0
  have nLD : D ≠ L := neN (by omega)
  have nLC : C ≠ L := neN (by omega)
  have nLX : X ≠ L := neN (by omega)
  have nIC : I ≠ C := by omega
  have nID : I ≠ D := by omega
  have nIX : I ≠ X := by omega
  have nCD : C ≠ D := by omega
  have nCX : C ≠ X := by omega
  have nDX : D ≠ X := by omega
  have off0 : Off [I, C, D, X] news := fun p hp => by
    have hlt : p.1 < I := by rw [hIs]; exact Heap.lt_size (N p hp).1
    simp only [List.mem_cons, List.not_mem_nil, or_false, not_or]
    have hlt' : @LT.lt Nat _ p.1 I := hlt
    refine ⟨Nat.ne_of_lt hlt', Nat.ne_of_lt (by omega), Nat.ne_of_lt (by omega), Nat.ne_of_lt (by omega)⟩
  have W := LCg.range_walks (prog := prog) (w := w) (I := I) hh a n
  have F5 : Fr h₀ L hp₅ m := (F2.keeps up3).keeps up5
  have N5 : News h₀ L hp₅ news := (N2.grown up3).grown up5
  have st5 : IsRangeIter hp₅ I (a + (0 : Nat) * 1) ((n : Int) - (0 : Nat)) 1 := W.frame 0 _ _ st0 fun b _ o e => up5 b o (up3 b o e)
  have hD5 := up5 _ _ hD3
  generalize hcenv : compEnvC scope ((x, X) :: cl) C env = cenv
  have hkc : cenv.kindOf x = some .cell := by rw [← hcenv]; exact hx _ _
  have hkf : cenv.scope.kind = .function := by rw [← hcenv]; exact hkind
  have hcc : cenv.cells.lookup x = some X := by rw [← hcenv]; simp [compEnvC, List.lookup_cons]
  let RR : Result → Shared → Prop := compPost (model prog w) A E none Q (.ref D) C
  have loop : ∀ s₅ : Shared, (∃ tk, s₅ = { s with heap := hp₅, toks := tk }) → codeAny (model prog w) A (.compLoop (.ListComp elt [⟨.Name x px, iter, [], 0⟩] scope pos) 0 (.ref I) (.ref D) cenv) RR s₅ := by
    rintro s₅ ⟨tk₅, rfl⟩
    refine codeAny_compLoop_tests
      (fun k s' => ∃ h' tk i ys oC oX nw m' ov, s' = { s with heap := h', toks := tk } ∧ i ≤ n ∧ k = n + 1 - i ∧ ys.length = i ∧ IsRangeIter h' I (a + (i : Nat) * 1) ((n : Int) - (i : Nat)) 1 ∧ Fr h₀ L h' m ∧ h'.get? C = some oC ∧ NsObj oC m' ∧ h'.get? X = some oX ∧ oX.data = .cell ov ∧
        News h₀ L h' ((D, lst ys) :: nw) ∧ Off [I, C, D, X] nw ∧ J i ys nw) ?_ (n + 1)
      ⟨hp₅, tk₅, 0, [], _, _, news, _, none, rfl, Nat.zero_le _, rfl, rfl, st5, F5, hC5, ⟨#[], 0, rfl, (by intro e he; simp at he), fun _ => rfl⟩, hX5, rfl, fun p hp => ?_, off0, hJ⟩
    · rintro k s' ⟨h', tk, i, ys, oC, oX, nw, m', ov, rfl, hi, rfl, hyl, st', F', hC', hnC, hX', hdX, N', off', hJ'⟩
      by_cases hlt : i < n
      · refine W.item i _ _ _ hlt st' fun v h₂ tk₂ hPv st₂ hk₂ => ?_
        obtain ⟨tv, rfl⟩ := hPv
        have o' : ∀ p ∈ nw, p.1 ≠ I ∧ p.1 ≠ C ∧ p.1 ≠ D ∧ p.1 ≠ X := fun p hp => by
          have := off' p hp
          simpa only [List.mem_cons, List.not_mem_nil, or_false, not_or] using this
        have F₂ : Fr h₀ L h₂ m := LCg.fr_but F' hk₂ nLI.symm hI₀
        have N₂ : News h₀ L h₂ ((D, lst ys) :: nw) := LCg.news_but N' hk₂ fun p hp => by
          rcases List.mem_cons.mp hp with rfl | hp
          · exact nID.symm
          · exact (o' p hp).1
        have hC₂ := hk₂ C oC (by simpa using nIC.symm) hC'
        have hX₂ := hk₂ X oX (by simpa using nIX.symm) hX'
        refine wpAny_assign_Name (storeCell hkf hkc hcc hX₂ hdX fun h₃ oX₃ hX₃ hdX₃ hs₃ => ?_)
        refine wpAny_tests_nil ?_
        simp only [if_true]
        have st₃ : IsRangeIter h₃ I (a + ((i + 1 : Nat) : Int) * 1) ((n : Int) - ((i + 1 : Nat) : Int)) 1 := W.frame _ _ _ st₂ fun b hb o e => hs₃.extBut b o (by rw [List.mem_singleton.mp hb]; exact nIX) e
        have F₃ : Fr h₀ L h₃ m := F₂.change hs₃ nLX hX₀
        have hC₃ := hs₃.extBut C oC nCX hC₂
        have N₃ : News h₀ L h₃ (turnOwn I _ C oC D ys X oX₃ nw) := fun p hp => by
          rcases List.mem_cons.mp hp with rfl | hp
          · exact ⟨st₃, nLI, hI₀⟩
          · rcases List.mem_cons.mp hp with rfl | hp
            · exact ⟨hC₃, nLC, hC₀⟩
            · rcases List.mem_cons.mp hp with rfl | hp
              · exact ⟨hs₃.extBut D _ nDX (N₂ (D, lst ys) (.head _)).1, nLD, hD₀⟩
              · rcases List.mem_cons.mp hp with rfl | hp
                · exact ⟨hX₃, nLX, hX₀⟩
                · exact ⟨hs₃.extBut p.1 _ (o' p hp).2.2.2 (N₂ p (.tail _ hp)).1, (N₂ p (.tail _ hp)).2⟩
        refine wpAny_mono (hcenv ▸ turn i ys I _ C oC D X oX₃ nw h₃ tk₂ tv _ hlt hJ' off' nd hdX₃ F₃ N₃) (fun y s₄ h₄ => ?_) fun _ _ e => e
        obtain ⟨h₄, tk₄, nw₄, rfl, F₄, N₄, off₄, J₄⟩ := h₄
        have zI := (N₄ (I, _) (.head _)).1
        have zC := (N₄ (C, oC) (.tail _ (.head _))).1
        have zD := (N₄ (D, lst ys) (.tail _ (.tail _ (.head _)))).1
        have zX := (N₄ (X, oX₃) (.tail _ (.tail _ (.tail _ (.head _))))).1
        have N₄' : News h₀ L h₄ nw₄ := fun p hp => N₄ p (.tail _ (.tail _ (.tail _ (.tail _ hp))))
        refine append_at (hsz := by rw [List.size_toArray, hyl, sizeLine_eq]; omega) zD fun h₅ hs₅ hD₅ => ?_
        refine ⟨n + 1 - (i + 1), by omega, h₅, tk₄, i + 1, ys ++ [y], oC, oX₃, nw₄, m', _, rfl, hlt, rfl, by rw [List.length_append, List.length_singleton, hyl], hs₅.extBut I _ nID zI, F₄.change hs₅ nLD hD₀,
          hs₅.extBut C _ nCD zC, hnC, hs₅.extBut X _ nDX.symm zX, hdX₃, fun p hp => ?_, off₄, J₄⟩
        rcases List.mem_cons.mp hp with rfl | hp
        · exact ⟨hD₅.trans (congrArg some (LCg.lst_snoc ys y)), nLD, hD₀⟩
        · have o4 := off₄ p hp
          simp only [List.mem_cons, List.not_mem_nil, or_false, not_or] at o4
          exact ⟨hs₅.extBut p.1 _ o4.2.2.1 (N₄' p hp).1, (N₄' p hp).2⟩
      · obtain rfl : i = n := Nat.le_antisymm hi (Nat.not_lt.mp hlt)
        refine W.done _ _ _ st' fun h₂ tk₂ hk₂ => ?_
        have o' : ∀ p ∈ nw, p.1 ≠ I ∧ p.1 ≠ C ∧ p.1 ≠ D ∧ p.1 ≠ X := fun p hp => by
          have := off' p hp
          simpa only [List.mem_cons, List.not_mem_nil, or_false, not_or] using this
        have F₂ : Fr h₀ L h₂ m := LCg.fr_but F' hk₂ nLI.symm hI₀
        have N₂ : News h₀ L h₂ ((D, lst ys) :: nw) := LCg.news_but N' hk₂ fun p hp => by
          rcases List.mem_cons.mp hp with rfl | hp
          · exact nID.symm
          · exact (o' p hp).1
        refine ⟨m', hnC.ns (hk₂ C oC (by simpa using nIC.symm) hC'), fun h₃ hs₃ => done D ys nw h₃ tk₂ hJ' (fun p hp => by simpa using (o' p hp).2.2.1) (F₂.change hs₃ nLC hC₀) fun p hp => ⟨hs₃.extBut p.1 _ ?_ (N₂ p hp).1, (N₂ p hp).2⟩⟩
        rcases List.mem_cons.mp hp with rfl | hp
        · exact nCD.symm
        · exact (o' p hp).2.1
    · rcases List.mem_cons.mp hp with rfl | hp
      · exact ⟨hD5, nLD, hD₀⟩
      · exact N5 p hp
  have fin : codeAny (model prog w) A (.compStart (.ListComp elt [⟨.Name x px, iter, [], 0⟩] scope pos) 0 (.ref I) (.ref D) cenv) RR { s with heap := hp₅, toks := tk₁ } :=
    codeAny_compStart_list (loop _ ⟨_, rfl⟩) (W.self 0 _ _ _ st5 (loop _ ⟨_, rfl⟩))
  have e : ({ { scope := scope, locals := C, globals := env.globals, cells := (x, X) :: cl, qual := env.qual, func := none, code := env.code, frame := env.frame, builtins := env.builtins : Env } with scope := relabel scope env } : Env) = cenv := by rw [← hcenv]; rfl
  have fin' := fin
  rw [← e] at fin'
  exact fin'
end
end Mine

end

section -- CI
open PySem PySem.W PySem.Calls PyProof.Rows
set_option maxRecDepth 100000
namespace Mine
open LCg (lst NsObj Off3 Off1 CompRest CompEnd CompSrc FinE SrcAt)

section
variable {prog : Program} {w : World} {A : Around} {E : Value → Shared → Prop} {s : Shared} {h₀ : Heap} {L : Addr} {m : Str → Option Value} {env : Env}

/-- an element's end where the ledger stays -/
def Same (h₀ : Heap) (L : Addr) (m : Str → Option Value) (s₁ : Shared) (led : List (Addr × Obj)) (R : Value → Prop) (y : Value) (s₂ : Shared) : Prop :=
  R y ∧ ∃ h' tk, s₂ = { s₁ with heap := h', toks := tk } ∧ Fr h₀ L h' m ∧ News h₀ L h' led
theorem Same.intro {s₁ : Shared} {led all : List (Addr × Obj)} {R : Value → Prop} {y : Value} {h' : Heap} {tk : Nat} (r : R y) (F : Fr h₀ L h' m) (N : News h₀ L h' all) (sub : ∀ p ∈ led, p ∈ all) : Same h₀ L m s₁ led R y { s₁ with heap := h', toks := tk } :=
  ⟨r, h', tk, rfl, F, fun p hp => N p (sub p hp)⟩

theorem rest_same {elt : PySem.Expr} {x : Str} {scope : Scope} {cl : List (Str × Addr)} {S : List (Addr × Obj) → Prop} {P : Nat → Value → Prop} {Fin : List Value → List (Addr × Obj) → Prop} {n : Nat} {news : List (Addr × Obj)} (R : Nat → Value → Prop) (hS : S news)
    (step : ∀ (i : Nat) (v : Value) (I : Addr) (oI : Obj) (C : Addr) (oC : Obj) (D : Addr) (ys : List Value) (m₂ : Str → Option Value) (h : Heap) (tk : Nat) (E' : Value → Shared → Prop), i < n → P i v → NsObj oC m₂ → m₂ x = some v → Fr h₀ L h m → News h₀ L h ((I, oI) :: (C, oC) :: (D, lst ys) :: news) → Off3 I C D news → ((@Ne Nat I C) ∧ (@Ne Nat I D) ∧ (@Ne Nat C D)) →
      wpAny (model prog w) A (eval elt (compEnvC scope cl C env)) (Same h₀ L m { s with heap := h, toks := tk } ((I, oI) :: (C, oC) :: (D, lst ys) :: news) (R i)) E' { s with heap := h, toks := tk })
    (fin : ∀ ys : List Value, ys.length = n → (∀ i y, ys[i]? = some y → R i y) → Fin ys news) :
    CompRest prog w A h₀ L m env elt x scope cl s S P Fin n 0 [] news := by
  have go : ∀ (k i : Nat) (ys : List Value), i + k = n → ys.length = i → (∀ j y, ys[j]? = some y → R j y) → CompRest prog w A h₀ L m env elt x scope cl s S P Fin k i ys news := by
    intro k
    induction k with
    | zero =>
      intro i ys hi hl hR
      exact CompRest.zero (fin ys (by omega) hR)
    | succ k ih =>
      intro i ys hi hl hR
      refine CompRest.succ fun v I oI C oC D m₂ h tk E' hP hC hx F N off ne => ?_
      refine wpAny_mono (step i v I oI C oC D ys m₂ h tk E' (by omega) hP hC hx F N off ne) (fun y s₂ hy => ?_) fun _ _ e => e
      obtain ⟨hr, h', tk', rfl, F', N'⟩ := hy
      refine CompEnd.intro F' N' news (fun p hp => hp) off hS (ih (i + 1) (ys ++ [y]) (by omega) (by rw [List.length_append, List.length_singleton, hl]) fun j z hz => ?_)
      by_cases hj : j < ys.length
      · rw [List.getElem?_append_left hj] at hz; exact hR j z hz
      · have hjl : j < (ys ++ [y]).length := (List.getElem?_eq_some_iff.mp hz).1
        have hje : j = ys.length := by rw [List.length_append, List.length_singleton] at hjl; omega
        subst hje
        rw [List.getElem?_concat_length] at hz
        cases hz
        rw [hl]; exact hr
  exact go n 0 [] (by omega) rfl fun j y h => by simp at h

/-- a list comprehension over a list that the ledger bears; the ledger stays -/
theorem comp_led {elt iter : PySem.Expr} {x : Str} {px : Pos} {scope : Scope} {cl : List (Str × Addr)} {pos : Pos} {Q : Value → Shared → Prop} (R : Nat → Value → Prop) (F₀ : Fr h₀ L s.heap m)
    (hclos : closureFor scope env = pure cl) (hcell : ∀ y ∈ scope.names, y.2 ≠ .cell) (hkind : scope.kind = .function)
    (hnames : ∀ y ∈ scope.names, y.2 = .local → scope.names.lookup y.1 = some .local) (hx : scope.names.lookup x = some .local) (hh : A.handled = none)
    (h : wpAny (model prog w) A (eval iter env) (fun xv s₁ => ∃ ax its k news, xv = .ref ax ∧ Fr h₀ L s₁.heap m ∧ News h₀ L s₁.heap news ∧ (ax, ({ cls := .type "list", data := .seq its k } : Obj)) ∈ news ∧ its.size ≤ 1000 ∧
      (∀ (i : Nat) (v : Value) (I : Addr) (oI : Obj) (C : Addr) (oC : Obj) (D : Addr) (ys : List Value) (m₂ : Str → Option Value) (h : Heap) (tk : Nat) (E' : Value → Shared → Prop), i < its.size → its[i]? = some v → NsObj oC m₂ → m₂ x = some v → Fr h₀ L h m → News h₀ L h ((I, oI) :: (C, oC) :: (D, lst ys) :: news) → Off3 I C D news → ((@Ne Nat I C) ∧ (@Ne Nat I D) ∧ (@Ne Nat C D)) →
        wpAny (model prog w) A (eval elt (compEnvC scope cl C env)) (Same h₀ L m { s₁ with heap := h, toks := tk } ((I, oI) :: (C, oC) :: (D, lst ys) :: news) (R i)) E' { s₁ with heap := h, toks := tk }) ∧
      (∀ D ys h tk, ys.length = its.size → (∀ i y, ys[i]? = some y → R i y) → Fr h₀ L h m → News h₀ L h ((D, lst ys) :: news) → Off1 D news → Q (.ref D) { s₁ with heap := h, toks := tk })) E s)
    (hs : ∀ x, foldedSetIterable iter env x = pure x := by intro _; rfl) :
    wpAny (model prog w) A (eval (.ListComp elt [⟨.Name x px, iter, [], 0⟩] scope pos) env) Q E s := by
  refine LCg.ListComp_U F₀ hclos hcell hkind hnames hx (wpAny_mono h (fun xv s₁ h₁ => ?_) fun _ _ e => e) hs
  obtain ⟨ax, its, k, news, rfl, F, N, hm, hsz, step, done⟩ := h₁
  refine CompSrc.ledger hh F N hm (by rw [sizeLine_eq]; omega) fun g => rest_same R (.inr ⟨_, hm, rfl, _, rfl⟩) (fun i v I oI C oC D ys m₂ h tk E' hi hv hC hx' F' N' off ne => step i v I oI C oC D ys m₂ h tk E' hi hv hC hx' F' N' off ne) fun ys hl hR D h tk F' N' off => done D ys h tk hl hR F' N' off

/-- a list comprehension over a range; the ledger stays -/
theorem comp_range {elt iter : PySem.Expr} {x : Str} {px : Pos} {scope : Scope} {cl : List (Str × Addr)} {pos : Pos} {Q : Value → Shared → Prop} (n : Nat) (R : Nat → Value → Prop) {news : List (Addr × Obj)} (F₀ : Fr h₀ L s.heap m) (_N₀ : News h₀ L s.heap news)
    (hclos : closureFor scope env = pure cl) (hcell : ∀ y ∈ scope.names, y.2 ≠ .cell) (hkind : scope.kind = .function)
    (hnames : ∀ y ∈ scope.names, y.2 = .local → scope.names.lookup y.1 = some .local) (hx : scope.names.lookup x = some .local) (hh : A.handled = none) (hn : n ≤ 1000)
    (h : wpAny (model prog w) A (eval iter env) (fun xv s₁ => ∃ r t u v, xv = .ref r ∧ (∃ h tk, s₁ = { s with heap := h, toks := tk }) ∧ Fr h₀ L s₁.heap m ∧ News h₀ L s₁.heap news ∧ IsRange s₁.heap r 0 (n : Int) 1 t u v) E s)
    (step : ∀ (i : Nat) (t : Tok) (I : Addr) (oI : Obj) (C : Addr) (oC : Obj) (D : Addr) (ys : List Value) (m₂ : Str → Option Value) (h : Heap) (tk : Nat) (E' : Value → Shared → Prop), i < n → NsObj oC m₂ → m₂ x = some (.int (i : Nat) t) → Fr h₀ L h m → News h₀ L h ((I, oI) :: (C, oC) :: (D, lst ys) :: news) → Off3 I C D news → ((@Ne Nat I C) ∧ (@Ne Nat I D) ∧ (@Ne Nat C D)) →
      wpAny (model prog w) A (eval elt (compEnvC scope cl C env)) (Same h₀ L m { s with heap := h, toks := tk } ((I, oI) :: (C, oC) :: (D, lst ys) :: news) (R i)) E' { s with heap := h, toks := tk })
    (done : ∀ D ys h tk, ys.length = n → (∀ i y, ys[i]? = some y → R i y) → Fr h₀ L h m → News h₀ L h ((D, lst ys) :: news) → Off1 D news → Q (.ref D) { s with heap := h, toks := tk })
    (hs : ∀ x, foldedSetIterable iter env x = pure x := by intro _; rfl) :
    wpAny (model prog w) A (eval (.ListComp elt [⟨.Name x px, iter, [], 0⟩] scope pos) env) Q E s := by
  refine LCg.ListComp_U F₀ hclos hcell hkind hnames hx (wpAny_mono h (fun xv s₁ h₁ => ?_) fun _ _ e => e) hs
  obtain ⟨r, t, u, v, rfl, ⟨hp, tk₁, rfl⟩, F, N, hr⟩ := h₁
  refine CompSrc.range hh F N hr (small_one (by omega) (by omega) (by omega) (by omega)) (by rw [rangeSize_nat]) (by rw [sizeLine_eq]; omega) fun g => ?_
  exact rest_same R trivial (fun i v I oI C oC D ys m₂ h tk E' hi ⟨tv, hv⟩ hC hx' F' N' off ne => by
    rw [Int.zero_add] at hv
    subst hv
    exact step i tv I oI C oC D ys m₂ h tk E' hi hC hx' F' N' off ne) fun ys hl hR D h tk F' N' off => done D ys h tk hl hR F' N' off

/-- ints, by what holds of each -/
theorem ints_of {f : Nat → Int} : ∀ {n : Nat} {ys : List Value}, ys.length = n → (∀ (i : Nat) y, ys[i]? = some y → ∃ t, y = Value.int (f i) t) → IntsAre ys ((List.range n).map f)
  | 0, ys, hl, _ => by
    rw [List.length_eq_zero_iff] at hl
    subst hl; exact .nil
  | n + 1, ys, hl, h => by
    obtain ⟨y, zs, rfl⟩ : ∃ y zs, ys = y :: zs := by
      cases ys with
      | nil => simp at hl
      | cons y zs => exact ⟨y, zs, rfl⟩
    obtain ⟨t, rfl⟩ := h 0 y rfl
    rw [List.range_succ_eq_map, List.map_cons, List.map_map]
    refine .cons _ _ ?_
    exact ints_of (f := f ∘ Nat.succ) (by simpa using hl) fun i y hy => h (i + 1) y (by simpa using hy)

/-- a name that is a cell -/
theorem ld_cell {env : Env} {x : Str} {pos : Pos} {X : Addr} {oX : Obj} {v : Value} {news : List (Addr × Obj)} {Q : Value → Shared → Prop} (hl : env.kindOf x = some .cell) (hc : env.cells.lookup x = some X) (N : News h₀ L s.heap news) (hm : (X, oX) ∈ news) (hd : oX.data = .cell (some v)) (h : Q v s)
    (hk : env.scope.kind = .function) (hn : (x == ("__debug__" : Str)) = false := by decide) : wpAny (model prog w) A (eval (.Name x pos) env) Q E s :=
  wpAny_Name (wpAny_loadName_cell hk hl hc ⟨oX, (N _ hm).1, hd⟩ h) hn
end
end Mine

end

section -- CR
open PySem PySem.W PySem.Calls PyProof.Rows
set_option maxRecDepth 100000
namespace Mine
open LCg (lst NsObj Off3 Off1)

/-- the rows' objects -/
def rowsLed (rs : List Addr) (vss : List (List Value)) : List (Addr × Obj) := (rs.zip vss).map fun p => (p.1, lst p.2)
/-- i rows are made, row k holds f k -/
def RowsJ (f : Nat → List Int) (news : List (Addr × Obj)) (i : Nat) (ys : List Value) (nw : List (Addr × Obj)) : Prop :=
  ∃ rs vss, ys = rs.map Value.ref ∧ nw = rowsLed rs vss ++ news ∧ rs.length = i ∧ vss.length = i ∧ rs.Nodup ∧ (∀ p ∈ news, p.1 ∉ rs) ∧ ∀ k, k < i → IntsAre (vss.getD k []) (f k)
theorem RowsJ.start {f : Nat → List Int} {news : List (Addr × Obj)} : RowsJ f news 0 [] news :=
  ⟨[], [], rfl, rfl, rfl, rfl, List.nodup_nil, fun _ _ => List.not_mem_nil, fun k hk => absurd hk (Nat.not_lt_zero k)⟩
theorem rowsLed_fst {rs : List Addr} {vss : List (List Value)} {p : Addr × Obj} (h : p ∈ rowsLed rs vss) : p.1 ∈ rs := by
  obtain ⟨q, hq, rfl⟩ := List.mem_map.mp h
  exact (List.of_mem_zip hq).1
theorem RowsJ.step {f : Nat → List Int} {news nw : List (Addr × Obj)} {i : Nat} {ys zs : List Value} {D : Addr} (h : RowsJ f news i ys nw) (hD : ∀ p ∈ nw, p.1 ≠ D) (hz : IntsAre zs (f i)) :
    ∃ nw', RowsJ f news (i + 1) (ys ++ [.ref D]) nw' ∧ ∀ p ∈ nw', p ∈ (D, lst zs) :: nw := by
  obtain ⟨rs, vss, rfl, rfl, h1, h2, nd, off, hr⟩ := h
  have hrD : D ∉ rs := fun hm => by
    obtain ⟨k, hk, rfl⟩ := List.mem_iff_getElem.mp hm
    have hk2 : k < vss.length := by omega
    exact hD (rs[k], lst vss[k]) (List.mem_append_left _ (List.mem_map.mpr ⟨(rs[k], vss[k]), List.mem_of_getElem? (i := k) (by rw [List.getElem?_zip_eq_some]; simp [hk, hk2]), rfl⟩)) rfl
  refine ⟨rowsLed (rs ++ [D]) (vss ++ [zs]) ++ news, ⟨rs ++ [D], vss ++ [zs], by simp, rfl, by simp [h1], by simp [h2], ?_, fun p hp hm => ?_, fun k hk => ?_⟩, fun p hp => ?_⟩
  · rw [List.nodup_append]
    refine ⟨nd, by simp, fun a ha b hb => ?_⟩
    rw [List.mem_singleton.mp hb]
    exact fun e => hrD (e ▸ ha)
  · rcases List.mem_append.mp hm with hm | hm
    · exact off p hp hm
    · exact hD p (List.mem_append_right _ hp) (List.mem_singleton.mp hm)
  · by_cases hki : k < i
    · rw [List.getD_eq_getElem?_getD, List.getElem?_append_left (by omega), ← List.getD_eq_getElem?_getD]
      exact hr k hki
    · have hke : k = vss.length := by omega
      subst hke
      rw [List.getD_eq_getElem?_getD, List.getElem?_concat_length, h2]
      exact hz
  · rcases List.mem_append.mp hp with hp | hp
    · have e : rowsLed (rs ++ [D]) (vss ++ [zs]) = rowsLed rs vss ++ [(D, lst zs)] := by
        unfold rowsLed
        rw [List.zip_append (by omega)]
        simp
      rw [e] at hp
      rcases List.mem_append.mp hp with hp | hp
      · exact List.mem_cons_of_mem _ (List.mem_append_left _ hp)
      · rw [List.mem_singleton.mp hp]; exact .head _
    · exact List.mem_cons_of_mem _ (List.mem_append_right _ hp)
theorem off1_ne {D : Addr} {l : List (Addr × Obj)} (h : Off1 D l) : ∀ p ∈ l, p.1 ≠ D := by
  induction l with
  | nil => intro p hp; cases hp
  | cons q l ih =>
    intro p hp
    rcases List.mem_cons.mp hp with e | hp
    · rw [e]; exact h.1
    · exact ih h.2 p hp

section
variable {h₀ h : Heap} {L : Addr} {m : Str → Option Value}
theorem swap_mem {I C D X : Addr} {oI oC oX : Obj} {ys : List Value} {rows lits : List (Addr × Obj)} (p : Addr × Obj) : p ∈ turnOwn I oI C oC D ys X oX (rows ++ lits) ↔ p ∈ (I, oI) :: (C, oC) :: (D, lst ys) :: (X, oX) :: (lits ++ rows) := by
  simp only [turnOwn, List.mem_cons, List.mem_append]
  constructor <;> rintro (h | h | h | h | h | h) <;> simp [h]
theorem led_swap {I C D X : Addr} {oI oC oX : Obj} {ys : List Value} {rows lits : List (Addr × Obj)} (N : News h₀ L h (turnOwn I oI C oC D ys X oX (rows ++ lits))) : News h₀ L h ((I, oI) :: (C, oC) :: (D, lst ys) :: (X, oX) :: (lits ++ rows)) :=
  fun p hp => N p ((swap_mem p).mpr hp)
/-- a row is made: the element's end -/
theorem rows_elt {s₁ : Shared} {f : Nat → List Int} {news nw led : List (Addr × Obj)} {i : Nat} {I C D X D2 : Addr} {oI oC oX : Obj} {ys zs : List Value} {h' : Heap} {tk : Nat} (hJ : RowsJ f news i ys nw) (hoff : Off [I, C, D, X] nw) (F : Fr h₀ L h' m) (N : News h₀ L h' ((D2, lst zs) :: led))
    (hled : ∀ p ∈ turnOwn I oI C oC D ys X oX nw, p ∈ led) (off2 : Off1 D2 led) (hz : IntsAre zs (f i)) : EltEnd h₀ L m s₁ I oI C oC D ys X oX (RowsJ f news (i + 1)) (.ref D2) { s₁ with heap := h', toks := tk } := by
  have ne : ∀ p ∈ turnOwn I oI C oC D ys X oX nw, p.1 ≠ D2 := fun p hp => off1_ne off2 p (hled p hp)
  obtain ⟨nw', hJ2, hsub⟩ := hJ.step (D := D2) (zs := zs) (fun p hp => ne p (.tail _ (.tail _ (.tail _ (.tail _ hp))))) hz
  refine EltEnd.intro F N nw' (fun p hp => ?_) (fun p hp => ?_) hJ2
  · rcases List.mem_cons.mp hp with rfl | hp
    · exact .tail _ (hled _ (.head _))
    · rcases List.mem_cons.mp hp with rfl | hp
      · exact .tail _ (hled _ (.tail _ (.head _)))
      · rcases List.mem_cons.mp hp with rfl | hp
        · exact .tail _ (hled _ (.tail _ (.tail _ (.head _))))
        · rcases List.mem_cons.mp hp with rfl | hp
          · exact .tail _ (hled _ (.tail _ (.tail _ (.tail _ (.head _)))))
          · rcases List.mem_cons.mp (hsub p hp) with rfl | hq
            · exact .head _
            · exact .tail _ (hled _ (.tail _ (.tail _ (.tail _ (.tail _ hq)))))
  · rcases List.mem_cons.mp (hsub p hp) with rfl | hq
    · have h1 := ne (I, oI) (.head _)
      have h2 := ne (C, oC) (.tail _ (.head _))
      have h3 := ne (D, lst ys) (.tail _ (.tail _ (.head _)))
      have h4 := ne (X, oX) (.tail _ (.tail _ (.tail _ (.head _))))
      simp only [List.mem_cons, List.not_mem_nil, or_false, not_or]
      exact ⟨Ne.symm h1, Ne.symm h2, Ne.symm h3, Ne.symm h4⟩
    · exact hoff p hq
/-- behind the rows' making: the ledger, the rows laid last -/
theorem rows_done {f : Nat → List Int} {lits nw : List (Addr × Obj)} {n : Nat} {D : Addr} {ys : List Value} (hJ : RowsJ f lits n ys nw) (hoff : Off [D] nw) (N : News h₀ L h ((D, lst ys) :: nw)) :
    ∃ rs vss, ys = rs.map Value.ref ∧ rs.length = n ∧ vss.length = n ∧ rs.Nodup ∧ (∀ k, k < n → IntsAre (vss.getD k []) (f k)) ∧ News h₀ L h ((D, lst (rs.map Value.ref)) :: (lits ++ rowsLed rs vss)) ∧ (∀ p ∈ lits, p.1 ≠ D) ∧ (∀ p ∈ (D, lst (rs.map Value.ref)) :: lits, ∀ q ∈ rowsLed rs vss, q.1 ≠ p.1) := by
  obtain ⟨rs, vss, rfl, rfl, h1, h2, nd, off, hr⟩ := hJ
  have hD : ∀ p ∈ rowsLed rs vss ++ lits, p.1 ≠ D := fun p hp => by simpa using hoff p hp
  refine ⟨rs, vss, rfl, h1, h2, nd, hr, fun p hp => N p ?_, fun p hp => hD p (List.mem_append_right _ hp), fun p hp q hq => ?_⟩
  · rcases List.mem_cons.mp hp with rfl | hp
    · exact .head _
    · exact .tail _ ((List.mem_append.mp hp).elim (fun h => List.mem_append_right _ h) fun h => List.mem_append_left _ h)
  · rcases List.mem_cons.mp hp with rfl | hp
    · exact hD q (List.mem_append_left _ hq)
    · intro e
      exact off p hp (e ▸ rowsLed_fst hq)
theorem off1_of {D : Addr} {l : List (Addr × Obj)} (h : ∀ p ∈ l, p.1 ≠ D) : Off1 D l := by
  induction l with
  | nil => trivial
  | cons q l ih => exact ⟨h q (.head _), ih fun p hp => h p (.tail _ hp)⟩
/-- the tail stands off what is written -/
def TailOff (lits tl : List (Addr × Obj)) : Prop := ∀ p ∈ lits, ∀ q ∈ tl, q.1 ≠ p.1
theorem TailOff.all {lits tl : List (Addr × Obj)} {d : Addr} {o : Obj} (h : TailOff lits tl) (hm : (d, o) ∈ lits) : ∀ q ∈ tl, q.1 ≠ d := h (d, o) hm
end

def tieVal (ns : List Int) (i j : Nat) : Int := if i ≠ j ∧ 0 < ns.getD i 0 + ns.getD j 0 then 1 else 0
def tieRow (ns : List Int) (i : Nat) : List Int := (List.range ns.length).map (tieVal ns i)

theorem tie_yes {ns : List Int} {i j : Nat} (h1 : 0 + (i : Int) ≠ (j : Int)) (h2 : 0 < ns.getD (0 + (i : Int)).toNat 0 + ns.getD (j : Int).toNat 0) : (1 : Int) = tieVal ns i j := by
  rw [show (0 + (i : Int)).toNat = i by omega, show (j : Int).toNat = j by omega] at h2
  exact (if_pos ⟨by omega, h2⟩).symm
theorem tie_no1 {ns : List Int} {i j : Nat} (h2 : ¬ 0 < ns.getD (0 + (i : Int)).toNat 0 + ns.getD (j : Int).toNat 0) : (0 : Int) = tieVal ns i j := by
  rw [show (0 + (i : Int)).toNat = i by omega, show (j : Int).toNat = j by omega] at h2
  exact (if_neg fun q => h2 q.2).symm
theorem tie_no2 {ns : List Int} {i j : Nat} (h1 : 0 + (i : Int) = (j : Int)) : (0 : Int) = tieVal ns i j := (if_neg fun q => q.1 (by omega)).symm
end Mine

end

section -- L0
open PySem PySem.W PySem.Calls PyProof.Rows
set_option maxRecDepth 100000
namespace Mine
open RX
/-- the law's own body and names, out of the written part -/
noncomputable def lawBody (w : World) : List Stmt := match (hd.heap_39 w.params).lookup 121 with
  | some ⟨_, _, .func fd, _⟩ => (match fd.body with | .stmts b => b | _ => [])
  | _ => []
noncomputable def lawScope (w : World) : Scope := match (hd.heap_39 w.params).lookup 121 with
  | some ⟨_, _, .func fd, _⟩ => fd.scope
  | _ => default
noncomputable abbrev lawEnv (w : World) (L fa : Addr) (cd : Value) : Env := envOfC "law" (lawScope w) L fa cd
/-- the walk of what is left of the law, from statement k on -/
abbrev Tail (w : World) (L fa : Addr) (cd : Value) (k : Nat) (Q : Flow → Shared → Prop) (E : Value → Shared → Prop) (s : Shared) : Prop :=
  wpAny (model PySem.Challenge.rw_wn0006_01.row.prog w) (callerA.deeper (lawEnv w L fa cd)) (execs ((lawBody w).drop k) (lawEnv w L fa cd)) Q E s

/-- what stands through the whole law -/
structure Ctx (w : World) (p : Program) (loose : List Str) (mean : ExcName → Option Value) (mg mb : Str → Option Value) (h₀ : Heap) (l : Addr) (vs : List Value) (ns : List Int) : Prop where
  B : Below callerA h₀ [] h₀
  X : (hd.heap_39 w.params).In h₀
  T : Top p loose mean mg mb h₀
  hl : h₀.IsList l vs.toArray
  hI : IntsAre vs ns
  h63 : ns.length ≤ 63
/-- the law comes back with True -/
def Ret (h₀ : Heap) (L : Addr) (s : Shared) (Q : Flow → Shared → Prop) : Prop :=
  ∀ h' tk m' nw ps, Fr h₀ L h' m' → News h₀ L h' nw → (99, tabObj ps) ∈ nw → Q (.ret (.bool true)) { s with heap := h', toks := tk }
/-- the six cells -/
structure Cells (oN oM oT oL oD ot : Obj) (vN vM vT vL vD vt : Option Value) : Prop where
  n : oN.data = .cell vN
  m : oM.data = .cell vM
  t : oT.data = .cell vT
  l : oL.data = .cell vL
  d : oD.data = .cell vD
  tt : ot.data = .cell vt
/-- a list of ints, as a matter of the walk -/
structure Many (n : Nat) (rs : List Addr) (vss : List (List Value)) (f : Nat → List Int) : Prop where
  r : rs.length = n
  v : vss.length = n
  nd : rs.Nodup
  rows : ∀ k, k < n → IntsAre (vss.getD k []) (f k)
theorem as_one {m : Str → Option Value} {a : Str} {v : Value} (h : m a = some v) : m = fun y => if y = a then some v else m y := by
  funext y
  by_cases e : y = a
  · subst e; simp [h]
  · simp [e]
theorem as_two {m : Str → Option Value} {a b : Str} {v u : Value} (h : m a = some v) (h' : m b = some u) : m = fun y => if y = a then some v else if y = b then some u else m y := by
  funext y
  by_cases e : y = a
  · subst e; simp [h]
  · by_cases e2 : y = b
    · subst e2; simp [h', e]
    · simp [e, e2]

/-- quotedata i times over -/
def quoteIt (l : List Nat) : Nat → List Nat
  | 0 => l
  | i + 1 => quoteL (quoteIt l i)
theorem quoteIt_rows {rs : List Row} (h : ∀ r ∈ rs, RowOk r) : ∀ i, quoteIt (rowsText rs) (i + 1) = rowsText (rs.map fun r => (r.1 + (i + 1), [13, 10]))
  | 0 => quote_rows rs h
  | i + 1 => by
    rw [quoteIt, quoteIt_rows h i, quote_rows _ fun r hr => ?_]
    · rw [List.map_map]; rfl
    · obtain ⟨q, hq, rfl⟩ := List.mem_map.mp hr
      exact ⟨by show 1 ≤ q.1 + (i + 1); omega, .inr (.inr rfl)⟩
theorem quoteIt_len {ns : List Int} {n i : Nat} (hn : n ≤ 6) (hi : i ≤ 2) : (quoteIt (mailTo ns n) i).length ≤ 100 := by
  have ok := mailRows_ok ns n
  cases i with
  | zero => exact Nat.le_trans (mail_len hn) (by decide)
  | succ i =>
    rw [mail_rows, quoteIt_rows fun r hr => (ok r hr).1]
    have h := rowsText_len (k := n + 2) ((mailRows ns n).map fun r => (r.1 + (i + 1), [13, 10])) fun r hr => by
      obtain ⟨q, hq, rfl⟩ := List.mem_map.mp hr
      have := ok q hq
      exact ⟨⟨by show 1 ≤ q.1 + (i + 1); omega, .inr (.inr rfl)⟩, by show q.1 + (i + 1) ≤ n + 2; omega⟩
    rw [List.length_map, mailRows_len] at h
    refine Nat.le_trans h ?_
    have : n * (n + 2 + 2) ≤ 6 * 10 := Nat.mul_le_mul hn (by omega)
    omega
/-- how often the mail is sent at last -/
def lastOf (ns : List Int) : Nat := 1 + ns.length % 2
theorem lastOf_eq (ns : List Int) : (1 : Int) + Int.fmod (ns.length : Int) 2 = (lastOf ns : Int) := by
  rw [Int.fmod_eq_emod_of_nonneg _ (by decide)]; unfold lastOf; omega
theorem lastOf_le (ns : List Int) : 1 ≤ lastOf ns ∧ lastOf ns ≤ 2 := by unfold lastOf; omega
def finText (ns n9 : List Int) : List Nat := quoteIt (mailTo n9 n9.length) (lastOf ns)

theorem mail_use {w : World} {p : Program} {loose : List Str} {mean : ExcName → Option Value} {mg mb : Str → Option Value} {nw : List (Addr × Obj)} {D : Addr} {vs : List Value} {c : Nat} {ns : List Int}
    {dp un : Nat} {gd : Option (List Code)} {cn : Str} {cs : Scope} {a : Addr} {ccd : Value} {cl : List (Str × Addr)} {outer : List Env} {A₀ : Around} {base h₀ : Heap} {L : Addr} {m : Str → Option Value} {s : Shared} {Q E : Value → Shared → Prop}
    (B : Below A₀ base outer h₀) (F : Fr h₀ L s.heap m) (X : (hd.heap_39 w.params).In h₀) (N : News h₀ L s.heap nw) (hm : (D, listOf vs.toArray c) ∈ nw) (T : Top p loose mean mg mb h₀) (hk : cs.kind = .function) (hI : IntsAre vs ns) (h6 : ns.length ≤ 6)
    (hd : dp + 4 < recursionLimit) (hu : un + 30 < cLine)
    (ret : ∀ t h' tk', Fr h₀ L h' m → News h₀ L h' nw → Q (.str ⟨(mailTo ns ns.length).toArray⟩ t) { s with heap := h', toks := tk' }) :
    wpAny (model PySem.Challenge.rw_wn0006_01.row.prog w) (ktrTop dp un gd cn cs L a ccd cl outer) (call (.ref 109) [.ref D]) Q E s := by
  refine spec_use (mail_spec w p loose mean mg mb nw D vs c ns) B F X (fun p hp => ?_) T hk ⟨hI, h6⟩ hd hu fun v nw' h' tk' hR F' N' => ?_
  · rcases List.mem_cons.mp hp with rfl | hp
    · exact N _ hm
    · exact N p hp
  · obtain ⟨rfl, t, rfl⟩ := hR
    exact ret t h' tk' F' (cb_drop N' fun p hp => .tail _ hp)
end Mine

end

section -- NM
open PySem PySem.W PySem.Calls PyProof.Rows
set_option maxRecDepth 100000
namespace Mine
section
variable {M : Model} {A : Around} {E : Value → Shared → Prop} {s : Shared} {K : Frag} {h₀ : Heap} {L C : Addr} {m m₂ mg mb : Str → Option Value} {news : List (Addr × Obj)} {env : Env} {p : Program} {loose : List Str} {mean : ExcName → Option Value} {x : Str} {pos : Pos} {v : Value} {Q : Value → Shared → Prop}
theorem nm_local (F : Fr h₀ L s.heap m) (hx : m x = some v) (hL : env.locals = L) (hk : env.scope.kind = .function) (hl : env.kindOf x = some .local) (h : Q v s) (hd : (x == ("__debug__" : Str)) = false := by decide) :
    wpAny M A (eval (.Name x pos) env) Q E s := wpAny_Name (wpAny_loadName_local hk hl (by rw [hL]; exact F.ns) hx h) hd
theorem nm_global (F : Fr h₀ L s.heap m) (X : K.In h₀) (T : Top p loose mean mg mb h₀) (hk : env.scope.kind = .function) (hx : env.kindOf x = some .globalImplicit) (hg : env.globals = mainGlobals) (e : nsIn K mainGlobals x = some (some v)) (h : Q v s) (hd : (x == ("__debug__" : Str)) = false := by decide) :
    wpAny M A (eval (.Name x pos) env) Q E s :=
  Name_function_global hk hx (loadGlobal_global (env := env) (show s.heap.Ns env.globals mg from hg ▸ (T.keeps F.keep).g) (mg_of X T.g e) h) hd
theorem nm_built (F : Fr h₀ L s.heap m) (X : K.In h₀) (T : Top p loose mean mg mb h₀) (hk : env.scope.kind = .function) (hx : env.kindOf x = some .globalImplicit) (hg : env.globals = mainGlobals) (hb : env.builtins = builtinsNs) (e : nsIn K mainGlobals x = some none) (hv : bootBuiltins x = some v) (hn : x ≠ "__name__") (h : Q v s) (hd : (x == ("__debug__" : Str)) = false := by decide) :
    wpAny M A (eval (.Name x pos) env) Q E s :=
  Name_function_global hk hx (loadGlobal_builtin (env := env) (show s.heap.Ns env.globals mg from hg ▸ (T.keeps F.keep).g) (mg_none_of X T.g e) (show s.heap.Ns env.builtins mb from hb ▸ (T.keeps F.keep).b) ((T.builtins x hn).trans hv) h) hd
end
/-- what is promised of an exception passes out of the law's own frame -/
abbrev Pass (w : World) (L fa : Addr) (cd : Value) (E : Value → Shared → Prop) : Prop :=
  PassesOwn (model PySem.Challenge.rw_wn0006_01.row.prog w) (callerA.deeper (lawEnv w L fa cd)) (lawEnv w L fa cd) E
/-- what stands of the two lists and the rows -/
structure Facts (L T D : Addr) (rs : List Addr) (vss : List (List Value)) (v9 : List Value) (ns n9 : List Int) : Prop where
  ne : @Ne Nat D T ∧ @Ne Nat (L + 1 + 1 + 1 + 1 + 1 + 1) T ∧ @Ne Nat (L + 1 + 1 + 1 + 1 + 1) T ∧ @Ne Nat (L + 1 + 1 + 1 + 1) T ∧ @Ne Nat (L + 1 + 1 + 1) T ∧ @Ne Nat (L + 1 + 1) T ∧ @Ne Nat (L + 1) T ∧ @Ne Nat 99 T
  lt : @LT.lt Nat _ 99 L ∧ @LT.lt Nat _ (L + 6) D
  rows : Many n9.length rs vss (tieRow n9)
  i9 : IntsAre v9 n9
  o9 : NumsOf ns n9
theorem rowsLed_mem {rs : List Addr} {vss : List (List Value)} {i : Nat} (h1 : i < rs.length) (h2 : i < vss.length) : (rs.getD i 0, LCg.lst (vss.getD i [])) ∈ rowsLed rs vss := by
  refine List.mem_map.mpr ⟨(rs[i], vss[i]), ?_, ?_⟩
  · refine List.mem_of_getElem? (i := i) ?_
    rw [List.getElem?_zip_eq_some]
    simp [h1, h2]
  · simp [List.getD_eq_getElem?_getD, h1, h2]
theorem row_at {rs : List Addr} {i : Nat} {v : Value} (hv : (rs.map Value.ref).toArray[i]? = some v) : v = .ref (rs.getD i 0) ∧ i < rs.length := by
  simp only [List.getElem?_toArray, List.getElem?_map, Option.map_eq_some_iff] at hv
  obtain ⟨a, ha, rfl⟩ := hv
  have hi := (List.getElem?_eq_some_iff.mp ha).1
  refine ⟨?_, hi⟩
  rw [List.getD_eq_getElem?_getD, ha]; rfl
theorem led_list {h₀ h : Heap} {L : Addr} {a : Addr} {ys : List Value} {news : List (Addr × Obj)} (N : News h₀ L h news) (hm : (a, LCg.lst ys) ∈ news) : h.IsList a ys.toArray := ⟨_, (N _ hm).1, rfl, _, rfl⟩
theorem ints_at {vs : List Value} {ns : List Int} (h : IntsAre vs ns) : ∀ (i : Nat) v, vs[i]? = some v → ∃ t, v = .int (ns.getD i 0) t := by
  induction h with
  | nil => intro i v hv; simp at hv
  | cons n t _ ih =>
    intro i v hv
    cases i with
    | zero => exact ⟨t, (Option.some.inj hv).symm⟩
    | succ i => exact ih i v hv
theorem strs_of {f : Nat → Str} : ∀ {n : Nat} {ys : List Value}, ys.length = n → (∀ (i : Nat) y, ys[i]? = some y → ∃ t, y = Value.str (f i) t) → StrsAre ys ((List.range n).map f)
  | 0, ys, hl, _ => by
    rw [List.length_eq_zero_iff] at hl
    subst hl; exact .nil
  | n + 1, ys, hl, h => by
    obtain ⟨y, zs, rfl⟩ : ∃ y zs, ys = y :: zs := by
      cases ys with
      | nil => simp at hl
      | cons y zs => exact ⟨y, zs, rfl⟩
    obtain ⟨t, rfl⟩ := h 0 y rfl
    rw [List.range_succ_eq_map, List.map_cons, List.map_map]
    refine .cons _ _ ?_
    exact strs_of (f := f ∘ Nat.succ) (by simpa using hl) fun i y hy => h (i + 1) y (by simpa using hy)
theorem TailOff.congr {lits lits' tl : List (Addr × Obj)} (h : TailOff lits tl) (e : lits'.map (·.1) = lits.map (·.1)) : TailOff lits' tl := fun p hp q hq => by
  have h1 : p.1 ∈ lits'.map (·.1) := List.mem_map.mpr ⟨p, hp, rfl⟩
  rw [e] at h1
  obtain ⟨r, hr, er⟩ := List.mem_map.mp h1
  exact er ▸ h r hr q hq
theorem law_kept (w : World) (h : Heap) (r : (hd.heap_39 w.params).In h → PySem.Challenge.rw_wn0006_01.row.prog = PySem.Challenge.rw_wn0006_01.row.prog) : True := trivial
end Mine

end

section -- PA1
open PySem PySem.W PySem.Calls PyProof.Rows
set_option maxRecDepth 100000
namespace Mine
open RX
/-- how many dots row i must bear -/
def dotsN (ns n9 : List Int) (i : Nat) : Nat := (tieRow n9 i).sum.toNat + 1 + lastOf ns
theorem tieVal_nn (n9 : List Int) (i j : Nat) : 0 ≤ tieVal n9 i j ∧ tieVal n9 i j ≤ 1 := by unfold tieVal; split <;> decide
theorem sum_bound : ∀ (l : List Int), (∀ x ∈ l, 0 ≤ x ∧ x ≤ 1) → 0 ≤ l.sum ∧ l.sum ≤ l.length
  | [], _ => by decide
  | x :: l, h => by
    have ih := sum_bound l fun y hy => h y (.tail _ hy)
    have hx := h x (.head _)
    rw [List.sum_cons, List.length_cons]
    omega
theorem tieRow_sum (n9 : List Int) (i : Nat) : 0 ≤ (tieRow n9 i).sum ∧ (tieRow n9 i).sum ≤ n9.length := by
  have h := sum_bound (tieRow n9 i) fun x hx => by
    obtain ⟨j, _, rfl⟩ := List.mem_map.mp hx
    exact tieVal_nn n9 i j
  rw [show (tieRow n9 i).length = n9.length by simp [tieRow]] at h
  exact h
theorem dotsN_eq (ns n9 : List Int) (i : Nat) : (tieRow n9 i).sum + 1 + (lastOf ns : Int) = (dotsN ns n9 i : Int) := by
  have := tieRow_sum n9 i
  unfold dotsN; omega
theorem dotsN_le {ns n9 : List Int} {i : Nat} (h : n9.length ≤ 6) : 2 ≤ dotsN ns n9 i ∧ dotsN ns n9 i ≤ 9 := by
  have := tieRow_sum n9 i
  have := lastOf_le ns
  unfold dotsN; omega
/-- a row of the text that is to come -/
def dueRow (ns n9 : List Int) (i : Nat) : List Nat := List.replicate (dotsN ns n9 i) 46 ++ [13, 10]
def dueText (ns n9 : List Int) : List Nat := (List.range n9.length).flatMap (dueRow ns n9)
def rowStr (ns n9 : List Int) (i : Nat) : Str := ⟨(dueRow ns n9 i).toArray⟩
theorem rowStr_eq {ns n9 : List Int} {i : Nat} : Txt.mul (Str.ofString ".") ((dotsN ns n9 i : Nat) : Int) ++ Str.ofString "\r\n" = rowStr ns n9 i := by
  have e : Txt.mul (Str.ofString ".") ((dotsN ns n9 i : Nat) : Int) = ⟨(List.replicate (dotsN ns n9 i) 46).toArray⟩ := by
    obtain ⟨k, hk⟩ : ∃ k, dotsN ns n9 i = k + 1 := ⟨(tieRow n9 i).sum.toNat + lastOf ns, by unfold dotsN; omega⟩
    rw [hk, ← dots_mul k, show ((k + 1 : Nat) : Int) = 0 + (k : Nat) + 1 by omega]
  have e2 : Str.ofString "\r\n" = ⟨#[13, 10]⟩ := by decide +kernel
  rw [e, e2]
  show (⟨(List.replicate (dotsN ns n9 i) 46).toArray ++ #[13, 10]⟩ : Str) = _
  unfold rowStr dueRow
  simp
theorem rowStr_len {ns n9 : List Int} {i : Nat} (h : n9.length ≤ 6) : (rowStr ns n9 i).length ≤ 11 := by
  have := dotsN_le (ns := ns) (i := i) h
  simp only [rowStr, Str.length, dueRow, List.size_toArray, List.length_append, List.length_replicate, List.length_cons, List.length_nil]
  omega
theorem join_flat : ∀ (l : List (List Nat)), Str.join (Str.ofString "") (l.map fun x => (⟨x.toArray⟩ : Str)) = ⟨(l.flatten).toArray⟩
  | [] => rfl
  | [x] => by simp [Str.join]
  | x :: y :: l => by
    have ih := join_flat (y :: l)
    rw [List.map_cons, List.map_cons, Str.join]
    · rw [List.map_cons] at ih
      rw [ih]
      have e : Str.ofString "" = ⟨#[]⟩ := by decide +kernel
      rw [e]
      show (⟨(x.toArray ++ #[]) ++ ((y :: l).flatten).toArray⟩ : Str) = _
      simp
    · simp
theorem join_rows (ns n9 : List Int) : Txt.join (Str.ofString "") ((List.range n9.length).map (rowStr ns n9)) = ⟨(dueText ns n9).toArray⟩ := by
  have h := join_flat ((List.range n9.length).map (dueRow ns n9))
  rw [List.map_map] at h
  unfold dueText Txt.join
  rw [List.flatMap_def, StrLaws.glued_eq_join]
  exact h
theorem sum_le_of {l : List Nat} {B : Nat} (h : ∀ x ∈ l, x ≤ B) : l.sum ≤ l.length * B := by
  induction l with
  | nil => simp
  | cons a l ih =>
    have h1 := h a (.head _)
    have h2 := ih fun x hx => h x (.tail _ hx)
    rw [List.sum_cons, List.length_cons, Nat.succ_mul]; omega
theorem join_use {prog : Program} {w : World} {A : Around} {E : Value → Shared → Prop} {s : Shared} {t : Tok} {Q : Value → Shared → Prop} {ns n9 : List Int} {D : Addr} {zs : List Value} (hl : s.heap.IsList D zs.toArray) (hi : StrsAre zs ((List.range n9.length).map (rowStr ns n9))) (hn : n9.length ≤ 6)
    (h : ∀ t' k, Q (.str ⟨(dueText ns n9).toArray⟩ t') { s with toks := k }) : wpAny (model prog w) A (call (.builtin "str.join") [.str (Str.ofString "") t, .ref D]) Q E s := by
  refine join_listW hl hi (by decide) ?_ fun t' k => ?_
  · have h2 := sum_le_of (l := ((List.range n9.length).map (rowStr ns n9)).map (·.length)) (B := 11) fun x hx => by
      simp only [List.mem_map] at hx
      obtain ⟨y, ⟨i, _, rfl⟩, rfl⟩ := hx
      exact rowStr_len hn
    simp only [List.length_map, List.length_range] at h2 ⊢
    omega
  · rw [join_rows]; exact h t' k
def totalN (ns n9 : List Int) : Nat := ((List.range n9.length).map fun i => (16 ^ dotsN ns n9 i - 1) / 15).sum
def maxDots (ns n9 : List Int) : Nat := ((List.range n9.length).map (dotsN ns n9)).foldl max 0
def reachN (ns n9 : List Int) (k : Nat) : Nat := ((List.range n9.length).filter fun i => decide (k < dotsN ns n9 i)).length
def wordL (ns n9 : List Int) : List Nat := (List.range (maxDots ns n9)).reverse.map fun k => 65 + reachN ns n9 k
def dotStr (k : Nat) : Str := ⟨(List.replicate k 46).toArray⟩
def partN (ns n9 : List Int) (i : Nat) : Nat := if i < n9.length then dotsN ns n9 i else 0
def tableOf (n9 : List Int) (t : Int) : Mat := (List.range n9.length).map fun i => (List.range n9.length).map fun j => if i = j then t + (tieRow n9 i).sum else - tieVal n9 i j
end Mine

end

section -- PP
open PySem PySem.W PySem.Calls PyProof.Rows
set_option maxRecDepth 100000
namespace Mine
open RX
/-- the numbers' signs -/
def signs : List Int → List Bool
  | [] => []
  | _ :: r => false :: r.map fun x => decide (0 < x)
theorem signs_len (n9 : List Int) : (signs n9).length = n9.length := by cases n9 <;> simp [signs]
theorem signs_at {n9 : List Int} {b : Nat} (h0 : 0 < b) (hb : b < n9.length) : ((signs n9).getD b false = true ↔ 0 < n9.getD b 0) := by
  cases n9 with
  | nil => simp at hb
  | cons x r =>
    obtain ⟨c, rfl⟩ : ∃ c, b = c + 1 := ⟨b - 1, by omega⟩
    have hc : c < r.length := by simpa using hb
    simp only [signs, List.getD_eq_getElem?_getD, List.getElem?_cons_succ, List.getElem?_map, List.getElem?_eq_getElem hc, Option.map_some, Option.getD_some, decide_eq_true_eq]
theorem abs_ite (x : Int) : (if x < 0 then -x else x) = (x.natAbs : Int) := by split <;> omega
theorem tie_sign {ns n9 : List Int} (o : NumsOf ns n9) {i j : Nat} (hi : i < n9.length) (hj : j < n9.length) : tieVal n9 i j = if i ≠ j ∧ (signs n9).getD (max i j) false = true then 1 else 0 := by
  have key' : ∀ a b : Nat, a < b → b < n9.length → (0 < n9.getD a 0 + n9.getD b 0 ↔ 0 < n9.getD b 0) := by
    intro a b hab hb
    have h := List.pairwise_iff_getElem.mp o.2 a b (by omega) hb hab
    rw [List.getD_eq_getElem?_getD, List.getD_eq_getElem?_getD, List.getElem?_eq_getElem (by omega : a < n9.length), List.getElem?_eq_getElem hb, Option.getD_some, Option.getD_some]
    unfold key at h
    simp only [abs_ite] at h
    generalize n9[a] = x at h ⊢
    generalize n9[b] = y at h ⊢
    split at h <;> split at h <;> omega
  have e : (i ≠ j ∧ 0 < n9.getD i 0 + n9.getD j 0) ↔ (i ≠ j ∧ (signs n9).getD (max i j) false = true) := by
    rcases Nat.lt_trichotomy i j with h | h | h
    · rw [Nat.max_eq_right (by omega), signs_at (by omega) hj, key' i j h hj]
    · subst h; simp
    · rw [Nat.max_eq_left (by omega), signs_at (by omega) hi, Int.add_comm, key' j i h hi]
  unfold tieVal
  by_cases q : i ≠ j ∧ 0 < n9.getD i 0 + n9.getD j 0
  · rw [if_pos q, if_pos (e.mp q)]
  · rw [if_neg q, if_neg fun z => q (e.mpr z)]
def tieB (bs : List Bool) (i j : Nat) : Int := if i ≠ j ∧ bs.getD (max i j) false = true then 1 else 0
def rowB (bs : List Bool) (i : Nat) : List Int := (List.range bs.length).map (tieB bs i)
theorem row_sign {ns n9 : List Int} (o : NumsOf ns n9) {i : Nat} (hi : i < n9.length) : tieRow n9 i = rowB (signs n9) i := by
  unfold tieRow rowB
  rw [signs_len]
  refine List.map_congr_left fun j hj => ?_
  exact tie_sign o hi (List.mem_range.mp hj)
/-- all signs of a length -/
def allB : Nat → List (List Bool)
  | 0 => [[]]
  | n + 1 => (allB n).flatMap fun b => [true :: b, false :: b]
theorem allB_mem : ∀ b : List Bool, b ∈ allB b.length
  | [] => .head _
  | x :: b => by
    rw [List.length_cons, allB]
    refine List.mem_flatMap.mpr ⟨b, allB_mem b, ?_⟩
    cases x <;> simp
def pat (n : Nat) : List (List Bool) := (allB n).map fun b => false :: b
theorem pat_mem {n9 : List Int} {n : Nat} (h : n9.length = n + 1) : signs n9 ∈ pat n := by
  cases n9 with
  | nil => simp at h
  | cons x r =>
    have e : r.length = n := by simpa using h
    refine List.mem_map.mpr ⟨r.map fun x => decide (0 < x), ?_, rfl⟩
    have h2 := allB_mem (r.map fun x => decide (0 < x))
    rw [List.length_map, e] at h2
    exact h2
/-- what holds of all signs holds of these -/
theorem pat_all {f : List Bool → Bool} (h1 : (pat 1).all f = true) (h2 : (pat 2).all f = true) (h3 : (pat 3).all f = true) (h4 : (pat 4).all f = true) (h5 : ∀ a, ((allB 4).all fun b => f (false :: a :: b)) = true)
    {n9 : List Int} (l2 : 2 ≤ n9.length) (l6 : n9.length ≤ 6) : f (signs n9) = true := by
  have e : n9.length = 1 + 1 ∨ n9.length = 2 + 1 ∨ n9.length = 3 + 1 ∨ n9.length = 4 + 1 ∨ n9.length = 5 + 1 := by omega
  rcases e with e | e | e | e | e
  · exact List.all_eq_true.mp h1 _ (pat_mem e)
  · exact List.all_eq_true.mp h2 _ (pat_mem e)
  · exact List.all_eq_true.mp h3 _ (pat_mem e)
  · exact List.all_eq_true.mp h4 _ (pat_mem e)
  · cases n9 with
    | nil => simp at e
    | cons x r => cases r with
      | nil => simp at e
      | cons y r =>
        have e2 : r.length = 4 := by simpa using e
        have h := List.all_eq_true.mp (h5 (decide (0 < y))) (r.map fun x => decide (0 < x)) (by
          have q := allB_mem (r.map fun x => decide (0 < x))
          rw [List.length_map, e2] at q
          exact q)
        exact h
end Mine

end

section -- SP
open PySem PySem.W PySem.Calls PyProof.Rows
set_option maxRecDepth 100000
namespace Mine
open RX
def lineOf (d : Nat) : List Nat := List.replicate d 46 ++ [13, 10]
def textOf (ds : List Nat) : List Nat := ds.flatMap lineOf
def crlfS : Str := ⟨#[13, 10]⟩
theorem textOf_cons (d : Nat) (ds : List Nat) : textOf (d :: ds) = List.replicate d 46 ++ 13 :: 10 :: textOf ds := by
  simp [textOf, lineOf]
section
variable {x : Str}
theorem at_crlf (k : Nat) : StrLaws.At x crlfS x.length k ↔ (x.cps.toList.drop k).take 2 = [13, 10] := by
  unfold StrLaws.At
  rw [StrLaws.subAt_eq]
  have e1 : crlfS.length = 2 := rfl
  have e2 : crlfS.cps.toList = [13, 10] := rfl
  rw [e1, e2, beq_iff_eq]
  refine ⟨fun h => h.2, fun h => ⟨?_, h⟩⟩
  have hl := congrArg List.length h
  simp only [List.length_take, List.length_drop, List.length_cons, List.length_nil] at hl
  have : x.length = x.cps.toList.length := by simp [Str.length]
  omega
theorem at_line {a d : Nat} {ds : List Nat} (h : x.cps.toList.drop a = textOf (d :: ds)) {k : Nat} (h1 : a ≤ k) (h2 : k ≤ a + d) : StrLaws.At x crlfS x.length k ↔ k = a + d := by
  obtain ⟨j, rfl⟩ : ∃ j, k = a + j := ⟨k - a, by omega⟩
  rw [at_crlf, ← List.drop_drop, h, textOf_cons]
  have hd : j ≤ d := by omega
  rw [List.drop_append_of_le_length (by simpa using hd), List.drop_replicate]
  constructor
  · intro q
    by_cases e : j = d
    · omega
    · obtain ⟨z, hz⟩ : ∃ z, d - j = z + 1 := ⟨d - j - 1, by omega⟩
      rw [hz, List.replicate_succ] at q
      simp at q
  · intro q
    have e : d - j = 0 := by omega
    rw [e]; rfl
theorem parts_text : ∀ (ds : List Nat) (a : Nat) (cuts : List Nat) (f : Nat), x.cps.toList.drop a = textOf ds → StrLaws.ChainG x crlfS x.length a cuts f → (∀ k, f ≤ k → ¬ StrLaws.At x crlfS x.length k) →
    StrLaws.partsFrom x 2 a cuts = (ds ++ [0]).map dotStr
  | [], a, cuts, f, h, hc, hn => by
    have hl : x.cps.toList.length ≤ a := List.drop_eq_nil_iff.mp h
    have hx : x.length = x.cps.toList.length := by simp [Str.length]
    cases cuts with
    | nil =>
      show [Builtin.Str.strSub x a x.length] = [dotStr 0]
      congr 1
      apply Str.ext'
      apply Array.toList_inj.mp
      rw [StrLaws.strSub_toList, h]
      show List.take _ [] = []
      rw [List.take_nil]
    | cons c r =>
      have h1 := hc.1
      have h2 := hc.2.1.1
      have e1 : crlfS.length = 2 := rfl
      omega
  | d :: ds, a, cuts, f, h, hc, hn => by
    have hat := (at_line h (k := a + d) (by omega) (by omega)).mpr rfl
    cases cuts with
    | nil =>
      have e : f = a := hc
      exact absurd hat (hn _ (by omega))
    | cons c r =>
      have ec : c = a + d := by
        rcases Nat.lt_trichotomy c (a + d) with q | q | q
        · exact (at_line h hc.1 (by omega)).mp hc.2.1
        · exact q
        · exact absurd hat (hc.2.2.1 _ (by omega) q)
      subst ec
      have hdrop : x.cps.toList.drop (a + d + 2) = textOf ds := by
        rw [show a + d + 2 = a + (d + 2) by omega, ← List.drop_drop, h, textOf_cons, List.drop_append, List.drop_of_length_le (by simp)]
        simp
      show Builtin.Str.strSub x a (a + d) :: StrLaws.partsFrom x 2 (a + d + 2) r = dotStr d :: (ds ++ [0]).map dotStr
      rw [parts_text ds (a + d + 2) r f hdrop hc.2.2.2 hn]
      congr 1
      apply Str.ext'
      apply Array.toList_inj.mp
      rw [StrLaws.strSub_toList, h, textOf_cons, show a + d - a = d by omega]
      show _ = List.replicate d 46
      rw [List.take_append_of_le_length (by simp)]
      simp
end
theorem kind_crlf (x : Str) : ¬ Builtin.Str.strKind x < Builtin.Str.strKind crlfS := by
  have e : Builtin.Str.strKind crlfS = 1 := by decide +kernel
  rw [e]
  unfold Builtin.Str.strKind
  split
  · omega
  · split <;> omega
theorem split_lines (ds : List Nat) (hne : ds ≠ []) : Txt.split ⟨(textOf ds).toArray⟩ crlfS = (ds ++ [0]).map dotStr := by
  obtain ⟨d, r, rfl⟩ : ∃ d r, ds = d :: r := by
    cases ds with
    | nil => exact absurd rfl hne
    | cons d r => exact ⟨d, r, rfl⟩
  obtain ⟨f, hc, hn⟩ := StrLaws.occ_tight ⟨(textOf (d :: r)).toArray⟩ crlfS (by decide)
  have hd : (⟨(textOf (d :: r)).toArray⟩ : Str).cps.toList.drop 0 = textOf (d :: r) := by simp
  have hat := (at_line hd (k := 0 + d) (by omega) (by omega)).mpr rfl
  have hlen := hat.1
  unfold Txt.split
  rw [if_neg, if_neg, StrLaws.partsBetween_eq]
  · exact parts_text (d :: r) 0 _ f hd hc hn
  · intro q
    rw [List.isEmpty_iff.mp q] at hc
    have e : f = 0 := hc
    exact absurd hat (hn _ (by omega))
  · intro q
    rw [Bool.or_eq_true, decide_eq_true_eq, decide_eq_true_eq] at q
    rcases q with q | q
    · omega
    · exact kind_crlf _ q
end Mine

end

section -- PK
open PySem PySem.W PySem.Calls PyProof.Rows
set_option maxRecDepth 100000
namespace Mine
open RX
def dotsB (bs : List Bool) (lt i : Nat) : Nat := (rowB bs i).sum.toNat + 1 + lt
def dlB (bs : List Bool) (lt : Nat) : List Nat := (List.range bs.length).map (dotsB bs lt)
def mrB (bs : List Bool) : Nat → List Nat
  | 0 => []
  | i + 1 => if bs.getD i false = true then (mrB bs i).map (fun d => d + 1) ++ [i + 1] else mrB bs i ++ [1]
def totalOf (ds : List Nat) : Nat := (ds.map fun x => (16 ^ x - 1) / 15).sum
def maxOf (ds : List Nat) : Nat := ds.foldl max 0
def reachOf (ds : List Nat) (k : Nat) : Nat := (ds.filter fun x => decide (k < x)).length
def wordOf (ds : List Nat) : List Nat := (List.range (maxOf ds)).reverse.map fun k => 65 + reachOf ds k
def apF : Nat → Nat → List Nat
  | 0, _ => []
  | f + 1, n => if n = 0 then [] else apF f (n / 16) ++ [65 + n % 16]
theorem apF_eq : ∀ f n, n < 16 ^ f → apL n = apF f n
  | 0, n, h => by
    have e : n = 0 := by simpa using h
    subst e; rw [apL]; rfl
  | f + 1, n, h => by
    rw [apL, apF]
    split
    · rfl
    · rw [apF_eq f (n / 16) (by rw [Nat.pow_succ] at h; omega)]
def lettersOf (ds : List Nat) (lt : Nat) : List Nat := (wordOf ds).take (maxOf ds - 1 - lt)
/-- how many signs from k on are above nought -/
def uB : List Bool → Nat → Nat
  | [], _ => 0
  | x :: bs, 0 => (if x = true then 1 else 0) + uB bs 0
  | _ :: bs, k + 1 => uB bs k
def bN (bs : List Bool) (k : Nat) : Nat := if bs.getD k false = true then 1 else 0
def fB (bs : List Bool) (j : Nat) : Nat := uB bs (j + 1) + bN bs j * (j + 1)
def facsB (bs : List Bool) (j : Nat) : List Nat := (List.range j).map fun i => 65 + fB bs (i + 1)
def chkD (bs : List Bool) : Bool := (List.range bs.length).all fun i => decide ((rowB bs i).sum = ((uB bs (i + 1) + bN bs i * i : Nat) : Int))
def chkP (bs : List Bool) (lt : Nat) : Bool := (lettersOf (dlB bs lt) lt ++ List.replicate (bs.length - (maxOf (dlB bs lt) - 1 - lt)) 65).isPerm (65 :: facsB bs (bs.length - 1))
/-- what is to be seen of one row of signs and one last -/
def chk1 (bs : List Bool) (lt : Nat) : Bool :=
  decide ((mrB bs bs.length).map (fun d => d + lt) = dlB bs lt) && (decide (totalOf (dlB bs lt) < 16 ^ 20) && decide (apF 20 (totalOf (dlB bs lt)) = wordOf (dlB bs lt)))
def chk2 (bs : List Bool) : Bool := chkD bs && (chkP bs 1 && chkP bs 2)
def chk11 (bs : List Bool) : Bool := chk1 bs 1 && chk1 bs 2
theorem a11 : (pat 1).all chk11 = true := by decide +kernel
theorem a12 : (pat 2).all chk11 = true := by decide +kernel
theorem a13 : (pat 3).all chk11 = true := by decide +kernel
theorem a14 : (pat 4).all chk11 = true := by decide +kernel
theorem a15 : ((allB 4).all fun b => chk11 (false :: false :: b)) = true := by decide +kernel
theorem a16 : ((allB 4).all fun b => chk11 (false :: true :: b)) = true := by decide +kernel
theorem a21 : (pat 1).all chk2 = true := by decide +kernel
theorem a22 : (pat 2).all chk2 = true := by decide +kernel
theorem a23 : (pat 3).all chk2 = true := by decide +kernel
theorem a24 : (pat 4).all chk2 = true := by decide +kernel
theorem a25 : ((allB 4).all fun b => chk2 (false :: false :: b)) = true := by decide +kernel
theorem a26 : ((allB 4).all fun b => chk2 (false :: true :: b)) = true := by decide +kernel
theorem all2 {n9 : List Int} (l2 : 2 ≤ n9.length) (l6 : n9.length ≤ 6) : chk2 (signs n9) = true := pat_all a21 a22 a23 a24 (fun a => by cases a; exact a25; exact a26) l2 l6
theorem all1 {n9 : List Int} (l2 : 2 ≤ n9.length) (l6 : n9.length ≤ 6) : chk11 (signs n9) = true := pat_all a11 a12 a13 a14 (fun a => by cases a; exact a15; exact a16) l2 l6
end Mine

end

section -- DB
open PySem PySem.W PySem.Calls PyProof.Rows
set_option maxRecDepth 100000
namespace Mine
open RX
/-- the run's pivot, and what is taken off behind it -/
def pr (a b : Nat → Int) : Nat → Int × Int
  | 0 => (1, 0)
  | k + 1 => ((pr a b k).1 * a k - b k * (pr a b k).2, (pr a b k).2 * (a k + 2 * b k) + (pr a b k).1)
def thr (a b : Nat → Int) (i j : Nat) : Int := if i = j then a i else - b (max i j)
def cf (a b : Nat → Int) (k i j : Nat) : Int := (pr a b k).1 * thr a b i j - b i * b j * (pr a b k).2
theorem ring0 (p r ak bi bj x : Int) : (p * x - bi * bj * r) * (p * ak - 0 * 0 * r) - (p * -bi - bi * 0 * r) * (p * -bj - 0 * bj * r) = p * ((p * ak - 0 * r) * x - bi * bj * (r * (ak + 2 * 0) + p)) := by grind
theorem ring1 (p r ak bi bj x : Int) : (p * x - bi * bj * r) * (p * ak - 1 * 1 * r) - (p * -bi - bi * 1 * r) * (p * -bj - 1 * bj * r) = p * ((p * ak - 1 * r) * x - bi * bj * (r * (ak + 2 * 1) + p)) := by grind
section
variable {a b : Nat → Int} (hb : ∀ k, b k = 0 ∨ b k = 1) {m : Nat}
include hb
theorem cf_cross {k i j : Nat} (hi : k < i) (hj : k < j) : cf a b k i j * cf a b k k k - cf a b k i k * cf a b k k j = (pr a b k).1 * cf a b (k + 1) i j := by
  have e1 : thr a b k k = a k := if_pos rfl
  have e2 : thr a b i k = - b i := by unfold thr; rw [if_neg (by omega), Nat.max_eq_left (by omega)]
  have e3 : thr a b k j = - b j := by unfold thr; rw [if_neg (by omega), Nat.max_eq_right (by omega)]
  unfold cf
  rw [e1, e2, e3, pr]
  rcases hb k with e | e <;> rw [e]
  · exact ring0 _ _ _ _ _ _
  · exact ring1 _ _ _ _ _ _
theorem cf_pivot (k : Nat) : cf a b k k k = (pr a b (k + 1)).1 := by
  have e1 : thr a b k k = a k := if_pos rfl
  unfold cf
  rw [e1, pr]
  rcases hb k with e | e <;> rw [e] <;> simp
omit hb
theorem cell_put {M : Mat} (h : Sq m M) {i j : Nat} (hi : i < m) (hj : j < m) (v : Int) (i' j' : Nat) : cell (put M i j v) i' j' = if i' = i ∧ j' = j then v else cell M i' j' := by
  unfold cell put
  by_cases e : i' = i
  · subst e
    rw [List.getD_eq_getElem?_getD (l := M.set _ _), List.getElem?_set_self (by rw [h.1]; exact hi), Option.getD_some]
    by_cases e2 : j' = j
    · subst e2
      rw [if_pos ⟨rfl, rfl⟩, List.getD_eq_getElem?_getD, List.getElem?_set_self (by rw [h.2 i' hi]; exact hj), Option.getD_some]
    · rw [if_neg fun q => e2 q.2, List.getD_eq_getElem?_getD, List.getElem?_set_ne (Ne.symm e2), ← List.getD_eq_getElem?_getD]
  · rw [if_neg fun q => e q.1, List.getD_eq_getElem?_getD (l := M.set _ _), List.getElem?_set_ne (Ne.symm e), ← List.getD_eq_getElem?_getD]
/-- stage k: r rows done, and c places of the next -/
structure Sta (m : Nat) (a b : Nat → Int) (k r c : Nat) (M : Mat) : Prop where
  sq : Sq m M
  small : Small M
  at_ : ∀ i j, k ≤ i → i < m → k ≤ j → j < m → cell M i j = if k < i ∧ k < j ∧ (i < k + 1 + r ∨ (i = k + 1 + r ∧ j < k + 1 + c)) then cf a b (k + 1) i j else cf a b k i j
variable (hs : ∀ k i j, k < m → i < m → j < m → (cf a b k i j).natAbs < 2 ^ 400)
include hb hs
theorem Sta.step {k r c : Nat} {M : Mat} (h : Sta m a b k r c M) (hr : k + 1 + r < m) (hc : k + 1 + c < m) (hp : (pr a b k).1 ≠ 0) : Sta m a b k r (c + 1) (bstep M k (k + 1 + r) (k + 1 + c) (pr a b k).1) := by
  have e1 : cell M (k + 1 + r) (k + 1 + c) = cf a b k (k + 1 + r) (k + 1 + c) := by rw [h.at_ _ _ (by omega) hr (by omega) hc, if_neg (by omega)]
  have e2 : cell M k k = cf a b k k k := by rw [h.at_ _ _ (by omega) (by omega) (by omega) (by omega), if_neg (by omega)]
  have e3 : cell M (k + 1 + r) k = cf a b k (k + 1 + r) k := by rw [h.at_ _ _ (by omega) hr (by omega) (by omega), if_neg (by omega)]
  have e4 : cell M k (k + 1 + c) = cf a b k k (k + 1 + c) := by rw [h.at_ _ _ (by omega) (by omega) (by omega) hc, if_neg (by omega)]
  unfold bstep
  rw [e1, e2, e3, e4, cf_cross hb (by omega) (by omega), Int.mul_fdiv_cancel_left _ hp]
  refine ⟨h.sq.put _ _ _, fun i j => ?_, fun i j h1 h2 h3 h4 => ?_⟩
  · rw [cell_put h.sq hr hc]
    split
    · exact hs _ _ _ (by omega) hr hc
    · exact h.small i j
  · rw [cell_put h.sq hr hc]
    by_cases e : i = k + 1 + r ∧ j = k + 1 + c
    · rw [if_pos e, if_pos (by omega), e.1, e.2]
    · rw [if_neg e, h.at_ i j h1 h2 h3 h4]
      by_cases q : k < i ∧ k < j ∧ (i < k + 1 + r ∨ (i = k + 1 + r ∧ j < k + 1 + c))
      · rw [if_pos q, if_pos (by omega)]
      · rw [if_neg q, if_neg (by omega)]
theorem Sta.row {k r : Nat} {M : Mat} (h : Sta m a b k r 0 M) (hr : k + 1 + r < m) (hp : (pr a b k).1 ≠ 0) : ∀ c, k + 1 + c ≤ m → Sta m a b k r c (rowTo k (k + 1 + r) (pr a b k).1 M c)
  | 0, _ => h
  | c + 1, hc => Sta.step hb hs (Sta.row h hr hp c (by omega)) hr (by omega) hp
theorem Sta.rows {k : Nat} {M : Mat} (h : Sta m a b k 0 0 M) (hp : (pr a b k).1 ≠ 0) : ∀ r, k + 1 + r ≤ m → Sta m a b k r 0 (rowsTo m k (pr a b k).1 M r)
  | 0, _ => h
  | r + 1, hr => by
    have h1 := Sta.row hb hs (Sta.rows h hp r (by omega)) (by omega) hp (m - 1 - k) (by omega)
    refine ⟨h1.sq, h1.small, fun i j g1 g2 g3 g4 => ?_⟩
    show cell (rowTo k (k + 1 + r) (pr a b k).1 (rowsTo m k (pr a b k).1 M r) (m - 1 - k)) i j = _
    rw [h1.at_ i j g1 g2 g3 g4]
    by_cases q : k < i ∧ k < j ∧ (i < k + 1 + r ∨ (i = k + 1 + r ∧ j < k + 1 + (m - 1 - k)))
    · rw [if_pos q, if_pos (by omega)]
    · rw [if_neg q, if_neg (by omega)]
variable (hp : ∀ k, k < m → (pr a b k).1 ≠ 0)
include hp
theorem Sta.det {M : Mat} (h : Sta m a b 0 0 0 M) : ∀ k, k < m → (detTo m M k).2 = (pr a b k).1 ∧ Sta m a b k 0 0 (detTo m M k).1
  | 0, _ => ⟨rfl, h⟩
  | k + 1, hk => by
    obtain ⟨g1, g2⟩ := Sta.det h k (by omega)
    have h1 := Sta.rows hb hs g2 (hp k (by omega)) (m - 1 - k) (by omega)
    rw [detTo, g1]
    dsimp only
    refine ⟨?_, h1.sq, h1.small, fun i j q1 q2 q3 q4 => ?_⟩
    · rw [h1.at_ k k (by omega) (by omega) (by omega) (by omega), if_neg (by omega), cf_pivot hb]
    · rw [h1.at_ i j (by omega) q2 (by omega) q4, if_pos (by omega), if_neg (by omega)]
theorem Sta.good {M : Mat} (h : Sta m a b 0 0 0 M) (hq : ∀ k, k < m → (pr a b k).1.natAbs < 2 ^ 400) : Good m M := by
  intro k hk
  obtain ⟨g1, g2⟩ := Sta.det hb hs hp h k (by omega)
  rw [g1]
  refine ⟨hp k (by omega), hq k (by omega), fun c hc c' hc' => ?_⟩
  exact (Sta.row hb hs (Sta.rows hb hs g2 (hp k (by omega)) c (by omega)) (by omega) (hp k (by omega)) c' (by omega)).small
theorem Sta.last {M : Mat} (h : Sta m a b 0 0 0 M) (hm : 1 ≤ m) : cell (detTo m M (m - 1)).1 (m - 1) (m - 1) = (pr a b m).1 := by
  obtain ⟨g1, g2⟩ := Sta.det hb hs hp h (m - 1) (by omega)
  rw [g2.at_ _ _ (by omega) (by omega) (by omega) (by omega), if_neg (by omega), cf_pivot hb, show m - 1 + 1 = m by omega]
end
end Mine

end

section -- DC
open PySem PySem.W PySem.Calls PyProof.Rows
set_option maxRecDepth 100000
namespace Mine
open RX
theorem uB_step : ∀ (bs : List Bool) (k : Nat), uB bs k = uB bs (k + 1) + bN bs k
  | [], _ => by simp [uB, bN]
  | x :: bs, 0 => by
    rw [uB, uB, bN, List.getD_cons_zero]; omega
  | x :: bs, k + 1 => by
    rw [uB, uB, uB_step bs k, bN, bN, List.getD_cons_succ]
theorem bN_le (bs : List Bool) (k : Nat) : bN bs k ≤ 1 := by unfold bN; split <;> omega
theorem uB_le : ∀ (bs : List Bool) (k : Nat), uB bs k ≤ bs.length
  | [], _ => by simp [uB]
  | x :: bs, 0 => by
    have ih := uB_le bs 0
    rw [uB, List.length_cons]; split <;> omega
  | x :: bs, k + 1 => by
    have ih := uB_le bs k
    rw [uB, List.length_cons]; omega
theorem uB_end : ∀ (bs : List Bool) (k : Nat), bs.length ≤ k → uB bs k = 0
  | [], _, _ => by simp [uB]
  | x :: bs, 0, h => by simp at h
  | x :: bs, k + 1, h => by
    rw [uB, uB_end bs k (by rw [List.length_cons] at h; omega)]
def aB (t : Int) (bs : List Bool) (i : Nat) : Int := t + ((uB bs (i + 1) + bN bs i * i : Nat) : Int)
def bZ (bs : List Bool) (k : Nat) : Int := (bN bs k : Nat)
theorem bZ_two (bs : List Bool) (k : Nat) : bZ bs k = 0 ∨ bZ bs k = 1 := by
  have := bN_le bs k
  unfold bZ; omega
def qq (t : Int) (bs : List Bool) : Nat → Int
  | 0 => 1
  | j + 1 => qq t bs j * (t + (fB bs (j + 1) : Nat))
theorem ringP0 (t u j q : Int) : (t + (u + 0)) * q * (t + (u + 0 * j)) - 0 * (j * q) = (t + u) * (q * (t + (u + 0 * (j + 1)))) := by grind
theorem ringP1 (t u j q : Int) : (t + (u + 1)) * q * (t + (u + 1 * j)) - 1 * (j * q) = (t + u) * (q * (t + (u + 1 * (j + 1)))) := by grind
theorem ringR0 (t u j q : Int) : (j * q) * (t + (u + 0 * j) + 2 * 0) + (t + (u + 0)) * q = (j + 1) * (q * (t + (u + 0 * (j + 1)))) := by grind
theorem ringR1 (t u j q : Int) : (j * q) * (t + (u + 1 * j) + 2 * 1) + (t + (u + 1)) * q = (j + 1) * (q * (t + (u + 1 * (j + 1)))) := by grind
theorem pr_closed (t : Int) (bs : List Bool) : ∀ j, pr (aB t bs) (bZ bs) (j + 1) = ((t + (uB bs (j + 1) : Nat)) * qq t bs j, ((j + 1 : Nat) : Int) * qq t bs j)
  | 0 => by
    simp [pr, aB, qq]
  | j + 1 => by
    rw [pr, pr_closed t bs j]
    have e := uB_step bs (j + 1)
    have e1 : aB t bs (j + 1) = t + (((uB bs (j + 1 + 1) : Nat) : Int) + ((bN bs (j + 1) : Nat) : Int) * ((j + 1 : Nat) : Int)) := by
      unfold aB; push_cast; rfl
    have e2 : ((fB bs (j + 1) : Nat) : Int) = ((uB bs (j + 1 + 1) : Nat) : Int) + ((bN bs (j + 1) : Nat) : Int) * (((j + 1 : Nat) : Int) + 1) := by
      unfold fB; push_cast; rfl
    have e3 : ((uB bs (j + 1) : Nat) : Int) = ((uB bs (j + 1 + 1) : Nat) : Int) + ((bN bs (j + 1) : Nat) : Int) := by
      rw [e]; push_cast; rfl
    have e4 : ((j + 1 + 1 : Nat) : Int) = ((j + 1 : Nat) : Int) + 1 := by push_cast; rfl
    rw [e1, qq, e2, e3, e4]
    unfold bZ
    have hb := bN_le bs (j + 1)
    have hb2 : bN bs (j + 1) = 0 ∨ bN bs (j + 1) = 1 := by omega
    generalize ((j + 1 : Nat) : Int) = J
    generalize ((uB bs (j + 1 + 1) : Nat) : Int) = u
    generalize qq t bs j = q
    rcases hb2 with e | e <;> rw [e]
    · exact Prod.ext (ringP0 t u J q) (ringR0 t u J q)
    · exact Prod.ext (ringP1 t u J q) (ringR1 t u J q)
section
variable {t : Int} {bs : List Bool} (ht : 1 ≤ t ∧ t ≤ 1048576) (h6 : bs.length ≤ 6)
include ht
theorem qq_pos : ∀ j, 0 < qq t bs j
  | 0 => by rw [qq]; decide
  | j + 1 => Int.mul_pos (qq_pos j) (by omega)
theorem pr_pos (k : Nat) : 0 < (pr (aB t bs) (bZ bs) k).1 := by
  cases k with
  | zero => rw [pr]; decide
  | succ j => rw [pr_closed]; exact Int.mul_pos (by omega) (qq_pos ht j)
include h6
omit ht in
theorem fB_le {j : Nat} (hj : j ≤ 6) : fB bs j ≤ 13 := by
  have h1 := uB_le bs (j + 1)
  have h2 := bN_le bs j
  have h3 : bN bs j * (j + 1) ≤ 1 * 7 := Nat.mul_le_mul h2 (by omega)
  unfold fB; omega
theorem qq_le : ∀ j, j ≤ 6 → (qq t bs j).natAbs ≤ 2097152 ^ j
  | 0, _ => by simp [qq]
  | j + 1, hj => by
    have h1 := fB_le h6 hj
    rw [qq, Int.natAbs_mul, Nat.pow_succ]
    exact Nat.mul_le_mul (qq_le j (by omega)) (by omega)
theorem pr_le : ∀ k, k ≤ 6 → (pr (aB t bs) (bZ bs) k).1.natAbs ≤ 2097152 ^ 7 ∧ (pr (aB t bs) (bZ bs) k).2.natAbs ≤ 2097152 ^ 7
  | 0, _ => by rw [pr]; decide +kernel
  | j + 1, hj => by
    have h1 : (qq t bs j).natAbs ≤ 2097152 ^ 6 := Nat.le_trans (qq_le ht h6 j (by omega)) (Nat.pow_le_pow_right (by decide) (by omega))
    have h2 := uB_le bs (j + 1)
    have e : 2097152 ^ 7 = 2097152 * 2097152 ^ 6 := by decide +kernel
    rw [pr_closed, e]
    dsimp only
    rw [Int.natAbs_mul, Int.natAbs_mul]
    exact ⟨Nat.mul_le_mul (by omega) h1, Nat.mul_le_mul (by omega) h1⟩
theorem thr_le {i j : Nat} (hi : i ≤ 6) : (thr (aB t bs) (bZ bs) i j).natAbs ≤ 2097152 := by
  unfold thr
  split
  · have h1 := uB_le bs (i + 1)
    have h2 := bN_le bs i
    have h3 : bN bs i * i ≤ 1 * 6 := Nat.mul_le_mul h2 hi
    unfold aB; omega
  · have := bN_le bs (max i j)
    unfold bZ; omega
theorem cf_le {k i j : Nat} (hk : k < bs.length) (hi : i < bs.length) (_ : j < bs.length) : (cf (aB t bs) (bZ bs) k i j).natAbs < 2 ^ 400 := by
  obtain ⟨h1, h2⟩ := pr_le ht h6 k (by omega)
  have h3 := thr_le ht h6 (i := i) (j := j) (by omega)
  have hb : (bZ bs i * bZ bs j).natAbs ≤ 1 := by
    rcases bZ_two bs i with e | e <;> rcases bZ_two bs j with f | f <;> rw [e, f] <;> decide
  have g1 := Nat.mul_le_mul h1 h3
  have g2 := Nat.mul_le_mul hb h2
  rw [← Int.natAbs_mul] at g1 g2
  have e : 2097152 ^ 7 * 2097152 + 1 * 2097152 ^ 7 < 2 ^ 400 := by decide +kernel
  refine Nat.lt_of_le_of_lt ?_ e
  unfold cf
  exact Nat.le_trans (by omega) (Nat.add_le_add g1 g2)
end
/-- the product over words' letters -/
def prd (t : Int) : List Nat → Int
  | [] => 1
  | z :: l => (t + (z : Nat) - 65) * prd t l
theorem prd_append (t : Int) : ∀ l r, prd t (l ++ r) = prd t l * prd t r
  | [], r => by simp [prd]
  | z :: l, r => by rw [List.cons_append, prd, prd, prd_append t l r, Int.mul_assoc]
theorem prd_perm (t : Int) {l r : List Nat} (h : l.Perm r) : prd t l = prd t r := by
  induction h with
  | nil => rfl
  | cons x _ ih => rw [prd, prd, ih]
  | swap x y l => rw [prd, prd, prd, prd, Int.mul_left_comm]
  | trans _ _ h1 h2 => rw [h1, h2]
theorem prd_rep (t : Int) : ∀ k, prd t (List.replicate k 65) = t ^ k
  | 0 => by simp [prd]
  | k + 1 => by
    rw [List.replicate_succ, prd, prd_rep t k, Int.pow_succ, Int.mul_comm]
    congr 1; omega
theorem prd_fold (t : Int) : ∀ (l : List Nat) (d : Int), (l.map fun (z : Nat) => (z : Int)).foldl (fun d z => d * (t + z - 65)) d = d * prd t l
  | [], d => by simp [prd]
  | z :: l, d => by rw [List.map_cons, List.foldl_cons, prd_fold t l, prd, Int.mul_assoc]
theorem prd_facs (t : Int) (bs : List Bool) : ∀ j, prd t (facsB bs j) = qq t bs j
  | 0 => rfl
  | j + 1 => by
    have e : facsB bs (j + 1) = facsB bs j ++ [65 + fB bs (j + 1)] := by
      unfold facsB; rw [List.range_succ, List.map_append]; rfl
    rw [e, prd_append, prd_facs t bs j, qq, prd, prd, Int.mul_one]
    congr 1
    push_cast; omega
end Mine

end

section -- PE
open PySem PySem.W PySem.Calls PyProof.Rows
set_option maxRecDepth 100000
namespace Mine
open RX
section
variable {ns n9 : List Int}
theorem last_two (ns : List Int) : lastOf ns = 1 ∨ lastOf ns = 2 := by unfold lastOf; omega
theorem chk1_at (o : NumsOf ns n9) : chk1 (signs n9) (lastOf ns) = true := by
  have e9 := NumsOf.len o
  have h := all1 (n9 := n9) e9.1 e9.2
  rw [chk11, Bool.and_eq_true] at h
  rcases last_two ns with e | e <;> rw [e]
  · exact h.1
  · exact h.2
theorem dots_sign (o : NumsOf ns n9) {i : Nat} (hi : i < n9.length) : dotsN ns n9 i = dotsB (signs n9) (lastOf ns) i := by
  unfold dotsN dotsB
  rw [row_sign o hi]
theorem dl_eq (o : NumsOf ns n9) : (List.range n9.length).map (dotsN ns n9) = dlB (signs n9) (lastOf ns) := by
  unfold dlB
  rw [signs_len]
  exact List.map_congr_left fun i hi => dots_sign o (List.mem_range.mp hi)
theorem due_text (o : NumsOf ns n9) : dueText ns n9 = textOf (dlB (signs n9) (lastOf ns)) := by
  rw [← dl_eq o]
  unfold dueText textOf
  rw [List.flatMap_map]
  rfl
theorem total_of (o : NumsOf ns n9) : totalN ns n9 = totalOf (dlB (signs n9) (lastOf ns)) := by
  rw [← dl_eq o]
  unfold totalN totalOf
  rw [List.map_map]
  rfl
theorem max_of (o : NumsOf ns n9) : maxDots ns n9 = maxOf (dlB (signs n9) (lastOf ns)) := by
  rw [← dl_eq o]; rfl
theorem reach_of (o : NumsOf ns n9) (k : Nat) : reachN ns n9 k = reachOf (dlB (signs n9) (lastOf ns)) k := by
  rw [← dl_eq o]
  unfold reachN reachOf
  rw [List.filter_map, List.length_map]
  rfl
theorem word_of (o : NumsOf ns n9) : wordL ns n9 = wordOf (dlB (signs n9) (lastOf ns)) := by
  unfold wordL wordOf
  rw [max_of o]
  exact List.map_congr_left fun k _ => by rw [reach_of o]
theorem mr_rows (ns n9 : List Int) : ∀ i, i ≤ n9.length → (mailRows n9 i).map (·.1) = mrB (signs n9) i
  | 0, _ => rfl
  | 0 + 1, h => by
    have e : (signs n9).getD 0 false = false := by
      cases n9 <;> rfl
    rw [mailRows, mrB, e, if_neg (show ¬ (false = true) by decide)]
    split <;> rfl
  | i + 1 + 1, h => by
    have ih := mr_rows ns n9 (i + 1) (by omega)
    have e : (n9.getD (i + 1) 0 > 0) ↔ (signs n9).getD (i + 1) false = true := (signs_at (by omega) (by omega)).symm
    rw [mailRows, mrB]
    by_cases q : n9.getD (i + 1) 0 > 0
    · rw [if_pos q, if_pos (e.mp q), List.map_append, List.map_map, ← ih, List.map_map]; rfl
    · rw [if_neg q, if_neg fun z => q (e.mpr z), List.map_append, ih]; rfl
theorem fin_text (o : NumsOf ns n9) : finText ns n9 = dueText ns n9 := by
  have c := chk1_at o
  rw [chk1, Bool.and_eq_true] at c
  have c1 := of_decide_eq_true c.1
  rw [signs_len, ← mr_rows ns n9 n9.length (Nat.le_refl _)] at c1
  obtain ⟨k, hk⟩ : ∃ k, lastOf ns = k + 1 := ⟨lastOf ns - 1, by have := lastOf_le ns; omega⟩
  rw [due_text o, ← c1, finText, hk, mail_rows, quoteIt_rows fun r hr => (mailRows_ok n9 _ r hr).1]
  unfold rowsText textOf
  rw [List.map_map, List.flatMap_map, List.flatMap_map]
  rfl
theorem fin_word (o : NumsOf ns n9) : apL (totalN ns n9) = wordL ns n9 := by
  have c := chk1_at o
  rw [chk1, Bool.and_eq_true, Bool.and_eq_true] at c
  rw [total_of o, word_of o, apF_eq 20 _ (of_decide_eq_true c.2.1)]
  exact of_decide_eq_true c.2.2
theorem parts_of (o : NumsOf ns n9) : (List.range (n9.length + 1)).map (partN ns n9) = dlB (signs n9) (lastOf ns) ++ [0] := by
  rw [← dl_eq o, List.range_succ, List.map_append]
  congr 1
  · exact List.map_congr_left fun i hi => if_pos (List.mem_range.mp hi)
  · simp [partN]
theorem split_text (o : NumsOf ns n9) : Txt.split ⟨(dueText ns n9).toArray⟩ (Str.ofString "\r\n") = (List.range (n9.length + 1)).map fun i => dotStr (partN ns n9 i) := by
  have e : Str.ofString "\r\n" = crlfS := by decide +kernel
  have e9 := NumsOf.len o
  have hne : dlB (signs n9) (lastOf ns) ≠ [] := fun h => by
    have := congrArg List.length h
    unfold dlB at this
    rw [List.length_map, List.length_range, signs_len, List.length_nil] at this
    omega
  rw [e, due_text o, split_lines _ hne, ← parts_of o, List.map_map]
  rfl
end
end Mine

end

section -- PA
open PySem PySem.W PySem.Calls PyProof.Rows
set_option maxRecDepth 100000
namespace Mine
open RX
def totTo (ns n9 : List Int) (i : Nat) : Nat := ((List.range i).map fun k => (16 ^ partN ns n9 k - 1) / 15).sum
theorem totTo_all (ns n9 : List Int) : totTo ns n9 (n9.length + 1) = totalN ns n9 := by
  unfold totTo totalN
  rw [List.range_succ, List.map_append, List.sum_append]
  have e : (List.range n9.length).map (fun k => (16 ^ partN ns n9 k - 1) / 15) = (List.range n9.length).map fun k => (16 ^ dotsN ns n9 k - 1) / 15 := by
    refine List.map_congr_left fun k hk => ?_
    rw [partN, if_pos (List.mem_range.mp hk)]
  rw [e]
  simp [partN]
theorem partN_le {ns n9 : List Int} {i : Nat} (h : n9.length ≤ 6) : partN ns n9 i ≤ 9 := by
  unfold partN
  split
  · exact (dotsN_le h).2
  · omega
theorem totTo_le {ns n9 : List Int} (h : n9.length ≤ 6) (i : Nat) : totTo ns n9 i ≤ i * 16 ^ 9 := by
  have h2 := sum_le_of (l := (List.range i).map fun k => (16 ^ partN ns n9 k - 1) / 15) (B := 16 ^ 9) fun x hx => by
    obtain ⟨k, _, rfl⟩ := List.mem_map.mp hx
    refine Nat.le_trans (Nat.div_le_self _ _) (Nat.le_trans (Nat.sub_le _ _) (Nat.pow_le_pow_right (by decide) (partN_le h)))
  rw [List.length_map, List.length_range] at h2
  exact h2
theorem dueText_len {ns n9 : List Int} (h : n9.length ≤ 6) : (⟨(dueText ns n9).toArray⟩ : Str).length ≤ 66 := by
  show (dueText ns n9).toArray.size ≤ 66
  rw [List.size_toArray, dueText, List.flatMap_def, List.length_flatten]
  have h2 := sum_le_of (l := ((List.range n9.length).map (dueRow ns n9)).map List.length) (B := 11) fun x hx => by
    simp only [List.mem_map] at hx
    obtain ⟨y, ⟨i, _, rfl⟩, rfl⟩ := hx
    have := dotsN_le (ns := ns) (i := i) h
    simp only [dueRow, List.length_append, List.length_replicate, List.length_cons, List.length_nil]
    omega
  simp only [List.length_map, List.length_range] at h2
  omega
theorem split_fit {ns n9 : List Int} (h : n9.length ≤ 6) : (⟨(dueText ns n9).toArray⟩ : Str).length + 2 ≤ sizeLine := by
  have := dueText_len (ns := ns) h
  rw [sizeLine_eq]; omega
/-- what stands of the dots -/
structure Dots (L T D P : Addr) (dv : List Value) (ns n9 : List Int) : Prop where
  ne : @Ne Nat T P ∧ @Ne Nat D P ∧ @Ne Nat (L + 1 + 1 + 1 + 1 + 1 + 1) P ∧ @Ne Nat (L + 1 + 1 + 1 + 1 + 1) P ∧ @Ne Nat (L + 1 + 1 + 1 + 1) P ∧ @Ne Nat (L + 1 + 1 + 1) P ∧ @Ne Nat (L + 1 + 1) P ∧ @Ne Nat (L + 1) P ∧ @Ne Nat 99 P
  i : IntsAre dv ((List.range n9.length).map fun i => (dotsN ns n9 i : Int))
theorem dotStr_len (k : Nat) : ((dotStr k).length : Int) = (k : Nat) := by
  simp [dotStr, Str.length]
theorem parts_at {ns n9 : List Int} {l : List (Str × Tok)} (e : l.map (·.1) = Txt.split ⟨(dueText ns n9).toArray⟩ (Str.ofString "\r\n")) (o : NumsOf ns n9) :
    (strValues l).length = n9.length + 1 ∧ ∀ (i : Nat) v, (strValues l)[i]? = some v → ∃ t, v = .str (dotStr (partN ns n9 i)) t := by
  rw [split_text o] at e
  have hl : l.length = n9.length + 1 := by
    have := congrArg List.length e
    simpa using this
  refine ⟨by simpa [strValues] using hl, fun i v hv => ?_⟩
  rw [strValues, List.getElem?_map, Option.map_eq_some_iff] at hv
  obtain ⟨q, hq, rfl⟩ := hv
  have h2 := congrArg (fun z => z[i]?) e
  simp only [List.getElem?_map, hq, Option.map_some] at h2
  have hi : i < n9.length + 1 := hl ▸ (List.getElem?_eq_some_iff.mp hq).1
  rw [List.getElem?_range hi, Option.map_some] at h2
  exact ⟨q.2, by rw [← Option.some.inj h2]⟩
theorem foldl_max_le : ∀ (l : List Nat) (a B : Nat), a ≤ B → (∀ x ∈ l, x ≤ B) → l.foldl max a ≤ B
  | [], _, _, h, _ => h
  | x :: l, a, B, h, hl => foldl_max_le l (max a x) B (Nat.max_le.mpr ⟨h, hl x (.head _)⟩) fun y hy => hl y (.tail _ hy)
theorem foldl_max_ge : ∀ (l : List Nat) (a : Nat), a ≤ l.foldl max a ∧ ∀ x ∈ l, x ≤ l.foldl max a
  | [], a => ⟨Nat.le_refl _, fun _ h => nomatch h⟩
  | x :: l, a => by
    have ih := foldl_max_ge l (max a x)
    refine ⟨Nat.le_trans (Nat.le_max_left a x) ih.1, fun y hy => ?_⟩
    rcases List.mem_cons.mp hy with rfl | hy
    · exact Nat.le_trans (Nat.le_max_right a y) ih.1
    · exact ih.2 y hy
theorem maxDots_le {ns n9 : List Int} (h : n9.length ≤ 6) : maxDots ns n9 ≤ 9 := foldl_max_le _ _ _ (Nat.zero_le _) fun x hx => by
  obtain ⟨i, _, rfl⟩ := List.mem_map.mp hx
  exact (dotsN_le h).2
theorem max_dots {ns n9 : List Int} {M : Int} (h1 : M ∈ (List.range n9.length).map fun i => (dotsN ns n9 i : Int)) (h2 : ∀ a, a ∈ ((List.range n9.length).map fun i => (dotsN ns n9 i : Int)) → a ≤ M) : M = (maxDots ns n9 : Int) := by
  obtain ⟨i, hi, rfl⟩ := List.mem_map.mp h1
  have ha : dotsN ns n9 i ≤ maxDots ns n9 := (foldl_max_ge _ 0).2 _ (List.mem_map.mpr ⟨i, hi, rfl⟩)
  have hb : maxDots ns n9 ≤ dotsN ns n9 i := foldl_max_le _ _ _ (Nat.zero_le _) fun x hx => by
    obtain ⟨j, hj, rfl⟩ := List.mem_map.mp hx
    have := h2 _ (List.mem_map.mpr ⟨j, hj, rfl⟩)
    omega
  omega
theorem filt_reach (ns n9 : List Int) (k : Nat) : (((List.range n9.length).map fun i => (dotsN ns n9 i : Int)).filter fun c => decide (0 + (k : Int) < c)).length = reachN ns n9 k := by
  rw [List.filter_map, List.length_map, reachN]
  congr 1
  refine List.filter_congr fun i _ => ?_
  show decide (0 + (k : Int) < (dotsN ns n9 i : Int)) = decide (k < dotsN ns n9 i)
  exact decide_eq_decide.mpr ⟨fun h => by omega, fun h => by omega⟩
theorem reachN_le {ns n9 : List Int} {k : Nat} : reachN ns n9 k ≤ n9.length := by
  unfold reachN
  have := List.length_filter_le (fun i => decide (k < dotsN ns n9 i)) (List.range n9.length)
  rw [List.length_range] at this
  exact this
def revInts (ns n9 : List Int) : List Int := ((List.range (maxDots ns n9)).map fun k => (reachN ns n9 k : Int)).reverse
def wordInts (ns n9 : List Int) : List Int := (List.range (maxDots ns n9)).map fun i => 65 + (revInts ns n9).getD i 0
theorem wordInts_eq (ns n9 : List Int) : wordInts ns n9 = (wordL ns n9).map fun (k : Nat) => (k : Int) := by
  refine List.ext_getElem? fun i => ?_
  unfold wordInts wordL revInts
  rw [List.getElem?_map, List.getElem?_map, List.getElem?_map, ← List.map_reverse]
  by_cases h : i < maxDots ns n9
  · have hr : (List.range (maxDots ns n9)).reverse[i]? = some (maxDots ns n9 - 1 - i) := by
      rw [List.getElem?_reverse (by rw [List.length_range]; exact h), List.length_range, List.getElem?_range (by omega)]
    rw [List.getElem?_range h, hr]
    simp only [Option.map_some, List.getD_eq_getElem?_getD, List.getElem?_map, hr, Option.getD_some]
    rw [Int.natCast_add]; rfl
  · rw [List.getElem?_eq_none (by rw [List.length_range]; omega), List.getElem?_eq_none (by rw [List.length_reverse, List.length_range]; omega)]
    rfl
theorem wordInts_in {ns n9 : List Int} (h : n9.length ≤ 6) : KBa.In (wordInts ns n9) := by
  intro n hn
  rw [wordInts_eq] at hn
  obtain ⟨k, hk, rfl⟩ := List.mem_map.mp hn
  unfold wordL at hk
  obtain ⟨j, _, rfl⟩ := List.mem_map.mp hk
  have := reachN_le (ns := ns) (n9 := n9) (k := j)
  omega
theorem word_bytes (ns n9 : List Int) : byteArr (wordInts ns n9) = toB (wordL ns n9) := by
  rw [wordInts_eq]
  unfold byteArr toB
  rw [List.map_map]
  rfl
theorem bytes_use {prog : Program} {w : World} {A : Around} {E : Value → Shared → Prop} {s : Shared} {h₀ : Heap} {L D : Addr} {m : Str → Option Value} {news : List (Addr × Obj)} {zs : List Value} {ns n9 : List Int} {Q : Value → Shared → Prop}
    (F : Fr h₀ L s.heap m) (N : News h₀ L s.heap news) (hh : A.handled = none) (hl : s.heap.IsList D zs.toArray) (hi : IntsAre zs (wordInts ns n9)) (h6 : n9.length ≤ 6)
    (h : ∀ h' t' k, Fr h₀ L h' m → News h₀ L h' news → Q (.bytes (toB (wordL ns n9)) t') { s with heap := h', toks := k }) : wpAny (model prog w) A (call (.type "bytes") [.ref D]) Q E s := by
  have := maxDots_le (ns := ns) (n9 := n9) h6
  refine KBa.make_K F N hh hl hi (wordInts_in h6) (by unfold wordInts; rw [List.length_map, List.length_range]; omega) fun h' t' k F' N' _ => ?_
  rw [word_bytes]
  exact h h' t' k F' N'
theorem len_use {prog : Program} {w : World} {A : Around} {E : Value → Shared → Prop} {s : Shared} {D : Addr} {zs : List Value} {ns n9 : List Int} {k : Nat} {Q : Value → Shared → Prop}
    (hl : s.heap.IsList D zs.toArray) (hi : IntsAre zs (((List.range n9.length).map fun i => (dotsN ns n9 i : Int)).filter fun c => decide (0 + (k : Int) < c))) (h6 : n9.length ≤ 6)
    (h : Q (.int (reachN ns n9 k : Nat) (s.toks + 1)) { s with toks := s.toks + 1 + 1 }) : wpAny (model prog w) A (call (.builtin "len") [.ref D]) Q E s := by
  have hz : zs.length = reachN ns n9 k := by rw [hi.length, filt_reach]
  have h2 := reachN_le (ns := ns) (n9 := n9) (k := k)
  refine Calls.call_len_list hl ?_ ?_
  · rw [List.size_toArray, hz]; omega
  · rw [List.size_toArray, hz]; exact h
/-- one turn of the sum -/
theorem tot_step {ns n9 : List Int} {i : Nat} {len : Int} (hl : len = (partN ns n9 i : Nat)) : (totTo ns n9 i : Int) + Int.fdiv ((2 : Int) ^ (4 * len).toNat - 1) 15 = (totTo ns n9 (i + 1) : Nat) := by
  subst hl
  rw [show (4 * (partN ns n9 i : Int)).toNat = 4 * partN ns n9 i by omega, Int.pow_mul, Int.fdiv_eq_ediv_of_nonneg _ (by decide)]
  unfold totTo
  rw [List.range_succ, List.map_append, List.sum_append]
  have h1 : 1 ≤ 16 ^ partN ns n9 i := Nat.pos_of_ne_zero (by
    have := Nat.pow_pos (n := partN ns n9 i) (show 0 < 16 by decide)
    omega)
  simp only [List.map_cons, List.map_nil, List.sum_cons, List.sum_nil, Nat.add_zero, Int.natCast_add]
  congr 1
  rw [Int.natCast_ediv, Int.natCast_sub h1, Int.natCast_pow]
  rfl
end Mine

end

section -- LL
open PySem PySem.W PySem.Calls PyProof.Rows
set_option maxRecDepth 100000
namespace Mine
theorem news_sub {h₀ h : Heap} {L : Addr} {all led : List (Addr × Obj)} (N : News h₀ L h all) (sub : ∀ p ∈ led, p ∈ all) : News h₀ L h led := fun p hp => N p (sub p hp)
section
variable {prog : Program} {w : World} {A : Around} {E : Value → Shared → Prop} {s : Shared} {env : Env} {h₀ : Heap} {x : Str} {body : List Stmt} {Q : Flow → Shared → Prop}
/-- a loop over a list of the ledger (laid aside), one name turned -/
theorem iter_list1 {α : Type} (mk : α → Tok → Value) {l : Addr} {zs : List Value} {c : Nat} {m₀ : Str → Option Value} {news : List (Addr × Obj)} (y : Str) (g : Nat → α)
    (hh : A.handled = none) (N₀ : News h₀ env.locals s.heap ((l, listOf zs.toArray c) :: news)) (hoff : ∀ q ∈ news, q.1 ≠ l) (F : Fr h₀ env.locals s.heap m₀) (hy : ∃ t, m₀ y = some (mk (g 0) t)) (hyx : y ≠ x)
    (turn : ∀ i v ta h tk own, i < zs.length → zs[i]? = some v → OwnOff own (news.map (·.1)) → Fr h₀ env.locals h (fun z => if z = x then some v else if z = y then some (mk (g i) ta) else m₀ z) → News h₀ env.locals h (news ++ own) →
      wpAny (model prog w) A (execs body env) (InvPostN h₀ env.locals (fun m' nx => nx = news ∧ (∃ t', m' y = some (mk (g (i + 1)) t')) ∧ ∀ z, z ≠ x → z ≠ y → m' z = m₀ z) own (news.map (·.1)) { s with heap := h, toks := tk } Q) E { s with heap := h, toks := tk })
    (done : ∀ (u : Str → Option Value) t h tk, Fr h₀ env.locals h (fun z => if z = x then u z else if z = y then some (mk (g zs.length) t) else m₀ z) → News h₀ env.locals h news → Q .next { s with heap := h, toks := tk }) :
    wpAny (model prog w) A (pyIter (.ref l)) (fun it s₂ => LoopAtV prog w A h₀ env x body Q E it s₂) E s := by
  have hls : s.heap.IsList l zs.toArray := ⟨_, (N₀ _ (.head _)).1, rfl, _, rfl⟩
  have N : News h₀ env.locals s.heap news := fun p hp => N₀ p (.tail _ hp)
  have hlL : l ≠ env.locals := (N₀ (l, _) (.head _)).2.1
  obtain ⟨ol, hol, _⟩ := id hls
  have hlt : l < s.heap.objs.size := Heap.lt_size hol
  have hne : l ≠ s.heap.objs.size := Nat.ne_of_lt hlt
  refine wpAny_pyIter_list hls ?_
  have W := Walks.list (prog := prog) (w := w) hh s.heap.objs.size l hne zs.toArray
  have hlen : zs.toArray.size = zs.length := by simp
  rw [hlen] at W
  refine loop_invN (fun i m nx => nx = news ∧ (∃ t, m y = some (mk (g i) t)) ∧ ∀ z, z ≠ x → z ≠ y → m z = m₀ z) W ?_ ?_ ?_ ?_ ⟨⟨_, Heap.get?_push_size _ rfl, rfl, rfl⟩, hls.at fun o e => Heap.get?_push_of_some _ e⟩ (F.push _) (fun p hp => ⟨Heap.get?_push_of_some _ (N p hp).1, (N p hp).2⟩) ⟨rfl, hy, fun _ _ _ => rfl⟩ ?_ ?_
  · intro hm
    rcases List.mem_cons.mp hm with e | hm
    · exact absurd F.ns.lt (e ▸ Nat.lt_irrefl _)
    · exact hlL (List.mem_singleton.mp hm).symm
  · intro b hb
    rw [List.mem_singleton.mp hb]
    exact next_is_new F
  · intro p hp hI
    exact absurd (Heap.lt_size (N p hp).1) ((List.mem_singleton.mp hI) ▸ Nat.lt_irrefl _)
  · intro q hq hm
    rcases List.mem_cons.mp hm with e | hm
    · exact absurd (Heap.lt_size (N q hq).1) (e ▸ Nat.lt_irrefl _)
    · exact hoff q hq (List.mem_singleton.mp hm)
  · rintro i v m₁ nx h tk own hi hv _ ho ⟨rfl, ⟨ta, ha⟩, hm⟩ F₁ N₁
    rw [map_one ha hm] at F₁
    exact turn i v ta h tk own hi (by simpa using hv) ho F₁ N₁
  · rintro m₁ nx h tk ⟨rfl, ⟨t, ha⟩, hm⟩ F₁ N₁
    refine done m₁ t h tk ?_ N₁
    have e : (fun z => if z = x then m₁ z else if z = y then some (mk (g zs.length) t) else m₀ z) = m₁ := by
      funext z
      by_cases h1 : z = x
      · simp [h1]
      · simp only [if_neg h1]
        by_cases h2 : z = y
        · subst h2; simp [ha]
        · simp only [if_neg h2]; exact (hm z h1 h2).symm
    rw [e]; exact F₁
end
end Mine

end

section -- PB
open PySem PySem.W PySem.Calls PyProof.Rows
set_option maxRecDepth 100000
namespace Mine
open RX
section
variable {prog : Program} {w : World} {A : Around} {E : Value → Shared → Prop} {s : Shared} {env : Env} {h₀ : Heap} {x : Str} {body : List Stmt} {Q : Flow → Shared → Prop}
/-- a loop over bytes, one name turned, the ledger stays -/
theorem iter_bytes1 {α : Type} (mk : α → Tok → Value) {b : Array UInt8} {tb : Tok} {ks : List Int} {m₀ : Str → Option Value} {news : List (Addr × Obj)} (y : Str) (g : Nat → α)
    (hh : A.handled = none) (hb : KBw.bInts b = ks) (F : Fr h₀ env.locals s.heap m₀) (N : News h₀ env.locals s.heap news) (hy : ∃ t, m₀ y = some (mk (g 0) t)) (hyx : y ≠ x)
    (turn : ∀ (i : Nat) (k : Int) t ta h tk own, i < ks.length → ks[i]? = some k → OwnOff own (news.map (·.1)) → Fr h₀ env.locals h (fun z => if z = x then some (.int k t) else if z = y then some (mk (g i) ta) else m₀ z) → News h₀ env.locals h (news ++ own) →
      wpAny (model prog w) A (execs body env) (InvPostN h₀ env.locals (fun m' nx => nx = news ∧ (∃ t', m' y = some (mk (g (i + 1)) t')) ∧ ∀ z, z ≠ x → z ≠ y → m' z = m₀ z) own (news.map (·.1)) { s with heap := h, toks := tk } Q) E { s with heap := h, toks := tk })
    (done : ∀ (u : Str → Option Value) t h tk, Fr h₀ env.locals h (fun z => if z = x then u z else if z = y then some (mk (g ks.length) t) else m₀ z) → News h₀ env.locals h news → Q .next { s with heap := h, toks := tk }) :
    wpAny (model prog w) A (pyIter (.bytes b tb)) (fun it s₂ => LoopAtV prog w A h₀ env x body Q E it s₂) E s := by
  subst hb
  refine KBw.pyIter_bytes ?_
  have W := KBw.walks (prog := prog) (w := w) hh s.heap.objs.size b tb
  have hsz : b.size = (KBw.bInts b).length := (KBw.ints_length b).symm
  rw [hsz] at W
  refine loop_invN (fun i m nx => nx = news ∧ (∃ t, m y = some (mk (g i) t)) ∧ ∀ z, z ≠ x → z ≠ y → m z = m₀ z) W ?_ ?_ ?_ ?_ ⟨_, Heap.get?_push_size _ rfl, rfl, rfl⟩ (F.push _) (fun p hp => ⟨Heap.get?_push_of_some _ (N p hp).1, (N p hp).2⟩) ⟨rfl, hy, fun _ _ _ => rfl⟩ ?_ ?_
  · intro hm
    exact absurd F.ns.lt ((List.mem_singleton.mp hm) ▸ Nat.lt_irrefl _)
  · intro b' hb
    rw [List.mem_singleton.mp hb]
    exact next_is_new F
  · intro p hp hI
    exact absurd (Heap.lt_size (N p hp).1) ((List.mem_singleton.mp hI) ▸ Nat.lt_irrefl _)
  · intro p hp hI
    exact absurd (Heap.lt_size (N p hp).1) ((List.mem_singleton.mp hI) ▸ Nat.lt_irrefl _)
  · rintro i v m₁ nx h tk own hi ⟨n, u, hn, rfl⟩ _ ho ⟨rfl, ⟨ta, ha⟩, hm⟩ F₁ N₁
    rw [map_one ha hm] at F₁
    exact turn i (n.toNat : Int) u ta h tk own hi (KBw.ints_get hn) ho F₁ N₁
  · rintro m₁ nx h tk ⟨rfl, ⟨t, ha⟩, hm⟩ F₁ N₁
    refine done m₁ t h tk ?_ N₁
    have e : (fun z => if z = x then m₁ z else if z = y then some (mk (g (KBw.bInts b).length) t) else m₀ z) = m₁ := by
      funext z
      by_cases h1 : z = x
      · simp [h1]
      · simp only [if_neg h1]
        by_cases h2 : z = y
        · subst h2; simp [ha]
        · simp only [if_neg h2]; exact (hm z h1 h2).symm
    rw [e]; exact F₁
end
def wordZ (ns n9 : List Int) : List Int := (wordL ns n9).map fun (k : Nat) => (k : Int)
theorem wordZ_len (ns n9 : List Int) : (wordZ ns n9).length = maxDots ns n9 := by simp [wordZ, wordL]
theorem word_ints {ns n9 : List Int} (h6 : n9.length ≤ 6) : KBw.bInts (toB (wordL ns n9)) = wordZ ns n9 := by
  rw [← word_bytes, KBa.ints_make (wordInts_in h6), wordInts_eq]
  rfl
/-- the top of the dots, less one and less the last -/
def topN (ns n9 : List Int) : Nat := maxDots ns n9 - 1 - lastOf ns
theorem topN_eq {ns n9 : List Int} (h2 : 2 ≤ n9.length) : ((maxDots ns n9 : Nat) : Int) - 1 - (lastOf ns : Int) = (topN ns n9 : Int) := by
  have h := (foldl_max_ge ((List.range n9.length).map (dotsN ns n9)) 0).2 (dotsN ns n9 0) (List.mem_map.mpr ⟨0, List.mem_range.mpr (by omega), rfl⟩)
  have h3 : 1 + lastOf ns ≤ dotsN ns n9 0 := by unfold dotsN; omega
  have h4 : 1 + lastOf ns ≤ maxDots ns n9 := Nat.le_trans h3 h
  unfold topN; omega
theorem tie_diag (n9 : List Int) (i : Nat) : tieVal n9 i i = 0 := if_neg fun h => h.1 rfl
theorem sum_le_pred : ∀ (l : List Int) (i : Nat), (∀ x ∈ l, 0 ≤ x ∧ x ≤ 1) → l[i]? = some 0 → l.sum ≤ (l.length : Int) - 1
  | [], _, _, h => by simp at h
  | x :: l, 0, h, hx => by
    have := sum_bound l fun y hy => h y (.tail _ hy)
    have e : x = 0 := Option.some.inj hx
    rw [List.sum_cons, List.length_cons]; omega
  | x :: l, i + 1, h, hx => by
    have := sum_le_pred l i (fun y hy => h y (.tail _ hy)) hx
    have := h x (.head _)
    rw [List.sum_cons, List.length_cons]; omega
theorem topN_lt {ns n9 : List Int} (h2 : 2 ≤ n9.length) : topN ns n9 < n9.length := by
  have h : maxDots ns n9 ≤ n9.length + lastOf ns := foldl_max_le _ _ _ (Nat.zero_le _) fun x hx => by
    obtain ⟨i, hi, rfl⟩ := List.mem_map.mp hx
    have hi' := List.mem_range.mp hi
    have h := sum_le_pred (tieRow n9 i) i (fun y hy => by
      obtain ⟨j, _, rfl⟩ := List.mem_map.mp hy
      exact tieVal_nn n9 i j) (by rw [tieRow, List.getElem?_map, List.getElem?_range hi', Option.map_some, tie_diag])
    have h3 := tieRow_sum n9 i
    rw [show (tieRow n9 i).length = n9.length by simp [tieRow]] at h
    unfold dotsN; omega
  unfold topN; omega
def lettersZ (ns n9 : List Int) : List Int := (wordZ ns n9).take (topN ns n9)
theorem lettersZ_len {ns n9 : List Int} : (lettersZ ns n9).length = topN ns n9 := by
  rw [lettersZ, List.length_take, wordZ_len]; unfold topN; omega
theorem letters_eq {ns n9 : List Int} (h2 : 2 ≤ n9.length) : ((wordZ ns n9).drop 0).take (clipAt (wordZ ns n9).length (((wordZ ns n9).length : Int) - 1 - (lastOf ns : Int)) - 0) = lettersZ ns n9 := by
  rw [wordZ_len, topN_eq h2, ← wordZ_len ns n9, List.drop_zero, Nat.sub_zero, lettersZ]
  congr 1
  have h := clipAt_cast (wordZ ns n9).length (topN ns n9 : Int)
  have h3 := lettersZ_len (ns := ns) (n9 := n9)
  rw [wordZ_len] at h ⊢
  have h4 : topN ns n9 ≤ maxDots ns n9 := by unfold topN; omega
  omega
theorem letters_len {ns n9 : List Int} (h2 : 2 ≤ n9.length) : (n9.length : Int) - ((lettersZ ns n9).length : Nat) = ((n9.length - topN ns n9 : Nat) : Int) := by
  rw [lettersZ_len]
  have := topN_lt (ns := ns) h2
  omega
def duePow (ns n9 : List Int) : Nat := n9.length - topN ns n9
def dueTo (ns n9 : List Int) (t : Int) (i : Nat) : Int := ((lettersZ ns n9).take i).foldl (fun d z => d * (t + z - 65)) (t ^ duePow ns n9)
def dueOf (ns n9 : List Int) (t : Int) : Int := (lettersZ ns n9).foldl (fun d z => d * (t + z - 65)) (t ^ duePow ns n9)
theorem dueTo_step {ns n9 : List Int} {t k : Int} {i : Nat} (h : (lettersZ ns n9)[i]? = some k) : dueTo ns n9 t i * (t + k - 65) = dueTo ns n9 t (i + 1) := by
  unfold dueTo
  rw [List.take_add_one, h]
  simp
theorem dueTo_all {ns n9 : List Int} {t : Int} : dueTo ns n9 t (lettersZ ns n9).length = dueOf ns n9 t := by
  unfold dueTo dueOf; rw [List.take_length]
theorem letters_in {ns n9 : List Int} {k : Int} {i : Nat} (h6 : n9.length ≤ 6) (h : (lettersZ ns n9)[i]? = some k) : 65 ≤ k ∧ k ≤ 71 := by
  have hm := List.mem_of_mem_take (List.mem_of_getElem? h)
  unfold wordZ wordL at hm
  obtain ⟨a, ha, rfl⟩ := List.mem_map.mp hm
  obtain ⟨j, _, rfl⟩ := List.mem_map.mp ha
  have := reachN_le (ns := ns) (n9 := n9) (k := j)
  omega
def tOf (ns : List Int) : Int := 1 + Int.fmod (ns.take 63).sum 1048576
theorem tOf_in (ns : List Int) : 1 ≤ tOf ns ∧ tOf ns ≤ 1048576 := by
  unfold tOf
  rw [Int.fmod_eq_emod_of_nonneg _ (by decide)]
  omega
end Mine

end

section -- PC
open PySem PySem.W PySem.Calls PyProof.Rows
set_option maxRecDepth 100000
namespace Mine
open RX
def tabVal (n9 : List Int) (t : Int) (i j : Nat) : Int := if i = j then t + (tieRow n9 i).sum else - tieVal n9 i j
def tabRow (n9 : List Int) (t : Int) (i : Nat) : List Int := (List.range n9.length).map (tabVal n9 t i)
theorem tab_yes {n9 : List Int} {t : Int} {i j : Nat} (h : 0 + (i : Int) = (j : Int)) : t + (tieRow n9 i).sum = tabVal n9 t i j := (if_pos (by omega)).symm
theorem tab_no {n9 : List Int} {t : Int} {i j : Nat} (h : 0 + (i : Int) ≠ (j : Int)) : - tieVal n9 i j = tabVal n9 t i j := (if_neg (by omega)).symm
theorem table_rows (n9 : List Int) (t : Int) : tableOf n9 t = (List.range n9.length).map (tabRow n9 t) := rfl
section
variable {prog : Program} {w : World} {A : Around} {E : Value → Shared → Prop} {s : Shared} {h₀ : Heap} {L T : Addr} {m : Str → Option Value} {news : List (Addr × Obj)} {rs : List Addr} {vss : List (List Value)} {n9 : List Int}
theorem tie_get {value slice : PySem.Expr} {i : Nat} {u : Tok} {Q : Value → Shared → Prop} (N : News h₀ L s.heap news) (hm : (T, LCg.lst (rs.map .ref)) ∈ news) (h1 : i < rs.length) (h64 : rs.length < 1000) (h : Q (.ref (rs.getD i 0)) s)
    (hs : subscripted slice false (.ref T) (.int (0 + (i : Int)) u) = operate [.ref T, .int (0 + (i : Int)) u] (getItem (.ref T) (.int (0 + (i : Int)) u)) := by with_unfolding_all rfl) :
    wpAny (model prog w) A (subscriptTail value slice (.ref T) (.int (0 + (i : Int)) u)) Q E s := by
  have hl : s.heap.IsList T (rs.map Value.ref).toArray := led_list N hm
  refine tail_any hl.typeIs slot_list_getitem.lookup (wpAny_getItem_list hl (by omega) (by omega) ?_ h) hs
  rw [show (0 + (i : Int)).toNat = i by omega]
  simp [List.getD_eq_getElem?_getD, h1]
theorem row_get {value slice : PySem.Expr} {i j : Nat} {u : Tok} {Q : Value → Shared → Prop} (N : News h₀ L s.heap news) (hm : (rs.getD i 0, LCg.lst (vss.getD i [])) ∈ news) (hI : IntsAre (vss.getD i []) (tieRow n9 i)) (hj : j < n9.length) (h64 : n9.length < 1000)
    (h : ∀ t, Q (.int (tieVal n9 i j) t) s)
    (hs : subscripted slice false (.ref (rs.getD i 0)) (.int (j : Nat) u) = operate [.ref (rs.getD i 0), .int (j : Nat) u] (getItem (.ref (rs.getD i 0)) (.int (j : Nat) u)) := by with_unfolding_all rfl) :
    wpAny (model prog w) A (subscriptTail value slice (.ref (rs.getD i 0)) (.int (j : Nat) u)) Q E s := by
  have hl : s.heap.IsList (rs.getD i 0) (vss.getD i []).toArray := led_list N hm
  have hlen : (tieRow n9 i).length = n9.length := by simp [tieRow]
  have e : (tieRow n9 i).getD ((j : Nat) : Int).toNat 0 = tieVal n9 i j := by
    rw [show ((j : Nat) : Int).toNat = j by omega, tieRow, List.getD_eq_getElem?_getD, List.getElem?_map, List.getElem?_range hj]; rfl
  exact item_anyK hl hI (by omega) (by omega) (by omega) (fun t => e ▸ h t) hs
theorem row_sum {i : Nat} {Q : Value → Shared → Prop} (F : Fr h₀ L s.heap m) (N : News h₀ L s.heap news) (hh : A.handled = none) (hm : (rs.getD i 0, LCg.lst (vss.getD i [])) ∈ news) (hI : IntsAre (vss.getD i []) (tieRow n9 i))
    (h : ∀ h' tk t', Fr h₀ L h' m → News h₀ L h' news → Q (.int (tieRow n9 i).sum t') { s with heap := h', toks := tk }) : wpAny (model prog w) A (call (.builtin "sum") [.ref (rs.getD i 0)]) Q E s :=
  LSm.sum_ints F N hh (led_list N hm) hI h
end
theorem table_sq (n9 : List Int) (t : Int) : Sq n9.length (tableOf n9 t) := by
  refine ⟨by simp [tableOf], fun i hi => ?_⟩
  rw [table_rows, List.getD_eq_getElem?_getD, List.getElem?_map, List.getElem?_range hi]
  simp [tabRow]
theorem table_is {n9 : List Int} {t : Int} {vss : List (List Value)} (hv : vss.length = n9.length) (h : ∀ k, k < n9.length → IntsAre (vss.getD k []) (tabRow n9 t k)) : MatIs vss (tableOf n9 t) := by
  refine ⟨by rw [hv]; simp [tableOf], fun i => ?_⟩
  by_cases hi : i < n9.length
  · rw [table_rows, List.getD_eq_getElem?_getD (l := List.map _ _), List.getElem?_map, List.getElem?_range hi]
    exact h i hi
  · rw [List.getD_eq_getElem?_getD, List.getElem?_eq_none (by omega), List.getD_eq_getElem?_getD, List.getElem?_eq_none (by simp [tableOf]; omega)]
    exact .nil
theorem chk2_at {ns n9 : List Int} (o : NumsOf ns n9) : chk2 (signs n9) = true := by
  have e9 := NumsOf.len o
  exact all2 e9.1 e9.2
theorem table_sta {ns n9 : List Int} {t : Int} (o : NumsOf ns n9) (ht : 1 ≤ t ∧ t ≤ 1048576) : Sta n9.length (aB t (signs n9)) (bZ (signs n9)) 0 0 0 (tableOf n9 t) := by
  have e9 := NumsOf.len o
  have c := chk2_at o
  rw [chk2, Bool.and_eq_true] at c
  have hc : ∀ i j, i < n9.length → j < n9.length → cell (tableOf n9 t) i j = thr (aB t (signs n9)) (bZ (signs n9)) i j := by
    intro i j hi hj
    unfold cell
    rw [table_rows, List.getD_eq_getElem?_getD (l := List.map _ _), List.getElem?_map, List.getElem?_range hi, Option.map_some, Option.getD_some, tabRow, List.getD_eq_getElem?_getD, List.getElem?_map, List.getElem?_range hj, Option.map_some, Option.getD_some]
    unfold tabVal thr
    by_cases e : i = j
    · rw [if_pos e, if_pos e, row_sign o hi]
      have h := List.all_eq_true.mp c.1 i (List.mem_range.mpr (by rw [signs_len]; exact hi))
      rw [of_decide_eq_true h]
      rfl
    · rw [if_neg e, if_neg e, tie_sign o hi hj]
      unfold bZ bN
      by_cases q : (signs n9).getD (max i j) false = true
      · rw [if_pos ⟨e, q⟩, if_pos q]; rfl
      · rw [if_neg fun z => q z.2, if_neg q]; rfl
  have hl := signs_len n9
  have sq := table_sq n9 t
  refine ⟨sq, fun i j => ?_, fun i j _ hi _ hj => ?_⟩
  · by_cases hi : i < n9.length
    · by_cases hj : j < n9.length
      · rw [hc i j hi hj]
        exact Nat.lt_of_le_of_lt (thr_le ht (by omega) (by omega)) (by decide +kernel)
      · unfold cell
        rw [List.getD_eq_getElem?_getD, List.getElem?_eq_none (by rw [sq.2 i hi]; omega)]
        show (0 : Int).natAbs < _
        decide +kernel
    · unfold cell
      rw [List.getD_eq_getElem?_getD (l := tableOf n9 t), List.getElem?_eq_none (by rw [sq.1]; omega)]
      show (0 : Int).natAbs < _
      decide +kernel
  · rw [if_neg (by omega), hc i j hi hj, cf]
    simp [pr]
theorem table_good {ns n9 : List Int} {t : Int} (o : NumsOf ns n9) (ht : 1 ≤ t ∧ t ≤ 1048576) : Good n9.length (tableOf n9 t) := by
  have e9 := NumsOf.len o
  have hl := signs_len n9
  refine Sta.good (bZ_two _) (fun k i j hk hi hj => cf_le ht (by omega) (by omega) (by omega) (by omega)) (fun k _ => ?_) (table_sta o ht) fun k hk => ?_
  · have := pr_pos (bs := signs n9) ht k
    omega
  · exact Nat.lt_of_le_of_lt (pr_le ht (by omega) k (by omega)).1 (by decide +kernel)
theorem due_of {ns n9 : List Int} {t : Int} (o : NumsOf ns n9) : dueOf ns n9 t = t ^ (n9.length - (maxOf (dlB (signs n9) (lastOf ns)) - 1 - lastOf ns)) * prd t (lettersOf (dlB (signs n9) (lastOf ns)) (lastOf ns)) := by
  have e1 : topN ns n9 = maxOf (dlB (signs n9) (lastOf ns)) - 1 - lastOf ns := by unfold topN; rw [max_of o]
  unfold dueOf
  rw [← e1, ← prd_fold]
  unfold lettersZ lettersOf duePow wordZ
  rw [e1, word_of o, List.map_take]
theorem table_det {ns n9 : List Int} {t : Int} (o : NumsOf ns n9) (ht : 1 ≤ t ∧ t ≤ 1048576) : cell (detTo n9.length (tableOf n9 t) (n9.length - 1)).1 (n9.length - 1) (n9.length - 1) = dueOf ns n9 t := by
  have e9 := NumsOf.len o
  have hl := signs_len n9
  rw [Sta.last (bZ_two _) (fun k i j hk hi hj => cf_le ht (by omega) (by omega) (by omega) (by omega)) (fun k _ => by have := pr_pos (bs := signs n9) ht k; omega) (table_sta o ht) (by omega)]
  obtain ⟨m, hm⟩ : ∃ m, n9.length = m + 1 := ⟨n9.length - 1, by omega⟩
  have c := chk2_at o
  rw [chk2, Bool.and_eq_true, Bool.and_eq_true] at c
  have cp : chkP (signs n9) (lastOf ns) = true := by
    rcases last_two ns with e | e <;> rw [e]
    · exact c.2.1
    · exact c.2.2
  have hperm := prd_perm t (List.isPerm_iff.mp cp)
  rw [prd_append, prd_rep, prd, prd_facs, hl] at hperm
  rw [due_of o, Int.mul_comm (t ^ _), hperm, hm, pr_closed, uB_end _ _ (by omega), show m + 1 - 1 = m by omega]
  dsimp only
  congr 1
  show t + ((0 : Nat) : Int) = t + ((65 : Nat) : Int) - 65
  omega
theorem led_form {D : Addr} {rs : List Addr} {vss : List (List Value)} {h₀ h : Heap} {L : Addr} {lits : List (Addr × Obj)} (N : News h₀ L h ((D, LCg.lst (rs.map Value.ref)) :: (lits ++ rowsLed rs vss))) : News h₀ L h (led D rs vss ++ lits) := fun p hp => N p (by
  rcases List.mem_append.mp hp with hp | hp
  · rcases List.mem_cons.mp hp with rfl | hp
    · exact .head _
    · exact .tail _ (List.mem_append_right _ hp)
  · exact .tail _ (List.mem_append_left _ hp))
theorem apart_of {D : Addr} {rs : List Addr} {vss : List (List Value)} {lits : List (Addr × Obj)} (hv : rs.length ≤ vss.length) (nd : rs.Nodup) (hT : ∀ p ∈ (D, LCg.lst (rs.map Value.ref)) :: lits, ∀ q ∈ rowsLed rs vss, q.1 ≠ p.1) : Apart D rs lits := by
  have mem : ∀ r ∈ rs, ∃ o, (r, o) ∈ rowsLed rs vss := fun r hr => by
    obtain ⟨i, hi⟩ := List.getElem?_of_mem hr
    have h1 := (List.getElem?_eq_some_iff.mp hi).1
    refine ⟨LCg.lst (vss.getD i []), ?_⟩
    · have := rowsLed_mem (rs := rs) (vss := vss) (i := i) h1 (by omega)
      rw [List.getD_eq_getElem?_getD, hi] at this
      exact this
  exact ⟨nd, fun h => by
    obtain ⟨o, ho⟩ := mem D h
    exact hT _ (.head _) _ ho rfl, fun p hp h => by
    obtain ⟨o, ho⟩ := mem p.1 h
    exact hT p (.tail _ hp) _ ho rfl⟩
end Mine

end

section -- CF
open PySem PySem.W PySem.Calls PyProof.Rows
set_option maxRecDepth 100000
namespace Mine
open LCg (lst NsObj Off3 Off1 CompRest CompEnd CompSrc FinE SrcAt)
section
variable {prog : Program} {w : World} {A : Around} {E : Value → Shared → Prop} {s : Shared} {h₀ : Heap} {L : Addr} {m : Str → Option Value} {env : Env}
theorem filt_grows (q : Int → Bool) : KPfGrows (fun l k => if q k = true then l ++ [k] else l) := by
  intro l k
  dsimp only
  split
  · simp
  · omega
theorem filt_fold (q : Int → Bool) : ∀ (ks l : List Int), ks.foldl (fun l k => if q k = true then l ++ [k] else l) l = l ++ ks.filter q
  | [], l => by simp
  | k :: ks, l => by
    rw [List.foldl_cons, filt_fold q ks, List.filter_cons]
    cases h : q k <;> simp
/-- a comprehension over ints of the ledger that keeps those that pass -/
theorem comp_if {elt iter ct : PySem.Expr} {x : Str} {px : Pos} {scope : Scope} {cl : List (Str × Addr)} {pos : Pos} {Q : Value → Shared → Prop} (q : Int → Bool) (F₀ : Fr h₀ L s.heap m)
    (hclos : closureFor scope env = pure cl) (hcell : ∀ y ∈ scope.names, y.2 ≠ .cell) (hkind : scope.kind = .function)
    (hnames : ∀ y ∈ scope.names, y.2 = .local → scope.names.lookup y.1 = some .local) (hx : scope.names.lookup x = some .local) (hh : A.handled = none)
    (h : wpAny (model prog w) A (eval iter env) (fun xv s₁ => ∃ ax vs ks k news, xv = .ref ax ∧ Fr h₀ L s₁.heap m ∧ News h₀ L s₁.heap news ∧ (ax, ({ cls := .type "list", data := .seq (List.toArray vs) k } : Obj)) ∈ news ∧ vs.length ≤ 1000 ∧ IntsAre vs ks ∧
      (∀ (k : Int) (t : Tok) (I : Addr) (oI : Obj) (C : Addr) (oC : Obj) (D : Addr) (ys : List Value) (m₂ : Str → Option Value) (h : Heap) (tk : Nat) (E' : Value → Shared → Prop), k ∈ ks → NsObj oC m₂ → m₂ x = some (.int k t) → Fr h₀ L h m → News h₀ L h ((I, oI) :: (C, oC) :: (D, lst ys) :: news) → Off3 I C D news → ((@Ne Nat I C) ∧ (@Ne Nat I D) ∧ (@Ne Nat C D)) →
        wpAny (model prog w) A (isTrue ct (compEnvC scope cl C env) (eval ct (compEnvC scope cl C env))) (fun b s' => if b = true then wpAny (model prog w) A (eval elt (compEnvC scope cl C env)) (Same h₀ L m { s₁ with heap := h, toks := tk } ((I, oI) :: (C, oC) :: (D, lst ys) :: news) (fun y => q k = true ∧ ∃ t, y = .int k t)) E' s'
          else Same h₀ L m { s₁ with heap := h, toks := tk } ((I, oI) :: (C, oC) :: (D, lst ys) :: news) (fun _ => q k = false) Value.none s') E' { s₁ with heap := h, toks := tk }) ∧
      (∀ D ys h tk, IntsAre ys (ks.filter q) → Fr h₀ L h m → News h₀ L h ((D, lst ys) :: news) → Off1 D news → Q (.ref D) { s₁ with heap := h, toks := tk })) E s)
    (hs : ∀ x, foldedSetIterable iter env x = pure x := by intro _; rfl) :
    wpAny (model prog w) A (eval (.ListComp elt [⟨.Name x px, iter, [ct], 0⟩] scope pos) env) Q E s := by
  refine LCt.ListComp_T F₀ hclos hcell hkind hnames hx (wpAny_mono h (fun xv s₁ h₁ => ?_) fun _ _ e => e) hs
  obtain ⟨ax, vs, ks, k, news, rfl, F, N, hm, hsz, hI, step, done⟩ := h₁
  refine LCt.CompSrcT.ledger hh F N hm (by rw [sizeLine_eq, List.size_toArray]; omega) fun g => kci_list (fun l k => if q k = true then l ++ [k] else l) hI (fun k t I oI C oC D m₂ ys l h tk E' hk hl hC hx' F' N' off ne _ => ?_) ?_ (filt_grows q)
  · refine wpAny_mono (step k t I oI C oC D ys m₂ h tk E' hk hC hx' F' N' off ne) (fun b s' hb => ?_) fun _ _ e => e
    cases b with
    | true =>
      simp only [if_true] at hb ⊢
      refine wpAny_mono hb (fun y s₂ hy => ?_) fun _ _ e => e
      obtain ⟨⟨hq, ty, rfl⟩, h', tk', rfl, F2, N2⟩ := hy
      exact CompEnd.intro F2 N2 news (fun p hp => hp) off (.inr ⟨_, hm, rfl, _, rfl⟩) (kci_el (by rw [if_pos hq]) rfl rfl)
    | false =>
      simp only [Bool.false_eq_true, if_false] at hb ⊢
      obtain ⟨hq, h', tk', rfl, F2, N2⟩ := hb
      exact CompEnd.intro F2 N2 news (fun p hp => hp) off (.inr ⟨_, hm, rfl, _, rfl⟩) (kci_no (by rw [if_neg (by rw [hq]; decide)]) rfl)
  · intro ys hys _ D h tk F2 N2 off
    rw [filt_fold, List.nil_append] at hys
    exact done D ys h tk hys F2 N2 off
end
end Mine

end

section -- CA
open PySem PySem.W PySem.Calls PyProof.Rows
set_option maxRecDepth 100000
namespace Mine
open LCg (lst NsObj)
section
variable {prog : Program} {w : World} {A : Around} {E : Value → Shared → Prop} {s : Shared} {h₀ : Heap} {L : Addr} {m : Str → Option Value} {env : Env}
theorem assign_listcomp_cell {elt iter : PySem.Expr} {x y : Str} {px py : Pos} {scope : Scope} {cl : List (Str × Addr)} {pos spos : Pos} {Q : Flow → Shared → Prop} (n : Nat) (a : Int) (J : Nat → List Value → List (Addr × Obj) → Prop) {news : List (Addr × Obj)}
    (_F₀ : Fr h₀ L s.heap m) (hLe : env.locals = L) (hsw : swapsWith (.ListComp elt [⟨.Name x px, iter, [], 0⟩] scope pos) (some (.Name y py)) spos.line env = pure true) (hy : env.kindOf y = some .local) (hp : (env.scope.kind == .class || (env.scope.kind == .module && env.locals != env.globals)) = false) (_N₀ : News h₀ L s.heap news) (hclos : closureFor scope env = pure cl) (hcells : ∀ k, cellsFrom k scope.names cl = (x, k) :: cl) (hpush : ∀ h, pushCells h scope.names = h.push { cls := .type "cell", data := .cell none })
    (hkind : scope.kind = .function) (hnames : ∀ y ∈ scope.names, y.2 = .local → scope.names.lookup y.1 = some .local) (hx : ∀ C c, (compEnvC scope c C env).kindOf x = some .cell) (hn : n ≤ 1000) (hh : A.handled = none)
    (h : wpAny (model prog w) A (eval iter env) (fun xv s₁ => ∃ r b t u v, xv = .ref r ∧ (∃ h tk, s₁ = { s with heap := h, toks := tk }) ∧ Fr h₀ L s₁.heap m ∧ News h₀ L s₁.heap news ∧ IsRange s₁.heap r a b 1 t u v ∧ b = a + (n : Int) ∧ -1000 ≤ a ∧ a ≤ 1000) E s)
    (hJ : J 0 [] news)
    (turn : ∀ (i : Nat) ys I oI C oC D X oX nw h tk t (E' : Value → Shared → Prop), i < n → J i ys nw → Off [I, C, D, X] nw → [I, C, D, X].Nodup → oX.data = .cell (some (.int (a + (i : Int)) t)) → Fr h₀ L h m → News h₀ L h (turnOwn I oI C oC D ys X oX nw) →
      wpAny (model prog w) A (eval elt (compEnvC scope ((x, X) :: cl) C env)) (EltEnd h₀ L m { s with heap := h, toks := tk } I oI C oC D ys X oX (J (i + 1))) E' { s with heap := h, toks := tk })
    (done : ∀ D ys nw h tk, J n ys nw → Off [D] nw → Fr h₀ L h (fun z => if z = y then some (.ref D) else m z) → News h₀ L h ((D, lst ys) :: nw) → Q .next { s with heap := h, toks := tk })
    (hs : ∀ x, foldedSetIterable iter env x = pure x := by intro _; rfl) :
    wpAny (model prog w) A (exec (.Assign [.Name y py] (.ListComp elt [⟨.Name x px, iter, [], 0⟩] scope pos) spos) env) Q E s := by
  rw [exec_Assign_Name_used _ _ _ _ hsw]
  refine wpAny_bind (wpAny_standAt (wpAny_bind ?_))
  show wpAny _ A (do let _ ← comprehension (.ListComp elt [⟨.Name x px, iter, [], 0⟩] scope pos) scope env _ (newList []) false (eval iter env) (some (assign (.Name y py) env))) _ _ s
  refine wpAny_bind (wpAny_mono (wpAny_comprehension_free (use := some (assign (.Name y py) env)) (Q := fun _ s' => Q .next s') rfl hs hclos hkind hnames
    (wpAny_mono h (fun xv s₁ h₁ => ?_) fun _ _ e => e)) (fun _ s' hq => wpAny_pure (wpAny_pure hq)) fun _ _ e => e)
  obtain ⟨r, b, t, u, v, rfl, ⟨hp₁, tk₁, rfl⟩, F, N, hr, hb, ha1, ha2⟩ := h₁
  have hsm : Builtin.Range.small a b 1 = true := small_one (by omega) (by omega) (by omega) (by omega)
  have hrs : Builtin.Range.rangeSize a b 1 = (n : Int) := by rw [rangeSize_nat]; omega
  refine wpAny_pyIter_range hr hsm ?_
  rw [hrs]
  dsimp only
  -- the iterator
  generalize hI : hp₁.objs.size = I
  have hIs : I = hp₁.objs.size := hI.symm
  generalize hh2 : hp₁.push _ = hp₂
  have up2 : ∀ b o, hp₁.get? b = some o → hp₂.get? b = some o := fun b o e => by rw [← hh2]; exact Heap.get?_push_of_some _ e
  have sz2 : hp₂.objs.size = I + 1 := by rw [← hh2, Heap.size_push, hI]
  have st0 : IsRangeIter hp₂ I (a + (0 : Nat) * 1) ((n : Int) - (0 : Nat)) 1 := by
    rw [← hh2, hIs]; show IsRangeIter _ _ _ _ _; simpa using Heap.get?_push_size _ rfl
  have F2 : Fr h₀ L hp₂ m := F.keeps up2
  have N2 : News h₀ L hp₂ news := N.grown up2
  -- what is made
  refine wpAny_newObj_type ?_
  dsimp only
  generalize hD : hp₂.objs.size = D
  generalize hh3 : hp₂.push _ = hp₃
  have up3 : ∀ b o, hp₂.get? b = some o → hp₃.get? b = some o := fun b o e => by rw [← hh3]; exact Heap.get?_push_of_some _ e
  have sz3 : hp₃.objs.size = I + 2 := by rw [← hh3, Heap.size_push, sz2]
  have hD3 : hp₃.get? D = some (lst []) := by rw [← hh3, ← hD]; exact Heap.get?_push_size _ rfl
  -- the block's names and the cell
  simp only [newFunctionEnv, Option.isSome_some, if_true]
  refine wpAny_bind (wpAny_alloc ?_)
  dsimp only
  generalize hC : hp₃.objs.size = C
  refine wpAny_bind (wpAny_layCells _ (fun name kind cells => by cases hkc : kind == NameKind.cell <;> simp) _ _ _ _ ?_)
  rw [hcells, hpush, Heap.size_push, hC]
  refine wpAny_bind ?_
  rw [List.forIn_nil]
  refine wpAny_pure (wpAny_pure ?_)
  generalize hX : C + 1 = X
  generalize hh5 : (hp₃.push _).push _ = hp₅
  have up5 : ∀ b o, hp₃.get? b = some o → hp₅.get? b = some o := fun b o e => by rw [← hh5]; exact Heap.get?_push_of_some _ (Heap.get?_push_of_some _ e)
  have hC5 : hp₅.get? C = some { cls := .type "dict", data := .dict #[] } := by rw [← hh5, ← hC]; exact Heap.get?_push_of_some _ (Heap.get?_push_size _ rfl)
  have hX5 : hp₅.get? X = some { cls := .type "cell", data := .cell none } := by
    have e : X = (hp₃.push { cls := .type "dict", data := .dict #[] }).objs.size := by rw [Heap.size_push, hC, hX]
    rw [← hh5, e]; exact Heap.get?_push_size _ rfl
  clear hh2 hh3 hh5 hI
  have hDv : D = I + 1 := by rw [← hD, sz2]
  have hCv : C = I + 2 := by rw [← hC, sz3]
  have hXv : X = I + 3 := by rw [← hX, hCv]
  have nd : [I, C, D, X].Nodup := by rw [hDv, hCv, hXv]; simp
  have hL0 : @LT.lt Nat _ L I := by rw [hIs]; exact F.ns.lt
  have h00 : h₀.objs.size ≤ I := by rw [hIs]; exact Nat.le_trans F.above (Nat.le_of_lt F.ns.lt)
  have none₀ : ∀ b, I ≤ b → h₀.get? b = none := fun b hb => Heap.get?_none_of_le (Nat.le_trans h00 hb)
  have hI₀ := none₀ I (Nat.le_refl _)
  have hD₀ := none₀ D (by omega)
  have hC₀ := none₀ C (by omega)
  have hX₀ := none₀ X (by omega)
  have nLI : I ≠ L := Nat.ne_of_gt hL0
  have nLD : D ≠ L := neN (by omega)
  have nLC : C ≠ L := neN (by omega)
  have nLX : X ≠ L := neN (by omega)
  have nIC : I ≠ C := by omega
  have nID : I ≠ D := by omega
  have nIX : I ≠ X := by omega
  have nCD : C ≠ D := by omega
  have nCX : C ≠ X := by omega
  have nDX : D ≠ X := by omega
  have off0 : Off [I, C, D, X] news := fun p hp => by
    have hlt : p.1 < I := by rw [hIs]; exact Heap.lt_size (N p hp).1
    simp only [List.mem_cons, List.not_mem_nil, or_false, not_or]
    have hlt' : @LT.lt Nat _ p.1 I := hlt
    refine ⟨Nat.ne_of_lt hlt', Nat.ne_of_lt (by omega), Nat.ne_of_lt (by omega), Nat.ne_of_lt (by omega)⟩
  have W := LCg.range_walks (prog := prog) (w := w) (I := I) hh a n
  have F5 : Fr h₀ L hp₅ m := (F2.keeps up3).keeps up5
  have N5 : News h₀ L hp₅ news := (N2.grown up3).grown up5
  have st5 : IsRangeIter hp₅ I (a + (0 : Nat) * 1) ((n : Int) - (0 : Nat)) 1 := W.frame 0 _ _ st0 fun b _ o e => up5 b o (up3 b o e)
  have hD5 := up5 _ _ hD3
  generalize hcenv : compEnvC scope ((x, X) :: cl) C env = cenv
  have hkc : cenv.kindOf x = some .cell := by rw [← hcenv]; exact hx _ _
  have hkf : cenv.scope.kind = .function := by rw [← hcenv]; exact hkind
  have hcc : cenv.cells.lookup x = some X := by rw [← hcenv]; simp [compEnvC, List.lookup_cons]
  let RR : Result → Shared → Prop := compPost (model prog w) A E (some (assign (.Name y py) env)) (fun _ s' => Q .next s') (.ref D) C
  have loop : ∀ s₅ : Shared, (∃ tk, s₅ = { s with heap := hp₅, toks := tk }) → codeAny (model prog w) A (.compLoop (.ListComp elt [⟨.Name x px, iter, [], 0⟩] scope pos) 0 (.ref I) (.ref D) cenv) RR s₅ := by
    rintro s₅ ⟨tk₅, rfl⟩
    refine codeAny_compLoop_tests
      (fun k s' => ∃ h' tk i ys oC oX nw m' ov, s' = { s with heap := h', toks := tk } ∧ i ≤ n ∧ k = n + 1 - i ∧ ys.length = i ∧ IsRangeIter h' I (a + (i : Nat) * 1) ((n : Int) - (i : Nat)) 1 ∧ Fr h₀ L h' m ∧ h'.get? C = some oC ∧ NsObj oC m' ∧ h'.get? X = some oX ∧ oX.data = .cell ov ∧
        News h₀ L h' ((D, lst ys) :: nw) ∧ Off [I, C, D, X] nw ∧ J i ys nw) ?_ (n + 1)
      ⟨hp₅, tk₅, 0, [], _, _, news, _, none, rfl, Nat.zero_le _, rfl, rfl, st5, F5, hC5, ⟨#[], 0, rfl, (by intro e he; simp at he), fun _ => rfl⟩, hX5, rfl, fun p hp => ?_, off0, hJ⟩
    · rintro k s' ⟨h', tk, i, ys, oC, oX, nw, m', ov, rfl, hi, rfl, hyl, st', F', hC', hnC, hX', hdX, N', off', hJ'⟩
      by_cases hlt : i < n
      · refine W.item i _ _ _ hlt st' fun v h₂ tk₂ hPv st₂ hk₂ => ?_
        obtain ⟨tv, rfl⟩ := hPv
        have o' : ∀ p ∈ nw, p.1 ≠ I ∧ p.1 ≠ C ∧ p.1 ≠ D ∧ p.1 ≠ X := fun p hp => by
          have := off' p hp
          simpa only [List.mem_cons, List.not_mem_nil, or_false, not_or] using this
        have F₂ : Fr h₀ L h₂ m := LCg.fr_but F' hk₂ nLI.symm hI₀
        have N₂ : News h₀ L h₂ ((D, lst ys) :: nw) := LCg.news_but N' hk₂ fun p hp => by
          rcases List.mem_cons.mp hp with rfl | hp
          · exact nID.symm
          · exact (o' p hp).1
        have hC₂ := hk₂ C oC (by simpa using nIC.symm) hC'
        have hX₂ := hk₂ X oX (by simpa using nIX.symm) hX'
        refine wpAny_assign_Name (storeCell hkf hkc hcc hX₂ hdX fun h₃ oX₃ hX₃ hdX₃ hs₃ => ?_)
        refine wpAny_tests_nil ?_
        simp only [if_true]
        have st₃ : IsRangeIter h₃ I (a + ((i + 1 : Nat) : Int) * 1) ((n : Int) - ((i + 1 : Nat) : Int)) 1 := W.frame _ _ _ st₂ fun b hb o e => hs₃.extBut b o (by rw [List.mem_singleton.mp hb]; exact nIX) e
        have F₃ : Fr h₀ L h₃ m := F₂.change hs₃ nLX hX₀
        have hC₃ := hs₃.extBut C oC nCX hC₂
        have N₃ : News h₀ L h₃ (turnOwn I _ C oC D ys X oX₃ nw) := fun p hp => by
          rcases List.mem_cons.mp hp with rfl | hp
          · exact ⟨st₃, nLI, hI₀⟩
          · rcases List.mem_cons.mp hp with rfl | hp
            · exact ⟨hC₃, nLC, hC₀⟩
            · rcases List.mem_cons.mp hp with rfl | hp
              · exact ⟨hs₃.extBut D _ nDX (N₂ (D, lst ys) (.head _)).1, nLD, hD₀⟩
              · rcases List.mem_cons.mp hp with rfl | hp
                · exact ⟨hX₃, nLX, hX₀⟩
                · exact ⟨hs₃.extBut p.1 _ (o' p hp).2.2.2 (N₂ p (.tail _ hp)).1, (N₂ p (.tail _ hp)).2⟩
        refine wpAny_mono (hcenv ▸ turn i ys I _ C oC D X oX₃ nw h₃ tk₂ tv _ hlt hJ' off' nd hdX₃ F₃ N₃) (fun y s₄ h₄ => ?_) fun _ _ e => e
        obtain ⟨h₄, tk₄, nw₄, rfl, F₄, N₄, off₄, J₄⟩ := h₄
        have zI := (N₄ (I, _) (.head _)).1
        have zC := (N₄ (C, oC) (.tail _ (.head _))).1
        have zD := (N₄ (D, lst ys) (.tail _ (.tail _ (.head _)))).1
        have zX := (N₄ (X, oX₃) (.tail _ (.tail _ (.tail _ (.head _))))).1
        have N₄' : News h₀ L h₄ nw₄ := fun p hp => N₄ p (.tail _ (.tail _ (.tail _ (.tail _ hp))))
        refine append_at (hsz := by rw [List.size_toArray, hyl, sizeLine_eq]; omega) zD fun h₅ hs₅ hD₅ => ?_
        refine ⟨n + 1 - (i + 1), by omega, h₅, tk₄, i + 1, ys ++ [y], oC, oX₃, nw₄, m', _, rfl, hlt, rfl, by rw [List.length_append, List.length_singleton, hyl], hs₅.extBut I _ nID zI, F₄.change hs₅ nLD hD₀,
          hs₅.extBut C _ nCD zC, hnC, hs₅.extBut X _ nDX.symm zX, hdX₃, fun p hp => ?_, off₄, J₄⟩
        rcases List.mem_cons.mp hp with rfl | hp
        · exact ⟨hD₅.trans (congrArg some (LCg.lst_snoc ys y)), nLD, hD₀⟩
        · have o4 := off₄ p hp
          simp only [List.mem_cons, List.not_mem_nil, or_false, not_or] at o4
          exact ⟨hs₅.extBut p.1 _ o4.2.2.1 (N₄' p hp).1, (N₄' p hp).2⟩
      · obtain rfl : i = n := Nat.le_antisymm hi (Nat.not_lt.mp hlt)
        refine W.done _ _ _ st' fun h₂ tk₂ hk₂ => ?_
        have o' : ∀ p ∈ nw, p.1 ≠ I ∧ p.1 ≠ C ∧ p.1 ≠ D ∧ p.1 ≠ X := fun p hp => by
          have := off' p hp
          simpa only [List.mem_cons, List.not_mem_nil, or_false, not_or] using this
        have F₂ : Fr h₀ L h₂ m := LCg.fr_but F' hk₂ nLI.symm hI₀
        have N₂ : News h₀ L h₂ ((D, lst ys) :: nw) := LCg.news_but N' hk₂ fun p hp => by
          rcases List.mem_cons.mp hp with rfl | hp
          · exact nID.symm
          · exact (o' p hp).1
        show wpAny _ A (assign (.Name y py) env (.ref D)) _ _ _
        refine wpAny_assign_Name (wpAny_storeName_local hy (hLe.symm ▸ F₂.ns) (fun h₄ hn₄ hs₄ => ?_) hp)
        rw [hLe] at hn₄ hs₄
        have hL₀ : h₀.get? L = none := Heap.get?_none_of_le F₂.above
        have F₄ : Fr h₀ L h₄ (fun z => if z = y then some (.ref D) else m z) := ⟨hn₄, fun b o e => hs₄.extBut b o (fun q => by rw [q, hL₀] at e; cases e) (F₂.keep b o e), F₂.above⟩
        refine ⟨m', (hnC.ns (hk₂ C oC (by simpa using nIC.symm) hC')).sameBut hs₄ nLC, fun h₃ hs₃ => done D ys nw h₃ _ hJ' (fun p hp => by simpa using (o' p hp).2.2.1) (F₄.change hs₃ nLC hC₀) fun p hp => ⟨hs₃.extBut p.1 _ ?_ (hs₄.extBut _ _ (N₂ p hp).2.1 (N₂ p hp).1), (N₂ p hp).2⟩⟩
        rcases List.mem_cons.mp hp with rfl | hp
        · exact nCD.symm
        · exact (o' p hp).2.1
    · rcases List.mem_cons.mp hp with rfl | hp
      · exact ⟨hD5, nLD, hD₀⟩
      · exact N5 p hp
  have fin : codeAny (model prog w) A (.compStart (.ListComp elt [⟨.Name x px, iter, [], 0⟩] scope pos) 0 (.ref I) (.ref D) cenv) RR { s with heap := hp₅, toks := tk₁ } :=
    codeAny_compStart_list (loop _ ⟨_, rfl⟩) (W.self 0 _ _ _ st5 (loop _ ⟨_, rfl⟩))
  have e : ({ { scope := scope, locals := C, globals := env.globals, cells := (x, X) :: cl, qual := env.qual, func := none, code := env.code, frame := env.frame, builtins := env.builtins : Env } with scope := relabel scope env } : Env) = cenv := by rw [← hcenv]; rfl
  have fin' := fin
  rw [← e] at fin'
  exact fin'
end
end Mine

end

section -- L17
open PySem PySem.W PySem.Calls PyProof.Rows
set_option maxRecDepth 100000
set_option maxHeartbeats 8000000
namespace Mine
open RX LCg
local macro_rules | `(tactic| walk_at "no such step") => `(tactic| fail)
local macro_rules | `(tactic| walk_at "no such step") => `(tactic| fail)
local macro_rules | `(tactic| k_all) => `(tactic| exact TailOff.all (by assumption) (by k_mem))
local macro_rules | `(tactic| walk) => `(tactic| (repeat' (first | (k_unfold; (try dsimp only)) | ((fail_if_success (with_reducible show Exists _)); (fail_if_success (with_reducible show wpAny _ _ (pyIter (Value.ref _)) _ _ _)); (fail_if_success (with_reducible show wpAny _ _ (pyIter (Value.bytes _ _)) _ _ _)); (fail_if_success (with_reducible show wpAny _ _ (eval (PySem.Expr.ListComp _ _ _ _) _) _ _ _)); (fail_if_success (with_reducible show wpAny _ _ (execs (PySem.Stmt.Assign [PySem.Expr.Name (Str.ofString "table") _] _ _ :: _) _) _ _ _)); walk1))))
local macro_rules | `(tactic| walk_at "eval Name") => `(tactic| (k_here; (k_dflt (first
  | (refine' nm_local ?F ?x ?hL ?hk ?hl ?_; (case hk => exact rfl); (case hl => exact rfl); (case F => k_asm); (case hL => exact rfl); (case x => exact rfl))
  | (refine' ld_cell ?hl ?hc ?N ?m ?d ?_ ?hk ?hn; (case hl => exact rfl); (case hc => exact rfl); (case N => k_asm); (case m => k_mem); (case d => assumption); (case hk => exact rfl); (case hn => decide))
  | (refine' nm_global ?F ?X ?T ?hk ?hx ?hg ?e ?_; (case hk => exact rfl); (case hx => exact rfl); (case F => k_asm); (case X => k_asm); (case T => k_asm); (case hg => exact rfl); (case e => k_is))
  | (refine' nm_built ?F ?X ?T ?hk ?hx ?hg ?hb ?e ?v ?n ?_; (case hk => exact rfl); (case hx => exact rfl); (case F => k_asm); (case X => k_asm); (case T => k_asm); (case hg => exact rfl); (case hb => exact rfl); (case e => k_is); (case v => boot_by_name); (case n => decide))))))
local macro_rules | `(tactic| walk) => `(tactic| (repeat' (first | (k_unfold; (try dsimp only)) | ((fail_if_success (with_reducible show Exists _)); (fail_if_success (with_reducible show wpAny _ _ (pyIter (Value.ref _)) _ _ _)); (fail_if_success (with_reducible show wpAny _ _ (eval (PySem.Expr.ListComp _ _ _ _) _) _ _ _)); (fail_if_success (with_reducible show wpAny _ _ (call (Value.ref _) _) _ _ _)); walk1))))
local macro_rules | `(tactic| walk_at "subscriptTail") => `(tactic| (k_here; (with_unfolding_all refine' tie_get ?N ?m ?a ?b ?_ ?s; (case N => k_asm); (case m => k_mem); (case a => omega); (case b => omega); (case s => with_unfolding_all rfl))))
local macro_rules | `(tactic| walk_at "subscriptTail") => `(tactic| (k_here; (with_unfolding_all refine' row_get ?N ?m ?i ?a ?b ?_ ?s; (case N => k_asm); (case i => assumption); (case m => (repeat first | assumption | apply List.mem_cons_of_mem)); (case a => omega); (case b => omega); (case s => with_unfolding_all rfl)); intro t7))
local macro_rules | `(tactic| walk_at "call builtin:sum") => `(tactic| (k_here; (with_reducible show wpAny _ _ (call (Value.builtin "sum") [Value.ref _]) _ _ _); (with_unfolding_all refine' row_sum ?k1 ?k2 ?k0 ?k3 ?k4 ?_; (case k4 => assumption); (case k0 => with_unfolding_all rfl); (case k1 => k_asm); (case k2 => k_asm); (case k3 => (repeat first | assumption | apply List.mem_cons_of_mem))); intro h' tk' t' F' N'))
theorem tail17 {w : World} {p : Program} {loose : List Str} {mean : ExcName → Option Value} {mg mb : Str → Option Value} {h₀ : Heap} {L l fa : Addr} {cd : Value} {vs : List Value} {ns : List Int} {Q : Flow → Shared → Prop} {E : Value → Shared → Prop} {s : Shared} {m : Str → Option Value}
    {T D P : Addr} {rs : List Addr} {vss : List (List Value)} {v9 dv : List Value} {c9 : Nat} {n9 : List Int} {oN oM oT oL oD ot : Obj} {ps : Array Value} {tM tL tx tt : Tok} {tl : List (Addr × Obj)}
    (C : Ctx w p loose mean mg mb h₀ l vs ns) (FF : Facts L T D rs vss v9 ns n9) (GG : Dots L T D P dv ns n9) (F : Fr h₀ L s.heap m) (hscript : m (Str.ofString "script") = some (.ref l)) (hdue : m (Str.ofString "due") = some (.int (dueOf ns n9 (tOf ns)) tx))
    (htl : ∀ q ∈ rowsLed rs vss, q ∈ tl)
    (N : News h₀ L s.heap ((P, lst dv) :: (T, lst (rs.map .ref)) :: (D, listOf v9.toArray c9) :: (L + 1 + 1 + 1 + 1 + 1 + 1, ot) :: (L + 1 + 1 + 1 + 1 + 1, oD) :: (L + 1 + 1 + 1 + 1, oL) :: (L + 1 + 1 + 1, oT) :: (L + 1 + 1, oM) :: (L + 1, oN) :: (99, tabObj ps) :: tl))
    (K : Cells oN oM oT oL oD ot (some (.ref D)) (some (.int (n9.length : Nat) tM)) (some (.ref T)) (some (.int (lastOf ns : Nat) tL)) (some (.ref P)) (some (.int (tOf ns) tt)))
    (hT : TailOff ((P, lst dv) :: (T, lst (rs.map .ref)) :: (D, listOf v9.toArray c9) :: (L + 1 + 1 + 1 + 1 + 1 + 1, ot) :: (L + 1 + 1 + 1 + 1 + 1, oD) :: (L + 1 + 1 + 1 + 1, oL) :: (L + 1 + 1 + 1, oT) :: (L + 1 + 1, oM) :: (L + 1, oN) :: (99, tabObj ps) :: []) tl)
    (R : Ret h₀ L s Q) (PE : Pass w L fa cd E) : Tail w L fa cd 17 Q E s := by
  have hfill9 := law_kept w h₀ (by k_fill; intro _; rfl)
  clear hfill9
  obtain ⟨B, X, TT, hl, hI, h63⟩ := id C
  obtain ⟨hne, hlt, hrows, i9, o9⟩ := id FF
  obtain ⟨hneP, i8⟩ := id GG
  have hsc : lawScope w = lawScope w := rfl
  conv at hsc => rhs; whnf
  have hb : (lawBody w).drop 17 = (lawBody w).drop 17 := rfl
  conv at hb => rhs; whnf
  have PE0 := PE
  unfold Pass lawEnv at PE
  rw [hsc] at PE
  unfold Tail lawEnv
  rw [hb, hsc]
  clear hb hsc
  rw [as_two hscript hdue] at F
  have e9 := NumsOf.len o9
  obtain ⟨dN, dM, dT, dL, dD, dt⟩ := K
  have htt := tOf_in ns
  w_strict walk
  refine assign_listcomp_cell n9.length 0 (RowsJ (tabRow n9 (tOf ns)) _) (by assumption) (by exact rfl) (by with_unfolding_all rfl) (by exact rfl) (by exact rfl) N (by with_unfolding_all rfl) (fun _ => by with_unfolding_all rfl) (fun _ => by with_unfolding_all rfl) (by with_unfolding_all rfl) (by decide) (fun _ _ => by with_unfolding_all rfl) (by omega) (by with_unfolding_all rfl) ?it RowsJ.start ?turn ?done
  case it =>
    w_strict walk
    exact ⟨_, _, _, _, _, rfl, ⟨_, _, rfl⟩, by assumption, by assumption, by assumption, by omega, by decide, by decide⟩
  case turn =>
    intro i ys I oI C oC D8 X oX nw h tk t E' hi hJ hoff hnd hdX F N
    have hJ' := hJ
    obtain ⟨rs8, vss8, rfl, rfl, hr1, hr2, hnd2, hoffr, hrows8⟩ := hJ'
    have N1 := led_swap N
    simp only [List.cons_append, List.nil_append] at N1
    have hri := hrows.rows i hi
    have hrm := htl _ (rowsLed_mem (rs := rs) (vss := vss) (i := i) (by rw [hrows.r]; omega) (by rw [hrows.v]; omega))
    have hrm2 : (rs.getD i 0, lst (vss.getD i [])) ∈ tl ++ rowsLed rs8 vss8 := List.mem_append_left _ hrm
    have hrl : rs.length = n9.length := hrows.r
    generalize hgen : tl ++ rowsLed rs8 vss8 = tl2 at N1 hrm2
    refine comp_range (n9.length) (fun j y => ∃ t, y = Value.int (tabVal n9 (tOf ns) i j) t) F N1 (by with_unfolding_all rfl) (by decide) (by with_unfolding_all rfl) (by decide) (by with_unfolding_all rfl) (by with_unfolding_all rfl) (by omega) ?it2 ?step ?done2
    case it2 =>
      w_strict walk
      exact ⟨_, _, _, _, rfl, ⟨_, _, rfl⟩, by assumption, by assumption, by assumption⟩
    case step =>
      intro j t I oI C oC D ys m₂ h tk E' hj hC hx F N off ne
      w_strict walk
      all_goals first
        | exact Same.intro ⟨_, congrArg (fun x => Value.int x _) (tab_yes (by assumption))⟩ (by assumption) (by assumption) (fun p hp => hp)
        | exact Same.intro ⟨_, congrArg (fun x => Value.int x _) (tab_no (by assumption))⟩ (by assumption) (by assumption) (fun p hp => hp)
        | trace_state
    case done2 =>
      intro D2 zs h2 tk2 hl2 hR2 F2 N2 off2
      subst hgen
      exact rows_elt hJ hoff F2 N2 (fun p hp => (swap_mem p).mp hp) off2 (ints_of hl2 hR2)
  case done =>
    intro D8 ys nw h tk hJ hoff F N
    obtain ⟨rs8, vss8, hys, hrl, hvl, hnd, hrow, N1, hD, hTL⟩ := rows_done hJ hoff N
    subst hys
    have Nb := led_form N1
    have hA := apart_of (by omega) hnd hTL
    clear hJ hoff N
    w_strict walk
    with_unfolding_all refine' spec_use (det_spec w p loose mean mg mb D8 rs8 vss8 _ (tableOf n9 (tOf ns)) n9.length) ?k1 ?k2 ?k3 ?k4 ?k5 ?k6 ?k7 ?k8 ?k9 ?_
    case k1 => k_asm
    case k2 => k_asm
    case k3 => k_asm
    case k4 => exact Nb
    case k5 => k_asm
    case k6 => first | exact rfl | assumption
    case k7 => exact ⟨hA, table_is hvl hrow, table_sq _ _, hrl, by omega, by omega, table_good o9 htt⟩
    case k8 => decide
    case k9 => decide
    intro v9 nw9 h9 tk9 hR9 F9 N9
    obtain ⟨e8, t9, e7⟩ := hR9
    subst e8
    subst e7
    rw [table_det o9 htt]
    try dsimp only
    w_strict walk
    rw [beq_self_eq_true]
    exact R _ _ _ _ ps F9 N9 (by k_mem)
end Mine

end

section -- L13
open PySem PySem.W PySem.Calls PyProof.Rows
set_option maxRecDepth 100000
set_option maxHeartbeats 8000000
namespace Mine
open RX LCg
local macro_rules | `(tactic| walk_at "no such step") => `(tactic| fail)
local macro_rules | `(tactic| walk_at "no such step") => `(tactic| fail)
local macro_rules | `(tactic| walk_at "no such step") => `(tactic| fail)
local macro_rules | `(tactic| k_all) => `(tactic| exact TailOff.all (by assumption) (by k_mem))
local macro_rules | `(tactic| walk) => `(tactic| (repeat' (first | (k_unfold; (try dsimp only)) | ((fail_if_success (with_reducible show Exists _)); (fail_if_success (with_reducible show wpAny _ _ (pyIter (Value.ref _)) _ _ _)); (fail_if_success (with_reducible show wpAny _ _ (pyIter (Value.bytes _ _)) _ _ _)); (fail_if_success (with_reducible show wpAny _ _ (eval (PySem.Expr.ListComp _ _ _ _) _) _ _ _)); (fail_if_success (with_reducible show wpAny _ _ (execs (PySem.Stmt.Assign [PySem.Expr.Name (Str.ofString "table") _] _ _ :: _) _) _ _ _)); walk1))))
local macro_rules | `(tactic| walk_at "eval Name") => `(tactic| (k_here; (k_dflt (first
  | (refine' nm_local ?F ?x ?hL ?hk ?hl ?_; (case hk => exact rfl); (case hl => exact rfl); (case F => k_asm); (case hL => exact rfl); (case x => exact rfl))
  | (refine' ld_cell ?hl ?hc ?N ?m ?d ?_ ?hk ?hn; (case hl => exact rfl); (case hc => exact rfl); (case N => k_asm); (case m => k_mem); (case d => assumption); (case hk => exact rfl); (case hn => decide))
  | (refine' nm_global ?F ?X ?T ?hk ?hx ?hg ?e ?_; (case hk => exact rfl); (case hx => exact rfl); (case F => k_asm); (case X => k_asm); (case T => k_asm); (case hg => exact rfl); (case e => k_is))
  | (refine' nm_built ?F ?X ?T ?hk ?hx ?hg ?hb ?e ?v ?n ?_; (case hk => exact rfl); (case hx => exact rfl); (case F => k_asm); (case X => k_asm); (case T => k_asm); (case hg => exact rfl); (case hb => exact rfl); (case e => k_is); (case v => boot_by_name); (case n => decide))))))
local macro_rules | `(tactic| walk_at "call builtin:len") => `(tactic| (k_here; (with_reducible show wpAny _ _ (call (Value.builtin "len") [Value.bytes _ _]) _ _ _); (refine KBw.len_K (by assumption) (by omega) ?_)))
local macro_rules | `(tactic| walk_at "subscriptTail") => `(tactic| (k_here; (with_reducible show wpAny _ _ (subscriptTail _ (Expr.Slice _ _ none _) (Value.bytes _ _) (Value.ref _)) _ _ _); (with_reducible rename Fr _ _ _ _ => F'); (with_reducible rename News _ _ _ _ => N'); (refine KBc.slice_K (s := ⟨_, _, _, _, _⟩) F' N' (by assumption) (by constructor) (by constructor) (by omega) ?_); intro h7 t7 k7 F7 N7 e7; (dsimp only [Option.elim] at e7); (rw [letters_eq (by omega)] at e7)))
local macro_rules | `(tactic| walk_at "binaryOp Pow int int") => `(tactic| (k_here; (rw [letters_len (by omega)]); (refine pow_int_small (by omega) (by omega) (by omega) ?_); (rw [Int.toNat_natCast])))
theorem tail13 {w : World} {p : Program} {loose : List Str} {mean : ExcName → Option Value} {mg mb : Str → Option Value} {h₀ : Heap} {L l fa : Addr} {cd : Value} {vs : List Value} {ns : List Int} {Q : Flow → Shared → Prop} {E : Value → Shared → Prop} {s : Shared} {m : Str → Option Value}
    {T D P : Addr} {rs : List Addr} {vss : List (List Value)} {v9 dv : List Value} {c9 : Nat} {n9 : List Int} {oN oM oT oL oD ot : Obj} {ps : Array Value} {tM tL tx : Tok} {tl : List (Addr × Obj)}
    (C : Ctx w p loose mean mg mb h₀ l vs ns) (FF : Facts L T D rs vss v9 ns n9) (GG : Dots L T D P dv ns n9) (F : Fr h₀ L s.heap m) (hscript : m (Str.ofString "script") = some (.ref l)) (hword : m (Str.ofString "word") = some (.bytes (toB (wordL ns n9)) tx))
    (htl : ∀ q ∈ rowsLed rs vss, q ∈ tl)
    (N : News h₀ L s.heap ((P, lst dv) :: (T, lst (rs.map .ref)) :: (D, listOf v9.toArray c9) :: (L + 1 + 1 + 1 + 1 + 1 + 1, ot) :: (L + 1 + 1 + 1 + 1 + 1, oD) :: (L + 1 + 1 + 1 + 1, oL) :: (L + 1 + 1 + 1, oT) :: (L + 1 + 1, oM) :: (L + 1, oN) :: (99, tabObj ps) :: tl))
    (K : Cells oN oM oT oL oD ot (some (.ref D)) (some (.int (n9.length : Nat) tM)) (some (.ref T)) (some (.int (lastOf ns : Nat) tL)) (some (.ref P)) none)
    (hT : TailOff ((P, lst dv) :: (T, lst (rs.map .ref)) :: (D, listOf v9.toArray c9) :: (L + 1 + 1 + 1 + 1 + 1 + 1, ot) :: (L + 1 + 1 + 1 + 1 + 1, oD) :: (L + 1 + 1 + 1 + 1, oL) :: (L + 1 + 1 + 1, oT) :: (L + 1 + 1, oM) :: (L + 1, oN) :: (99, tabObj ps) :: []) tl)
    (R : Ret h₀ L s Q) (PE : Pass w L fa cd E) : Tail w L fa cd 13 Q E s := by
  have hfill9 := law_kept w h₀ (by k_fill; intro _; rfl)
  clear hfill9
  obtain ⟨B, X, TT, hl, hI, h63⟩ := id C
  obtain ⟨hne, hlt, hrows, i9, o9⟩ := id FF
  obtain ⟨hneP, i8⟩ := id GG
  have hsc : lawScope w = lawScope w := rfl
  conv at hsc => rhs; whnf
  have hb : (lawBody w).drop 13 = (lawBody w).drop 13 := rfl
  conv at hb => rhs; whnf
  have PE0 := PE
  unfold Pass lawEnv at PE
  rw [hsc] at PE
  unfold Tail lawEnv
  rw [hb, hsc]
  clear hb hsc
  rw [as_two hscript hword] at F
  have e9 := NumsOf.len o9
  obtain ⟨dN, dM, dT, dL, dD, dt⟩ := K
  have hmx := maxDots_le (ns := ns) (n9 := n9) (by omega)
  have hbi := word_ints (ns := ns) (n9 := n9) (by omega)
  have hwl := wordZ_len ns n9
  have htt := tOf_in ns
  have hletl := lettersZ_len (ns := ns) (n9 := n9)
  have htop := topN_lt (ns := ns) (n9 := n9) (by omega)
  unfold tOf at htt
  w_strict walk
  refine iter_bytes1 (fun (k : Int) t => Value.int k t) (Str.ofString "due") (dueTo ns n9 (tOf ns)) rfl (by assumption) (by assumption) (by assumption) ⟨_, rfl⟩ (by decide) ?turn ?done
  case turn =>
    intro i k t ta h tk own hi hk hoff F9 N9
    have hk2 := letters_in (by omega) hk
    w_strict walk
    all_goals refine InvEndN.intro (by assumption) (by assumption) ⟨rfl, ?_, ?_⟩ rfl ?_ ?_
    all_goals first
      | exact ⟨_, congrArg (fun x => some (Value.int x _)) (dueTo_step (t := tOf ns) hk)⟩
      | (intro z z1 z2; simp only [if_neg z1, if_neg z2] <;> rfl)
      | exact fun p hp => List.mem_append_left own hp
      | exact fun p hp => List.mem_append_right _ hp
      | trace_state
  case done =>
    intro u t h tk F9 N9
    rw [dueTo_all] at F9
    dsimp only
    exact tail17 C FF GG F9 rfl rfl htl (fun p hp => N9 p (.tail _ hp)) ⟨dN, dM, dT, dL, dD, by assumption⟩ (hT.congr rfl) R PE0
end Mine

end

section -- L11
open PySem PySem.W PySem.Calls PyProof.Rows
set_option maxRecDepth 100000
set_option maxHeartbeats 8000000
namespace Mine
open RX LCg
local macro_rules | `(tactic| walk_at "no such step") => `(tactic| fail)
local macro_rules | `(tactic| walk_at "no such step") => `(tactic| fail)
local macro_rules | `(tactic| walk_at "no such step") => `(tactic| fail)
local macro_rules | `(tactic| k_all) => `(tactic| exact TailOff.all (by assumption) (by k_mem))
local macro_rules | `(tactic| walk) => `(tactic| (repeat' (first | (k_unfold; (try dsimp only)) | ((fail_if_success (with_reducible show Exists _)); (fail_if_success (with_reducible show wpAny _ _ (pyIter (Value.ref _)) _ _ _)); (fail_if_success (with_reducible show wpAny _ _ (pyIter (Value.bytes _ _)) _ _ _)); (fail_if_success (with_reducible show wpAny _ _ (eval (PySem.Expr.ListComp _ _ _ _) _) _ _ _)); (fail_if_success (with_reducible show wpAny _ _ (execs (PySem.Stmt.Assign [PySem.Expr.Name (Str.ofString "t") _] _ _ :: _) _) _ _ _)); walk1))))
local macro_rules | `(tactic| walk_at "eval Name") => `(tactic| (k_here; (k_dflt (first
  | (refine' nm_local ?F ?x ?hL ?hk ?hl ?_; (case hk => exact rfl); (case hl => exact rfl); (case F => k_asm); (case hL => exact rfl); (case x => exact rfl))
  | (refine' ld_cell ?hl ?hc ?N ?m ?d ?_ ?hk ?hn; (case hl => exact rfl); (case hc => exact rfl); (case N => k_asm); (case m => k_mem); (case d => assumption); (case hk => exact rfl); (case hn => decide))
  | (refine' nm_global ?F ?X ?T ?hk ?hx ?hg ?e ?_; (case hk => exact rfl); (case hx => exact rfl); (case F => k_asm); (case X => k_asm); (case T => k_asm); (case hg => exact rfl); (case e => k_is))
  | (refine' nm_built ?F ?X ?T ?hk ?hx ?hg ?hb ?e ?v ?n ?_; (case hk => exact rfl); (case hx => exact rfl); (case F => k_asm); (case X => k_asm); (case T => k_asm); (case hg => exact rfl); (case hb => exact rfl); (case e => k_is); (case v => boot_by_name); (case n => decide))))))
local macro_rules | `(tactic| walk_at "call builtin:max") => `(tactic| (k_here; (with_unfolding_all refine' max_list_N ?k0 ?k1 ?k2 ?k3 ?k4 ?k5 ?_; (case k0 => with_unfolding_all rfl); (case k1 => k_asm); (case k2 => k_asm); (case k3 => exact led_list (by assumption) (by k_mem)); (case k4 => assumption); (case k5 => (rw [List.length_map, List.length_range]; omega))); intro h7 M7 t7 k7 F7 N7 b7 c7))
local macro_rules | `(tactic| walk_at "call builtin:len") => `(tactic| (k_here; (with_unfolding_all refine' len_use ?k1 ?k2 ?k3 ?_; (case k1 => exact led_list (by assumption) (by k_mem)); (case k2 => assumption); (case k3 => omega))))
local macro_rules | `(tactic| walk_at "call type:bytes") => `(tactic| (k_here; (with_unfolding_all refine' bytes_use ?k1 ?k2 ?k0 ?k3 ?k4 ?k5 ?_; (case k0 => with_unfolding_all rfl); (case k1 => k_asm); (case k2 => k_asm); (case k3 => exact led_list (by assumption) (by k_mem)); (case k4 => assumption); (case k5 => omega)); intro h7 t7 k7 F7 N7))
local macro_rules | `(tactic| walk_at "subscriptTail Name Slice ref ref") => `(tactic| (k_here; k_dflt (refine' krv_ints ?F ?N ?l ?k ?i ?_ ?s ?t ?z; (case F => k_asm); (case N => k_asm); (case l => exact led_list (by assumption) (by k_mem)); (case k => exact IsPart.int _ _); (case i => assumption); (case s => with_unfolding_all rfl); (case t => kmk_pure); (case z => (rw [sizeLine_eq, List.size_toArray]; omega))); intro D7 w7 h7 F7 N7 l7 I7 c7))
theorem tail11 {w : World} {p : Program} {loose : List Str} {mean : ExcName → Option Value} {mg mb : Str → Option Value} {h₀ : Heap} {L l fa : Addr} {cd : Value} {vs : List Value} {ns : List Int} {Q : Flow → Shared → Prop} {E : Value → Shared → Prop} {s : Shared} {m : Str → Option Value}
    {T D P : Addr} {rs : List Addr} {vss : List (List Value)} {v9 dv : List Value} {c9 : Nat} {n9 : List Int} {oN oM oT oL oD ot : Obj} {ps : Array Value} {tM tL tx : Tok} {tl : List (Addr × Obj)}
    (C : Ctx w p loose mean mg mb h₀ l vs ns) (FF : Facts L T D rs vss v9 ns n9) (GG : Dots L T D P dv ns n9) (F : Fr h₀ L s.heap m) (hscript : m (Str.ofString "script") = some (.ref l)) (hword : m (Str.ofString "word") = some (.bytes (toB (wordL ns n9)) tx))
    (htl : ∀ q ∈ rowsLed rs vss, q ∈ tl)
    (N : News h₀ L s.heap ((P, lst dv) :: (T, lst (rs.map .ref)) :: (D, listOf v9.toArray c9) :: (L + 1 + 1 + 1 + 1 + 1 + 1, ot) :: (L + 1 + 1 + 1 + 1 + 1, oD) :: (L + 1 + 1 + 1 + 1, oL) :: (L + 1 + 1 + 1, oT) :: (L + 1 + 1, oM) :: (L + 1, oN) :: (99, tabObj ps) :: tl))
    (K : Cells oN oM oT oL oD ot (some (.ref D)) (some (.int (n9.length : Nat) tM)) (some (.ref T)) (some (.int (lastOf ns : Nat) tL)) (some (.ref P)) none)
    (hT : TailOff ((P, lst dv) :: (T, lst (rs.map .ref)) :: (D, listOf v9.toArray c9) :: (L + 1 + 1 + 1 + 1 + 1 + 1, ot) :: (L + 1 + 1 + 1 + 1 + 1, oD) :: (L + 1 + 1 + 1 + 1, oL) :: (L + 1 + 1 + 1, oT) :: (L + 1 + 1, oM) :: (L + 1, oN) :: (99, tabObj ps) :: []) tl)
    (R : Ret h₀ L s Q) (PE : Pass w L fa cd E) : Tail w L fa cd 11 Q E s := by
  have hfill9 := law_kept w h₀ (by k_fill; intro _; rfl)
  clear hfill9
  obtain ⟨B, X, TT, hl, hI, h63⟩ := id C
  obtain ⟨hne, hlt, hrows, i9, o9⟩ := id FF
  obtain ⟨hneP, i8⟩ := id GG
  have hsc : lawScope w = lawScope w := rfl
  conv at hsc => rhs; whnf
  have hb : (lawBody w).drop 11 = (lawBody w).drop 11 := rfl
  conv at hb => rhs; whnf
  have PE0 := PE
  unfold Pass lawEnv at PE
  rw [hsc] at PE
  unfold Tail lawEnv
  rw [hb, hsc]
  clear hb hsc
  have C0 := C
  rw [as_two hscript hword] at F
  have e9 := NumsOf.len o9
  obtain ⟨dN, dM, dT, dL, dD, dt⟩ := K
  have hmx := maxDots_le (ns := ns) (n9 := n9) (by omega)
  w_strict walk
  refine assign_listcomp_cell (maxDots ns n9) 0 (fun i ys nw => nw = _ ∧ IntsAre ys ((List.range i).map fun k => (reachN ns n9 k : Int))) (by assumption) (by exact rfl) (by with_unfolding_all rfl) (by exact rfl) (by exact rfl) N (by with_unfolding_all rfl) (fun _ => by with_unfolding_all rfl) (fun _ => by with_unfolding_all rfl) (by with_unfolding_all rfl) (by decide) (fun _ _ => by with_unfolding_all rfl) (by omega) (by with_unfolding_all rfl) ?it ⟨rfl, .nil⟩ ?turn ?done
  case it =>
    w_strict walk
    refine ⟨_, _, _, _, _, rfl, ⟨_, _, rfl⟩, by assumption, by assumption, by assumption, ?_, by decide, by decide⟩
    rw [Int.zero_add]
    exact max_dots (by assumption) (by assumption)
  case turn =>
    intro i ys I oI C oC D8 X oX nw h tk t E' hi hJ hoff hnd hdX F N
    obtain ⟨hJ1, hJ2⟩ := hJ
    subst hJ1
    w_strict walk
    refine comp_if (fun c => decide (0 + (i : Int) < c)) (by assumption) (by with_unfolding_all rfl) (by decide) (by with_unfolding_all rfl) (by decide) (by with_unfolding_all rfl) (by with_unfolding_all rfl) ?it2
    case it2 =>
      w_strict walk
      refine ⟨P, dv, _, _, _, rfl, by assumption, by assumption, by k_mem, by (rw [i8.length, List.length_map, List.length_range]; omega), i8, ?step2, ?done2⟩
      case step2 =>
        intro k t I oI C oC D ys m₂ h tk E' hk hC hx F N off ne
        w_strict walk
        all_goals first
          | exact Same.intro ⟨decide_eq_true (by assumption), _, rfl⟩ (by assumption) (by assumption) (fun p hp => hp)
          | exact Same.intro (decide_eq_false (by assumption)) (by assumption) (by assumption) (fun p hp => hp)
      case done2 =>
        intro D2 ys2 h tk hI2 F N off
        w_strict walk
        refine EltEnd.intro (by assumption) N _ (fun p hp => List.mem_cons_of_mem _ hp) hoff ⟨rfl, ?_⟩
        rw [List.range_succ, List.map_append]
        exact IntsAre.append hJ2 (.cons _ _ .nil)
  case done =>
    intro D8 ys nw h tk hJ hoff F N
    obtain ⟨hJ1, hJ2⟩ := hJ
    subst hJ1
    have hyl : ys.length = maxDots ns n9 := by rw [hJ2.length, List.length_map, List.length_range]
    w_strict walk
    refine comp_led (fun i y => ∃ t, y = .int (65 + (revInts ns n9).getD i 0) t) (by assumption) (by with_unfolding_all rfl) (by decide) (by with_unfolding_all rfl) (by decide) (by with_unfolding_all rfl) (by with_unfolding_all rfl) ?it3
    case it3 =>
      w_strict walk
      rename_i D7 w7 h7 F7 N7 l7 I7 c7
      have hw7 : w7.length = maxDots ns n9 := by rw [I7.length, List.length_reverse, List.length_map, List.length_range]
      refine ⟨D7, w7.toArray, _, _, rfl, by assumption, by assumption, by k_mem, by (rw [List.size_toArray]; omega), ?step3, ?done3⟩
      case step3 =>
        intro i v I oI C oC D ys m₂ h tk E' hi hv hC hx F N off ne
        obtain ⟨t8, e8⟩ := ints_at I7 i v (by simpa using hv)
        subst e8
        w_strict walk
        all_goals exact Same.intro ⟨_, rfl⟩ (by assumption) (by assumption) (fun p hp => hp)
      case done3 =>
        intro D2 zs h tk hl2 hR2 F N off
        rw [List.size_toArray, hw7] at hl2
        have hI2 : IntsAre zs (wordInts ns n9) := ints_of hl2 hR2
        w_strict walk
        · rename_i hne9
          simp at hne9
        · dsimp only
          refine tail13 C0 FF GG (by assumption) rfl rfl htl ?hN ⟨dN, dM, dT, dL, dD, dt⟩ hT R PE0
          case hN => exact news_sub (by assumption) (by intro p hp; repeat first | exact hp | apply List.mem_cons_of_mem)
end Mine

end

section -- L8
open PySem PySem.W PySem.Calls PyProof.Rows
set_option maxRecDepth 100000
set_option maxHeartbeats 8000000
namespace Mine
open RX LCg
local macro_rules | `(tactic| walk_at "no such step") => `(tactic| fail)
local macro_rules | `(tactic| walk_at "no such step") => `(tactic| fail)
local macro_rules | `(tactic| walk_at "no such step") => `(tactic| fail)
local macro_rules | `(tactic| walk_at "no such step") => `(tactic| fail)
local macro_rules | `(tactic| walk_at "no such step") => `(tactic| fail)
local macro_rules | `(tactic| walk_at "no such step") => `(tactic| fail)
local macro_rules | `(tactic| k_all) => `(tactic| exact TailOff.all (by assumption) (by k_mem))
local macro_rules | `(tactic| walk) => `(tactic| (repeat' (first | (k_unfold; (try dsimp only)) | ((fail_if_success (with_reducible show Exists _)); (fail_if_success (with_reducible show wpAny _ _ (pyIter (Value.ref _)) _ _ _)); (fail_if_success (with_reducible show wpAny _ _ (pyIter (Value.bytes _ _)) _ _ _)); (fail_if_success (with_reducible show wpAny _ _ (eval (PySem.Expr.ListComp _ _ _ _) _) _ _ _)); (fail_if_success (with_reducible show wpAny _ _ (execs (PySem.Stmt.Assign [PySem.Expr.Name (Str.ofString "reach") _] _ _ :: _) _) _ _ _)); walk1))))
local macro_rules | `(tactic| walk_at "eval Name") => `(tactic| (k_here; (k_dflt (first
  | (refine' nm_local ?F ?x ?hL ?hk ?hl ?_; (case hk => exact rfl); (case hl => exact rfl); (case F => k_asm); (case hL => exact rfl); (case x => exact rfl))
  | (refine' ld_cell ?hl ?hc ?N ?m ?d ?_ ?hk ?hn; (case hl => exact rfl); (case hc => exact rfl); (case N => k_asm); (case m => k_mem); (case d => assumption); (case hk => exact rfl); (case hn => decide))
  | (refine' nm_global ?F ?X ?T ?hk ?hx ?hg ?e ?_; (case hk => exact rfl); (case hx => exact rfl); (case F => k_asm); (case X => k_asm); (case T => k_asm); (case hg => exact rfl); (case e => k_is))
  | (refine' nm_built ?F ?X ?T ?hk ?hx ?hg ?hb ?e ?v ?n ?_; (case hk => exact rfl); (case hx => exact rfl); (case F => k_asm); (case X => k_asm); (case T => k_asm); (case hg => exact rfl); (case hb => exact rfl); (case e => k_is); (case v => boot_by_name); (case n => decide))))))
local macro_rules | `(tactic| walk_at "call ref") => `(tactic| (k_here; (first
  | (with_unfolding_all refine' spec_use (add_spec _ _ _ _ _ _ _ _ _ _ _) ?k1 ?k2 ?k3 ?k4 ?k5 ?k6 ?k7 ?k8 ?k9 ?_; (case k1 => k_asm); (case k2 => k_asm); (case k3 => k_asm); (case k4 => k_asm); (case k5 => k_asm); (case k6 => first | exact rfl | assumption); (case k7 => trivial); (case k8 => decide); (case k9 => decide); intro v9 nw9 h9 tk9 hR9 F9 N9; obtain ⟨e9, t9, e9'⟩ := hR9; subst e9; subst e9'; (try dsimp only))
  | (with_unfolding_all refine' spec_use (sub_spec _ _ _ _ _ _ _ _ _ _ _) ?k1 ?k2 ?k3 ?k4 ?k5 ?k6 ?k7 ?k8 ?k9 ?_; (case k1 => k_asm); (case k2 => k_asm); (case k3 => k_asm); (case k4 => k_asm); (case k5 => k_asm); (case k6 => first | exact rfl | assumption); (case k7 => trivial); (case k8 => decide); (case k9 => decide); intro v9 nw9 h9 tk9 hR9 F9 N9; obtain ⟨e9, t9, e9'⟩ := hR9; subst e9; subst e9'; (try dsimp only))
  | (with_unfolding_all refine' spec_use (floordiv_spec _ _ _ _ _ _ _ _ _ _ _) ?k1 ?k2 ?k3 ?k4 ?k5 ?k6 ?k7 ?k8 ?k9 ?_; (case k1 => k_asm); (case k2 => k_asm); (case k3 => k_asm); (case k4 => k_asm); (case k5 => k_asm); (case k6 => first | exact rfl | assumption); (case k7 => exact ⟨by decide, by decide⟩); (case k8 => decide); (case k9 => decide); intro v9 nw9 h9 tk9 hR9 F9 N9; obtain ⟨e9, t9, e9'⟩ := hR9; subst e9; subst e9'; (try dsimp only))
  | (with_unfolding_all refine' spec_use (lshift_spec _ _ _ _ _ _ _ _ _ _ _) ?k1 ?k2 ?k3 ?k4 ?k5 ?k6 ?k7 ?k8 ?k9 ?_; (case k1 => k_asm); (case k2 => k_asm); (case k3 => k_asm); (case k4 => k_asm); (case k5 => k_asm); (case k6 => first | exact rfl | assumption); (case k7 => exact ⟨by omega, by omega, rfl⟩); (case k8 => decide); (case k9 => decide); intro v9 nw9 h9 tk9 hR9 F9 N9; obtain ⟨e9, t9, e9'⟩ := hR9; subst e9; subst e9'; (try dsimp only))
  | (with_unfolding_all refine' spec_use (ap_spec _ _ _ _ _ _ _ _ _) ?k1 ?k2 ?k3 ?k4 ?k5 ?k6 ?k7 ?k8 ?k9 ?_; (case k1 => k_asm); (case k2 => k_asm); (case k3 => k_asm); (case k4 => k_asm); (case k5 => k_asm); (case k6 => first | exact rfl | assumption); (case k7 => assumption); (case k8 => decide); (case k9 => decide); intro v9 nw9 h9 tk9 hR9 F9 N9; obtain ⟨e9, t9, e9'⟩ := hR9; subst e9; subst e9'; (try dsimp only)))))
local macro_rules | `(tactic| walk_at "call builtin:str.split") => `(tactic| (k_here; (with_unfolding_all refine' KSpl.split1 ?k1 ?k2 ?k3 ?_ ?k4; (case k1 => k_asm); (case k2 => k_asm); (case k3 => decide); (case k4 => exact split_fit (by omega))); intro D7 l7 h7 k7 e7 a7 F7 N7 l7a))
theorem tail8 {w : World} {p : Program} {loose : List Str} {mean : ExcName → Option Value} {mg mb : Str → Option Value} {h₀ : Heap} {L l fa : Addr} {cd : Value} {vs : List Value} {ns : List Int} {Q : Flow → Shared → Prop} {E : Value → Shared → Prop} {s : Shared} {m : Str → Option Value}
    {T D P : Addr} {rs : List Addr} {vss : List (List Value)} {v9 dv : List Value} {c9 : Nat} {n9 : List Int} {oN oM oT oL oD ot : Obj} {ps : Array Value} {tM tL tx : Tok} {tl : List (Addr × Obj)}
    (C : Ctx w p loose mean mg mb h₀ l vs ns) (FF : Facts L T D rs vss v9 ns n9) (GG : Dots L T D P dv ns n9) (F : Fr h₀ L s.heap m) (hscript : m (Str.ofString "script") = some (.ref l)) (htext : m (Str.ofString "text") = some (.str ⟨(dueText ns n9).toArray⟩ tx))
    (htl : ∀ q ∈ rowsLed rs vss, q ∈ tl)
    (N : News h₀ L s.heap ((P, lst dv) :: (T, lst (rs.map .ref)) :: (D, listOf v9.toArray c9) :: (L + 1 + 1 + 1 + 1 + 1 + 1, ot) :: (L + 1 + 1 + 1 + 1 + 1, oD) :: (L + 1 + 1 + 1 + 1, oL) :: (L + 1 + 1 + 1, oT) :: (L + 1 + 1, oM) :: (L + 1, oN) :: (99, tabObj ps) :: tl))
    (K : Cells oN oM oT oL oD ot (some (.ref D)) (some (.int (n9.length : Nat) tM)) (some (.ref T)) (some (.int (lastOf ns : Nat) tL)) (some (.ref P)) none)
    (hT : TailOff ((P, lst dv) :: (T, lst (rs.map .ref)) :: (D, listOf v9.toArray c9) :: (L + 1 + 1 + 1 + 1 + 1 + 1, ot) :: (L + 1 + 1 + 1 + 1 + 1, oD) :: (L + 1 + 1 + 1 + 1, oL) :: (L + 1 + 1 + 1, oT) :: (L + 1 + 1, oM) :: (L + 1, oN) :: (99, tabObj ps) :: []) tl)
    (R : Ret h₀ L s Q) (PE : Pass w L fa cd E) : Tail w L fa cd 8 Q E s := by
  have hfill9 := law_kept w h₀ (by k_fill; intro _; rfl)
  clear hfill9
  obtain ⟨B, X, TT, hl, hI, h63⟩ := id C
  obtain ⟨hne, hlt, hrows, i9, o9⟩ := id FF
  obtain ⟨hneP, i8⟩ := id GG
  have hsc : lawScope w = lawScope w := rfl
  conv at hsc => rhs; whnf
  have hb : (lawBody w).drop 8 = (lawBody w).drop 8 := rfl
  conv at hb => rhs; whnf
  have PE0 := PE
  unfold Pass lawEnv at PE
  rw [hsc] at PE
  unfold Tail lawEnv
  rw [hb, hsc]
  clear hb hsc
  have C0 := C
  rw [as_two hscript htext] at F
  have e9 := NumsOf.len o9
  obtain ⟨dN, dM, dT, dL, dD, dt⟩ := K
  w_strict walk
  rename_i D7 l7 h7 k7 e7 a7 F7 N7 l7a
  obtain ⟨hlen7, hat7⟩ := parts_at (n9 := n9) (ns := ns) e7 o9
  refine iter_list1 (l := D7) (zs := strValues l7) (fun (k : Nat) t => Value.int (k : Nat) t) (Str.ofString "total") (totTo ns n9) rfl N7 (fun q hq => Nat.ne_of_lt (l7a q hq)) (by assumption) ⟨_, rfl⟩ (by decide) ?turn ?done
  case turn =>
    intro i v ta h tk own hi hv hoff F9 N9
    obtain ⟨tv, ev⟩ := hat7 i v hv
    subst ev
    have hp9 := partN_le (ns := ns) (n9 := n9) (i := i) (by omega)
    have hd9 := dotStr_len (partN ns n9 i)
    have ht9 := totTo_le (ns := ns) (n9 := n9) (by omega) i
    w_strict walk
    all_goals refine InvEndN.intro (by assumption) (by assumption) ⟨rfl, ?_, ?_⟩ rfl ?_ ?_
    all_goals first
      | exact ⟨_, congrArg (fun x => some (Value.int x _)) (tot_step hd9)⟩
      | (intro z z1 z2; simp only [if_neg z1, if_neg z2] <;> rfl)
      | exact fun p hp => List.mem_append_left own hp
      | exact fun p hp => List.mem_append_right _ hp
      | trace_state
  case done =>
    intro u t h tk F9 N9
    rw [hlen7, totTo_all] at F9
    have ht9 := totTo_le (ns := ns) (n9 := n9) (by omega) (n9.length + 1)
    rw [totTo_all] at ht9
    have ht8 : totalN ns n9 < 16 ^ 20 := Nat.lt_of_le_of_lt ht9 (by
      have : (n9.length + 1) * 16 ^ 9 ≤ 7 * 16 ^ 9 := Nat.mul_le_mul_right _ (by omega)
      exact Nat.lt_of_le_of_lt this (by decide))
    w_strict walk
    rw [fin_word o9] at *
    refine tail11 C0 FF GG (by assumption) rfl rfl htl ?hN ⟨dN, dM, dT, dL, dD, dt⟩ hT R PE0
    case hN => exact news_sub (by assumption) (by intro p hp; repeat first | exact hp | apply List.mem_cons_of_mem)
end Mine

end

section -- L6
open PySem PySem.W PySem.Calls PyProof.Rows
set_option maxRecDepth 100000
set_option maxHeartbeats 8000000
namespace Mine
open RX LCg
local macro_rules | `(tactic| walk_at "no such step") => `(tactic| fail)
local macro_rules | `(tactic| walk_at "no such step") => `(tactic| fail)
local macro_rules | `(tactic| walk_at "no such step") => `(tactic| fail)
local macro_rules | `(tactic| walk_at "no such step") => `(tactic| fail)
local macro_rules | `(tactic| walk_at "no such step") => `(tactic| fail)
local macro_rules | `(tactic| walk_at "no such step") => `(tactic| fail)
local macro_rules | `(tactic| walk_at "no such step") => `(tactic| fail)
local macro_rules | `(tactic| k_all) => `(tactic| exact TailOff.all (by assumption) (by k_mem))
local macro_rules | `(tactic| walk) => `(tactic| (repeat' (first | (k_unfold; (try dsimp only)) | ((fail_if_success (with_reducible show Exists _)); (fail_if_success (with_reducible show wpAny _ _ (pyIter (Value.ref _)) _ _ _)); (fail_if_success (with_reducible show wpAny _ _ (pyIter (Value.bytes _ _)) _ _ _)); (fail_if_success (with_reducible show wpAny _ _ (eval (PySem.Expr.ListComp _ _ _ _) _) _ _ _)); (fail_if_success (with_reducible show wpAny _ _ (execs (PySem.Stmt.Assign [PySem.Expr.Name (Str.ofString "total") _] _ _ :: _) _) _ _ _)); walk1))))
local macro_rules | `(tactic| walk_at "eval Name") => `(tactic| (k_here; (k_dflt (first
  | (refine' nm_local ?F ?x ?hL ?hk ?hl ?_; (case hk => exact rfl); (case hl => exact rfl); (case F => k_asm); (case hL => exact rfl); (case x => exact rfl))
  | (refine' ld_cell ?hl ?hc ?N ?m ?d ?_ ?hk ?hn; (case hl => exact rfl); (case hc => exact rfl); (case N => k_asm); (case m => k_mem); (case d => assumption); (case hk => exact rfl); (case hn => decide))
  | (refine' nm_global ?F ?X ?T ?hk ?hx ?hg ?e ?_; (case hk => exact rfl); (case hx => exact rfl); (case F => k_asm); (case X => k_asm); (case T => k_asm); (case hg => exact rfl); (case e => k_is))
  | (refine' nm_built ?F ?X ?T ?hk ?hx ?hg ?hb ?e ?v ?n ?_; (case hk => exact rfl); (case hx => exact rfl); (case F => k_asm); (case X => k_asm); (case T => k_asm); (case hg => exact rfl); (case hb => exact rfl); (case e => k_is); (case v => boot_by_name); (case n => decide))))))
local macro_rules | `(tactic| walk_at "call builtin:sum") => `(tactic| (k_here; (with_reducible show wpAny _ _ (call (Value.builtin "sum") [Value.ref _]) _ _ _); (with_unfolding_all refine' LSm.sum_ints ?k1 ?k2 ?k0 ?k3 ?k4 ?_; (case k0 => with_unfolding_all rfl); (case k1 => k_asm); (case k2 => k_asm); (case k3 => assumption); (case k4 => assumption)); intro h' tk' t' F' N'))
local macro_rules | `(tactic| walk_at "call builtin:str.join") => `(tactic| (k_here; (with_unfolding_all refine' join_use ?k1 ?k2 ?k3 ?_; (case k1 => exact led_list (by assumption) (by k_mem)); (case k2 => assumption); (case k3 => omega)); intro t' k'))
theorem tail6 {w : World} {p : Program} {loose : List Str} {mean : ExcName → Option Value} {mg mb : Str → Option Value} {h₀ : Heap} {L l fa : Addr} {cd : Value} {vs : List Value} {ns : List Int} {Q : Flow → Shared → Prop} {E : Value → Shared → Prop} {s : Shared} {m : Str → Option Value}
    {T D : Addr} {rs : List Addr} {vss : List (List Value)} {v9 : List Value} {c9 : Nat} {n9 : List Int} {oN oM oT oL oD ot : Obj} {ps : Array Value} {tM tL tx : Tok} {tl : List (Addr × Obj)}
    (C : Ctx w p loose mean mg mb h₀ l vs ns) (FF : Facts L T D rs vss v9 ns n9) (F : Fr h₀ L s.heap m) (hscript : m (Str.ofString "script") = some (.ref l)) (htext : m (Str.ofString "text") = some (.str ⟨(finText ns n9).toArray⟩ tx))
    (htl : ∀ q ∈ rowsLed rs vss, q ∈ tl)
    (N : News h₀ L s.heap ((T, lst (rs.map .ref)) :: (D, listOf v9.toArray c9) :: (L + 1 + 1 + 1 + 1 + 1 + 1, ot) :: (L + 1 + 1 + 1 + 1 + 1, oD) :: (L + 1 + 1 + 1 + 1, oL) :: (L + 1 + 1 + 1, oT) :: (L + 1 + 1, oM) :: (L + 1, oN) :: (99, tabObj ps) :: tl))
    (K : Cells oN oM oT oL oD ot (some (.ref D)) (some (.int (n9.length : Nat) tM)) (some (.ref T)) (some (.int (lastOf ns : Nat) tL)) none none)
    (hT : TailOff ((T, lst (rs.map .ref)) :: (D, listOf v9.toArray c9) :: (L + 1 + 1 + 1 + 1 + 1 + 1, ot) :: (L + 1 + 1 + 1 + 1 + 1, oD) :: (L + 1 + 1 + 1 + 1, oL) :: (L + 1 + 1 + 1, oT) :: (L + 1 + 1, oM) :: (L + 1, oN) :: (99, tabObj ps) :: []) tl)
    (R : Ret h₀ L s Q) (PE : Pass w L fa cd E) : Tail w L fa cd 6 Q E s := by
  have hfill9 := law_kept w h₀ (by k_fill; intro _; rfl)
  clear hfill9
  have C0 := C
  have PE0 := PE
  obtain ⟨B, X, TT, hl, hI, h63⟩ := id C
  obtain ⟨hne, hlt, hrows, i9, o9⟩ := id FF
  have hsc : lawScope w = lawScope w := rfl
  conv at hsc => rhs; whnf
  have hb : (lawBody w).drop 6 = (lawBody w).drop 6 := rfl
  conv at hb => rhs; whnf
  unfold Pass lawEnv at PE
  rw [hsc] at PE
  unfold Tail lawEnv
  rw [hb, hsc]
  clear hb hsc
  rw [fin_text o9] at htext
  rw [as_two hscript htext] at F
  have e9 := NumsOf.len o9
  obtain ⟨dN, dM, dT, dL, dD, dt⟩ := K
  w_strict walk
  refine comp_led (fun i y => ∃ t, y = .int (dotsN ns n9 i : Nat) t) (by assumption) (by with_unfolding_all rfl) (by decide) (by with_unfolding_all rfl) (by decide) (by with_unfolding_all rfl) (by with_unfolding_all rfl) ?it
  case it =>
    w_strict walk
    refine ⟨T, (rs.map Value.ref).toArray, _, _, rfl, by assumption, N, by k_mem, by (simp only [List.size_toArray, List.length_map]; have := hrows.r; omega), ?step, ?done⟩
    case step =>
      intro i v I oI C oC D8 ys m₂ h tk E' hi hv hC hx F N off ne
      obtain ⟨e8, hi8⟩ := row_at hv
      subst e8
      have hr8 := rowsLed_mem (vss := vss) (rs := rs) (i := i) hi8 (by have := hrows.v; have := hrows.r; omega)
      have hl8 : h.IsList (rs.getD i 0) (vss.getD i []).toArray := led_list N (by
        have := htl _ hr8
        repeat first | exact this | apply List.mem_cons_of_mem)
      have hi8' := hrows.rows i (by have := hrows.r; omega)
      w_strict walk
      exact Same.intro ⟨_, congrArg (fun x => Value.int x _) (dotsN_eq ns n9 i)⟩ (by assumption) (by assumption) (fun p hp => hp)
    case done =>
      intro P ys h tk hl8 hR8 F N off
      have hlen8 : ys.length = n9.length := by rw [hl8]; simp only [List.size_toArray, List.length_map]; exact hrows.r
      clear hl8
      have hI8 : IntsAre ys _ := ints_of hlen8 hR8
      have hneP := off
      simp only [LCg.Off1] at hneP
      have hPt : ∀ q ∈ tl, q.1 ≠ P := fun q hq => off1_ne off q (by
        repeat first | exact hq | apply List.mem_cons_of_mem)
      have hT8 : TailOff ((P, lst ys) :: (T, lst (rs.map .ref)) :: (D, listOf v9.toArray c9) :: (L + 1 + 1 + 1 + 1 + 1 + 1, ot) :: (L + 1 + 1 + 1 + 1 + 1, oD) :: (L + 1 + 1 + 1 + 1, oL) :: (L + 1 + 1 + 1, oT) :: (L + 1 + 1, oM) :: (L + 1, oN) :: (99, tabObj ps) :: []) tl := by
        intro p hp
        rcases List.mem_cons.mp hp with rfl | hp
        · exact hPt
        · exact hT p hp
      clear off hPt hT
      w_strict walk
      refine comp_led (fun i y => ∃ t, y = .str (rowStr ns n9 i) t) (by assumption) (by with_unfolding_all rfl) (by decide) (by with_unfolding_all rfl) (by decide) (by with_unfolding_all rfl) (by with_unfolding_all rfl) ?it2
      case it2 =>
        w_strict walk
        refine ⟨P, ys.toArray, _, _, rfl, by assumption, by assumption, by k_mem, by (simp only [List.size_toArray]; omega), ?step2, ?done2⟩
        case step2 =>
          intro i v I oI C oC D6 zs m₂ h tk E' hi hv hC hx F N off ne
          obtain ⟨t8, e8⟩ := hR8 i v (by simpa using hv)
          subst e8
          have hd8 := dotsN_le (ns := ns) (n9 := n9) (i := i) (by omega)
          w_strict walk
          exact Same.intro ⟨_, congrArg (fun x => Value.str x _) rowStr_eq⟩ (by assumption) (by assumption) (fun p hp => hp)
        case done2 =>
          intro D6 zs h tk hl6 hR6 F N off
          have hlen6 : zs.length = n9.length := by rw [hl6]; simp only [List.size_toArray]; exact hlen8
          have hS6 : StrsAre zs _ := strs_of hlen6 hR6
          w_strict walk
          · rename_i hne9
            simp at hne9
          · dsimp only
            refine tail8 (ps := ps) (c9 := c9) C0 FF ⟨?hP, hI8⟩ (by assumption) rfl rfl htl ?hN ⟨dN, dM, dT, dL, by assumption, dt⟩ ?hT R PE0
            case hT => exact hT8.congr rfl
            case hN => exact news_sub (by assumption) (by intro p hp; repeat first | exact hp | apply List.mem_cons_of_mem)
            case hP =>
              obtain ⟨a1, a2, a3, a4, a5, a6, a7, a8, a9, _⟩ := hneP
              exact ⟨a1, a2, a3, a4, a5, a6, a7, a8, a9⟩
end Mine

end

section -- L3
open PySem PySem.W PySem.Calls PyProof.Rows
set_option maxRecDepth 100000
set_option maxHeartbeats 8000000
namespace Mine
open RX LCg
local macro_rules | `(tactic| walk_at "no such step") => `(tactic| fail)
local macro_rules | `(tactic| walk_at "no such step") => `(tactic| fail)
local macro_rules | `(tactic| walk_at "no such step") => `(tactic| fail)
local macro_rules | `(tactic| walk_at "no such step") => `(tactic| fail)
local macro_rules | `(tactic| walk_at "no such step") => `(tactic| fail)
local macro_rules | `(tactic| walk_at "no such step") => `(tactic| fail)
local macro_rules | `(tactic| walk_at "no such step") => `(tactic| fail)
local macro_rules | `(tactic| walk_at "no such step") => `(tactic| fail)
local macro_rules | `(tactic| walk_at "no such step") => `(tactic| fail)
local macro_rules | `(tactic| k_all) => `(tactic| exact TailOff.all (by assumption) (by k_mem))
local macro_rules | `(tactic| walk) => `(tactic| (repeat' (first | (k_unfold; (try dsimp only)) | ((fail_if_success (with_reducible show Exists _)); (fail_if_success (with_reducible show wpAny _ _ (pyIter (Value.ref _)) _ _ _)); (fail_if_success (with_reducible show wpAny _ _ (pyIter (Value.bytes _ _)) _ _ _)); (fail_if_success (with_reducible show wpAny _ _ (eval (PySem.Expr.ListComp _ _ _ _) _) _ _ _)); (fail_if_success (with_reducible show wpAny _ _ (execs (PySem.Stmt.Assign [PySem.Expr.Name (Str.ofString "dots") _] _ _ :: _) _) _ _ _)); walk1))))
local macro_rules | `(tactic| walk_at "eval Name") => `(tactic| (k_here; (k_dflt (first
  | (refine' nm_local ?F ?x ?hL ?hk ?hl ?_; (case hk => exact rfl); (case hl => exact rfl); (case F => k_asm); (case hL => exact rfl); (case x => exact rfl))
  | (refine' ld_cell ?hl ?hc ?N ?m ?d ?_ ?hk ?hn; (case hl => exact rfl); (case hc => exact rfl); (case N => k_asm); (case m => k_mem); (case d => assumption); (case hk => exact rfl); (case hn => decide))
  | (refine' nm_global ?F ?X ?T ?hk ?hx ?hg ?e ?_; (case hk => exact rfl); (case hx => exact rfl); (case F => k_asm); (case X => k_asm); (case T => k_asm); (case hg => exact rfl); (case e => k_is))
  | (refine' nm_built ?F ?X ?T ?hk ?hx ?hg ?hb ?e ?v ?n ?_; (case hk => exact rfl); (case hx => exact rfl); (case F => k_asm); (case X => k_asm); (case T => k_asm); (case hg => exact rfl); (case hb => exact rfl); (case e => k_is); (case v => boot_by_name); (case n => decide))))))
local macro_rules | `(tactic| walk_at "call ref") => `(tactic| (k_here; (first
  | (with_unfolding_all refine' spec_use (quote_spec _ _ _ _ _ _ _ _ _) ?k1 ?k2 ?k3 ?k4 ?k5 ?k6 ?k7 ?k8 ?k9 ?_; (case k1 => k_asm); (case k2 => k_asm); (case k3 => k_asm); (case k4 => k_asm); (case k5 => k_asm); (case k6 => first | exact rfl | assumption); (case k7 => assumption); (case k8 => decide); (case k9 => decide); intro v9 nw9 h9 tk9 hR9 F9 N9; obtain ⟨e9, t9, e9'⟩ := hR9; subst e9; subst e9'; (try dsimp only))
  | (with_unfolding_all refine' mail_use ?k1 ?k2 ?k3 ?k4 ?km ?k5 ?k6 ?k7 ?kl ?k8 ?k9 ?_; (case k1 => k_asm); (case k2 => k_asm); (case k3 => k_asm); (case k4 => k_asm); (case km => k_mem); (case k5 => k_asm); (case k6 => first | exact rfl | assumption); (case k7 => assumption); (case kl => omega); (case k8 => decide); (case k9 => decide); intro t9 h9 tk9 F9 N9; (try dsimp only)))))
theorem tail3 {w : World} {p : Program} {loose : List Str} {mean : ExcName → Option Value} {mg mb : Str → Option Value} {h₀ : Heap} {L l fa : Addr} {cd : Value} {vs : List Value} {ns : List Int} {Q : Flow → Shared → Prop} {E : Value → Shared → Prop} {s : Shared} {m : Str → Option Value}
    {T D : Addr} {rs : List Addr} {vss : List (List Value)} {v9 : List Value} {c9 : Nat} {n9 : List Int} {oN oM oT oL oD ot : Obj} {ps : Array Value} {tM : Tok} {tl : List (Addr × Obj)}
    (C : Ctx w p loose mean mg mb h₀ l vs ns) (FF : Facts L T D rs vss v9 ns n9) (F : Fr h₀ L s.heap m) (hscript : m (Str.ofString "script") = some (.ref l))
    (htl : ∀ q ∈ rowsLed rs vss, q ∈ tl)
    (N : News h₀ L s.heap ((T, lst (rs.map .ref)) :: (D, listOf v9.toArray c9) :: (L + 1 + 1 + 1 + 1 + 1 + 1, ot) :: (L + 1 + 1 + 1 + 1 + 1, oD) :: (L + 1 + 1 + 1 + 1, oL) :: (L + 1 + 1 + 1, oT) :: (L + 1 + 1, oM) :: (L + 1, oN) :: (99, tabObj ps) :: tl))
    (K : Cells oN oM oT oL oD ot (some (.ref D)) (some (.int (n9.length : Nat) tM)) (some (.ref T)) none none none)
    (hT : TailOff ((T, lst (rs.map .ref)) :: (D, listOf v9.toArray c9) :: (L + 1 + 1 + 1 + 1 + 1 + 1, ot) :: (L + 1 + 1 + 1 + 1 + 1, oD) :: (L + 1 + 1 + 1 + 1, oL) :: (L + 1 + 1 + 1, oT) :: (L + 1 + 1, oM) :: (L + 1, oN) :: (99, tabObj ps) :: []) tl)
    (R : Ret h₀ L s Q) (PE : Pass w L fa cd E) : Tail w L fa cd 3 Q E s := by
  have hfill9 := law_kept w h₀ (by k_fill; intro _; rfl)
  clear hfill9
  have C0 := C
  have PE0 := PE
  obtain ⟨B, X, TT, hl, hI, h63⟩ := id C
  obtain ⟨hne, hlt, hrows, i9, o9⟩ := id FF
  have hsc : lawScope w = lawScope w := rfl
  conv at hsc => rhs; whnf
  have hb : (lawBody w).drop 3 = (lawBody w).drop 3 := rfl
  conv at hb => rhs; whnf
  unfold Pass lawEnv at PE
  rw [hsc] at PE
  unfold Tail lawEnv
  rw [hb, hsc]
  clear hb hsc
  rw [as_one hscript] at F
  have e9 := NumsOf.len o9
  obtain ⟨dN, dM, dT, dL, dD, dt⟩ := K
  w_strict walk
  rw [lastOf_eq] at *
  refine iter_range1 (n := lastOf ns) (fun (l : List Nat) t => Value.str ⟨l.toArray⟩ t) (Str.ofString "text") (quoteIt (mailTo n9 n9.length)) rfl (by assumption) (by omega) (by have := lastOf_le ns; omega) (by assumption) (by assumption) ⟨_, rfl⟩ (by decide) ?turn ?done
  case turn =>
    intro i t ta h tk own hi hoff F9 N9
    have h2 := lastOf_le ns
    have hlen : (⟨(quoteIt (mailTo n9 n9.length) i).toArray⟩ : Str).cps.size ≤ 400 := by
      have := quoteIt_len (ns := n9) (n := n9.length) (i := i) (by omega) (by omega)
      simp only [List.size_toArray]; omega
    w_strict walk
    all_goals refine InvEndN.intro (by assumption) (by assumption) ⟨rfl, ?_, ?_⟩ rfl ?_ ?_
    all_goals first
      | exact ⟨_, rfl⟩
      | (intro z z1 z2; simp only [if_neg z1, if_neg z2] <;> rfl)
      | exact fun p hp => List.mem_append_left own hp
      | exact fun p hp => List.mem_append_right _ hp
      | trace_state
  case done =>
    intro u t h tk F9 N9
    dsimp only
    refine tail6 (ps := ps) (c9 := c9) C0 FF (by assumption) rfl rfl htl ?hN ⟨dN, dM, dT, by assumption, dD, dt⟩ ?hT R PE0
    case hN => exact news_sub (by assumption) (by intro p hp; repeat first | exact hp | apply List.mem_cons_of_mem)
    case hT => exact hT.congr rfl
end Mine

end

section -- W1
open PySem PySem.W PySem.Calls PyProof.Rows
set_option maxRecDepth 100000
set_option maxHeartbeats 8000000
namespace Mine
local macro_rules | `(tactic| walk_at "no such step") => `(tactic| fail)
local macro_rules | `(tactic| walk_at "no such step") => `(tactic| fail)
local macro_rules | `(tactic| walk_at "no such step") => `(tactic| fail)
local macro_rules | `(tactic| walk_at "no such step") => `(tactic| fail)
local macro_rules | `(tactic| walk_at "no such step") => `(tactic| fail)
local macro_rules | `(tactic| walk_at "no such step") => `(tactic| fail)
local macro_rules | `(tactic| walk_at "no such step") => `(tactic| fail)
local macro_rules | `(tactic| walk_at "no such step") => `(tactic| fail)
local macro_rules | `(tactic| walk_at "no such step") => `(tactic| fail)
local macro_rules | `(tactic| walk_at "call ref") => `(tactic| (k_here; (with_unfolding_all refine' num_use ?k1 ?k2 ?k3 ?k4 ?k5 ?k6 ?k7 ?k8 ?k9 ?ka ?kb ?kc ?kd ?_); (case k1 => k_asm); (case k2 => k_asm); (case k3 => k_asm); (case k4 => k_asm); (case k5 => k_updF); (case k6 => k_asm); (case k7 => first | exact rfl | assumption); (case k8 => assumption); (case k9 => assumption); (case ka => omega); (case kb => assumption); (case kc => decide); (case kd => decide); intro D9 v9 n9 c9 p9 h9 tk9 F9 N9 i9 o9 l9; (try dsimp only at N9); (try k_lt l9); (have e9 := NumsOf.len o9); (try dsimp only)))
local macro_rules | `(tactic| walk_at "call ref") => `(tactic| (k_here; (first
  | (with_unfolding_all refine' spec_use (gt_spec _ _ _ _ _ _ _ _ _ _ _) ?k1 ?k2 ?k3 ?k4 ?k5 ?k6 ?k7 ?k8 ?k9 ?_; (case k1 => k_asm); (case k2 => k_asm); (case k3 => k_asm); (case k4 => k_asm); (case k5 => k_asm); (case k6 => first | exact rfl | assumption); (case k7 => trivial); (case k8 => decide); (case k9 => decide); intro v9 nw9 h9 tk9 hR9 F9 N9; obtain ⟨e9, e9'⟩ := hR9; subst e9; subst e9'; (try dsimp only))
  | (with_unfolding_all refine' spec_use (add_spec _ _ _ _ _ _ _ _ _ _ _) ?k1 ?k2 ?k3 ?k4 ?k5 ?k6 ?k7 ?k8 ?k9 ?_; (case k1 => k_asm); (case k2 => k_asm); (case k3 => k_asm); (case k4 => k_asm); (case k5 => k_asm); (case k6 => first | exact rfl | assumption); (case k7 => trivial); (case k8 => decide); (case k9 => decide); intro v9 nw9 h9 tk9 hR9 F9 N9; obtain ⟨e9, t9, e9'⟩ := hR9; subst e9; subst e9'; (try dsimp only)))))
local macro_rules | `(tactic| walk_at "eval Name") => `(tactic| (k_here; (k_dflt (first
  | refine LCgL.ld_own (by k_asm) (by k_mem) (by assumption) (by assumption) ?_
  | refine LCgL.ld_global (by k_asm) (by k_asm) (by k_asm) (by k_is) ?_
  | refine LCgL.ld_built (by k_asm) (by k_asm) (by k_asm) (by k_is) (by boot_by_name) (by decide) ?_
  | (refine' ld_cell ?hl ?hc ?N ?m ?d ?_ ?hk ?hn; (case hl => exact rfl); (case hc => exact rfl); (case N => k_asm); (case m => k_mem); (case d => assumption); (case hk => exact rfl); (case hn => decide))))))
local macro_rules | `(tactic| k_all) => `(tactic| exact TailOff.all (by assumption) (by k_mem))
theorem law_holds : PySem.Challenge.rw_wn0006_01.Holds := hd (by
  w_strict (k_go0; (all_goals try k_fold))
  w_strict (repeat' (first | (k_unfold; (try dsimp only)) | ((fail_if_success (with_reducible show wpAny _ _ (eval (PySem.Expr.ListComp _ _ _ _) _) _ _ _)); walk1)))
  rename List Int => n9
  refine listcomp_cell n9.length 0 (RowsJ (tieRow n9) _) (by assumption) (by assumption) (by with_unfolding_all rfl) (fun _ => by with_unfolding_all rfl) (fun _ => by with_unfolding_all rfl) (by with_unfolding_all rfl) (by decide) (fun _ _ => by with_unfolding_all rfl) (by omega) (by with_unfolding_all rfl) ?it RowsJ.start ?turn ?done
  case it =>
    w_strict k_steps
    all_goals first | assumption | omega
  case turn =>
    intro i ys I oI C oC D X oX nw h tk t E' hi hJ hoff hnd hdX F N
    have hJ' := hJ
    obtain ⟨rs, vss, rfl, rfl, hr1, hr2, hnd2, hoffr, hrows⟩ := hJ'
    have N1 := led_swap N
    simp only [List.cons_append, List.nil_append] at N1
    generalize hgen : rowsLed rs vss = tl at N1
    refine comp_range (n9.length) (fun j y => ∃ t, y = Value.int (tieVal n9 i j) t) F N1 (by with_unfolding_all rfl) (by decide) (by with_unfolding_all rfl) (by decide) (by with_unfolding_all rfl) (by with_unfolding_all rfl) (by omega) ?it2 ?step ?done2
    case it2 =>
      w_strict k_steps
      all_goals assumption
    case step =>
      intro j t I oI C oC D ys m₂ h tk E' hj hC hx F N off ne
      w_strict k_steps
      all_goals first
        | exact Same.intro ⟨_, congrArg (fun x => Value.int x _) (tie_yes (by assumption) (by assumption))⟩ (by assumption) (by assumption) (fun p hp => hp)
        | exact Same.intro ⟨_, congrArg (fun x => Value.int x _) (tie_no1 (by assumption))⟩ (by assumption) (by assumption) (fun p hp => hp)
        | exact Same.intro ⟨_, congrArg (fun x => Value.int x _) (tie_no2 (by assumption))⟩ (by assumption) (by assumption) (fun p hp => hp)
    case done2 =>
      intro D2 zs h2 tk2 hl2 hR2 F2 N2 off2
      subst hgen
      exact rows_elt hJ hoff F2 N2 (fun p hp => (swap_mem p).mp hp) off2 (ints_of hl2 hR2)
  case done =>
    intro D ys nw h tk hJ hoff F N
    obtain ⟨rs, vss, hys, hrl, hvl, hnd, hrow, N1, hD, hTL⟩ := rows_done hJ hoff N
    subst hys
    have hT : TailOff _ _ := hTL
    clear hTL N
    simp only [List.cons_append, List.nil_append] at N1
    have hne := off1_of hD
    simp only [LCg.Off1] at hne
    clear hJ hoff hD
    w_strict (repeat' (first | (k_unfold; (try dsimp only)) | ((fail_if_success (with_reducible show wpAny _ _ (execs (PySem.Stmt.Assign [PySem.Expr.Name (Str.ofString "last") _] _ _ :: _) _) _ _ _)); walk1)))
    dsimp only
    rename_i h7 o7 F7 N7 d7
    refine tail3 (n9 := n9) (rs := rs) (vss := vss) (tl := rowsLed rs vss) ⟨by assumption, by assumption, by assumption, by assumption, by assumption, by omega⟩ ⟨?ne, ?lt, ⟨hrl, hvl, hnd, hrow⟩, by assumption, by assumption⟩ F7 ?hs (fun q h => h) N7 ⟨by assumption, by assumption, d7, by assumption, by assumption, by assumption⟩ (hT.congr rfl) ?R ?PE
    case hs => with_unfolding_all rfl
    case ne =>
      obtain ⟨a1, a2, a3, a4, a5, a6, a7, a8, _⟩ := hne
      exact ⟨a1, a2, a3, a4, a5, a6, a7, a8⟩
    case lt =>
      exact ⟨by assumption, by first | omega | exact And.left (by assumption)⟩
    case R =>
      intro h' tk' m' nw' ps' F' N' hm'
      dsimp only
      refine And.intro ?_ ⟨GrownAt.of N' hm', True.intro⟩
      wrow_close
    case PE =>
      have hsc : lawScope ‹World› = lawScope ‹World› := rfl
      conv at hsc => rhs; whnf
      unfold Pass lawEnv
      rw [hsc]
      passes_own)
end Mine

end

set_option maxRecDepth 100000 in
set_option maxHeartbeats 8000000 in
theorem PySem.Challenge.cw_wn0006_01_holds : PySem.Challenge.rw_wn0006_01.Holds := by
  exact Mine.law_holds
